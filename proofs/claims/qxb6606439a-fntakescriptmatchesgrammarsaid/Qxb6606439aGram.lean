/-
  Seat b6606439a: isEntry (16), firstEntryBefore (17), lastEntryBefore (18), firstItemIn (19), acceptable (15).
-/
import Derived.Test.Qxb6606439aRows
import Derived.WalkKit
import Derived.ProofKit
import Derived.WalkSpells
import Derived.WalkSmall
namespace Go.Proofs.Qxb6606439a
open Go.RowKit
set_option linter.unusedVariables false

/-- The ints of a slice as they lie in w. -/
def Ints (w : World) (da : Option Addr) (dn : Nat) (z : Nat → Int) : Prop :=
  dn ≤ 4096 ∧ (0 < dn → ∃ g, da = some ⟨g, 0, none⟩ ∧ g < w.heap.size ∧ ∀ j, j < dn → w.cell? ⟨g, j, none⟩ = some (.int .i64 (z j)))
theorem Ints.below {w w' : World} {da : Option Addr} {dn : Nat} {z : Nat → Int} (h : Ints w da dn z) (hb : Below w.heap.size w w') : Ints w' da dn z :=
  ⟨h.1, fun hp => by
    obtain ⟨g, e, hg, hc⟩ := h.2 hp
    exact ⟨g, e, Nat.lt_of_lt_of_le hg hb.size, fun j hj => by rw [hb.cell (p := ⟨g, j, none⟩) hg]; exact hc j hj⟩⟩

/-! ### The plain functions -/
def isE (k : Int) : Bool := k == 2 || k == 3
def lastE (K : Nat → Int) : Nat → Int
  | 0 => -1
  | i + 1 => if isE (K i) then (i : Int) else lastE K i
def firstE (K : Nat → Int) : Nat → Int
  | 0 => -1
  | i + 1 => if 0 ≤ firstE K i then firstE K i else if isE (K i) then (i : Int) else -1
def firstI (K : Nat → Int) (p : Nat) : Nat → Int
  | 0 => -1
  | i + 1 => if 0 ≤ firstI K p i then firstI K p i else if p ≤ i ∧ K i = 4 then (i : Int) else -1

theorem lastE_bd (K : Nat → Int) (i : Nat) : -1 ≤ lastE K i ∧ lastE K i < i := by
  induction i with
  | zero => exact ⟨by simp [lastE], by simp [lastE]⟩
  | succ i ih => unfold lastE; split <;> omega
theorem firstE_bd (K : Nat → Int) (i : Nat) : -1 ≤ firstE K i ∧ firstE K i < i := by
  induction i with
  | zero => exact ⟨by simp [firstE], by simp [firstE]⟩
  | succ i ih => unfold firstE; split; (· omega); split <;> omega
theorem firstI_bd (K : Nat → Int) (p i : Nat) : -1 ≤ firstI K p i ∧ firstI K p i < i := by
  induction i with
  | zero => exact ⟨by simp [firstI], by simp [firstI]⟩
  | succ i ih => unfold firstI; split; (· omega); split <;> omega
theorem lastE_skip (K : Nat → Int) (k i : Nat) (hk : k ≤ i) (h : ∀ m, k ≤ m → m < i → isE (K m) = false) : lastE K i = lastE K k := by
  induction i with
  | zero => have : k = 0 := by omega
            rw [this]
  | succ i ih =>
    by_cases e : k = i + 1
    · rw [e]
    · rw [lastE, if_neg (by rw [h i (by omega) (by omega)]; simp)]
      exact ih (by omega) fun m h1 h2 => h m h1 (by omega)
theorem firstE_none (K : Nat → Int) (i : Nat) (h : ∀ m, m < i → isE (K m) = false) : firstE K i = -1 := by
  induction i with
  | zero => rfl
  | succ i ih =>
    have := ih fun m hm => h m (by omega)
    rw [firstE, this, if_neg (by omega), if_neg (by rw [h i (by omega)]; simp)]
theorem firstE_at (K : Nat → Int) (k i : Nat) (hk : k < i) (h : ∀ m, m < k → isE (K m) = false) (he : isE (K k) = true) : firstE K i = k := by
  induction i with
  | zero => omega
  | succ i ih =>
    by_cases e : k = i
    · subst e
      rw [firstE, firstE_none K k h, if_neg (by omega), if_pos he]
    · rw [firstE, ih (by omega), if_pos (by omega)]
theorem firstI_none (K : Nat → Int) (p i : Nat) (h : ∀ m, p ≤ m → m < i → (K m == 4) = false) : firstI K p i = -1 := by
  induction i with
  | zero => rfl
  | succ i ih =>
    have := ih fun m h1 hm => h m h1 (by omega)
    rw [firstI, this, if_neg (by omega), if_neg]
    rintro ⟨h1, h2⟩
    have := h i h1 (by omega)
    rw [h2] at this
    simp at this
theorem firstI_at (K : Nat → Int) (p k i : Nat) (hp : p ≤ k) (hk : k < i) (h : ∀ m, p ≤ m → m < k → (K m == 4) = false) (he : K k = 4) : firstI K p i = k := by
  induction i with
  | zero => omega
  | succ i ih =>
    by_cases e : k = i
    · subst e
      rw [firstI, firstI_none K p k h, if_neg (by omega), if_pos ⟨hp, he⟩]
    · rw [firstI, ih (by omega), if_pos (by omega)]

/-! ### The walks -/
theorem ret_int {k : IntKind} {a b : Int} (h : a = b) : Ending.returned (.int k a) = .returned (.int k b) := by rw [h]
theorem isE_any (k : Int) (w : World) : Calls Try.prog 16 #[.int .i64 k] w fun e w' => e = .returned (.bool (isE k)) ∧ w' = w := by
  by_cases h2 : k = 2
  · subst h2
    go_enter Try.func16, Try.ntmps16
    go_wp2
    go_ret
    exact ⟨rfl, rfl⟩
  · have e2 : (k == 2) = false := by simpa using h2
    unfold isE
    rw [e2]
    go_enter Try.func16, Try.ntmps16
    go_wp2
    go_ret
    exact ⟨rfl, rfl⟩

section
variable (da : Option Addr) (dn dc : Nat) (K : Nat → Int) (w : World)
set_option maxHeartbeats 400000 in
theorem firstE_any (h : Ints w da dn K) (i : Nat) (hi : i ≤ dn) :
    Calls Try.prog 17 #[.slice da dn dc, .int .i64 i] w fun e w' => e = .returned (.int .i64 (firstE K i)) ∧ w' = w := by
  obtain ⟨hn, hp⟩ := h
  have HP : Hid _ := hp
  clear hp
  go_enter Try.func17, Try.ntmps17
  go_wp2
  go_loop [5] (fun j => ∃ k : Nat, k ≤ i ∧ j = .int .i64 k ∧ Hid (∀ m, m < k → isE (K m) = false)) (fun j => i - (intOf j).toNat)
  case atStart => exact ⟨0, Nat.zero_le _, rfl, fun m hm => absurd hm (by omega)⟩
  case round =>
    obtain ⟨k, hk, rfl, hno⟩ := hrel
    by_cases hlt : k < i
    · obtain ⟨g, rfl, hg, hc⟩ := HP.out (by omega)
      have g0 := hc k (by omega)
      have hlz : (k : Int) < (dn : Int) := by omega
      clear hc
      cases he : isE (K k) with
      | true =>
        go_wp2_with (go_at_call 16; refine (isE_any _ _).mono ?_; rintro e w' ⟨rfl, rfl⟩)
        go_ret
        exact ⟨ret_int (firstE_at K k i hlt hno.out he).symm, rfl⟩
      | false =>
        go_wp2_with (go_at_call 16; refine (isE_any _ _).mono ?_; rintro e w' ⟨rfl, rfl⟩)
        go_round
        case rel => exact ⟨k + 1, by omega, by go_num, fun m hm => by by_cases e : m = k; (· rw [e]; exact he); exact hno.out m (by omega)⟩
        case measure => simp [intOf]; omega
    · obtain rfl : k = i := by omega
      go_wp2
      go_ret
      exact ⟨ret_int (firstE_none K k hno.out).symm, rfl⟩
set_option maxHeartbeats 400000 in
theorem lastE_any (h : Ints w da dn K) (i : Nat) (hi : i ≤ dn) :
    Calls Try.prog 18 #[.slice da dn dc, .int .i64 i] w fun e w' => e = .returned (.int .i64 (lastE K i)) ∧ w' = w := by
  obtain ⟨hn, hp⟩ := h
  have HP : Hid _ := hp
  clear hp
  go_enter Try.func18, Try.ntmps18
  go_wp2
  go_loop [5] (fun j => ∃ k : Nat, k ≤ i ∧ j = .int .i64 ((k : Int) - 1) ∧ Hid (∀ m, k ≤ m → m < i → isE (K m) = false)) (fun j => (intOf j + 1).toNat)
  case atStart => exact ⟨i, Nat.le_refl _, rfl, fun m h1 h2 => absurd h2 (by omega)⟩
  case round =>
    obtain ⟨k, hk, rfl, hno⟩ := hrel
    by_cases hlt : 0 < k
    · obtain ⟨q, rfl⟩ : ∃ q, k = q + 1 := ⟨k - 1, by omega⟩
      have eq : ((q + 1 : Nat) : Int) - 1 = (q : Int) := by omega
      rw [eq]
      obtain ⟨g, rfl, hg, hc⟩ := HP.out (by omega)
      have g0 := hc q (by omega)
      have hlz : (q : Int) < (dn : Int) := by omega
      clear hc eq
      cases he : isE (K q) with
      | true =>
        go_wp2_with (go_at_call 16; refine (isE_any _ _).mono ?_; rintro e w' ⟨rfl, rfl⟩)
        go_ret
        exact ⟨ret_int (by rw [lastE_skip K (q + 1) i hk hno.out, lastE, if_pos he]), rfl⟩
      | false =>
        go_wp2_with (go_at_call 16; refine (isE_any _ _).mono ?_; rintro e w' ⟨rfl, rfl⟩)
        go_round
        case rel => exact ⟨q, by omega, by go_num, fun m h1 h2 => by by_cases e : m = q; (· rw [e]; exact he); exact hno.out m (by omega) h2⟩
        case measure => simp [intOf]
    · obtain rfl : k = 0 := by omega
      go_wp2
      go_ret
      exact ⟨ret_int (by rw [lastE_skip K 0 i (Nat.zero_le _) hno.out]; rfl), rfl⟩
set_option maxHeartbeats 400000 in
theorem firstI_any (h : Ints w da dn K) (p i : Nat) (hp : p ≤ i) (hi : i ≤ dn) :
    Calls Try.prog 19 #[.slice da dn dc, .int .i64 p, .int .i64 i] w fun e w' => e = .returned (.int .i64 (firstI K p i)) ∧ w' = w := by
  obtain ⟨hn, hq⟩ := h
  have HP : Hid _ := hq
  clear hq
  go_enter Try.func19, Try.ntmps19
  go_wp2
  go_loop [7] (fun j => ∃ k : Nat, p ≤ k ∧ k ≤ i ∧ j = .int .i64 k ∧ Hid (∀ m, p ≤ m → m < k → (K m == 4) = false)) (fun j => i - (intOf j).toNat)
  case atStart => exact ⟨p, Nat.le_refl _, hp, rfl, fun m h1 hm => absurd hm (by omega)⟩
  case round =>
    obtain ⟨k, hpk, hk, rfl, hno⟩ := hrel
    by_cases hlt : k < i
    · obtain ⟨g, rfl, hg, hc⟩ := HP.out (by omega)
      have g0 := hc k (by omega)
      have hlz : (k : Int) < (dn : Int) := by omega
      clear hc
      cases he : (K k == 4) with
      | true =>
        go_wp2
        go_ret
        exact ⟨ret_int (firstI_at K p k i hpk hlt hno.out (by simpa using he)).symm, rfl⟩
      | false =>
        go_wp2
        go_round
        case rel => exact ⟨k + 1, by omega, by omega, by go_num, fun m h1 hm => by by_cases e : m = k; (· rw [e]; exact he); exact hno.out m h1 (by omega)⟩
        case measure => simp [intOf]; omega
    · obtain rfl : k = i := by omega
      go_wp2
      go_ret
      exact ⟨ret_int (firstI_none K p k hno.out).symm, rfl⟩
end
end Go.Proofs.Qxb6606439a
