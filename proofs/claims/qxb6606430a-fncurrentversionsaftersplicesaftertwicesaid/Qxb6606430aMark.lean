/-
  Seat b6606430a: markerAt (15), countMarker (8).
-/
import Derived.Test.Qxb6606430aBnd2
namespace Go.Proofs.Qxb6606430a
open Go.RowKit

set_option maxHeartbeats 400000 in
theorem mk_no (t : ByteArray) (k : Nat) (w : World) (hs : t.size ≤ 1000) (hk : k < t.size) (h0 : ((t[k].toNat : Int) == 0) = false) :
    Calls Try.prog 15 #[.string t, .int .i64 k] w fun e w' => e = .returned (.int .u8 0) ∧ w' = w := by
  by_cases h2 : k + 2 < t.size
  · go_enter Try.func15, Try.ntmps15
    go_wp2
    go_ret
    exact ⟨rfl, rfl⟩
  · go_enter Try.func15, Try.ntmps15
    go_wp2
    go_ret
    exact ⟨rfl, rfl⟩
set_option maxHeartbeats 400000 in
theorem mk_yes (t : ByteArray) (k : Nat) (w : World) (hs : t.size ≤ 1000) (hk : k + 2 < t.size) (h0 : t[k].toNat = 0) (h1 : t[k + 1].toNat = 97) (h2 : t[k + 2].toNat = 0) :
    Calls Try.prog 15 #[.string t, .int .i64 k] w fun e w' => e = .returned (.int .u8 97) ∧ w' = w := by
  have g1 : k + 1 < t.size := by omega
  have g0 : k < t.size := by omega
  go_enter Try.func15, Try.ntmps15
  go_wp2
  go_ret
  exact ⟨rfl, rfl⟩

/-- The places at which the scan of the template stands: none inside a marker. -/
def Ok (k : Nat) : Prop := k ≤ 243 ∨ (246 ≤ k ∧ k ≤ 270) ∨ (273 ≤ k ∧ k ≤ 287)
/-- How many markers lie ahead of place k. -/
def cnt (k : Nat) : Nat := if k ≤ 243 then 0 else if k ≤ 270 then 1 else 2
/-- What is told of the template. -/
structure Tmpl (t : ByteArray) : Prop where
  size : t.size = 287
  plain : ∀ k (h : k < t.size), ¬ (243 ≤ k ∧ k ≤ 245) → ¬ (270 ≤ k ∧ k ≤ 272) → ((t[k].toNat : Int) == 0) = false
  m1 : (t[243]'(by omega)).toNat = 0 ∧ (t[244]'(by omega)).toNat = 97 ∧ (t[245]'(by omega)).toNat = 0
  m2 : (t[270]'(by omega)).toNat = 0 ∧ (t[271]'(by omega)).toNat = 97 ∧ (t[272]'(by omega)).toNat = 0

theorem mk_1 (t : ByteArray) (H : Tmpl t) (w : World) :
    Calls Try.prog 15 #[.string t, .int .i64 243] w fun e w' => e = .returned (.int .u8 97) ∧ w' = w :=
  mk_yes t 243 w (by rw [H.size]; omega) (by rw [H.size]; omega) H.m1.1 H.m1.2.1 H.m1.2.2
theorem mk_2 (t : ByteArray) (H : Tmpl t) (w : World) :
    Calls Try.prog 15 #[.string t, .int .i64 270] w fun e w' => e = .returned (.int .u8 97) ∧ w' = w :=
  mk_yes t 270 w (by rw [H.size]; omega) (by rw [H.size]; omega) H.m2.1 H.m2.2.1 H.m2.2.2
theorem mk_0 (t : ByteArray) (H : Tmpl t) (k : Nat) (w : World) (hO : Ok k) (hk : k < 287) (h1 : k ≠ 243) (h2 : k ≠ 270) :
    Calls Try.prog 15 #[.string t, .int .i64 k] w fun e w' => e = .returned (.int .u8 0) ∧ w' = w :=
  mk_no t k w (by rw [H.size]; omega) (by rw [H.size]; omega) (H.plain k (by rw [H.size]; omega) (by unfold Ok at hO; omega) (by unfold Ok at hO; omega))

theorem w243 : wrap64 ((cnt 243 : Int) + 1) = (cnt 246 : Int) := by simp [cnt, wrap64]
theorem w270 : wrap64 ((cnt 270 : Int) + 1) = (cnt 273 : Int) := by simp [cnt, wrap64]
theorem ret_int {k : IntKind} {a b : Int} (h : a = b) : Ending.returned (.int k a) = .returned (.int k b) := by rw [h]

set_option maxHeartbeats 400000 in
theorem count_any (t : ByteArray) (H : Tmpl t) (w : World) :
    Calls Try.prog 8 #[.string t, .int .u8 97] w fun e w' => e = .returned (.int .i64 2) ∧ w' = w := by
  have hz1 : t.size ≤ 287 := by rw [H.size]; omega
  have hz2 : 287 ≤ t.size := by rw [H.size]; omega
  go_enter Try.func8, Try.ntmps8
  go_wp2
  go_loop [5, 6] (fun n i => ∃ k : Nat, Ok k ∧ i = .int .i64 k ∧ n = .int .i64 (cnt k)) (fun _ i => 287 - (intOf i).toNat)
  case atStart => exact ⟨0, by unfold Ok; omega, rfl, rfl⟩
  case round =>
    obtain ⟨k, hO, rfl, rfl⟩ := hrel
    by_cases hk : k < 287
    · by_cases h1 : k = 243
      · subst h1
        go_wp2_with (go_at_call 15; refine (mk_1 t H _).mono ?_; rintro e w' ⟨rfl, rfl⟩)
        go_round
        case rel => exact ⟨246, by unfold Ok; omega, by go_num, by rw [w243]⟩
        case measure => simp [intOf]
      by_cases h2 : k = 270
      · subst h2
        go_wp2_with (go_at_call 15; refine (mk_2 t H _).mono ?_; rintro e w' ⟨rfl, rfl⟩)
        go_round
        case rel => exact ⟨273, by unfold Ok; omega, by go_num, by rw [w270]⟩
        case measure => simp [intOf]
      · have hc : cnt (k + 1) = cnt k := by unfold Ok at hO; unfold cnt; split <;> split <;> (try split) <;> (try split) <;> omega
        have HC : Hid (cnt (k + 1) = cnt k) := hc
        clear hc
        go_wp2_with (go_at_call 15; refine (mk_0 t H k _ hO hk h1 h2).mono ?_; rintro e w' ⟨rfl, rfl⟩)
        go_round
        case rel => exact ⟨k + 1, by unfold Ok at *; omega, by go_num, by rw [HC.out]⟩
        case measure => simp [intOf]; omega
    · obtain rfl : k = 287 := by unfold Ok at hO; omega
      go_wp2
      go_ret
      exact ⟨rfl, rfl⟩
end Go.Proofs.Qxb6606430a
