/-
  Seat b6606439a: the state that the grammar gives, and take's step on it.
-/
import Derived.Test.Qxb6606439aAcc
import Derived.Test.Qxb6606439aZZ
namespace Go.Proofs.Qxb6606439a
open Go.RowKit
set_option linter.unusedVariables false

def cntE (K : Nat → Int) : Nat → Nat
  | 0 => 0
  | i + 1 => if isE (K i) then cntE K i + 1 else cntE K i
theorem cntE_le (K : Nat → Int) (i : Nat) : cntE K i ≤ i := by
  induction i with
  | zero => exact Nat.le_refl _
  | succ i ih => unfold cntE; split <;> omega
def wInd (K X : Nat → Int) (i : Nat) : Int := if 0 ≤ firstE K i then X (firstE K i).toNat else -1
def wBlk (K : Nat → Int) (i : Nat) : Bool := decide (0 ≤ lastE K i) && (K (lastE K i).toNat == 3)
def wDash (K X : Nat → Int) (i : Nat) : Int := if 0 ≤ lastE K i ∧ 0 ≤ firstI K ((lastE K i).toNat + 1) i then X (firstI K ((lastE K i).toNat + 1) i).toNat else -1

/-- The lines are of the five kinds, at indents that are not negative. -/
def Valid (K X : Nat → Int) (n : Nat) : Prop := ∀ m, m < n → 0 ≤ K m ∧ K m ≤ 4 ∧ 0 ≤ X m
/-- Every entry so far is indented as the first. -/
def Even (K X : Nat → Int) (i : Nat) : Prop := ∀ m, m < i → isE (K m) = true → X m = wInd K X i

section
variable (K X : Nat → Int) (i : Nat)
theorem lastE_is (h : 0 ≤ lastE K i) : isE (K (lastE K i).toNat) = true := by
  induction i with
  | zero => simp [lastE] at h
  | succ i ih =>
    by_cases e : isE (K i) = true
    · have : lastE K (i + 1) = i := by rw [lastE, if_pos e]
      rw [this]; simpa using e
    · have : lastE K (i + 1) = lastE K i := by rw [lastE, if_neg e]
      rw [this] at h ⊢; exact ih h
theorem lastE_noE (e : isE (K i) = false) : lastE K (i + 1) = lastE K i := by rw [lastE, if_neg (by rw [e]; simp)]
theorem firstE_noE (e : isE (K i) = false) : firstE K (i + 1) = firstE K i := by
  rw [firstE]
  split
  · rfl
  · rw [if_neg (by rw [e]; simp)]
    have := firstE_bd K i
    omega
theorem cntE_noE (e : isE (K i) = false) : cntE K (i + 1) = cntE K i := by rw [cntE, if_neg (by rw [e]; simp)]
theorem lastE_E (e : isE (K i) = true) : lastE K (i + 1) = i := by rw [lastE, if_pos e]
theorem cntE_E (e : isE (K i) = true) : cntE K (i + 1) = cntE K i + 1 := by rw [cntE, if_pos e]
theorem firstI_self (p : Nat) (h : i ≤ p) : firstI K p i = -1 := firstI_none K p i fun m h1 h2 => by omega
theorem wInd_noE (e : isE (K i) = false) : wInd K X (i + 1) = wInd K X i := by unfold wInd; rw [firstE_noE K i e]
theorem wBlk_noE (e : isE (K i) = false) : wBlk K (i + 1) = wBlk K i := by unfold wBlk; rw [lastE_noE K i e]
theorem even_noE (h : Even K X i) (e : isE (K i) = false) : Even K X (i + 1) := by
  intro m hm he
  rw [wInd_noE K X i e]
  by_cases h' : m = i
  · rw [h', e] at he; cases he
  · exact h m (by omega) he

/-- A line that is no entry and no item. -/
theorem wDash_blank (e : isE (K i) = false) (h4 : K i ≠ 4) : wDash K X (i + 1) = wDash K X i := by
  have hq : ∀ p, firstI K p (i + 1) = firstI K p i := by
    intro p
    rw [firstI]
    split
    · rfl
    · rw [if_neg (fun h => h4 h.2)]
      have := firstI_bd K p i
      omega
  unfold wDash
  rw [lastE_noE K i e, hq]

/-- An entry. -/
theorem wInd_E (e : isE (K i) = true) (h : firstE K i < 0 ∨ X i = wInd K X i) : wInd K X (i + 1) = X i := by
  by_cases hf : 0 ≤ firstE K i
  · have h2 : firstE K (i + 1) = firstE K i := by rw [firstE, if_pos hf]
    have : wInd K X (i + 1) = wInd K X i := by unfold wInd; rw [h2]
    rw [this]
    rcases h with h | h
    · omega
    · exact h.symm
  · have h2 : firstE K (i + 1) = i := by rw [firstE, if_neg hf, if_pos e]
    unfold wInd
    rw [h2, if_pos (by omega)]
    simp
theorem wBlk_E (e : isE (K i) = true) : wBlk K (i + 1) = (K i == 3) := by
  unfold wBlk
  rw [lastE_E K i e]
  simp
theorem wDash_E (e : isE (K i) = true) : wDash K X (i + 1) = -1 := by
  unfold wDash
  rw [lastE_E K i e, if_neg]
  rintro ⟨_, h⟩
  rw [firstI_self K (i + 1) _ (by omega)] at h
  omega
theorem even_E (h : Even K X i) (e : isE (K i) = true) (h' : firstE K i < 0 ∨ X i = wInd K X i) : Even K X (i + 1) := by
  intro m hm he
  rw [wInd_E K X i e h']
  by_cases hmi : m = i
  · rw [hmi]
  · have h1 := h m (by omega) he
    rcases h' with h' | h'
    · have : firstE K i = -1 := by have := firstE_bd K i; omega
      exfalso
      have hn : ∀ q, q ≤ i → firstE K q = -1 → ∀ m, m < q → isE (K m) = false := by
        intro q
        induction q with
        | zero => intro _ _ m hm; omega
        | succ q ih =>
          intro hq hf m hm
          rw [firstE] at hf
          split at hf
          · omega
          · split at hf
            · omega
            · by_cases e' : m = q
              · rw [e']; simpa using ‹¬ isE (K q) = true›
              · exact ih (by omega) (by have := firstE_bd K q; omega) m (by omega)
      have := hn i (Nat.le_refl _) this m (by omega)
      rw [he] at this
      cases this
    · rw [h1, h']

/-- An item that is taken. -/
theorem wDash_item (e : isE (K i) = false) (h4 : K i = 4) (hl : 0 ≤ lastE K i) (h : 0 ≤ firstI K ((lastE K i).toNat + 1) i → X i = X (firstI K ((lastE K i).toNat + 1) i).toNat) : wDash K X (i + 1) = X i := by
  have hlb := lastE_bd K i
  unfold wDash
  rw [lastE_noE K i e, firstI]
  by_cases hq : 0 ≤ firstI K ((lastE K i).toNat + 1) i
  · rw [if_pos hq, if_pos ⟨hl, hq⟩]; exact (h hq).symm
  · have e2 : (if (lastE K i).toNat + 1 ≤ i ∧ K i = 4 then (i : Int) else -1) = i := if_pos ⟨by omega, h4⟩
    rw [if_neg hq, e2, if_pos ⟨hl, by omega⟩]; simp

/-! ### What acceptable says, in the words of the state -/
theorem isE_of (h0 : 0 ≤ K i) (h1 : K i ≤ 4) (e0 : K i ≠ 0) (e1 : K i ≠ 1) (e4 : K i ≠ 4) : isE (K i) = true := by
  have : K i = 2 ∨ K i = 3 := by omega
  unfold isE
  rcases this with h | h <;> rw [h] <;> rfl
theorem isE_not {k : Int} (h2 : k ≠ 2) (h3 : k ≠ 3) : isE k = false := by unfold isE; simp [h2, h3]
theorem blk_true (h : wBlk K i = true) : 0 ≤ lastE K i ∧ K (lastE K i).toNat = 3 := by
  unfold wBlk at h; simpa using h
theorem blk_false (h : wBlk K i = false) : ¬ (0 ≤ lastE K i ∧ K (lastE K i).toNat = 3) := by
  intro h'; unfold wBlk at h; simp [h'.1, h'.2] at h
theorem ind_nonneg (hV : Valid K X i) (h : 0 ≤ firstE K i) : 0 ≤ wInd K X i := by
  have := firstE_bd K i
  unfold wInd
  rw [if_pos h]
  exact (hV _ (by omega)).2.2
theorem dash_q (hV : Valid K X i) (hl : 0 ≤ lastE K i) (hq : 0 ≤ firstI K ((lastE K i).toNat + 1) i) : wDash K X i = X (firstI K ((lastE K i).toNat + 1) i).toNat ∧ 0 ≤ wDash K X i := by
  have := firstI_bd K ((lastE K i).toNat + 1) i
  have e : wDash K X i = X (firstI K ((lastE K i).toNat + 1) i).toNat := by unfold wDash; rw [if_pos ⟨hl, hq⟩]
  exact ⟨e, by rw [e]; exact (hV _ (by omega)).2.2⟩
theorem dash_no (hq : ¬ 0 ≤ firstI K ((lastE K i).toNat + 1) i) : wDash K X i = -1 := by
  unfold wDash; rw [if_neg (fun h => hq h.2)]
theorem whole_iff (hV : Valid K X i) : (!wBlk K i || decide (0 ≤ wDash K X i)) = false ↔ (0 ≤ lastE K i ∧ K (lastE K i).toNat = 3 ∧ firstI K ((lastE K i).toNat + 1) i < 0) := by
  constructor
  · intro h
    have hb : wBlk K i = true := by cases e : wBlk K i with | true => rfl | false => rw [e] at h; simp at h
    obtain ⟨h1, h2⟩ := blk_true K i hb
    refine ⟨h1, h2, ?_⟩
    by_cases hq : 0 ≤ firstI K ((lastE K i).toNat + 1) i
    · have := (dash_q K X i hV h1 hq).2
      rw [hb, decide_eq_true this] at h
      simp at h
    · omega
  · rintro ⟨h1, h2, h3⟩
    have hb : wBlk K i = true := by unfold wBlk; simp [h1, h2]
    rw [hb, dash_no K X i (by omega)]
    rfl
theorem acc_entry (hV : Valid K X i) (e0 : K i ≠ 0) (e1 : K i ≠ 1) (e4 : K i ≠ 4) (hw : (!wBlk K i || decide (0 ≤ wDash K X i)) = true) : accB K X i = if 0 ≤ wInd K X i then X i == wInd K X i else true := by
  have hn : ¬ (0 ≤ lastE K i ∧ K (lastE K i).toNat = 3 ∧ firstI K ((lastE K i).toNat + 1) i < 0) := fun h => by
    rw [(whole_iff K X i hV).mpr h] at hw; cases hw
  unfold accB
  rw [if_neg e0, if_neg e1, if_neg e4, if_neg hn]
  by_cases hf : 0 ≤ firstE K i
  · rw [if_pos hf, if_pos (ind_nonneg K X i hV hf)]
    unfold wInd
    rw [if_pos hf]
  · rw [if_neg hf, if_neg]
    unfold wInd
    rw [if_neg hf]
    omega
theorem acc_entry_no (hV : Valid K X i) (e0 : K i ≠ 0) (e1 : K i ≠ 1) (e4 : K i ≠ 4) (hw : (!wBlk K i || decide (0 ≤ wDash K X i)) = false) : accB K X i = false := by
  unfold accB
  rw [if_neg e0, if_neg e1, if_neg e4, if_pos ((whole_iff K X i hV).mp hw)]
theorem ind_last (hE : Even K X i) (hl : 0 ≤ lastE K i) : X (lastE K i).toNat = wInd K X i := by
  have := lastE_bd K i
  exact hE _ (by omega) (lastE_is K i hl)
end
end Go.Proofs.Qxb6606439a
