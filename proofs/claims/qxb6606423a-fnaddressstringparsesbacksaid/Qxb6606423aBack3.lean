/-
  Seat b6606423a: FnAddressStringParsesBack: the plain facts, and the ways joined.
-/
import Derived.Test.Qxb6606423aBack2
namespace Go.Proofs.Qxb6606423a
open Go.RowKit

/-! ### The plain facts on texts -/
theorem ba_ext (a b : ByteArray) (h : a.data.toList = b.data.toList) : a = b := by
  cases a; cases b; simp at h; simp [h]
theorem app_assoc (a b c : ByteArray) : a ++ b ++ c = a ++ (b ++ c) := ByteArray.append_assoc
theorem ext_left (a b : ByteArray) : (a ++ b).extract 0 a.size = a := ByteArray.extract_append_eq_left rfl
theorem ext_right (a b : ByteArray) (n : Nat) (h : n = a.size) : (a ++ b).extract n (a ++ b).size = b := ByteArray.extract_append_eq_right h ByteArray.size_append
theorem at_app (a t : ByteArray) (h : NoB a 47) : AtB (a ++ ({ data := #[47] } ++ t)) 47 a.size := by
  have hs : a.size < (a ++ ({ data := #[47] } ++ t)).size := by simp [ByteArray.size_append, s_size]; omega
  refine ⟨hs, ?_, fun i hi => ?_⟩
  · have e : (a ++ ({ data := #[47] } ++ t))[a.size] = 47 := by
      rw [ByteArray.getElem_append_right (Nat.le_refl _)]
      simp only [Nat.sub_self]
      rw [ByteArray.getElem_append_left (by rw [s_size]; omega)]
      rfl
    rw [e]; rfl
  · rw [ByteArray.getElem_append_left hi]
    exact h i hi
theorem tail_app (a t : ByteArray) : (a ++ ({ data := #[47] } ++ t)).extract (a.size + 1) (a ++ ({ data := #[47] } ++ t)).size = t := by
  have e : a ++ ({ data := #[47] } ++ t) = (a ++ { data := #[47] }) ++ t := (app_assoc _ _ _).symm
  have z : a.size + 1 = (a ++ ({ data := #[47] } : ByteArray)).size := by rw [ByteArray.size_append, s_size]
  rw [e]
  exact ext_right _ t _ z
theorem e_of {a : ByteArray} (h : ¬ (!a.toList.isEmpty) = true) : a = { data := #[] } := by
  rw [toList_isEmpty] at h
  have h : a.size = 0 := by simpa using h
  apply ba_ext
  have h2 : a.data.size = 0 := h
  rw [Array.size_eq_zero_iff.mp h2]
theorem nob_or (a : ByteArray) : NoB a 47 ∨ ∃ k, AtB a 47 k := by
  by_cases h : ∃ k, ∃ h : k < a.size, ((a[k].toNat : Int) == 47) = true
  · right
    have : ∀ n, (∃ k, ∃ h : k < a.size, k < n ∧ ((a[k].toNat : Int) == 47) = true) → ∃ k, AtB a 47 k := by
      intro n
      induction n with
      | zero => rintro ⟨k, _, h, _⟩; omega
      | succ n ih =>
        rintro ⟨k, hk, hn, hc⟩
        by_cases h' : ∃ j, ∃ h : j < a.size, j < n ∧ ((a[j].toNat : Int) == 47) = true
        · exact ih h'
        · refine ⟨k, hk, hc, fun i hi => ?_⟩
          cases e : ((a[i].toNat : Int) == 47) with
          | false => rfl
          | true => exact absurd ⟨i, by omega, by omega, e⟩ h'
    obtain ⟨k, hk, hc⟩ := h
    exact this (k + 1) ⟨k, hk, by omega, hc⟩
  · left
    intro i hi
    cases e : ((a[i].toNat : Int) == 47) with
    | false => rfl
    | true => exact absurd ⟨i, hi, e⟩ h

theorem back_walk (a0 a1 a2 : ByteArray) (w0 : a0.size ≤ maxLen) (w1 : a1.size ≤ maxLen) (w2 : a2.size ≤ maxLen) (w : World) :
    Calls Try.prog 3 #[.string a0, .string a1, .string a2] w fun e w' => e = .returned (.bool true) ∧ Grown w w' := by
  by_cases hy : a0.size + a1.size + a2.size ≤ 1048576
  case neg => exact back_no a0 a1 a2 w0 w1 w2 (by omega) w
  rcases nob_or a0 with h0 | ⟨k, h0⟩
  case inr => exact back_a a0 a1 a2 hy k h0 w
  rcases nob_or a1 with h1 | ⟨k, h1⟩
  case inr => exact back_b a0 a1 a2 hy k h0 h1 w
  by_cases n1 : (!a1.toList.isEmpty) = true
  · by_cases n2 : (!a2.toList.isEmpty) = true
    · obtain ⟨T, hT⟩ : ∃ T, a1 ++ ({ data := #[47] } ++ a2) = T := ⟨_, rfl⟩
      obtain ⟨B, hB⟩ : ∃ B, a0 ++ ({ data := #[47] } ++ T) = B := ⟨_, rfl⟩
      obtain ⟨S, hS⟩ : ∃ S, adr a0 a1 a2 = S := ⟨_, rfl⟩
      have eS : S = { data := #[110, 98, 58, 47, 47] } ++ B := by
        rw [← hS, ← hB, ← hT]; unfold adr; rw [sl_some n1, sl_some n2]; simp only [app_assoc]
      have kT := at_app a1 a2 h1
      have kB := at_app a0 T h0
      have e2 := ext_left a0 ({ data := #[47] } ++ T)
      have e4 := ext_left a1 ({ data := #[47] } ++ a2)
      have e3 := tail_app a0 T
      have e5 := tail_app a1 a2
      have zT := congrArg ByteArray.size hT
      have zB := congrArg ByteArray.size hB
      have zS := congrArg ByteArray.size eS
      simp only [ByteArray.size_append, s_size, n_size] at zT zB zS
      rw [hT] at kT e4 e5
      rw [hB] at kB e2 e3
      have e1 : S.extract 5 S.size = B := by rw [eS]; exact ext_right _ _ 5 n_size.symm
      exact back_f a0 a1 a2 S B T hy h0 h1 n1 n2 hS ⟨_, eS⟩ (by omega) (by omega) e1 (by omega) (by omega) kB e2 e3 (by omega) (by omega) kT e4 e5 w
    · obtain rfl := e_of n2
      obtain ⟨B, hB⟩ : ∃ B, a0 ++ ({ data := #[47] } ++ a1) = B := ⟨_, rfl⟩
      obtain ⟨S, hS⟩ : ∃ S, adr a0 a1 { data := #[] } = S := ⟨_, rfl⟩
      have eS : S = { data := #[110, 98, 58, 47, 47] } ++ B := by
        rw [← hS, ← hB, adr_e, sl_some n1]; simp only [app_assoc]
      have n3 : ¬ a1.toList = [] := by intro h; rw [h] at n1; cases n1
      have kB := at_app a0 a1 h0
      have e2 := ext_left a0 ({ data := #[47] } ++ a1)
      have e3 := tail_app a0 a1
      have zB := congrArg ByteArray.size hB
      have zS := congrArg ByteArray.size eS
      simp only [ByteArray.size_append, s_size, n_size] at zB zS
      rw [hB] at kB e2 e3
      have e1 : S.extract 5 S.size = B := by rw [eS]; exact ext_right _ _ 5 n_size.symm
      exact back_e a0 a1 S B (by omega) h0 h1 n1 n3 hS ⟨_, eS⟩ (by omega) (by omega) e1 (by omega) (by omega) kB e2 e3 w
  · obtain rfl := e_of n1
    by_cases n2 : (!a2.toList.isEmpty) = true
    · exact back_c a0 a2 (by rw [e_size] at hy; omega) h0 n2 w
    · obtain rfl := e_of n2
      obtain ⟨S, hS⟩ : ∃ S, adr a0 { data := #[] } { data := #[] } = S := ⟨_, rfl⟩
      have eS : S = { data := #[110, 98, 58, 47, 47] } ++ a0 := by rw [← hS, adr_ee]
      have zS := congrArg ByteArray.size eS
      simp only [ByteArray.size_append, n_size] at zS
      have e1 : S.extract 5 S.size = a0 := by rw [eS]; exact ext_right _ _ 5 n_size.symm
      exact back_d a0 S (by rw [e_size] at hy; omega) h0 h1 hS ⟨_, eS⟩ (by omega) (by omega) e1 w
end Go.Proofs.Qxb6606423a
