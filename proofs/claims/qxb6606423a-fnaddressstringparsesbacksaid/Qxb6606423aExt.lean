/-
  Seat b6606423a: the walk of FnAddressStringExtendsByRefAndPath.
-/
import Derived.Test.Qxb6606423aBase
namespace Go.Proofs.Qxb6606423a
open Go.RowKit

set_option maxHeartbeats 400000 in
theorem ext_no (a0 a1 a2 : ByteArray) (w0 : a0.size ≤ maxLen) (w1 : a1.size ≤ maxLen) (w2 : a2.size ≤ maxLen) (hn : 1048576 < a0.size + a1.size + a2.size) (w : World) :
    Calls Try.prog 5 #[.string a0, .string a1, .string a2] w fun e w' => e = .returned (.bool true) ∧ Grown w w' := by
  unfold maxLen at w0 w1 w2
  go_enter Try.func5, Try.ntmps5
  go_wp2
  all_goals
    go_ret
    exact ⟨rfl, Grown.refl _⟩

/-- p is the head of s. -/
def Pre (s p : ByteArray) : Prop := ∃ t, s = p ++ t
theorem hp_pre (s p : ByteArray) (w : World) (h : Pre s p) (hs : s.size ≤ maxLen) :
    Calls Try.prog 9 #[.string s, .string p] w fun e w' => e = .returned (.bool true) ∧ ∃ n, w' = w.drewN n := by
  obtain ⟨t, rfl⟩ := h
  exact hp_app p t w hs

theorem toList_isEmpty (p : ByteArray) : p.toList.isEmpty = decide (p.size = 0) := by
  rw [ByteArray.toList_eq]
  cases h : p.data.toList with
  | nil => simp [ByteArray.size, Array.toList_eq_nil_iff.mp h]
  | cons a l =>
    have : p.data.size = l.length + 1 := by rw [← Array.length_toList, h]; rfl
    simp [ByteArray.size, this]
theorem e_size : ({ data := #[] } : ByteArray).size = 0 := rfl
theorem s_size : ({ data := #[47] } : ByteArray).size = 1 := rfl
theorem n_size : ({ data := #[110, 98, 58, 47, 47] } : ByteArray).size = 5 := rfl
theorem sl_size (p : ByteArray) : (sl p).size = if p.size = 0 then 0 else p.size + 1 := by
  unfold sl
  rw [toList_isEmpty]
  by_cases h : p.size = 0
  · rw [if_pos (by simp [h]), if_pos h]; rfl
  · rw [if_neg (by simp [h]), if_neg h, ByteArray.size_append, s_size]; omega
theorem adr_size (r f p : ByteArray) : (adr r f p).size = 5 + r.size + (sl f).size + (sl p).size := by
  unfold adr; rw [ByteArray.size_append, ByteArray.size_append, ByteArray.size_append, n_size]
theorem sl_e : sl { data := #[] } = { data := #[] } := by
  unfold sl; rw [toList_isEmpty]; rfl
theorem adr_e (r f : ByteArray) : adr r f { data := #[] } = { data := #[110, 98, 58, 47, 47] } ++ r ++ sl f := by
  unfold adr; rw [sl_e, app_nil]
theorem adr_ee (r : ByteArray) : adr r { data := #[] } { data := #[] } = { data := #[110, 98, 58, 47, 47] } ++ r := by
  rw [adr_e, sl_e, app_nil]
theorem pre1 (r f : ByteArray) : Pre (adr r f { data := #[] }) (adr r { data := #[] } { data := #[] }) := ⟨sl f, by rw [adr_e, adr_ee]⟩
theorem pre2 (r f p : ByteArray) : Pre (adr r f p) (adr r f { data := #[] }) := ⟨sl p, by rw [adr_e]; rfl⟩
theorem bnd (r f p : ByteArray) (h : r.size + f.size + p.size ≤ 1048576) : (adr r f p).size ≤ maxLen := by
  rw [adr_size, sl_size, sl_size]; unfold maxLen; split <;> split <;> omega
theorem t1 (r f : ByteArray) : (!f.toList.isEmpty == (((adr r f { data := #[] }).size : Int) == ((adr r { data := #[] } { data := #[] }).size : Int))) = false := by
  rw [toList_isEmpty, adr_size, adr_size, sl_e, sl_size, e_size]
  by_cases h : f.size = 0
  · simp [h]
  · simp [h]; omega
theorem t2 (r f p : ByteArray) : (!p.toList.isEmpty == (((adr r f p).size : Int) == ((adr r f { data := #[] }).size : Int))) = false := by
  rw [toList_isEmpty, adr_size, adr_size, sl_e, sl_size p, e_size]
  by_cases h : p.size = 0
  · simp [h]
  · simp [h]; omega

theorem t3 (r : ByteArray) : ((adr r { data := #[] } { data := #[] }).toList == ({ data := #[110, 98, 58, 47, 47] } ++ r).toList) = true := by
  rw [adr_ee]; simp
theorem grown_drewN {W w' : World} (h : Grown W w') (n : Nat) : Grown W (w'.drewN n) := h

set_option maxHeartbeats 400000 in
theorem ext_yes (a0 a1 a2 : ByteArray) (hy : a0.size + a1.size + a2.size ≤ 1048576) (w : World) :
    Calls Try.prog 5 #[.string a0, .string a1, .string a2] w fun e w' => e = .returned (.bool true) ∧ Grown w w' := by
  have P1 := pre1 a0 a1
  have P2 := pre2 a0 a1 a2
  have S1 := bnd a0 a1 { data := #[] } (by rw [e_size]; omega)
  have S2 := bnd a0 a1 a2 hy
  have T1 := t1 a0 a1
  have T2 := t2 a0 a1 a2
  have T3 := t3 a0
  go_enter Try.func5, Try.ntmps5
  go_wp2_with (first
    | (go_at_call 8; refine (str_any _ _ _ _ (by first | omega | decide) (by first | omega | decide) (by first | omega | decide)).mono ?_; rintro e w' ⟨rfl, rfl⟩)
    | (go_at_call 9; refine (hp_pre _ _ _ (by assumption) (by assumption)).mono ?_; rintro e w' ⟨rfl, n, rfl⟩)
    | go_in)
  go_ret
  exact ⟨rfl, by repeat (first | exact Grown.refl _ | apply grown_drewN | apply Grown.alloc)⟩

theorem ext_walk (a0 a1 a2 : ByteArray) (w0 : a0.size ≤ maxLen) (w1 : a1.size ≤ maxLen) (w2 : a2.size ≤ maxLen) (w : World) :
    Calls Try.prog 5 #[.string a0, .string a1, .string a2] w fun e w' => e = .returned (.bool true) ∧ Grown w w' := by
  by_cases h : a0.size + a1.size + a2.size ≤ 1048576
  · exact ext_yes a0 a1 a2 h w
  · exact ext_no a0 a1 a2 w0 w1 w2 (by omega) w
end Go.Proofs.Qxb6606423a
