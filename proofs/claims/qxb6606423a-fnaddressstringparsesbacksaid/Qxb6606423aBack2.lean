/-
  Seat b6606423a: FnAddressStringParsesBack, the ways on which the text is parsed.
-/
import Derived.Test.Qxb6606423aBack
namespace Go.Proofs.Qxb6606423a
open Go.RowKit

theorem str_as (r f p S : ByteArray) (w : World) (hr : r.size ≤ 1048576) (hf : f.size ≤ 1048576) (hp : p.size ≤ 1048576) (h : Hid (adr r f p = S)) :
    Calls Try.prog 8 #[.agg #[.string r, .string f, .string p]] w fun e w' => e = .returned (.string S) ∧ w' = w.alloc (.cells #[.string r, .string f, .string p] 25) := by
  have := h.out; subst this
  exact str_any r f p w hr hf hp

set_option maxHeartbeats 400000 in
theorem back_c (a0 a2 : ByteArray) (hy : a0.size + a2.size ≤ 1048576) (h0 : NoB a0 47) (h2 : (!a2.toList.isEmpty) = true) (w : World) :
    Calls Try.prog 3 #[.string a0, .string { data := #[] }, .string a2] w fun e w' => e = .returned (.bool true) ∧ Grown w w' := by
  have h1 : NoB { data := #[] } 47 := fun i h => by cases h
  go_enter Try.func3, Try.ntmps3
  go_wp2_with (first
    | (go_at_call 7; refine (ib_none _ _ _ (sz _ (by first | omega | decide)) (by assumption)).mono ?_; rintro e w' ⟨rfl, rfl⟩)
    | go_in)
  go_ret
  exact ⟨rfl, Grown.refl _⟩

set_option maxHeartbeats 400000 in
theorem back_f (a0 a1 a2 S B T : ByteArray) (hy : a0.size + a1.size + a2.size ≤ 1048576) (h0 : NoB a0 47) (h1 : NoB a1 47)
    (n1 : (!a1.toList.isEmpty) = true) (n2 : (!a2.toList.isEmpty) = true)
    (hS : Hid (adr a0 a1 a2 = S)) (hP : Pre S { data := #[110, 98, 58, 47, 47] })
    (s1 : S.size ≤ 5 + a0.size + (1 + a1.size) + (1 + a2.size)) (s2 : 5 + a0.size + (1 + a1.size) + (1 + a2.size) ≤ S.size)
    (e1 : S.extract 5 S.size = B) (b1 : B.size ≤ a0.size + (1 + a1.size) + (1 + a2.size)) (b2 : a0.size + (1 + a1.size) + (1 + a2.size) ≤ B.size)
    (kB : AtB B 47 a0.size) (e2 : B.extract 0 a0.size = a0) (e3 : B.extract (a0.size + 1) B.size = T)
    (c1 : T.size ≤ a1.size + (1 + a2.size)) (c2 : a1.size + (1 + a2.size) ≤ T.size)
    (kT : AtB T 47 a1.size) (e4 : T.extract 0 a1.size = a1) (e5 : T.extract (a1.size + 1) T.size = a2) (w : World) :
    Calls Try.prog 3 #[.string a0, .string a1, .string a2] w fun e w' => e = .returned (.bool true) ∧ Grown w w' := by
  go_enter Try.func3, Try.ntmps3
  go_wp2_with (first
    | (go_at_call 7; refine (ib_none _ _ _ (sz _ (by omega)) (by assumption)).mono ?_; rintro e w' ⟨rfl, rfl⟩)
    | (go_at_call 8; refine (str_as _ _ _ S _ (by omega) (by omega) (by omega) (by assumption)).mono ?_; rintro e w' ⟨rfl, rfl⟩)
    | (go_at_call 9; refine (hp_pre _ _ _ (by assumption) (sz _ (by omega))).mono ?_; rintro e w' ⟨rfl, n, rfl⟩)
    | (go_at_call 7; refine (ib_at _ _ _ _ (sz _ (by omega)) (by assumption)).mono ?_; rintro e w' ⟨rfl, rfl⟩)
    | go_in)
  all_goals
    go_ret
    exact ⟨rfl, by repeat (first | exact Grown.refl _ | apply grown_drewN | apply Grown.alloc)⟩

set_option maxHeartbeats 400000 in
theorem back_e (a0 a1 S B : ByteArray) (hy : a0.size + a1.size ≤ 1048576) (h0 : NoB a0 47) (h1 : NoB a1 47)
    (n1 : (!a1.toList.isEmpty) = true) (n3 : ¬ a1.toList = [])
    (hS : Hid (adr a0 a1 { data := #[] } = S)) (hP : Pre S { data := #[110, 98, 58, 47, 47] })
    (s1 : S.size ≤ 5 + a0.size + (1 + a1.size)) (s2 : 5 + a0.size + (1 + a1.size) ≤ S.size)
    (e1 : S.extract 5 S.size = B) (b1 : B.size ≤ a0.size + (1 + a1.size)) (b2 : a0.size + (1 + a1.size) ≤ B.size)
    (kB : AtB B 47 a0.size) (e2 : B.extract 0 a0.size = a0) (e3 : B.extract (a0.size + 1) B.size = a1) (w : World) :
    Calls Try.prog 3 #[.string a0, .string a1, .string { data := #[] }] w fun e w' => e = .returned (.bool true) ∧ Grown w w' := by
  go_enter Try.func3, Try.ntmps3
  go_wp2_with (first
    | (go_at_call 7; refine (ib_none _ _ _ (sz _ (by omega)) (by assumption)).mono ?_; rintro e w' ⟨rfl, rfl⟩)
    | (go_at_call 8; refine (str_as _ _ _ S _ (by omega) (by omega) (by decide) (by assumption)).mono ?_; rintro e w' ⟨rfl, rfl⟩)
    | (go_at_call 9; refine (hp_pre _ _ _ (by assumption) (sz _ (by omega))).mono ?_; rintro e w' ⟨rfl, n, rfl⟩)
    | (go_at_call 7; refine (ib_at _ _ _ _ (sz _ (by omega)) (by assumption)).mono ?_; rintro e w' ⟨rfl, rfl⟩)
    | go_in)
  all_goals
    go_ret
    exact ⟨rfl, by repeat (first | exact Grown.refl _ | apply grown_drewN | apply Grown.alloc)⟩

set_option maxHeartbeats 400000 in
theorem back_d (a0 S : ByteArray) (hy : a0.size ≤ 1048576) (h0 : NoB a0 47) (h1 : NoB { data := #[] } 47)
    (hS : Hid (adr a0 { data := #[] } { data := #[] } = S)) (hP : Pre S { data := #[110, 98, 58, 47, 47] })
    (s1 : S.size ≤ 5 + a0.size) (s2 : 5 + a0.size ≤ S.size)
    (e1 : S.extract 5 S.size = a0) (w : World) :
    Calls Try.prog 3 #[.string a0, .string { data := #[] }, .string { data := #[] }] w fun e w' => e = .returned (.bool true) ∧ Grown w w' := by
  go_enter Try.func3, Try.ntmps3
  go_wp2_with (first
    | (go_at_call 7; refine (ib_none _ _ _ (sz _ (by first | omega | decide)) (by assumption)).mono ?_; rintro e w' ⟨rfl, rfl⟩)
    | (go_at_call 8; refine (str_as _ _ _ S _ (by omega) (by decide) (by decide) (by assumption)).mono ?_; rintro e w' ⟨rfl, rfl⟩)
    | (go_at_call 9; refine (hp_pre _ _ _ (by assumption) (sz _ (by omega))).mono ?_; rintro e w' ⟨rfl, n, rfl⟩)
    | go_in)
  all_goals
    go_ret
    exact ⟨rfl, by repeat (first | exact Grown.refl _ | apply grown_drewN | apply Grown.alloc)⟩

end Go.Proofs.Qxb6606423a
