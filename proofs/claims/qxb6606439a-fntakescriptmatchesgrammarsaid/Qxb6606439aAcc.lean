/-
  Seat b6606439a: acceptable (15).
-/
import Derived.Test.Qxb6606439aGram
namespace Go.Proofs.Qxb6606439a
open Go.RowKit
set_option linter.unusedVariables false

/-- What acceptable answers. -/
def accB (K X : Nat → Int) (i : Nat) : Bool :=
  if K i = 0 then false else if K i = 1 then true
  else if K i = 4 then
    (if 0 ≤ lastE K i ∧ K (lastE K i).toNat = 3 then
      (if 0 ≤ firstI K ((lastE K i).toNat + 1) i then X i == X (firstI K ((lastE K i).toNat + 1) i).toNat else decide (X (lastE K i).toNat ≤ X i))
    else false)
  else if 0 ≤ lastE K i ∧ K (lastE K i).toNat = 3 ∧ firstI K ((lastE K i).toNat + 1) i < 0 then false
  else if 0 ≤ firstE K i then X i == X (firstE K i).toNat else true

section
variable (da : Option Addr) (dn dc : Nat) (xa : Option Addr) (xn xc : Nat) (K X : Nat → Int) (w : World) (i : Nat)
theorem lastE_as (h : Ints w da dn K) (hi : i ≤ dn) (v : Int) (hv : lastE K i = v) :
    Calls Try.prog 18 #[.slice da dn dc, .int .i64 i] w fun e w' => e = .returned (.int .i64 v) ∧ w = w' := by
  subst hv; exact (lastE_any da dn dc K w h i hi).mono fun e w' ⟨a, b⟩ => ⟨a, b.symm⟩
theorem firstE_as (h : Ints w da dn K) (hi : i ≤ dn) (v : Int) (hv : firstE K i = v) :
    Calls Try.prog 17 #[.slice da dn dc, .int .i64 i] w fun e w' => e = .returned (.int .i64 v) ∧ w = w' := by
  subst hv; exact (firstE_any da dn dc K w h i hi).mono fun e w' ⟨a, b⟩ => ⟨a, b.symm⟩
theorem firstI_as (h : Ints w da dn K) (p : Nat) (q : Int) (hq : q = (p : Int)) (hp : p ≤ i) (hi : i ≤ dn) (v : Int) (hv : firstI K p i = v) :
    Calls Try.prog 19 #[.slice da dn dc, .int .i64 q, .int .i64 i] w fun e w' => e = .returned (.int .i64 v) ∧ w = w' := by
  subst hv; subst hq; exact (firstI_any da dn dc K w h p i hp hi).mono fun e w' ⟨a, b⟩ => ⟨a, b.symm⟩

set_option maxHeartbeats 400000 in
theorem acc_0 (g r : Nat) (hI : Ints w (some ⟨g, 0, none⟩) dn K) (k1 : w.cell? ⟨g, i, none⟩ = some (.int .i64 (K i))) (x1 : w.cell? ⟨r, i, none⟩ = some (.int .i64 (X i))) (b0 : dn ≤ 4096) (b1 : xn ≤ 4096) (b2 : (i : Int) < (dn : Int)) (b3 : (i : Int) < (xn : Int)) (e0 : (K i == 0) = true) :
    Calls Try.prog 15 #[.slice (some ⟨g, 0, none⟩) dn dc, .slice (some ⟨r, 0, none⟩) xn xc, .int .i64 i] w fun e w' => e = .returned (.bool false) ∧ w = w' := by
  have HI : Hid _ := hI
  clear hI
  go_enter Try.func15, Try.ntmps15
  go_wp2
  go_ret
  exact ⟨rfl, rfl⟩
set_option maxHeartbeats 400000 in
theorem acc_1 (g r : Nat) (hI : Ints w (some ⟨g, 0, none⟩) dn K) (k1 : w.cell? ⟨g, i, none⟩ = some (.int .i64 (K i))) (x1 : w.cell? ⟨r, i, none⟩ = some (.int .i64 (X i))) (b0 : dn ≤ 4096) (b1 : xn ≤ 4096) (b2 : (i : Int) < (dn : Int)) (b3 : (i : Int) < (xn : Int)) (e0 : (K i == 0) = false) (e1 : (K i == 1) = true) :
    Calls Try.prog 15 #[.slice (some ⟨g, 0, none⟩) dn dc, .slice (some ⟨r, 0, none⟩) xn xc, .int .i64 i] w fun e w' => e = .returned (.bool true) ∧ w = w' := by
  have HI : Hid _ := hI
  clear hI
  go_enter Try.func15, Try.ntmps15
  go_wp2
  go_ret
  exact ⟨rfl, rfl⟩
set_option maxHeartbeats 400000 in
theorem acc_4a (g r : Nat) (hI : Ints w (some ⟨g, 0, none⟩) dn K) (k1 : w.cell? ⟨g, i, none⟩ = some (.int .i64 (K i))) (x1 : w.cell? ⟨r, i, none⟩ = some (.int .i64 (X i))) (b0 : dn ≤ 4096) (b1 : xn ≤ 4096) (b2 : (i : Int) < (dn : Int)) (b3 : (i : Int) < (xn : Int)) (e0 : (K i == 0) = false) (e1 : (K i == 1) = false) (e4 : (K i == 4) = true) (hl : Hid (lastE K i = -1)) :
    Calls Try.prog 15 #[.slice (some ⟨g, 0, none⟩) dn dc, .slice (some ⟨r, 0, none⟩) xn xc, .int .i64 i] w fun e w' => e = .returned (.bool false) ∧ w = w' := by
  have HI : Hid _ := hI
  clear hI
  go_enter Try.func15, Try.ntmps15
  go_wp2_with (first
    | (go_at_call 18; refine (lastE_as _ dn dc K _ i HI.out (by omega) (-1) hl.out).mono ?_; rintro e w' ⟨rfl, rfl⟩)
    | fail)
  go_ret
  exact ⟨rfl, rfl⟩
set_option maxHeartbeats 400000 in
theorem acc_4b (g r : Nat) (hI : Ints w (some ⟨g, 0, none⟩) dn K) (k1 : w.cell? ⟨g, i, none⟩ = some (.int .i64 (K i))) (x1 : w.cell? ⟨r, i, none⟩ = some (.int .i64 (X i))) (b0 : dn ≤ 4096) (b1 : xn ≤ 4096) (b2 : (i : Int) < (dn : Int)) (b3 : (i : Int) < (xn : Int)) (e0 : (K i == 0) = false) (e1 : (K i == 1) = false) (e4 : (K i == 4) = true) (P : Nat) (hP : P < i) (hl : Hid (lastE K i = (P : Int))) (kp : w.cell? ⟨g, P, none⟩ = some (.int .i64 (K P))) (k3 : (K P != 3) = true) :
    Calls Try.prog 15 #[.slice (some ⟨g, 0, none⟩) dn dc, .slice (some ⟨r, 0, none⟩) xn xc, .int .i64 i] w fun e w' => e = .returned (.bool false) ∧ w = w' := by
  have HI : Hid _ := hI
  clear hI
  have bp : (P : Int) < (dn : Int) := by omega
  have bx : (P : Int) < (xn : Int) := by omega
  go_enter Try.func15, Try.ntmps15
  go_wp2_with (first
    | (go_at_call 18; refine (lastE_as _ dn dc K _ i HI.out (by omega) P hl.out).mono ?_; rintro e w' ⟨rfl, rfl⟩)
    | fail)
  go_ret
  exact ⟨rfl, rfl⟩
set_option maxHeartbeats 400000 in
theorem acc_4c (g r : Nat) (hI : Ints w (some ⟨g, 0, none⟩) dn K) (k1 : w.cell? ⟨g, i, none⟩ = some (.int .i64 (K i))) (x1 : w.cell? ⟨r, i, none⟩ = some (.int .i64 (X i))) (b0 : dn ≤ 4096) (b1 : xn ≤ 4096) (b2 : (i : Int) < (dn : Int)) (b3 : (i : Int) < (xn : Int)) (e0 : (K i == 0) = false) (e1 : (K i == 1) = false) (e4 : (K i == 4) = true) (P : Nat) (hP : P < i) (hl : Hid (lastE K i = (P : Int))) (kp : w.cell? ⟨g, P, none⟩ = some (.int .i64 (K P))) (k3 : (K P != 3) = false) (hq : Hid (firstI K (P + 1) i = -1)) (xp : w.cell? ⟨r, P, none⟩ = some (.int .i64 (X P))) :
    Calls Try.prog 15 #[.slice (some ⟨g, 0, none⟩) dn dc, .slice (some ⟨r, 0, none⟩) xn xc, .int .i64 i] w fun e w' => e = .returned (.bool (decide (X P ≤ X i))) ∧ w = w' := by
  have HI : Hid _ := hI
  clear hI
  have bp : (P : Int) < (dn : Int) := by omega
  have bx : (P : Int) < (xn : Int) := by omega
  go_enter Try.func15, Try.ntmps15
  go_wp2_with (first
    | (go_at_call 18; refine (lastE_as _ dn dc K _ i HI.out (by omega) P hl.out).mono ?_; rintro e w' ⟨rfl, rfl⟩)
    | (go_at_call 19; refine (firstI_as _ dn dc K _ i HI.out (P + 1) _ (by omega) (by omega) (by omega) (-1) hq.out).mono ?_; rintro e w' ⟨rfl, rfl⟩)
    | fail)
  go_ret
  exact ⟨rfl, rfl⟩
set_option maxHeartbeats 400000 in
theorem acc_4d (g r : Nat) (hI : Ints w (some ⟨g, 0, none⟩) dn K) (k1 : w.cell? ⟨g, i, none⟩ = some (.int .i64 (K i))) (x1 : w.cell? ⟨r, i, none⟩ = some (.int .i64 (X i))) (b0 : dn ≤ 4096) (b1 : xn ≤ 4096) (b2 : (i : Int) < (dn : Int)) (b3 : (i : Int) < (xn : Int)) (e0 : (K i == 0) = false) (e1 : (K i == 1) = false) (e4 : (K i == 4) = true) (P : Nat) (hP : P < i) (hl : Hid (lastE K i = (P : Int))) (kp : w.cell? ⟨g, P, none⟩ = some (.int .i64 (K P))) (k3 : (K P != 3) = false) (Q : Nat) (hQ : Q < i) (hq : Hid (firstI K (P + 1) i = (Q : Int))) (xq : w.cell? ⟨r, Q, none⟩ = some (.int .i64 (X Q))) :
    Calls Try.prog 15 #[.slice (some ⟨g, 0, none⟩) dn dc, .slice (some ⟨r, 0, none⟩) xn xc, .int .i64 i] w fun e w' => e = .returned (.bool (X i == X Q)) ∧ w = w' := by
  have HI : Hid _ := hI
  clear hI
  have bp : (P : Int) < (dn : Int) := by omega
  have bx : (P : Int) < (xn : Int) := by omega
  have bq : (Q : Int) < (xn : Int) := by omega
  go_enter Try.func15, Try.ntmps15
  go_wp2_with (first
    | (go_at_call 18; refine (lastE_as _ dn dc K _ i HI.out (by omega) P hl.out).mono ?_; rintro e w' ⟨rfl, rfl⟩)
    | (go_at_call 19; refine (firstI_as _ dn dc K _ i HI.out (P + 1) _ (by omega) (by omega) (by omega) Q hq.out).mono ?_; rintro e w' ⟨rfl, rfl⟩)
    | fail)
  go_ret
  exact ⟨rfl, rfl⟩
set_option maxHeartbeats 400000 in
theorem acc_ean (g r : Nat) (hI : Ints w (some ⟨g, 0, none⟩) dn K) (k1 : w.cell? ⟨g, i, none⟩ = some (.int .i64 (K i))) (x1 : w.cell? ⟨r, i, none⟩ = some (.int .i64 (X i))) (b0 : dn ≤ 4096) (b1 : xn ≤ 4096) (b2 : (i : Int) < (dn : Int)) (b3 : (i : Int) < (xn : Int)) (e0 : (K i == 0) = false) (e1 : (K i == 1) = false) (e4 : (K i == 4) = false) (hl : Hid (lastE K i = -1)) (hf : Hid (firstE K i = -1)) :
    Calls Try.prog 15 #[.slice (some ⟨g, 0, none⟩) dn dc, .slice (some ⟨r, 0, none⟩) xn xc, .int .i64 i] w fun e w' => e = .returned (.bool true) ∧ w = w' := by
  have HI : Hid _ := hI
  clear hI
  go_enter Try.func15, Try.ntmps15
  go_wp2_with (first
    | (go_at_call 18; refine (lastE_as _ dn dc K _ i HI.out (by omega) (-1) hl.out).mono ?_; rintro e w' ⟨rfl, rfl⟩)
    | (go_at_call 17; refine (firstE_as _ dn dc K _ i HI.out (by omega) (-1) hf.out).mono ?_; rintro e w' ⟨rfl, rfl⟩)
    | fail)
  go_ret
  exact ⟨rfl, rfl⟩
set_option maxHeartbeats 400000 in
theorem acc_ebn (g r : Nat) (hI : Ints w (some ⟨g, 0, none⟩) dn K) (k1 : w.cell? ⟨g, i, none⟩ = some (.int .i64 (K i))) (x1 : w.cell? ⟨r, i, none⟩ = some (.int .i64 (X i))) (b0 : dn ≤ 4096) (b1 : xn ≤ 4096) (b2 : (i : Int) < (dn : Int)) (b3 : (i : Int) < (xn : Int)) (e0 : (K i == 0) = false) (e1 : (K i == 1) = false) (e4 : (K i == 4) = false) (P : Nat) (hP : P < i) (hl : Hid (lastE K i = (P : Int))) (kp : w.cell? ⟨g, P, none⟩ = some (.int .i64 (K P))) (k3 : (K P == 3) = false) (hf : Hid (firstE K i = -1)) :
    Calls Try.prog 15 #[.slice (some ⟨g, 0, none⟩) dn dc, .slice (some ⟨r, 0, none⟩) xn xc, .int .i64 i] w fun e w' => e = .returned (.bool true) ∧ w = w' := by
  have HI : Hid _ := hI
  clear hI
  have bp : (P : Int) < (dn : Int) := by omega
  have bx : (P : Int) < (xn : Int) := by omega
  go_enter Try.func15, Try.ntmps15
  go_wp2_with (first
    | (go_at_call 18; refine (lastE_as _ dn dc K _ i HI.out (by omega) P hl.out).mono ?_; rintro e w' ⟨rfl, rfl⟩)
    | (go_at_call 17; refine (firstE_as _ dn dc K _ i HI.out (by omega) (-1) hf.out).mono ?_; rintro e w' ⟨rfl, rfl⟩)
    | fail)
  go_ret
  exact ⟨rfl, rfl⟩
set_option maxHeartbeats 400000 in
theorem acc_edn (g r : Nat) (hI : Ints w (some ⟨g, 0, none⟩) dn K) (k1 : w.cell? ⟨g, i, none⟩ = some (.int .i64 (K i))) (x1 : w.cell? ⟨r, i, none⟩ = some (.int .i64 (X i))) (b0 : dn ≤ 4096) (b1 : xn ≤ 4096) (b2 : (i : Int) < (dn : Int)) (b3 : (i : Int) < (xn : Int)) (e0 : (K i == 0) = false) (e1 : (K i == 1) = false) (e4 : (K i == 4) = false) (P : Nat) (hP : P < i) (hl : Hid (lastE K i = (P : Int))) (kp : w.cell? ⟨g, P, none⟩ = some (.int .i64 (K P))) (k3 : (K P == 3) = true) (Q : Nat) (hQ : Q < i) (hq : Hid (firstI K (P + 1) i = (Q : Int))) (hf : Hid (firstE K i = -1)) :
    Calls Try.prog 15 #[.slice (some ⟨g, 0, none⟩) dn dc, .slice (some ⟨r, 0, none⟩) xn xc, .int .i64 i] w fun e w' => e = .returned (.bool true) ∧ w = w' := by
  have HI : Hid _ := hI
  clear hI
  have bp : (P : Int) < (dn : Int) := by omega
  have bx : (P : Int) < (xn : Int) := by omega
  go_enter Try.func15, Try.ntmps15
  go_wp2_with (first
    | (go_at_call 18; refine (lastE_as _ dn dc K _ i HI.out (by omega) P hl.out).mono ?_; rintro e w' ⟨rfl, rfl⟩)
    | (go_at_call 19; refine (firstI_as _ dn dc K _ i HI.out (P + 1) _ (by omega) (by omega) (by omega) Q hq.out).mono ?_; rintro e w' ⟨rfl, rfl⟩)
    | (go_at_call 17; refine (firstE_as _ dn dc K _ i HI.out (by omega) (-1) hf.out).mono ?_; rintro e w' ⟨rfl, rfl⟩)
    | fail)
  go_ret
  exact ⟨rfl, rfl⟩
set_option maxHeartbeats 400000 in
theorem acc_eaf (g r : Nat) (hI : Ints w (some ⟨g, 0, none⟩) dn K) (k1 : w.cell? ⟨g, i, none⟩ = some (.int .i64 (K i))) (x1 : w.cell? ⟨r, i, none⟩ = some (.int .i64 (X i))) (b0 : dn ≤ 4096) (b1 : xn ≤ 4096) (b2 : (i : Int) < (dn : Int)) (b3 : (i : Int) < (xn : Int)) (e0 : (K i == 0) = false) (e1 : (K i == 1) = false) (e4 : (K i == 4) = false) (hl : Hid (lastE K i = -1)) (F : Nat) (hF : F < i) (hf : Hid (firstE K i = (F : Int))) (xf : w.cell? ⟨r, F, none⟩ = some (.int .i64 (X F))) :
    Calls Try.prog 15 #[.slice (some ⟨g, 0, none⟩) dn dc, .slice (some ⟨r, 0, none⟩) xn xc, .int .i64 i] w fun e w' => e = .returned (.bool (X i == X F)) ∧ w = w' := by
  have HI : Hid _ := hI
  clear hI
  have bf : (F : Int) < (xn : Int) := by omega
  go_enter Try.func15, Try.ntmps15
  go_wp2_with (first
    | (go_at_call 18; refine (lastE_as _ dn dc K _ i HI.out (by omega) (-1) hl.out).mono ?_; rintro e w' ⟨rfl, rfl⟩)
    | (go_at_call 17; refine (firstE_as _ dn dc K _ i HI.out (by omega) F hf.out).mono ?_; rintro e w' ⟨rfl, rfl⟩)
    | fail)
  go_ret
  exact ⟨rfl, rfl⟩
set_option maxHeartbeats 400000 in
theorem acc_ebf (g r : Nat) (hI : Ints w (some ⟨g, 0, none⟩) dn K) (k1 : w.cell? ⟨g, i, none⟩ = some (.int .i64 (K i))) (x1 : w.cell? ⟨r, i, none⟩ = some (.int .i64 (X i))) (b0 : dn ≤ 4096) (b1 : xn ≤ 4096) (b2 : (i : Int) < (dn : Int)) (b3 : (i : Int) < (xn : Int)) (e0 : (K i == 0) = false) (e1 : (K i == 1) = false) (e4 : (K i == 4) = false) (P : Nat) (hP : P < i) (hl : Hid (lastE K i = (P : Int))) (kp : w.cell? ⟨g, P, none⟩ = some (.int .i64 (K P))) (k3 : (K P == 3) = false) (F : Nat) (hF : F < i) (hf : Hid (firstE K i = (F : Int))) (xf : w.cell? ⟨r, F, none⟩ = some (.int .i64 (X F))) :
    Calls Try.prog 15 #[.slice (some ⟨g, 0, none⟩) dn dc, .slice (some ⟨r, 0, none⟩) xn xc, .int .i64 i] w fun e w' => e = .returned (.bool (X i == X F)) ∧ w = w' := by
  have HI : Hid _ := hI
  clear hI
  have bp : (P : Int) < (dn : Int) := by omega
  have bx : (P : Int) < (xn : Int) := by omega
  have bf : (F : Int) < (xn : Int) := by omega
  go_enter Try.func15, Try.ntmps15
  go_wp2_with (first
    | (go_at_call 18; refine (lastE_as _ dn dc K _ i HI.out (by omega) P hl.out).mono ?_; rintro e w' ⟨rfl, rfl⟩)
    | (go_at_call 17; refine (firstE_as _ dn dc K _ i HI.out (by omega) F hf.out).mono ?_; rintro e w' ⟨rfl, rfl⟩)
    | fail)
  go_ret
  exact ⟨rfl, rfl⟩
set_option maxHeartbeats 400000 in
theorem acc_edf (g r : Nat) (hI : Ints w (some ⟨g, 0, none⟩) dn K) (k1 : w.cell? ⟨g, i, none⟩ = some (.int .i64 (K i))) (x1 : w.cell? ⟨r, i, none⟩ = some (.int .i64 (X i))) (b0 : dn ≤ 4096) (b1 : xn ≤ 4096) (b2 : (i : Int) < (dn : Int)) (b3 : (i : Int) < (xn : Int)) (e0 : (K i == 0) = false) (e1 : (K i == 1) = false) (e4 : (K i == 4) = false) (P : Nat) (hP : P < i) (hl : Hid (lastE K i = (P : Int))) (kp : w.cell? ⟨g, P, none⟩ = some (.int .i64 (K P))) (k3 : (K P == 3) = true) (Q : Nat) (hQ : Q < i) (hq : Hid (firstI K (P + 1) i = (Q : Int))) (F : Nat) (hF : F < i) (hf : Hid (firstE K i = (F : Int))) (xf : w.cell? ⟨r, F, none⟩ = some (.int .i64 (X F))) :
    Calls Try.prog 15 #[.slice (some ⟨g, 0, none⟩) dn dc, .slice (some ⟨r, 0, none⟩) xn xc, .int .i64 i] w fun e w' => e = .returned (.bool (X i == X F)) ∧ w = w' := by
  have HI : Hid _ := hI
  clear hI
  have bp : (P : Int) < (dn : Int) := by omega
  have bx : (P : Int) < (xn : Int) := by omega
  have bf : (F : Int) < (xn : Int) := by omega
  go_enter Try.func15, Try.ntmps15
  go_wp2_with (first
    | (go_at_call 18; refine (lastE_as _ dn dc K _ i HI.out (by omega) P hl.out).mono ?_; rintro e w' ⟨rfl, rfl⟩)
    | (go_at_call 19; refine (firstI_as _ dn dc K _ i HI.out (P + 1) _ (by omega) (by omega) (by omega) Q hq.out).mono ?_; rintro e w' ⟨rfl, rfl⟩)
    | (go_at_call 17; refine (firstE_as _ dn dc K _ i HI.out (by omega) F hf.out).mono ?_; rintro e w' ⟨rfl, rfl⟩)
    | fail)
  go_ret
  exact ⟨rfl, rfl⟩
set_option maxHeartbeats 400000 in
theorem acc_ec (g r : Nat) (hI : Ints w (some ⟨g, 0, none⟩) dn K) (k1 : w.cell? ⟨g, i, none⟩ = some (.int .i64 (K i))) (x1 : w.cell? ⟨r, i, none⟩ = some (.int .i64 (X i))) (b0 : dn ≤ 4096) (b1 : xn ≤ 4096) (b2 : (i : Int) < (dn : Int)) (b3 : (i : Int) < (xn : Int)) (e0 : (K i == 0) = false) (e1 : (K i == 1) = false) (e4 : (K i == 4) = false) (P : Nat) (hP : P < i) (hl : Hid (lastE K i = (P : Int))) (kp : w.cell? ⟨g, P, none⟩ = some (.int .i64 (K P))) (k3 : (K P == 3) = true) (hq : Hid (firstI K (P + 1) i = -1)) :
    Calls Try.prog 15 #[.slice (some ⟨g, 0, none⟩) dn dc, .slice (some ⟨r, 0, none⟩) xn xc, .int .i64 i] w fun e w' => e = .returned (.bool false) ∧ w = w' := by
  have HI : Hid _ := hI
  clear hI
  have bp : (P : Int) < (dn : Int) := by omega
  have bx : (P : Int) < (xn : Int) := by omega
  go_enter Try.func15, Try.ntmps15
  go_wp2_with (first
    | (go_at_call 18; refine (lastE_as _ dn dc K _ i HI.out (by omega) P hl.out).mono ?_; rintro e w' ⟨rfl, rfl⟩)
    | (go_at_call 19; refine (firstI_as _ dn dc K _ i HI.out (P + 1) _ (by omega) (by omega) (by omega) (-1) hq.out).mono ?_; rintro e w' ⟨rfl, rfl⟩)
    | fail)
  go_ret
  exact ⟨rfl, rfl⟩

theorem acc_any (hK : Ints w da dn K) (hX : Ints w xa xn X) (h1 : i < dn) (h2 : i < xn) :
    Calls Try.prog 15 #[.slice da dn dc, .slice xa xn xc, .int .i64 i] w fun e w' => e = .returned (.bool (accB K X i)) ∧ w = w' := by
  obtain ⟨g, rfl, hg, hc⟩ := hK.2 (by omega)
  obtain ⟨r, rfl, hr, hx⟩ := hX.2 (by omega)
  have b0 := hK.1
  have b1 := hX.1
  have b2 : (i : Int) < (dn : Int) := by omega
  have b3 : (i : Int) < (xn : Int) := by omega
  have k1 := hc i h1
  have x1 := hx i h2
  by_cases e0 : K i = 0
  · have : accB K X i = false := by unfold accB; rw [if_pos e0]
    rw [this]
    exact acc_0 dn dc xn xc K X w i g r hK k1 x1 b0 b1 b2 b3 (by simpa using e0)
  have f0 : (K i == 0) = false := by simpa using e0
  by_cases e1 : K i = 1
  · have : accB K X i = true := by unfold accB; rw [if_neg e0, if_pos e1]
    rw [this]
    exact acc_1 dn dc xn xc K X w i g r hK k1 x1 b0 b1 b2 b3 f0 (by simpa using e1)
  have f1 : (K i == 1) = false := by simpa using e1
  have hlb := lastE_bd K i
  by_cases e4 : K i = 4
  · have f4 : (K i == 4) = true := by simpa using e4
    by_cases hp : 0 ≤ lastE K i
    · obtain ⟨P, hP⟩ := Int.eq_ofNat_of_zero_le hp
      have eP : (lastE K i).toNat = P := by omega
      have hPi : P < i := by omega
      have kp := hc P (by omega)
      have xp := hx P (by omega)
      by_cases h3 : K P = 3
      · have f3 : (K P != 3) = false := by simpa using h3
        have hib := firstI_bd K (P + 1) i
        by_cases hq : 0 ≤ firstI K (P + 1) i
        · obtain ⟨Q, hQ⟩ := Int.eq_ofNat_of_zero_le hq
          have eQ : (firstI K (P + 1) i).toNat = Q := by omega
          have : accB K X i = (X i == X Q) := by unfold accB; rw [if_neg e0, if_neg e1, if_pos e4, eP, if_pos ⟨hp, h3⟩, if_pos hq, eQ]
          rw [this]
          exact acc_4d dn dc xn xc K X w i g r hK k1 x1 b0 b1 b2 b3 f0 f1 f4 P hPi hP kp f3 Q (by omega) hQ (hx Q (by omega))
        · have : accB K X i = decide (X P ≤ X i) := by unfold accB; rw [if_neg e0, if_neg e1, if_pos e4, eP, if_pos ⟨hp, h3⟩, if_neg hq]
          rw [this]
          exact acc_4c dn dc xn xc K X w i g r hK k1 x1 b0 b1 b2 b3 f0 f1 f4 P hPi hP kp f3 (show firstI K (P + 1) i = -1 by omega) xp
      · have : accB K X i = false := by unfold accB; rw [if_neg e0, if_neg e1, if_pos e4, eP, if_neg (fun h => h3 h.2)]
        rw [this]
        exact acc_4b dn dc xn xc K X w i g r hK k1 x1 b0 b1 b2 b3 f0 f1 f4 P hPi hP kp (by simpa using h3)
    · have : accB K X i = false := by unfold accB; rw [if_neg e0, if_neg e1, if_pos e4, if_neg (fun h => hp h.1)]
      rw [this]
      exact acc_4a dn dc xn xc K X w i g r hK k1 x1 b0 b1 b2 b3 f0 f1 f4 (show lastE K i = -1 by omega)
  have f4 : (K i == 4) = false := by simpa using e4
  have hfb := firstE_bd K i
  by_cases hp : 0 ≤ lastE K i
  · obtain ⟨P, hP⟩ := Int.eq_ofNat_of_zero_le hp
    have eP : (lastE K i).toNat = P := by omega
    have hPi : P < i := by omega
    have kp := hc P (by omega)
    by_cases h3 : K P = 3
    · have f3 : (K P == 3) = true := by simpa using h3
      have hib := firstI_bd K (P + 1) i
      by_cases hq : 0 ≤ firstI K (P + 1) i
      · obtain ⟨Q, hQ⟩ := Int.eq_ofNat_of_zero_le hq
        have hn : ¬ (0 ≤ lastE K i ∧ K (lastE K i).toNat = 3 ∧ firstI K ((lastE K i).toNat + 1) i < 0) := by rw [eP]; omega
        by_cases hf : 0 ≤ firstE K i
        · obtain ⟨F, hF⟩ := Int.eq_ofNat_of_zero_le hf
          have eF : (firstE K i).toNat = F := by omega
          have : accB K X i = (X i == X F) := by unfold accB; rw [if_neg e0, if_neg e1, if_neg e4, if_neg hn, if_pos hf, eF]
          rw [this]
          exact acc_edf dn dc xn xc K X w i g r hK k1 x1 b0 b1 b2 b3 f0 f1 f4 P hPi hP kp f3 Q (by omega) hQ F (by omega) hF (hx F (by omega))
        · have : accB K X i = true := by unfold accB; rw [if_neg e0, if_neg e1, if_neg e4, if_neg hn, if_neg hf]
          rw [this]
          exact acc_edn dn dc xn xc K X w i g r hK k1 x1 b0 b1 b2 b3 f0 f1 f4 P hPi hP kp f3 Q (by omega) hQ (show firstE K i = -1 by omega)
      · have : accB K X i = false := by unfold accB; rw [if_neg e0, if_neg e1, if_neg e4, eP, if_pos ⟨hp, h3, by omega⟩]
        rw [this]
        exact acc_ec dn dc xn xc K X w i g r hK k1 x1 b0 b1 b2 b3 f0 f1 f4 P hPi hP kp f3 (show firstI K (P + 1) i = -1 by omega)
    · have f3 : (K P == 3) = false := by simpa using h3
      have hn : ¬ (0 ≤ lastE K i ∧ K (lastE K i).toNat = 3 ∧ firstI K ((lastE K i).toNat + 1) i < 0) := by rw [eP]; exact fun h => h3 h.2.1
      by_cases hf : 0 ≤ firstE K i
      · obtain ⟨F, hF⟩ := Int.eq_ofNat_of_zero_le hf
        have eF : (firstE K i).toNat = F := by omega
        have : accB K X i = (X i == X F) := by unfold accB; rw [if_neg e0, if_neg e1, if_neg e4, if_neg hn, if_pos hf, eF]
        rw [this]
        exact acc_ebf dn dc xn xc K X w i g r hK k1 x1 b0 b1 b2 b3 f0 f1 f4 P hPi hP kp f3 F (by omega) hF (hx F (by omega))
      · have : accB K X i = true := by unfold accB; rw [if_neg e0, if_neg e1, if_neg e4, if_neg hn, if_neg hf]
        rw [this]
        exact acc_ebn dn dc xn xc K X w i g r hK k1 x1 b0 b1 b2 b3 f0 f1 f4 P hPi hP kp f3 (show firstE K i = -1 by omega)
  · have hn : ¬ (0 ≤ lastE K i ∧ K (lastE K i).toNat = 3 ∧ firstI K ((lastE K i).toNat + 1) i < 0) := fun h => hp h.1
    have hl : lastE K i = -1 := by omega
    by_cases hf : 0 ≤ firstE K i
    · obtain ⟨F, hF⟩ := Int.eq_ofNat_of_zero_le hf
      have eF : (firstE K i).toNat = F := by omega
      have : accB K X i = (X i == X F) := by unfold accB; rw [if_neg e0, if_neg e1, if_neg e4, if_neg hn, if_pos hf, eF]
      rw [this]
      exact acc_eaf dn dc xn xc K X w i g r hK k1 x1 b0 b1 b2 b3 f0 f1 f4 hl F (by omega) hF (hx F (by omega))
    · have : accB K X i = true := by unfold accB; rw [if_neg e0, if_neg e1, if_neg e4, if_neg hn, if_neg hf]
      rw [this]
      exact acc_ean dn dc xn xc K X w i g r hK k1 x1 b0 b1 b2 b3 f0 f1 f4 hl (show firstE K i = -1 by omega)
end
end Go.Proofs.Qxb6606439a
