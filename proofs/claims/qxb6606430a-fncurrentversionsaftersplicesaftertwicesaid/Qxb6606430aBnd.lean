/-
  Seat b6606430a: the walk of FnCurrentVersionsAfterBoundsBothSidesOfTheAntiJoin.
-/
import Derived.Test.Qxb6606430aBase
namespace Go.Proofs.Qxb6606430a
open Go.RowKit

set_option maxHeartbeats 400000 in
theorem bnd_long (a0 : ByteArray) (w0 : a0.size ≤ maxLen) (hn : 65536 < a0.size) (w : World) :
    Calls Try.prog 4 #[.string a0] w fun e w' => e = .returned (.bool true) ∧ Grown w w' := by
  unfold maxLen at w0
  go_enter Try.func4, Try.ntmps4
  go_wp2
  all_goals
    go_ret
    exact ⟨rfl, Grown.refl _⟩
set_option maxHeartbeats 400000 in
theorem bnd_empty (w : World) :
    Calls Try.prog 4 #[.string { data := #[] }] w fun e w' => e = .returned (.bool true) ∧ Grown w w' := by
  go_enter Try.func4, Try.ntmps4
  go_wp2
  all_goals
    go_ret
    exact ⟨rfl, Grown.refl _⟩

theorem grown_drewN {W w' : World} (h : Grown W w') (n : Nat) : Grown W (w'.drewN n) := h

set_option maxRecDepth 100000 in
set_option maxHeartbeats 1000000 in
theorem bnd_some (a0 E R X Y Rs : ByteArray) (h1 : a0.size ≤ 65536) (hn : a0.toList.isEmpty = false)
    (hE : Hid (cvE = E)) (hR : Hid (cvS a0 = R)) (eX : { data := #[32, 65, 78, 68, 32, 108, 97, 116, 101, 114, 46, 108, 111, 97, 110, 32, 62, 32] } ++ a0 = X) (eY : { data := #[32, 65, 78, 68, 32, 118, 101, 114, 115, 105, 111, 110, 46, 108, 111, 97, 110, 32, 62, 32] } ++ a0 = Y)
    (zX : X.size ≤ 70000) (zY : Y.size ≤ 70000) (zE1 : E.size ≤ 243) (zE2 : 243 ≤ E.size) (zR1 : R.size ≤ 243 + X.size + Y.size) (zR2 : 243 + X.size + Y.size ≤ R.size)
    (hsame : Hid (∀ k (h : k < 225), ((R[k].toNat : Int) == (E[k].toNat : Int)) = true))
    (hdif : Hid (((R[225].toNat : Int) == (E[225].toNat : Int)) = false))
    (r1 : R.extract 225 (225 + X.size) = X) (r2 : R.extract (225 + X.size) R.size = Rs) (zS1 : Rs.size ≤ 18 + Y.size) (zS2 : 18 + Y.size ≤ Rs.size)
    (T1 : Hid (∀ m, m ≤ 4 → ((Rs.extract 0 m).toList == (E.extract 225 (225 + m)).toList) = true))
    (T2 : Hid (∀ m, m < 4 → ((Rs.extract m (m + Y.size)).toList == Y.toList) = false))
    (T3 : Rs.extract 4 (4 + Y.size) = Y) (T4 : Rs.extract (4 + Y.size) Rs.size = E.extract 229 E.size)
    (w : World) :
    Calls Try.prog 4 #[.string a0] w fun e w' => e = .returned (.bool true) ∧ Grown w w' := by
  go_enter Try.func4, Try.ntmps4
  go_wp2_with (go_at_call 10; go_in)
  refine (cv_nil E _ hE).mono ?_
  rintro e w ⟨rfl, rfl⟩
  go_wp2_with fail
  refine (cv_some a0 R _ h1 (by rw [hn]; rfl) hR).mono ?_
  rintro e w ⟨rfl, rfl⟩
  go_wp2
  go_loopw [7] (fun i wr => ∃ k n : Nat, k ≤ 225 ∧ i = .int .i64 k ∧ wr = w.drewN n) (fun i _ => 225 - (intOf i).toNat)
  case atStart => exact ⟨0, 0, Nat.zero_le _, rfl, rfl⟩
  case round =>
    obtain ⟨k, n, hk, rfl, rfl⟩ := hrel
    by_cases hlt : k < 225
    · have g1 : k < E.size := by omega
      have g2 : k < R.size := by omega
      have g3 := hsame.out k hlt
      go_wp2
      go_quiet (fail)
      go_wp2
      go_roundw
      case rel => exact ⟨k + 1, _, by omega, by go_num, rfl⟩
      case measure => simp [intOf]; omega
    · obtain rfl : k = 225 := by omega
      have g1 : (225 : Int) < (E.size : Int) := by omega
      have g2 : (225 : Int) < (R.size : Int) := by omega
      have g3 := hdif.out
      go_wp2
      go_quiet (fail)
      go_wp2
      rw [r2]
      clear g3 hsame hdif hE hR eX eY r1 r2 hn
      go_loopw [9] (fun j wr => ∃ k n : Nat, 225 ≤ k ∧ k ≤ 229 ∧ j = .int .i64 k ∧ wr = w.drewN n) (fun j _ => 229 - (intOf j).toNat)
      case atStart => exact ⟨225, _, by omega, by omega, rfl, rfl⟩
      case round =>
        obtain ⟨k, n, hk1, hk2, rfl, rfl⟩ := hrel
        have hk5 : k = 225 ∨ k = 226 ∨ k = 227 ∨ k = 228 ∨ k = 229 := by omega
        rcases hk5 with rfl | rfl | rfl | rfl | rfl
        · have t1 : ((Rs.extract 0 0).toList == (E.extract 225 225).toList) = true := T1.out 0 (by omega)
          have t2 : ((Rs.extract 0 Y.size).toList == Y.toList) = false := by have := T2.out 0 (by omega); rwa [Nat.zero_add] at this
          go_wp2
          go_quiet (fail)
          go_wp2
          go_roundw
          case rel => exact ⟨226, _, by omega, by omega, by go_num, rfl⟩
          case measure => simp [intOf]
        · have t1 : ((Rs.extract 0 1).toList == (E.extract 225 226).toList) = true := T1.out 1 (by omega)
          have t2 : ((Rs.extract 1 (1 + Y.size)).toList == Y.toList) = false := T2.out 1 (by omega)
          go_wp2
          go_quiet (fail)
          go_wp2
          go_roundw
          case rel => exact ⟨227, _, by omega, by omega, by go_num, rfl⟩
          case measure => simp [intOf]
        · have t1 : ((Rs.extract 0 2).toList == (E.extract 225 227).toList) = true := T1.out 2 (by omega)
          have t2 : ((Rs.extract 2 (2 + Y.size)).toList == Y.toList) = false := T2.out 2 (by omega)
          go_wp2
          go_quiet (fail)
          go_wp2
          go_roundw
          case rel => exact ⟨228, _, by omega, by omega, by go_num, rfl⟩
          case measure => simp [intOf]
        · have t1 : ((Rs.extract 0 3).toList == (E.extract 225 228).toList) = true := T1.out 3 (by omega)
          have t2 : ((Rs.extract 3 (3 + Y.size)).toList == Y.toList) = false := T2.out 3 (by omega)
          go_wp2
          go_quiet (fail)
          go_wp2
          go_roundw
          case rel => exact ⟨229, _, by omega, by omega, by go_num, rfl⟩
          case measure => simp [intOf]
        · have t1 : ((Rs.extract 0 4).toList == (E.extract 225 229).toList) = true := T1.out 4 (by omega)
          go_wp2
          go_quiet (fail)
          go_wp2
          go_ret
          exact ⟨rfl, by repeat (first | exact Grown.refl _ | apply grown_drewN | apply Grown.alloc)⟩
end Go.Proofs.Qxb6606430a
