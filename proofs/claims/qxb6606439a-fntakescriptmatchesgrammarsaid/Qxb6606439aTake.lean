/-
  Seat b6606439a: listLines.take (20), whole (22).
-/
import Derived.Test.Qxb6606439aRows
import Derived.WalkKit
import Derived.ProofKit
import Derived.Deep.QuietTactic
import Derived.BigQuiet
import Derived.WalkSpells
namespace Go.Proofs.Qxb6606439a
open Go.RowKit
set_option linter.unusedVariables false

theorem whole_any (b : Nat) (blk : Bool) (dash : Int) (w : World) (h8 : w.cell? ⟨b, 8, none⟩ = some (.bool blk)) (h9 : w.cell? ⟨b, 9, none⟩ = some (.int .i64 dash)) (r : Bool)
    (hr : (!blk || decide (0 ≤ dash)) = r) :
    Calls Try.prog 22 #[.pointer (some ⟨b, 0, none⟩)] w fun e w' => e = .returned (.bool r) ∧ w' = w := by
  cases blk with
  | false =>
    subst hr
    go_enter Try.func22, Try.ntmps22
    go_wp2
    go_ret
    exact ⟨rfl, rfl⟩
  | true =>
    subst hr
    go_enter Try.func22, Try.ntmps22
    go_wp2
    go_ret
    exact ⟨rfl, rfl⟩

section
variable (b c : Nat) (ent ind dash x : Int) (w : World)
theorem take_0 : Calls Try.prog 20 #[.pointer (some ⟨b, 0, none⟩), .int .i64 0, .pointer (some ⟨c, 0, none⟩)] w fun e w' => e = .returned (.bool false) ∧ ∃ n, w' = w.drewN n := by
  go_enter Try.func20, Try.ntmps20
  go_wp2
  go_ret
  exact ⟨rfl, 0, rfl⟩
theorem take_1 : Calls Try.prog 20 #[.pointer (some ⟨b, 0, none⟩), .int .i64 1, .pointer (some ⟨c, 0, none⟩)] w fun e w' => e = .returned (.bool true) ∧ ∃ n, w' = w.drewN n := by
  go_enter Try.func20, Try.ntmps20
  go_wp2
  go_ret
  exact ⟨rfl, 0, rfl⟩
theorem take_4a (h8 : w.cell? ⟨b, 8, none⟩ = some (.bool false)) : Calls Try.prog 20 #[.pointer (some ⟨b, 0, none⟩), .int .i64 4, .pointer (some ⟨c, 0, none⟩)] w fun e w' => e = .returned (.bool false) ∧ ∃ n, w' = w.drewN n := by
  go_enter Try.func20, Try.ntmps20
  go_wp2
  go_ret
  exact ⟨rfl, 0, rfl⟩
theorem take_4b (h8 : w.cell? ⟨b, 8, none⟩ = some (.bool true)) (h9 : w.cell? ⟨b, 9, none⟩ = some (.int .i64 dash)) (h7 : w.cell? ⟨b, 7, none⟩ = some (.int .i64 ind)) (hx : w.cell? ⟨c, 0, none⟩ = some (.int .i64 x))
    (hd : dash < 0) (hi : x < ind) : Calls Try.prog 20 #[.pointer (some ⟨b, 0, none⟩), .int .i64 4, .pointer (some ⟨c, 0, none⟩)] w fun e w' => e = .returned (.bool false) ∧ ∃ n, w' = w.drewN n := by
  go_enter Try.func20, Try.ntmps20
  go_wp2
  go_quiet (fail)
  go_wp2
  go_ret
  exact ⟨rfl, _, rfl⟩
theorem take_4c (h8 : w.cell? ⟨b, 8, none⟩ = some (.bool true)) (h9 : w.cell? ⟨b, 9, none⟩ = some (.int .i64 dash)) (h7 : w.cell? ⟨b, 7, none⟩ = some (.int .i64 ind)) (hx : w.cell? ⟨c, 0, none⟩ = some (.int .i64 x))
    (f9 : w.frozen? ⟨b, 9, none⟩ = false)
    (hd : dash < 0) (hi : ind ≤ x) : Calls Try.prog 20 #[.pointer (some ⟨b, 0, none⟩), .int .i64 4, .pointer (some ⟨c, 0, none⟩)] w fun e w' => e = .returned (.bool true) ∧ ∃ n, w' = (w.setCell ⟨b, 9, none⟩ (.int .i64 x)).drewN n := by
  have g1 : decide (x < ind) = false := decide_eq_false (by omega)
  have g2 : decide (0 ≤ dash) = false := decide_eq_false (by omega)
  go_enter Try.func20, Try.ntmps20
  go_wp2
  go_quiet (fail)
  go_wp2
  go_quiet (fail)
  go_wp2
  go_ret
  exact ⟨rfl, _, rfl⟩
theorem take_4d (h8 : w.cell? ⟨b, 8, none⟩ = some (.bool true)) (h9 : w.cell? ⟨b, 9, none⟩ = some (.int .i64 dash)) (h7 : w.cell? ⟨b, 7, none⟩ = some (.int .i64 ind)) (hx : w.cell? ⟨c, 0, none⟩ = some (.int .i64 x))
    (hd : 0 ≤ dash) (hi : (x != dash) = true) : Calls Try.prog 20 #[.pointer (some ⟨b, 0, none⟩), .int .i64 4, .pointer (some ⟨c, 0, none⟩)] w fun e w' => e = .returned (.bool false) ∧ ∃ n, w' = w.drewN n := by
  have g1 : decide (dash < 0) = false := decide_eq_false (by omega)
  go_enter Try.func20, Try.ntmps20
  go_wp2
  go_quiet (fail)
  go_wp2
  go_quiet (fail)
  go_wp2
  go_ret
  exact ⟨rfl, _, by rw [World.drewN_drewN]⟩
theorem take_4e (h8 : w.cell? ⟨b, 8, none⟩ = some (.bool true)) (h9 : w.cell? ⟨b, 9, none⟩ = some (.int .i64 dash)) (h7 : w.cell? ⟨b, 7, none⟩ = some (.int .i64 ind)) (hx : w.cell? ⟨c, 0, none⟩ = some (.int .i64 x))
    (f9 : w.frozen? ⟨b, 9, none⟩ = false)
    (hd : 0 ≤ dash) (hi : (x != dash) = false) : Calls Try.prog 20 #[.pointer (some ⟨b, 0, none⟩), .int .i64 4, .pointer (some ⟨c, 0, none⟩)] w fun e w' => e = .returned (.bool true) ∧ ∃ n, w' = (w.setCell ⟨b, 9, none⟩ (.int .i64 x)).drewN n := by
  have g1 : decide (dash < 0) = false := decide_eq_false (by omega)
  go_enter Try.func20, Try.ntmps20
  go_wp2
  go_quiet (fail)
  go_wp2
  go_quiet (fail)
  go_wp2
  go_ret
  exact ⟨rfl, _, rfl⟩

variable (kind : Int) (blk : Bool)
theorem take_ea (h8 : w.cell? ⟨b, 8, none⟩ = some (.bool blk)) (h9 : w.cell? ⟨b, 9, none⟩ = some (.int .i64 dash)) (h7 : w.cell? ⟨b, 7, none⟩ = some (.int .i64 ind)) (hx : w.cell? ⟨c, 0, none⟩ = some (.int .i64 x))
    (k0 : (kind == 0) = false) (k1 : (kind == 1) = false) (k4 : (kind == 4) = false) (hw : (!blk || decide (0 ≤ dash)) = false) : Calls Try.prog 20 #[.pointer (some ⟨b, 0, none⟩), .int .i64 kind, .pointer (some ⟨c, 0, none⟩)] w fun e w' => e = .returned (.bool false) ∧ ∃ n, w' = w.drewN n := by
  have hc := fun w' (h : w'.cell? ⟨b, 8, none⟩ = some (.bool blk)) (h' : w'.cell? ⟨b, 9, none⟩ = some (.int .i64 dash)) => whole_any b blk dash w' h h' false hw
  have HC : Hid _ := hc
  clear hc hw
  go_enter Try.func20, Try.ntmps20
  go_wp2
  go_quiet ((go_at_call 22; exact Calls.quiet_of_same (HC.out _ h8 h9)))
  go_wp2
  go_ret
  exact ⟨rfl, _, rfl⟩
theorem take_eb (h8 : w.cell? ⟨b, 8, none⟩ = some (.bool blk)) (h9 : w.cell? ⟨b, 9, none⟩ = some (.int .i64 dash)) (h7 : w.cell? ⟨b, 7, none⟩ = some (.int .i64 ind)) (hx : w.cell? ⟨c, 0, none⟩ = some (.int .i64 x))
    (k0 : (kind == 0) = false) (k1 : (kind == 1) = false) (k4 : (kind == 4) = false) (hw : (!blk || decide (0 ≤ dash)) = true) (hi : 0 ≤ ind) (hn : (x != ind) = true) : Calls Try.prog 20 #[.pointer (some ⟨b, 0, none⟩), .int .i64 kind, .pointer (some ⟨c, 0, none⟩)] w fun e w' => e = .returned (.bool false) ∧ ∃ n, w' = w.drewN n := by
  have hc := fun w' (h : w'.cell? ⟨b, 8, none⟩ = some (.bool blk)) (h' : w'.cell? ⟨b, 9, none⟩ = some (.int .i64 dash)) => whole_any b blk dash w' h h' true hw
  have HC : Hid _ := hc
  clear hc hw
  go_enter Try.func20, Try.ntmps20
  go_wp2
  go_quiet ((go_at_call 22; exact Calls.quiet_of_same (HC.out _ h8 h9)))
  go_wp2
  go_ret
  exact ⟨rfl, _, rfl⟩
/-- The world behind a taken entry. -/
def entW : World := (((w.setCell ⟨b, 7, none⟩ (.int .i64 x)).setCell ⟨b, 8, none⟩ (.bool (kind == 3))).setCell ⟨b, 9, none⟩ (.int .i64 (-1))).setCell ⟨b, 6, none⟩ (.int .i64 (wrap64 (ent + 1)))
theorem take_ec (h8 : w.cell? ⟨b, 8, none⟩ = some (.bool blk)) (h9 : w.cell? ⟨b, 9, none⟩ = some (.int .i64 dash)) (h7 : w.cell? ⟨b, 7, none⟩ = some (.int .i64 ind)) (hx : w.cell? ⟨c, 0, none⟩ = some (.int .i64 x)) (h6 : w.cell? ⟨b, 6, none⟩ = some (.int .i64 ent))
    (f6 : w.frozen? ⟨b, 6, none⟩ = false) (f7 : w.frozen? ⟨b, 7, none⟩ = false) (f8 : w.frozen? ⟨b, 8, none⟩ = false) (f9 : w.frozen? ⟨b, 9, none⟩ = false)
    (k0 : (kind == 0) = false) (k1 : (kind == 1) = false) (k4 : (kind == 4) = false) (hw : (!blk || decide (0 ≤ dash)) = true) (hi : decide (0 ≤ ind) = false) : Calls Try.prog 20 #[.pointer (some ⟨b, 0, none⟩), .int .i64 kind, .pointer (some ⟨c, 0, none⟩)] w fun e w' => e = .returned (.bool true) ∧ ∃ n, w' = (entW b ent x w kind).drewN n := by
  have hc := fun w' (h : w'.cell? ⟨b, 8, none⟩ = some (.bool blk)) (h' : w'.cell? ⟨b, 9, none⟩ = some (.int .i64 dash)) => whole_any b blk dash w' h h' true hw
  have HC : Hid _ := hc
  clear hc hw
  go_enter Try.func20, Try.ntmps20
  go_wp2
  go_quiet ((go_at_call 22; exact Calls.quiet_of_same (HC.out _ h8 h9)))
  go_wp2
  go_ret
  exact ⟨rfl, _, rfl⟩
theorem take_ed (h8 : w.cell? ⟨b, 8, none⟩ = some (.bool blk)) (h9 : w.cell? ⟨b, 9, none⟩ = some (.int .i64 dash)) (h7 : w.cell? ⟨b, 7, none⟩ = some (.int .i64 ind)) (hx : w.cell? ⟨c, 0, none⟩ = some (.int .i64 x)) (h6 : w.cell? ⟨b, 6, none⟩ = some (.int .i64 ent))
    (f6 : w.frozen? ⟨b, 6, none⟩ = false) (f7 : w.frozen? ⟨b, 7, none⟩ = false) (f8 : w.frozen? ⟨b, 8, none⟩ = false) (f9 : w.frozen? ⟨b, 9, none⟩ = false)
    (k0 : (kind == 0) = false) (k1 : (kind == 1) = false) (k4 : (kind == 4) = false) (hw : (!blk || decide (0 ≤ dash)) = true) (hi : 0 ≤ ind) (hn : (x != ind) = false) : Calls Try.prog 20 #[.pointer (some ⟨b, 0, none⟩), .int .i64 kind, .pointer (some ⟨c, 0, none⟩)] w fun e w' => e = .returned (.bool true) ∧ ∃ n, w' = (entW b ent x w kind).drewN n := by
  have hc := fun w' (h : w'.cell? ⟨b, 8, none⟩ = some (.bool blk)) (h' : w'.cell? ⟨b, 9, none⟩ = some (.int .i64 dash)) => whole_any b blk dash w' h h' true hw
  have HC : Hid _ := hc
  clear hc hw
  go_enter Try.func20, Try.ntmps20
  go_wp2
  go_quiet ((go_at_call 22; exact Calls.quiet_of_same (HC.out _ h8 h9)))
  go_wp2
  go_ret
  exact ⟨rfl, _, rfl⟩
end
end Go.Proofs.Qxb6606439a
