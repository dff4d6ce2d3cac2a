/-
  Seat b6606439a: sameBytes (21), sameFrame (9), sameState (10).
-/
import Derived.Test.Qxb6606439aRows
import Derived.WalkKit
import Derived.ProofKit
import Derived.WalkSpells
import Derived.WalkSmall
import Derived.Lib.SliceRun
import Derived.Deep.QuietTactic
import Derived.BigQuiet
namespace Go.Proofs.Qxb6606439a
open Go.RowKit
set_option linter.unusedVariables false

/-- The bytes of a slice as they lie in w. -/
def Bytes (w : World) (da : Option Addr) (dn : Nat) (z : Nat → Int) : Prop :=
  dn ≤ 1048576 ∧ (0 < dn → ∃ g, da = some ⟨g, 0, none⟩ ∧ g < w.heap.size ∧ ∀ j, j < dn → w.cell? ⟨g, j, none⟩ = some (.int .u8 (z j)))
theorem Bytes.below {w w' : World} {da : Option Addr} {dn : Nat} {z : Nat → Int} (h : Bytes w da dn z) (hb : Below w.heap.size w w') : Bytes w' da dn z :=
  ⟨h.1, fun hp => by
    obtain ⟨g, e, hg, hc⟩ := h.2 hp
    exact ⟨g, e, Nat.lt_of_lt_of_le hg hb.size, fun j hj => by rw [hb.cell (p := ⟨g, j, none⟩) hg]; exact hc j hj⟩⟩

set_option maxHeartbeats 400000 in
theorem sb_same (da : Option Addr) (dn dc dc' : Nat) (z : Nat → Int) (w : World) (h : Bytes w da dn z) :
    Calls Try.prog 21 #[.slice da dn dc, .slice da dn dc'] w fun e w' => e = .returned (.bool true) ∧ ∃ n, w' = w.drewN n := by
  obtain ⟨hn, hp⟩ := h
  have HP : Hid _ := hp
  clear hp
  go_enter Try.func21, Try.ntmps21
  go_wp2
  go_loopw [5] (fun i wr => ∃ k n : Nat, k ≤ dn ∧ i = .int .i64 k ∧ wr = w.drewN n) (fun i _ => dn - (intOf i).toNat)
  case atStart => exact ⟨0, 0, Nat.zero_le _, rfl, rfl⟩
  case round =>
    obtain ⟨k, n, hk, rfl, rfl⟩ := hrel
    by_cases hlt : k < dn
    · obtain ⟨g, rfl, hg, hc⟩ := HP.out (by omega)
      have g0 := hc k hlt
      have hlz : (k : Int) < (dn : Int) := by omega
      clear hc
      go_wp2
      go_quiet (fail)
      go_wp2
      go_roundw
      case rel => exact ⟨k + 1, _, by omega, by go_num, rfl⟩
      case measure => simp [intOf]; omega
    · obtain rfl : k = dn := by omega
      go_wp2
      go_ret
      exact ⟨rfl, _, rfl⟩

set_option maxHeartbeats 1000000 in
theorem sf_same (da : Option Addr) (dn dc : Nat) (key : ByteArray) (kl st en ln ent ind : Int) (blk : Bool) (dash ent' ind' : Int) (blk' : Bool) (dash' : Int) (z : Nat → Int) (w : World) (h : Bytes w da dn z) :
    Calls Try.prog 9 #[.agg #[.slice da dn dc, .string key, .int .i64 kl, .int .i64 st, .int .i64 en, .int .i64 ln, .int .i64 ent, .int .i64 ind, .bool blk, .int .i64 dash], .agg #[.slice da dn dc, .string key, .int .i64 kl, .int .i64 st, .int .i64 en, .int .i64 ln, .int .i64 ent', .int .i64 ind', .bool blk', .int .i64 dash']] w
      fun e w' => e = .returned (.bool true) ∧ Below w.heap.size w w' := by
  have hnil := fun wx a n c => Lib.run_eql_slice_nil (P := Try.prog) wx 22 5 a n c 0 0 Try.underlying22
  have HB : Hid (∀ A B, Bytes ((w.alloc A).alloc B) da dn z) := fun A B => h.below (((Below.refl _ _).alloc (Nat.le_refl _) A).alloc (by simp) B)
  clear h
  go_enter Try.func9, Try.ntmps9
  go_wp2_with (go_at_call 21; refine (sb_same _ _ _ _ z _ (HB.out _ _)).mono ?_; rintro e w' ⟨rfl, n, rfl⟩)
  go_ret
  exact ⟨rfl, below_drewN (((Below.refl _ _).alloc (Nat.le_refl _) _).alloc (by simp) _) n⟩

theorem bcell {W w1 : World} {B : Nat} (hb : Below B W w1) : (∀ b o, b < B → w1.cell? ⟨b, o, none⟩ = W.cell? ⟨b, o, none⟩) ∧ (∀ b o, b < B → w1.frozen? ⟨b, o, none⟩ = W.frozen? ⟨b, o, none⟩) :=
  ⟨fun b o h => hb.cell (p := ⟨b, o, none⟩) h, fun b o h => hb.frozen (p := ⟨b, o, none⟩) h⟩

set_option maxHeartbeats 1000000 in
theorem ss_same (da : Option Addr) (dn dc : Nat) (key : ByteArray) (kl st en ln ent ind : Int) (blk : Bool) (dash : Int) (z : Nat → Int) (w : World) (h : Bytes w da dn z) :
    Calls Try.prog 10 #[.agg #[.slice da dn dc, .string key, .int .i64 kl, .int .i64 st, .int .i64 en, .int .i64 ln, .int .i64 ent, .int .i64 ind, .bool blk, .int .i64 dash], .agg #[.slice da dn dc, .string key, .int .i64 kl, .int .i64 st, .int .i64 en, .int .i64 ln, .int .i64 ent, .int .i64 ind, .bool blk, .int .i64 dash]] w
      fun e w' => e = .returned (.bool true) ∧ Below w.heap.size w w' := by
  have HB : Hid (∀ A B, Bytes ((w.alloc A).alloc B) da dn z) := fun A B => h.below (((Below.refl _ _).alloc (Nat.le_refl _) A).alloc (by simp) B)
  clear h
  go_enter Try.func10, Try.ntmps10
  go_wp2_with fail
  refine (sf_same da dn dc key kl st en ln ent ind blk dash ent ind blk dash z _ (HB.out _ _)).mono ?_
  rintro e w1 ⟨rfl, hb⟩
  obtain ⟨hc, hf⟩ := bcell hb
  have HZ : Hid (Below w.heap.size w w1) := (((Below.refl _ _).alloc (Nat.le_refl _) _).alloc (by simp) _).trans (hb.mono (by simp; omega))
  clear hb hf
  go_wp2
  go_ret
  exact ⟨rfl, HZ.out⟩
end Go.Proofs.Qxb6606439a
