/-
  Seat b6606439a: ZZTake (8), out of take's contracts.
-/
import Derived.Test.Qxb6606439aTake
import Derived.WalkSmall
namespace Go.Proofs.Qxb6606439a
open Go.RowKit
set_option linter.unusedVariables false

set_option maxHeartbeats 1000000 in
theorem zz_same (da : Option Addr) (dn dc : Nat) (key : ByteArray) (kl st en ln ent ind : Int) (blk : Bool) (dash kind x : Int) (r : Bool) (w : World)
    (HT : Hid (∀ b c (W : World), W.cell? ⟨b, 6, none⟩ = some (.int .i64 ent) → W.cell? ⟨b, 7, none⟩ = some (.int .i64 ind) → W.cell? ⟨b, 8, none⟩ = some (.bool blk) → W.cell? ⟨b, 9, none⟩ = some (.int .i64 dash) → W.cell? ⟨c, 0, none⟩ = some (.int .i64 x) → W.frozen? ⟨b, 6, none⟩ = false → W.frozen? ⟨b, 7, none⟩ = false → W.frozen? ⟨b, 8, none⟩ = false → W.frozen? ⟨b, 9, none⟩ = false →
      Calls Try.prog 20 #[.pointer (some ⟨b, 0, none⟩), .int .i64 kind, .pointer (some ⟨c, 0, none⟩)] W fun e w' => e = .returned (.bool r) ∧ ∃ n, w' = (W).drewN n)) :
    Calls Try.prog 8 #[.agg #[.slice da dn dc, .string key, .int .i64 kl, .int .i64 st, .int .i64 en, .int .i64 ln, .int .i64 ent, .int .i64 ind, .bool blk, .int .i64 dash], .int .i64 kind, .int .i64 x] w fun e w' =>
      e = .returned (.tuple #[.bool r, .agg #[.slice da dn dc, .string key, .int .i64 kl, .int .i64 st, .int .i64 en, .int .i64 ln, .int .i64 ent, .int .i64 ind, .bool blk, .int .i64 dash], .int .i64 x]) ∧ Below w.heap.size w w' := by
  go_enter Try.func8, Try.ntmps8
  go_wp2_with fail
  refine (HT.out _ _ _ ?h6 ?h7 ?h8 ?h9 ?hx ?f6 ?f7 ?f8 ?f9).mono ?_
  case h6 => simp [go_sem]
  case h7 => simp [go_sem]
  case h8 => simp [go_sem]
  case h9 => simp [go_sem]
  case hx => simp [go_sem]
  case f6 => simp [go_sem]
  case f7 => simp [go_sem]
  case f8 => simp [go_sem]
  case f9 => simp [go_sem]
  rintro e w' ⟨rfl, n, rfl⟩
  clear HT
  go_wp2
  go_region
  go_wp2
  refine bodyPost_ret (v := .tuple #[.bool r, .agg #[.slice da dn dc, .string key, .int .i64 kl, .int .i64 st, .int .i64 en, .int .i64 ln, .int .i64 ent, .int .i64 ind, .bool blk, .int .i64 dash], .int .i64 x]) (by simp [results, Try.results8, go_sem]) rfl ⟨rfl, ?_⟩
  repeat' (first | (with_reducible exact Below.refl _ _) | (with_reducible refine Below.drew ?_) | (with_reducible refine below_drewN ?_ _) | (with_reducible refine Below.alloc ?_ ?_ _) | (with_reducible refine Below.setCell ?_ ?_ _) | (simp only [World.size_alloc, World.size_setCell, World.heap_drewN]; omega) | (with_reducible exact Nat.le_refl _) | (simp only [Nat.le_add_right, Nat.le_succ]; done) | omega)

set_option maxHeartbeats 1000000 in
theorem zz_item (da : Option Addr) (dn dc : Nat) (key : ByteArray) (kl st en ln ent ind : Int) (blk : Bool) (dash kind x : Int) (w : World)
    (HT : Hid (∀ b c (W : World), W.cell? ⟨b, 6, none⟩ = some (.int .i64 ent) → W.cell? ⟨b, 7, none⟩ = some (.int .i64 ind) → W.cell? ⟨b, 8, none⟩ = some (.bool blk) → W.cell? ⟨b, 9, none⟩ = some (.int .i64 dash) → W.cell? ⟨c, 0, none⟩ = some (.int .i64 x) → W.frozen? ⟨b, 6, none⟩ = false → W.frozen? ⟨b, 7, none⟩ = false → W.frozen? ⟨b, 8, none⟩ = false → W.frozen? ⟨b, 9, none⟩ = false →
      Calls Try.prog 20 #[.pointer (some ⟨b, 0, none⟩), .int .i64 kind, .pointer (some ⟨c, 0, none⟩)] W fun e w' => e = .returned (.bool true) ∧ ∃ n, w' = (W.setCell ⟨b, 9, none⟩ (.int .i64 x)).drewN n)) :
    Calls Try.prog 8 #[.agg #[.slice da dn dc, .string key, .int .i64 kl, .int .i64 st, .int .i64 en, .int .i64 ln, .int .i64 ent, .int .i64 ind, .bool blk, .int .i64 dash], .int .i64 kind, .int .i64 x] w fun e w' =>
      e = .returned (.tuple #[.bool true, .agg #[.slice da dn dc, .string key, .int .i64 kl, .int .i64 st, .int .i64 en, .int .i64 ln, .int .i64 ent, .int .i64 ind, .bool blk, .int .i64 x], .int .i64 x]) ∧ Below w.heap.size w w' := by
  go_enter Try.func8, Try.ntmps8
  go_wp2_with fail
  refine (HT.out _ _ _ ?h6 ?h7 ?h8 ?h9 ?hx ?f6 ?f7 ?f8 ?f9).mono ?_
  case h6 => simp [go_sem]
  case h7 => simp [go_sem]
  case h8 => simp [go_sem]
  case h9 => simp [go_sem]
  case hx => simp [go_sem]
  case f6 => simp [go_sem]
  case f7 => simp [go_sem]
  case f8 => simp [go_sem]
  case f9 => simp [go_sem]
  rintro e w' ⟨rfl, n, rfl⟩
  clear HT
  go_wp2
  go_region
  go_wp2
  refine bodyPost_ret (v := .tuple #[.bool true, .agg #[.slice da dn dc, .string key, .int .i64 kl, .int .i64 st, .int .i64 en, .int .i64 ln, .int .i64 ent, .int .i64 ind, .bool blk, .int .i64 x], .int .i64 x]) (by simp [results, Try.results8, go_sem]) rfl ⟨rfl, ?_⟩
  repeat' (first | (with_reducible exact Below.refl _ _) | (with_reducible refine Below.drew ?_) | (with_reducible refine below_drewN ?_ _) | (with_reducible refine Below.alloc ?_ ?_ _) | (with_reducible refine Below.setCell ?_ ?_ _) | (simp only [World.size_alloc, World.size_setCell, World.heap_drewN]; omega) | (with_reducible exact Nat.le_refl _) | (simp only [Nat.le_add_right, Nat.le_succ]; done) | omega)

set_option maxHeartbeats 1000000 in
theorem zz_entry (da : Option Addr) (dn dc : Nat) (key : ByteArray) (kl st en ln ent ind : Int) (blk : Bool) (dash kind x : Int) (w : World)
    (HT : Hid (∀ b c (W : World), W.cell? ⟨b, 6, none⟩ = some (.int .i64 ent) → W.cell? ⟨b, 7, none⟩ = some (.int .i64 ind) → W.cell? ⟨b, 8, none⟩ = some (.bool blk) → W.cell? ⟨b, 9, none⟩ = some (.int .i64 dash) → W.cell? ⟨c, 0, none⟩ = some (.int .i64 x) → W.frozen? ⟨b, 6, none⟩ = false → W.frozen? ⟨b, 7, none⟩ = false → W.frozen? ⟨b, 8, none⟩ = false → W.frozen? ⟨b, 9, none⟩ = false →
      Calls Try.prog 20 #[.pointer (some ⟨b, 0, none⟩), .int .i64 kind, .pointer (some ⟨c, 0, none⟩)] W fun e w' => e = .returned (.bool true) ∧ ∃ n, w' = (entW b ent x W kind).drewN n)) :
    Calls Try.prog 8 #[.agg #[.slice da dn dc, .string key, .int .i64 kl, .int .i64 st, .int .i64 en, .int .i64 ln, .int .i64 ent, .int .i64 ind, .bool blk, .int .i64 dash], .int .i64 kind, .int .i64 x] w fun e w' =>
      e = .returned (.tuple #[.bool true, .agg #[.slice da dn dc, .string key, .int .i64 kl, .int .i64 st, .int .i64 en, .int .i64 ln, .int .i64 (wrap64 (ent + 1)), .int .i64 x, .bool (kind == 3), .int .i64 (-1)], .int .i64 x]) ∧ Below w.heap.size w w' := by
  go_enter Try.func8, Try.ntmps8
  go_wp2_with fail
  refine (HT.out _ _ _ ?h6 ?h7 ?h8 ?h9 ?hx ?f6 ?f7 ?f8 ?f9).mono ?_
  case h6 => simp [go_sem]
  case h7 => simp [go_sem]
  case h8 => simp [go_sem]
  case h9 => simp [go_sem]
  case hx => simp [go_sem]
  case f6 => simp [go_sem]
  case f7 => simp [go_sem]
  case f8 => simp [go_sem]
  case f9 => simp [go_sem]
  rintro e w' ⟨rfl, n, rfl⟩
  clear HT
  unfold entW
  go_wp2
  go_region
  go_wp2
  refine bodyPost_ret (v := .tuple #[.bool true, .agg #[.slice da dn dc, .string key, .int .i64 kl, .int .i64 st, .int .i64 en, .int .i64 ln, .int .i64 (wrap64 (ent + 1)), .int .i64 x, .bool (kind == 3), .int .i64 (-1)], .int .i64 x]) (by simp [results, Try.results8, go_sem]) rfl ⟨rfl, ?_⟩
  repeat' (first | (with_reducible exact Below.refl _ _) | (with_reducible refine Below.drew ?_) | (with_reducible refine below_drewN ?_ _) | (with_reducible refine Below.alloc ?_ ?_ _) | (with_reducible refine Below.setCell ?_ ?_ _) | (simp only [World.size_alloc, World.size_setCell, World.heap_drewN]; omega) | (with_reducible exact Nat.le_refl _) | (simp only [Nat.le_add_right, Nat.le_succ]; done) | omega)

end Go.Proofs.Qxb6606439a
