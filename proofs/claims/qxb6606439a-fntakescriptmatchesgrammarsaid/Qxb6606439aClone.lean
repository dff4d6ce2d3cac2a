/-
  Seat b6606439a: cloneBytes (7), cloneInts (14).
-/
import Derived.Test.Qxb6606439aRows
import Derived.WalkKit
import Derived.ProofKit
import Derived.WalkSpells
import Derived.Lib.SliceRun
namespace Go.Proofs.Qxb6606439a
open Go.RowKit
set_option linter.unusedVariables false

theorem info5 : (Try.prog.info? 5).map (fun i => (i.zero, i.size, i.bytes)) = some (some (.int .u8 0), 1, 1) := by kernel_rfl
theorem info3 : (Try.prog.info? 3).map (fun i => (i.zero, i.size, i.bytes)) = some (some (.int .i64 0), 1, 8) := by kernel_rfl

theorem mk_bytes (n : Nat) (h : n ≤ 1048576) (w : World) : (Instr.makeSlice 22 (.int .i64 (n : Int)) (.int .i64 (n : Int))).run Try.prog w = .ok (.slice (some ⟨w.heap.size, 0, none⟩) n n) (w.alloc (.cells (madeCells #[.int .u8 0] n) 5)) := by
  obtain ⟨i, hi, hz, hs, hb⟩ := info_parts info5
  have := run_make (P := Try.prog) w 22 5 i (.int .u8 0) Try.underlying22 hi hz .i64 .i64 n n (by omega) (by omega) (by rw [hb]; omega) (by omega)
  simpa [hs, Value.cells] using this
theorem mk_ints (n : Nat) (h : n ≤ 1048576) (w : World) : (Instr.makeSlice 30 (.int .i64 (n : Int)) (.int .i64 (n : Int))).run Try.prog w = .ok (.slice (some ⟨w.heap.size, 0, none⟩) n n) (w.alloc (.cells (madeCells #[.int .i64 0] n) 3)) := by
  obtain ⟨i, hi, hz, hs, hb⟩ := info_parts info3
  have := run_make (P := Try.prog) w 30 3 i (.int .i64 0) Try.underlying30 hi hz .i64 .i64 n n (by omega) (by omega) (by rw [hb]; omega) (by omega)
  simpa [hs, Value.cells] using this

theorem made_cell (w : World) (n j : Nat) (t : TypeId) (v : Value) (h : j < n) : (w.alloc (.cells (madeCells #[v] n) t)).cell? ⟨w.heap.size, j, none⟩ = some v := by
  rw [World.cell?_alloc_at _ _ _ _ rfl]
  have : j < (madeCells #[v] n).size := by rw [size_madeCells]; exact h
  rw [Array.getElem?_eq_getElem this]
  simp [madeCells, Nat.mod_one]
theorem set_cell {wr : World} {B k n : Nat} {kd : IntKind} {f : Nat → Int} (v : Int) (h : ∀ j, j < n → wr.cell? ⟨B, j, none⟩ = some (.int kd (f j))) (hk : wr.cell? ⟨B, k, none⟩ = some (.int kd (f k))) :
    ∀ j, j < n → (wr.setCell ⟨B, k, none⟩ (.int kd v)).cell? ⟨B, j, none⟩ = some (.int kd (if j = k then v else f j)) := by
  intro j hj
  by_cases e : j = k
  · subst e; rw [if_pos rfl]; exact World.cell?_setCell_same _ _ _ hk
  · rw [if_neg e, World.cell?_setCell_other _ _ _ _ (fun q => e (by have := congrArg Addr.off q; simp at this; omega))]
    exact h j hj

theorem clone_nil (w : World) : Calls Try.prog 7 #[.slice none 0 0] w fun e w' => e = .returned (.slice none 0 0) ∧ w' = w := by
  have hnil := fun wx a n c => Lib.run_eql_slice_nil (P := Try.prog) wx 22 5 a n c 0 0 Try.underlying22
  go_enter Try.func7, Try.ntmps7
  go_wp2
  go_ret
  exact ⟨rfl, rfl⟩

set_option maxHeartbeats 800000 in
theorem clone_some (x : Addr) (b off n cap : Nat) (z : Nat → Int) (w : World) (hx : 0 < n → x = ⟨b, off, none⟩) (hn : n ≤ 1048576) (hc : ∀ j, j < n → w.cell? ⟨b, off + j, none⟩ = some (.int .u8 (z j))) :
    Calls Try.prog 7 #[.slice (some x) n cap] w fun e w' => e = .returned (.slice (some ⟨w.heap.size, 0, none⟩) n n) ∧ Below w.heap.size w w' ∧ w'.heap.size = w.heap.size + 1 ∧ ∀ j, j < n → w'.cell? ⟨w.heap.size, j, none⟩ = some (.int .u8 (z j)) := by
  have hnil := fun wx a n c => Lib.run_eql_slice_nil (P := Try.prog) wx 22 5 a n c 0 0 Try.underlying22
  have hmk := mk_bytes n hn
  have HC : Hid _ := hc
  clear hc
  go_enter Try.func7, Try.ntmps7
  go_wp2
  clear hnil hmk
  go_loopw [4] (fun i wr => ∃ (k : Nat) (f : Nat → Int), k ≤ n ∧ i = .int .i64 k ∧ Below w.heap.size w wr ∧ wr.heap.size = w.heap.size + 1 ∧ (∀ j, j < n → wr.cell? ⟨w.heap.size, j, none⟩ = some (.int .u8 (f j))) ∧ (∀ j, wr.frozen? ⟨w.heap.size, j, none⟩ = false) ∧ ∀ j, j < k → f j = z j) (fun i _ => n - (intOf i).toNat)
  case atStart => exact ⟨0, fun _ => 0, Nat.zero_le _, rfl, (Below.refl _ _).alloc (Nat.le_refl _) _, by simp, fun j hj => made_cell w n j 5 _ hj, fun j => World.frozen?_alloc_at _ _ _ _ rfl, fun j hj => by omega⟩
  case round =>
    obtain ⟨k, f, hk, rfl, hb, hz, hcell, hfz, hf⟩ := hrel
    by_cases hlt : k < n
    · obtain rfl := hx (by omega)
      have hlz : (k : Int) < (n : Int) := by omega
      have g0 := HC.out k hlt
      have gb : b < w.heap.size := World.block_lt_of_cell? _ _ g0
      have g1 : wr.cell? ⟨b, off + k, none⟩ = some (.int .u8 (z k)) := by rw [hb.cell (p := ⟨b, off + k, none⟩) gb]; exact g0
      have g2 := hcell k hlt
      have g3 := hfz k
      have HH : Hid (∀ j, j < n → wr.cell? ⟨w.heap.size, j, none⟩ = some (.int .u8 (f j))) := hcell
      have HF : Hid (∀ j, wr.frozen? ⟨w.heap.size, j, none⟩ = false) := hfz
      have HE : Hid (∀ j, j < k → f j = z j) := hf
      have HZ : Hid (wr.heap.size = w.heap.size + 1) := hz
      clear hcell hfz hf hz g0
      go_wp2
      go_roundw
      case rel =>
        exact ⟨k + 1, fun j => if j = k then z k else f j, by omega, by go_num, hb.setCell (Nat.le_refl _) _, by rw [World.size_setCell]; exact HZ.out,
          set_cell (z k) HH.out g2, fun j => by rw [World.frozen?_setCell]; exact HF.out j, fun j hj => by
            show (if j = k then z k else f j) = z j
            by_cases e : j = k
            · rw [if_pos e, e]
            · rw [if_neg e]; exact HE.out j (by omega)⟩
      case measure => simp [intOf]; omega
    · obtain rfl : k = n := by omega
      have HH : Hid (∀ j, j < k → wr.cell? ⟨w.heap.size, j, none⟩ = some (.int .u8 (f j))) := hcell
      have HE : Hid (∀ j, j < k → f j = z j) := hf
      have HZ : Hid (wr.heap.size = w.heap.size + 1) := hz
      clear hcell hfz hf hz
      go_wp2
      go_ret
      exact ⟨rfl, hb, HZ.out, fun j hj => by rw [HH.out j hj, HE.out j hj]⟩

theorem clonei_nil (w : World) : Calls Try.prog 14 #[.slice none 0 0] w fun e w' => e = .returned (.slice none 0 0) ∧ w' = w := by
  have hnil := fun wx a n c => Lib.run_eql_slice_nil (P := Try.prog) wx 30 3 a n c 0 0 Try.underlying30
  go_enter Try.func14, Try.ntmps14
  go_wp2
  go_ret
  exact ⟨rfl, rfl⟩

set_option maxHeartbeats 800000 in
theorem clonei_some (x : Addr) (b off n cap : Nat) (z : Nat → Int) (w : World) (hx : 0 < n → x = ⟨b, off, none⟩) (hn : n ≤ 1048576) (hc : ∀ j, j < n → w.cell? ⟨b, off + j, none⟩ = some (.int .i64 (z j))) :
    Calls Try.prog 14 #[.slice (some x) n cap] w fun e w' => e = .returned (.slice (some ⟨w.heap.size, 0, none⟩) n n) ∧ Below w.heap.size w w' ∧ w'.heap.size = w.heap.size + 1 ∧ ∀ j, j < n → w'.cell? ⟨w.heap.size, j, none⟩ = some (.int .i64 (z j)) := by
  have hnil := fun wx a n c => Lib.run_eql_slice_nil (P := Try.prog) wx 30 3 a n c 0 0 Try.underlying30
  have hmk := mk_ints n hn
  have HC : Hid _ := hc
  clear hc
  go_enter Try.func14, Try.ntmps14
  go_wp2
  clear hnil hmk
  go_loopw [4] (fun i wr => ∃ (k : Nat) (f : Nat → Int), k ≤ n ∧ i = .int .i64 k ∧ Below w.heap.size w wr ∧ wr.heap.size = w.heap.size + 1 ∧ (∀ j, j < n → wr.cell? ⟨w.heap.size, j, none⟩ = some (.int .i64 (f j))) ∧ (∀ j, wr.frozen? ⟨w.heap.size, j, none⟩ = false) ∧ ∀ j, j < k → f j = z j) (fun i _ => n - (intOf i).toNat)
  case atStart => exact ⟨0, fun _ => 0, Nat.zero_le _, rfl, (Below.refl _ _).alloc (Nat.le_refl _) _, by simp, fun j hj => made_cell w n j 3 _ hj, fun j => World.frozen?_alloc_at _ _ _ _ rfl, fun j hj => by omega⟩
  case round =>
    obtain ⟨k, f, hk, rfl, hb, hz, hcell, hfz, hf⟩ := hrel
    by_cases hlt : k < n
    · obtain rfl := hx (by omega)
      have hlz : (k : Int) < (n : Int) := by omega
      have g0 := HC.out k hlt
      have gb : b < w.heap.size := World.block_lt_of_cell? _ _ g0
      have g1 : wr.cell? ⟨b, off + k, none⟩ = some (.int .i64 (z k)) := by rw [hb.cell (p := ⟨b, off + k, none⟩) gb]; exact g0
      have g2 := hcell k hlt
      have g3 := hfz k
      have HH : Hid (∀ j, j < n → wr.cell? ⟨w.heap.size, j, none⟩ = some (.int .i64 (f j))) := hcell
      have HF : Hid (∀ j, wr.frozen? ⟨w.heap.size, j, none⟩ = false) := hfz
      have HE : Hid (∀ j, j < k → f j = z j) := hf
      have HZ : Hid (wr.heap.size = w.heap.size + 1) := hz
      clear hcell hfz hf hz g0
      go_wp2
      go_roundw
      case rel =>
        exact ⟨k + 1, fun j => if j = k then z k else f j, by omega, by go_num, hb.setCell (Nat.le_refl _) _, by rw [World.size_setCell]; exact HZ.out,
          set_cell (z k) HH.out g2, fun j => by rw [World.frozen?_setCell]; exact HF.out j, fun j hj => by
            show (if j = k then z k else f j) = z j
            by_cases e : j = k
            · rw [if_pos e, e]
            · rw [if_neg e]; exact HE.out j (by omega)⟩
      case measure => simp [intOf]; omega
    · obtain rfl : k = n := by omega
      have HH : Hid (∀ j, j < k → wr.cell? ⟨w.heap.size, j, none⟩ = some (.int .i64 (f j))) := hcell
      have HE : Hid (∀ j, j < k → f j = z j) := hf
      have HZ : Hid (wr.heap.size = w.heap.size + 1) := hz
      clear hcell hfz hf hz
      go_wp2
      go_ret
      exact ⟨rfl, hb, HZ.out, fun j hj => by rw [HH.out j hj, HE.out j hj]⟩

end Go.Proofs.Qxb6606439a
