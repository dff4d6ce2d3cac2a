/-
  Seat b6606439a: the ways of FnTakeFrame joined.
-/
import Derived.Test.Qxb6606439aFrame
import Derived.OpenShut
namespace Go.Proofs.Qxb6606439a
open Go.RowKit
set_option linter.unusedVariables false

/-- cloneBytes, whatever the slice. -/
theorem clone_row (a0 : Option Addr) (n c : Nat) (zs : List Int) (w : World) (hn : n ≤ 1048576)
    (h : (a0 = none ∧ n = 0 ∧ c = 0 ∧ zs = []) ∨ ∃ x, a0 = some x ∧ n ≤ c ∧ c ≤ maxLen ∧ zs.length = c ∧ (∀ i, i < zs.length → w.cell? (x.add i) = some (.int .u8 (zs.getD i 0))) ∧ ∀ n ∈ zs, (Lit.int .u8 n).wf = true) :
    Calls Try.prog 7 #[.slice a0 n c] w fun e w' => ∃ da dc, e = .returned (.slice da n dc) ∧ Below w.heap.size w w' ∧ Bytes w' da n (fun j => zs.getD j 0) := by
  rcases h with ⟨rfl, rfl, rfl, rfl⟩ | ⟨x, rfl, hnc, _, hl, hc, _⟩
  · refine (clone_nil w).mono ?_
    rintro e w' ⟨rfl, rfl⟩
    exact ⟨none, 0, rfl, Below.refl _ _, ⟨by omega, fun h => absurd h (by omega)⟩⟩
  · obtain ⟨b, off, hx, hcc⟩ : ∃ b off, (0 < n → x = ⟨b, off, none⟩) ∧ ∀ j, j < n → w.cell? ⟨b, off + j, none⟩ = some (.int .u8 (zs.getD j 0)) := by
      by_cases h0 : 0 < n
      · obtain ⟨b, off, rfl, hcc⟩ := ints_at hc (by omega)
        exact ⟨b, off, fun _ => rfl, fun j hj => hcc j (by omega)⟩
      · exact ⟨0, 0, fun h => absurd h h0, fun j hj => absurd hj (by omega)⟩
    refine (clone_some x b off n c (fun j => zs.getD j 0) w hx hn hcc).mono ?_
    rintro e w' ⟨rfl, hb, hz, hcell⟩
    exact ⟨_, _, rfl, hb, ⟨hn, fun _ => ⟨w.heap.size, rfl, by omega, hcell⟩⟩⟩

theorem frame_walk (a0 : Option Addr) (len0 cap0 : Nat) (z0 : List Int) (a1 : ByteArray) (a2 a3 a4 a5 a6 a7 : Int) (a8 : Bool) (a9 a10 a11 : Int) (w : World)
    (w0 : (a0 = none ∧ len0 = 0 ∧ cap0 = 0 ∧ z0 = []) ∨ ∃ x, a0 = some x ∧ len0 ≤ cap0 ∧ cap0 ≤ maxLen ∧ z0.length = cap0 ∧ (∀ i, i < z0.length → w.cell? (x.add i) = some (.int .u8 (z0.getD i 0))) ∧ ∀ n ∈ z0, (Lit.int .u8 n).wf = true)
    (w1 : a1.size ≤ maxLen) :
    Calls Try.prog 3 #[.slice a0 len0 cap0, .string a1, .int .i64 a2, .int .i64 a3, .int .i64 a4, .int .i64 a5, .int .i64 a6, .int .i64 a7, .bool a8, .int .i64 a9, .int .i64 a10, .int .i64 a11] w fun e w' => e = .returned (.bool true) ∧ Below w.heap.size w w' := by
  have hm : maxLen = 9223372036854775807 := by unfold maxLen; omega
  by_cases hlong : 524288 < len0 ∨ 524288 < a1.size
  · refine frame_long a0 len0 cap0 a1 a2 a3 a4 a5 a6 a7 a8 a9 a10 a11 w ?_ (by omega) hlong
    rcases w0 with ⟨_, h, _⟩ | ⟨x, _, h, h', _⟩ <;> omega
  have h0 : len0 ≤ 524288 := by omega
  have h1 : a1.size ≤ 524288 := by omega
  by_cases hk : a10 < 0 ∨ 4 < a10
  · exact frame_kind a0 len0 cap0 a1 a2 a3 a4 a5 a6 a7 a8 a9 a10 a11 w h0 h1 hk
  have HC := clone_row a0 len0 cap0 z0 w (by omega) w0
  by_cases e0 : a10 = 0
  · subst e0
    exact frame_zero a0 len0 cap0 a1 a2 a3 a4 a5 a6 a7 a8 a9 a11 w _ h0 h1 HC fun da dc W =>
      zz_same da len0 dc a1 a2 a3 a4 a5 a6 a7 a8 a9 0 a11 false W fun b c W h6 h7 h8 h9 hx f6 f7 f8 f9 => take_0 b c W
  by_cases e1 : a10 = 1
  · subst e1
    exact frame_blank a0 len0 cap0 a1 a2 a3 a4 a5 a6 a7 a8 a9 a11 w _ h0 h1 HC fun da dc W =>
      zz_same da len0 dc a1 a2 a3 a4 a5 a6 a7 a8 a9 1 a11 true W fun b c W h6 h7 h8 h9 hx f6 f7 f8 f9 => take_1 b c W
  have b0 : (a10 == 0) = false := by simpa using e0
  have b1 : (a10 == 1) = false := by simpa using e1
  by_cases e4 : a10 = 4
  · subst e4
    have refused : (∀ b c (W : World), W.cell? ⟨b, 6, none⟩ = some (.int .i64 a6) → W.cell? ⟨b, 7, none⟩ = some (.int .i64 a7) → W.cell? ⟨b, 8, none⟩ = some (.bool a8) → W.cell? ⟨b, 9, none⟩ = some (.int .i64 a9) → W.cell? ⟨c, 0, none⟩ = some (.int .i64 a11) → W.frozen? ⟨b, 6, none⟩ = false → W.frozen? ⟨b, 7, none⟩ = false → W.frozen? ⟨b, 8, none⟩ = false → W.frozen? ⟨b, 9, none⟩ = false →
      Calls Try.prog 20 #[.pointer (some ⟨b, 0, none⟩), .int .i64 4, .pointer (some ⟨c, 0, none⟩)] W fun e w' => e = .returned (.bool false) ∧ ∃ n, w' = W.drewN n) → _ := fun HT =>
      frame_refused a0 len0 cap0 a1 a2 a3 a4 a5 a6 a7 a8 a9 4 a11 w _ h0 h1 (by omega) (by omega) b0 b1 HC fun da dc W =>
        zz_same da len0 dc a1 a2 a3 a4 a5 a6 a7 a8 a9 4 a11 false W HT
    have taken : (∀ b c (W : World), W.cell? ⟨b, 6, none⟩ = some (.int .i64 a6) → W.cell? ⟨b, 7, none⟩ = some (.int .i64 a7) → W.cell? ⟨b, 8, none⟩ = some (.bool a8) → W.cell? ⟨b, 9, none⟩ = some (.int .i64 a9) → W.cell? ⟨c, 0, none⟩ = some (.int .i64 a11) → W.frozen? ⟨b, 6, none⟩ = false → W.frozen? ⟨b, 7, none⟩ = false → W.frozen? ⟨b, 8, none⟩ = false → W.frozen? ⟨b, 9, none⟩ = false →
      Calls Try.prog 20 #[.pointer (some ⟨b, 0, none⟩), .int .i64 4, .pointer (some ⟨c, 0, none⟩)] W fun e w' => e = .returned (.bool true) ∧ ∃ n, w' = (W.setCell ⟨b, 9, none⟩ (.int .i64 a11)).drewN n) → _ := fun HT =>
      frame_item a0 len0 cap0 a1 a2 a3 a4 a5 a6 a7 a8 a9 a11 w _ h0 h1 HC fun da dc W =>
        zz_item da len0 dc a1 a2 a3 a4 a5 a6 a7 a8 a9 4 a11 W HT
    cases a8 with
    | false => exact refused fun b c W h6 h7 h8 h9 hx f6 f7 f8 f9 => take_4a b c W h8
    | true =>
      by_cases hd : a9 < 0
      · by_cases hi : a11 < a7
        · exact refused fun b c W h6 h7 h8 h9 hx f6 f7 f8 f9 => take_4b b c a7 a9 a11 W h8 h9 h7 hx hd hi
        · exact taken fun b c W h6 h7 h8 h9 hx f6 f7 f8 f9 => take_4c b c a7 a9 a11 W h8 h9 h7 hx f9 hd (by omega)
      · by_cases hi : a11 = a9
        · exact taken fun b c W h6 h7 h8 h9 hx f6 f7 f8 f9 => take_4e b c a7 a9 a11 W h8 h9 h7 hx f9 (by omega) (by simpa using hi)
        · exact refused fun b c W h6 h7 h8 h9 hx f6 f7 f8 f9 => take_4d b c a7 a9 a11 W h8 h9 h7 hx (by omega) (by simpa using hi)
  have b4 : (a10 == 4) = false := by simpa using e4
  have refused : (∀ b c (W : World), W.cell? ⟨b, 6, none⟩ = some (.int .i64 a6) → W.cell? ⟨b, 7, none⟩ = some (.int .i64 a7) → W.cell? ⟨b, 8, none⟩ = some (.bool a8) → W.cell? ⟨b, 9, none⟩ = some (.int .i64 a9) → W.cell? ⟨c, 0, none⟩ = some (.int .i64 a11) → W.frozen? ⟨b, 6, none⟩ = false → W.frozen? ⟨b, 7, none⟩ = false → W.frozen? ⟨b, 8, none⟩ = false → W.frozen? ⟨b, 9, none⟩ = false →
      Calls Try.prog 20 #[.pointer (some ⟨b, 0, none⟩), .int .i64 a10, .pointer (some ⟨c, 0, none⟩)] W fun e w' => e = .returned (.bool false) ∧ ∃ n, w' = W.drewN n) → _ := fun HT =>
      frame_refused a0 len0 cap0 a1 a2 a3 a4 a5 a6 a7 a8 a9 a10 a11 w _ h0 h1 (by omega) (by omega) b0 b1 HC fun da dc W =>
        zz_same da len0 dc a1 a2 a3 a4 a5 a6 a7 a8 a9 a10 a11 false W HT
  have taken : (∀ b c (W : World), W.cell? ⟨b, 6, none⟩ = some (.int .i64 a6) → W.cell? ⟨b, 7, none⟩ = some (.int .i64 a7) → W.cell? ⟨b, 8, none⟩ = some (.bool a8) → W.cell? ⟨b, 9, none⟩ = some (.int .i64 a9) → W.cell? ⟨c, 0, none⟩ = some (.int .i64 a11) → W.frozen? ⟨b, 6, none⟩ = false → W.frozen? ⟨b, 7, none⟩ = false → W.frozen? ⟨b, 8, none⟩ = false → W.frozen? ⟨b, 9, none⟩ = false →
      Calls Try.prog 20 #[.pointer (some ⟨b, 0, none⟩), .int .i64 a10, .pointer (some ⟨c, 0, none⟩)] W fun e w' => e = .returned (.bool true) ∧ ∃ n, w' = (entW b a6 a11 W a10).drewN n) → _ := fun HT =>
      frame_entry a0 len0 cap0 a1 a2 a3 a4 a5 a6 a7 a8 a9 a10 a11 w _ h0 h1 (by omega) (by omega) b0 b1 b4 HC fun da dc W =>
        zz_entry da len0 dc a1 a2 a3 a4 a5 a6 a7 a8 a9 a10 a11 W HT
  cases hw : (!a8 || decide (0 ≤ a9)) with
  | false => exact refused fun b c W h6 h7 h8 h9 hx f6 f7 f8 f9 => take_ea b c a7 a9 a11 W a10 a8 h8 h9 h7 hx b0 b1 b4 hw
  | true =>
    by_cases hi : 0 ≤ a7
    · by_cases hx' : a11 = a7
      · exact taken fun b c W h6 h7 h8 h9 hx f6 f7 f8 f9 => take_ed b c a6 a7 a9 a11 W a10 a8 h8 h9 h7 hx h6 f6 f7 f8 f9 b0 b1 b4 hw hi (by simpa using hx')
      · exact refused fun b c W h6 h7 h8 h9 hx f6 f7 f8 f9 => take_eb b c a7 a9 a11 W a10 a8 h8 h9 h7 hx b0 b1 b4 hw hi (by simpa using hx')
    · exact taken fun b c W h6 h7 h8 h9 hx f6 f7 f8 f9 => take_ec b c a6 a7 a9 a11 W a10 a8 h8 h9 h7 hx h6 f6 f7 f8 f9 b0 b1 b4 hw (by simpa using hi)
end Go.Proofs.Qxb6606439a
