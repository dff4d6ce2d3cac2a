/-
  Seat b6606439a: the ways of FnTakeScriptMatchesGrammar joined.
-/
import Derived.Test.Qxb6606439aScr
namespace Go.Proofs.Qxb6606439a
open Go.RowKit
set_option linter.unusedVariables false

theorem came_row {w : World} {a : Option Addr} {n c : Nat} {zs : List Int}
    (h : (a = none ∧ n = 0 ∧ c = 0 ∧ zs = []) ∨ ∃ x, a = some x ∧ n ≤ c ∧ c ≤ maxLen ∧ zs.length = c ∧ (∀ i, i < zs.length → w.cell? (x.add i) = some (.int .i64 (zs.getD i 0))) ∧ ∀ n ∈ zs, (Lit.int .i64 n).wf = true) :
    Came w a n (fun j => zs.getD j 0) ∧ (a = none → n = 0 ∧ c = 0) ∧ n ≤ maxLen := by
  rcases h with ⟨rfl, rfl, rfl, rfl⟩ | ⟨x, rfl, hnc, hm, hl, hc, _⟩
  · exact ⟨fun h => absurd h (by omega), fun _ => ⟨rfl, rfl⟩, Nat.zero_le _⟩
  · refine ⟨fun hp => ?_, (fun h => by cases h), by omega⟩
    obtain ⟨b, off, rfl, hcc⟩ := ints_at hc (by omega)
    exact ⟨b, off, rfl, fun j hj => hcc j (by omega)⟩

theorem script_walk (a0 : Option Addr) (len0 cap0 : Nat) (z0 : List Int) (a1 : Option Addr) (len1 cap1 : Nat) (z1 : List Int) (w : World)
    (w0 : (a0 = none ∧ len0 = 0 ∧ cap0 = 0 ∧ z0 = []) ∨ ∃ x, a0 = some x ∧ len0 ≤ cap0 ∧ cap0 ≤ maxLen ∧ z0.length = cap0 ∧ (∀ i, i < z0.length → w.cell? (x.add i) = some (.int .i64 (z0.getD i 0))) ∧ ∀ n ∈ z0, (Lit.int .i64 n).wf = true)
    (w1 : (a1 = none ∧ len1 = 0 ∧ cap1 = 0 ∧ z1 = []) ∨ ∃ x, a1 = some x ∧ len1 ≤ cap1 ∧ cap1 ≤ maxLen ∧ z1.length = cap1 ∧ (∀ i, i < z1.length → w.cell? (x.add i) = some (.int .i64 (z1.getD i 0))) ∧ ∀ n ∈ z1, (Lit.int .i64 n).wf = true) :
    Calls Try.prog 5 #[.slice a0 len0 cap0, .slice a1 len1 cap1] w fun e w' => e = .returned (.bool true) ∧ Below w.heap.size w w' := by
  obtain ⟨hK, e0, m0⟩ := came_row w0
  obtain ⟨hX, e1, m1⟩ := came_row w1
  have hm : maxLen = 9223372036854775807 := by unfold maxLen; omega
  by_cases hl : 4096 < len0 ∨ 4096 < len1
  · exact script_long a0 len0 cap0 a1 len1 cap1 w (by omega) (by omega) hl
  · exact script_main a0 len0 cap0 a1 len1 cap1 _ _ w (min len0 len1) rfl (by omega) (by omega) (by omega) (by omega) hK hX e0 e1
end Go.Proofs.Qxb6606439a
