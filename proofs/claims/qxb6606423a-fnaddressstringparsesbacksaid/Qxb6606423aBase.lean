/-
  Seat b6606423a: the two shared contracts: Address.String (8) and zzHasPrefix (9), and zzIndexByte (7).
-/
import Derived.Test.Qxb6606423aRows
import Derived.WalkKit
import Derived.ProofKit
import Derived.Deep.QuietTactic
import Derived.BigQuiet
import Derived.WalkSpells
namespace Go.Proofs.Qxb6606423a
open Go.RowKit

/-- A part with its slash; nothing where the part is empty. -/
def sl (p : ByteArray) : ByteArray := if p.toList.isEmpty then { data := #[] } else { data := #[47] } ++ p
/-- The address as text. -/
def adr (r f p : ByteArray) : ByteArray := { data := #[110, 98, 58, 47, 47] } ++ r ++ sl f ++ sl p

theorem app_nil (a : ByteArray) : a ++ ({ data := #[] } : ByteArray) = a := ByteArray.append_empty
theorem sl_nil {p : ByteArray} (h : (!p.toList.isEmpty) = false) : sl p = { data := #[] } := by
  unfold sl; rw [if_pos (by simpa using h)]
theorem sl_some {p : ByteArray} (h : (!p.toList.isEmpty) = true) : sl p = { data := #[47] } ++ p := by
  unfold sl; rw [if_neg (by simpa using h)]
theorem ret_str {a b : ByteArray} (h : a = b) : Ending.returned (.string a) = .returned (.string b) := by rw [h]

set_option maxHeartbeats 400000 in
theorem str_any (r f p : ByteArray) (w : World) (hr : r.size ≤ 1048576) (hf : f.size ≤ 1048576) (hp : p.size ≤ 1048576) :
    Calls Try.prog 8 #[.agg #[.string r, .string f, .string p]] w fun e w' => e = .returned (.string (adr r f p)) ∧ w' = w.alloc (.cells #[.string r, .string f, .string p] 25) := by
  go_enter Try.func8, Try.ntmps8
  go_wp2
  all_goals
    go_ret
    refine ⟨ret_str ?_, rfl⟩
    unfold adr
    first
      | rw [sl_some (p := f) ‹_›, sl_some (p := p) ‹_›]
      | rw [sl_some (p := f) ‹_›, sl_nil (p := p) ‹_›, app_nil]
      | rw [sl_nil (p := f) ‹_›, sl_some (p := p) ‹_›, app_nil]
      | rw [sl_nil (p := f) ‹_›, sl_nil (p := p) ‹_›, app_nil, app_nil]

set_option maxHeartbeats 400000 in
theorem hp_yes (s p : ByteArray) (w : World) (hs : s.size ≤ maxLen) (hle : p.size ≤ s.size) (he : ∀ i (h : i < p.size), s[i]'(by omega) = p[i]) :
    Calls Try.prog 9 #[.string s, .string p] w fun e w' => e = .returned (.bool true) ∧ ∃ n, w' = w.drewN n := by
  unfold maxLen at hs
  go_enter Try.func9, Try.ntmps9
  go_wp2
  go_loopw [5] (fun i wr => ∃ k n : Nat, k ≤ p.size ∧ i = .int .i64 k ∧ wr = w.drewN n) (fun i _ => p.size - (intOf i).toNat)
  case atStart => exact ⟨0, 0, Nat.zero_le _, rfl, rfl⟩
  case round =>
    obtain ⟨k, n, hk, rfl, rfl⟩ := hrel
    by_cases hlt : k < p.size
    · have h1 : k < s.size := by omega
      go_wp2
      go_quiet (fail)
      go_wp2
      go_roundw
      case rel => exact ⟨k + 1, _, by omega, by go_num, rfl⟩
      case measure => simp [intOf]; omega
    · go_wp2
      go_ret
      exact ⟨rfl, _, rfl⟩

theorem get_app (a b : ByteArray) (i : Nat) (h : i < a.size) : (a ++ b)[i]'(by simp; omega) = a[i] := ByteArray.getElem_append_left h
theorem hp_app (p t : ByteArray) (w : World) (hs : (p ++ t).size ≤ maxLen) :
    Calls Try.prog 9 #[.string (p ++ t), .string p] w fun e w' => e = .returned (.bool true) ∧ ∃ n, w' = w.drewN n :=
  hp_yes (p ++ t) p w hs (by simp) (fun i h => get_app p t i h)
end Go.Proofs.Qxb6606423a
