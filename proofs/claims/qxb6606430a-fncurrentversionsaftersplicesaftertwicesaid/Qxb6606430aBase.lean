/-
  Seat b6606430a: currentVersionsAfter (14) and ZZcurrentVersionsAfter (7), which hands it out.
-/
import Derived.Test.Qxb6606430aRows
import Derived.WalkKit
import Derived.ProofKit
import Derived.Deep.QuietTactic
import Derived.BigQuiet
import Derived.WalkSpells
namespace Go.Proofs.Qxb6606430a
open Go.RowKit

/-- The SQL's head, as the translation lays it. -/
def hd : ByteArray := { data := (List.append (List.append [40, 10, 9, 9, 83, 69, 76, 69, 67, 84, 32, 118, 101, 114, 115, 105, 111, 110, 46, 108, 111, 97, 110, 44, 32, 118, 101, 114, 115, 105, 111, 110, 46, 118, 101, 114, 115, 105, 111, 110, 44, 32, 118, 101, 114, 115, 105, 111, 110, 46, 112, 97, 121, 109, 101, 110] [116, 10, 9, 9, 70, 82, 79, 77, 32, 115, 99, 104, 101, 100, 117, 108, 101, 95, 118, 101, 114, 115, 105, 111, 110, 32, 65, 83, 32, 118, 101, 114, 115, 105, 111, 110, 10, 9, 9, 87, 72, 69, 82, 69, 32, 78, 79, 84, 32, 69, 88, 73, 83, 84, 83, 32]) (List.append [40, 10, 9, 9, 9, 83, 69, 76, 69, 67, 84, 32, 70, 82, 79, 77, 32, 115, 99, 104, 101, 100, 117, 108, 101, 95, 118, 101, 114, 115, 105, 111, 110, 32, 65, 83, 32, 108, 97, 116, 101, 114, 10, 9, 9, 9, 87, 72, 69, 82, 69, 32, 108, 97, 116, 101] [114, 46, 108, 111, 97, 110, 32, 61, 32, 118, 101, 114, 115, 105, 111, 110, 46, 108, 111, 97, 110, 32, 65, 78, 68, 32, 108, 97, 116, 101, 114, 46, 118, 101, 114, 115, 105, 111, 110, 32, 62, 32, 118, 101, 114, 115, 105, 111, 110, 46, 118, 101, 114, 115, 105, 111, 110])).toArray }
theorem hd_size : hd.size = 225 := by kernel_rfl
/-- The SQL for a text that is not empty. -/
def cvS (a : ByteArray) : ByteArray := hd ++ ({ data := #[32, 65, 78, 68, 32, 108, 97, 116, 101, 114, 46, 108, 111, 97, 110, 32, 62, 32] } ++ a) ++ { data := #[10, 9, 9, 41] } ++ ({ data := #[32, 65, 78, 68, 32, 118, 101, 114, 115, 105, 111, 110, 46, 108, 111, 97, 110, 32, 62, 32] } ++ a) ++ { data := #[10, 9, 41, 32, 65, 83, 32, 99, 117, 114, 114, 101, 110, 116] }
/-- The SQL for the empty text. -/
def cvE : ByteArray := hd ++ { data := #[10, 9, 9, 41] } ++ { data := #[10, 9, 41, 32, 65, 83, 32, 99, 117, 114, 114, 101, 110, 116] }

theorem app_nil (a : ByteArray) : a ++ ({ data := #[] } : ByteArray) = a := ByteArray.append_empty
theorem ret_str {a b : ByteArray} (h : a = b) : Ending.returned (.string a) = .returned (.string b) := by rw [h]

set_option maxHeartbeats 400000 in
theorem cv14_some (a : ByteArray) (w : World) (ha : a.size ≤ 65536) (hn : (!a.toList.isEmpty) = true) :
    Calls Try.prog 14 #[.string a] w fun e w' => e = .returned (.string (cvS a)) ∧ w' = w := by
  obtain ⟨A, hA⟩ : ∃ A, A = hd := ⟨_, rfl⟩
  have h1 : A.size ≤ 1000 := by rw [hA, hd_size]; decide
  unfold cvS
  rw [← hA]
  go_enter Try.func14, Try.ntmps14
  unfold hd at hA
  rw [← hA]
  clear hA
  go_wp2
  go_ret
  exact ⟨rfl, rfl⟩
set_option maxHeartbeats 400000 in
theorem cv14_nil (w : World) :
    Calls Try.prog 14 #[.string { data := #[] }] w fun e w' => e = .returned (.string cvE) ∧ w' = w := by
  obtain ⟨A, hA⟩ : ∃ A, A = hd := ⟨_, rfl⟩
  have h1 : A.size ≤ 1000 := by rw [hA, hd_size]; decide
  unfold cvE
  rw [← hA]
  go_enter Try.func14, Try.ntmps14
  unfold hd at hA
  rw [← hA]
  clear hA
  go_wp2
  go_ret
  refine ⟨ret_str ?_, rfl⟩
  rw [app_nil, app_nil]

set_option maxHeartbeats 400000 in
theorem cv_some (a S : ByteArray) (w : World) (ha : a.size ≤ 65536) (hn : (!a.toList.isEmpty) = true) (h : Hid (cvS a = S)) :
    Calls Try.prog 7 #[.string a] w fun e w' => e = .returned (.string S) ∧ w' = w := by
  have := h.out; subst this; clear h
  go_enter Try.func7, Try.ntmps7
  go_wp2_with (go_at_call 14; refine (cv14_some _ _ (by omega) (by assumption)).mono ?_; rintro e w' ⟨rfl, rfl⟩)
  go_ret
  exact ⟨rfl, rfl⟩
set_option maxHeartbeats 400000 in
theorem cv_nil (S : ByteArray) (w : World) (h : Hid (cvE = S)) :
    Calls Try.prog 7 #[.string { data := #[] }] w fun e w' => e = .returned (.string S) ∧ w' = w := by
  have := h.out; subst this; clear h
  go_enter Try.func7, Try.ntmps7
  go_wp2_with (go_at_call 14; refine (cv14_nil _).mono ?_; rintro e w' ⟨rfl, rfl⟩)
  go_ret
  exact ⟨rfl, rfl⟩
end Go.Proofs.Qxb6606430a
