/-
  Seat b6606439a: the walk of FnTakeFrame (3).
-/
import Derived.Test.Qxb6606439aZZ
import Derived.Test.Qxb6606439aSame
import Derived.Test.Qxb6606439aClone
namespace Go.Proofs.Qxb6606439a
open Go.RowKit
set_option linter.unusedVariables false

section
variable (d0 : Option Addr) (dn c0 : Nat) (a1 : ByteArray) (a2 a3 a4 a5 a6 a7 : Int) (a8 : Bool) (a9 a10 a11 : Int) (w : World)
set_option maxRecDepth 20000 in
theorem frame_long (h0 : dn ≤ 9223372036854775807) (h1 : a1.size ≤ 9223372036854775807) (hn : 524288 < dn ∨ 524288 < a1.size) :
    Calls Try.prog 3 #[.slice d0 dn c0, .string a1, .int .i64 a2, .int .i64 a3, .int .i64 a4, .int .i64 a5, .int .i64 a6, .int .i64 a7, .bool a8, .int .i64 a9, .int .i64 a10, .int .i64 a11] w fun e w' => e = .returned (.bool true) ∧ Below w.heap.size w w' := by
  rcases hn with hn | hn
  · go_enter Try.func3, Try.ntmps3
    go_wp2
    all_goals
      go_ret
      exact ⟨rfl, Below.refl _ _⟩
  · by_cases hm : 524288 < dn
    · go_enter Try.func3, Try.ntmps3
      go_wp2
      all_goals
        go_ret
        exact ⟨rfl, Below.refl _ _⟩
    · go_enter Try.func3, Try.ntmps3
      go_wp2
      all_goals
        go_ret
        exact ⟨rfl, Below.refl _ _⟩
set_option maxRecDepth 20000 in
theorem frame_kind (h0 : dn ≤ 524288) (h1 : a1.size ≤ 524288) (hn : a10 < 0 ∨ 4 < a10) :
    Calls Try.prog 3 #[.slice d0 dn c0, .string a1, .int .i64 a2, .int .i64 a3, .int .i64 a4, .int .i64 a5, .int .i64 a6, .int .i64 a7, .bool a8, .int .i64 a9, .int .i64 a10, .int .i64 a11] w fun e w' => e = .returned (.bool true) ∧ Below w.heap.size w w' := by
  rcases hn with hn | hn
  · go_enter Try.func3, Try.ntmps3
    go_wp2
    all_goals
      go_ret
      exact ⟨rfl, Below.refl _ _⟩
  · go_enter Try.func3, Try.ntmps3
    go_wp2
    all_goals
      go_ret
      exact ⟨rfl, Below.refl _ _⟩

set_option maxRecDepth 20000 in
set_option maxHeartbeats 1000000 in
theorem frame_refused (z : Nat → Int) (h0 : dn ≤ 524288) (h1 : a1.size ≤ 524288) (k0 : 0 ≤ a10) (k4 : a10 ≤ 4) (e0 : (a10 == 0) = false) (k1 : (a10 == 1) = false)
    (HC : Hid (Calls Try.prog 7 #[.slice d0 dn c0] w fun e w' => ∃ da dc, e = .returned (.slice da dn dc) ∧ Below w.heap.size w w' ∧ Bytes w' da dn z))
    (HZ : Hid (∀ da dc W, Calls Try.prog 8 #[.agg #[.slice da dn dc, .string a1, .int .i64 a2, .int .i64 a3, .int .i64 a4, .int .i64 a5, .int .i64 a6, .int .i64 a7, .bool a8, .int .i64 a9], .int .i64 a10, .int .i64 a11] W fun e w' => e = .returned (.tuple #[.bool false, .agg #[.slice da dn dc, .string a1, .int .i64 a2, .int .i64 a3, .int .i64 a4, .int .i64 a5, .int .i64 a6, .int .i64 a7, .bool a8, .int .i64 a9], .int .i64 a11]) ∧ Below W.heap.size W w')) :
    Calls Try.prog 3 #[.slice d0 dn c0, .string a1, .int .i64 a2, .int .i64 a3, .int .i64 a4, .int .i64 a5, .int .i64 a6, .int .i64 a7, .bool a8, .int .i64 a9, .int .i64 a10, .int .i64 a11] w fun e w' => e = .returned (.bool true) ∧ Below w.heap.size w w' := by
  go_enter Try.func3, Try.ntmps3
  go_wp2_with (go_at_call 6; go_in)
  refine HC.out.mono ?_
  rintro e w1 ⟨da, dc, rfl, hb1, hB1⟩
  have hz1 := hb1.size
  go_wp2_with fail
  refine (HZ.out da dc _).mono ?_
  rintro e w2 ⟨rfl, hb2⟩
  obtain ⟨hc2, hf2⟩ := bcell hb2
  have hz2 : w1.heap.size < w2.heap.size := by have := hb2.size; simp only [World.size_alloc] at this; omega
  simp only [World.size_alloc] at hc2 hf2
  have hB2 : Bytes w2 da dn z := (hB1.below ((Below.refl _ _).alloc (Nat.le_refl _) _)).below hb2
  have B2 : Below w.heap.size w w2 := (hb1.trans ((Below.refl _ _).alloc hz1 _)).trans (hb2.mono (by simp; omega))
  have HB2 : Hid _ := B2
  clear hb1 hB1 hb2 B2 hf2
  go_wp2_with fail
  refine (sf_same da dn dc a1 a2 a3 a4 a5 a6 a7 a8 a9 a6 a7 a8 a9 z _ (hB2.below ((Below.refl _ _).alloc (Nat.le_refl _) _))).mono ?_
  rintro e w3 ⟨rfl, hb3⟩
  obtain ⟨hc3, hf3⟩ := bcell hb3
  simp only [World.size_alloc] at hc3
  have hB3 : Bytes w3 da dn z := (hB2.below ((Below.refl _ _).alloc (Nat.le_refl _) _)).below hb3
  have hz3 : w2.heap.size < w3.heap.size := by have := hb3.size; simp only [World.size_alloc] at this; omega
  have B3 : Below w.heap.size w w3 := (HB2.out.trans ((Below.refl _ _).alloc HB2.out.size _)).trans (hb3.mono (by have := HB2.out.size; simp; omega))
  have HB3 : Hid _ := B3
  have hz4 : w1.heap.size < w2.heap.size + 1 := by omega
  clear hb3 hB2 HB2 B3 hf3
  go_wp2_with fail
  refine (ss_same da dn dc a1 a2 a3 a4 a5 a6 a7 a8 a9 z _ hB3).mono ?_
  rintro e w4 ⟨rfl, hb4⟩
  go_wp2
  go_ret
  exact ⟨rfl, HB3.out.trans (hb4.mono HB3.out.size)⟩

set_option maxRecDepth 20000 in
set_option maxHeartbeats 1000000 in
theorem frame_zero (z : Nat → Int) (h0 : dn ≤ 524288) (h1 : a1.size ≤ 524288)
    (HC : Hid (Calls Try.prog 7 #[.slice d0 dn c0] w fun e w' => ∃ da dc, e = .returned (.slice da dn dc) ∧ Below w.heap.size w w' ∧ Bytes w' da dn z))
    (HZ : Hid (∀ da dc W, Calls Try.prog 8 #[.agg #[.slice da dn dc, .string a1, .int .i64 a2, .int .i64 a3, .int .i64 a4, .int .i64 a5, .int .i64 a6, .int .i64 a7, .bool a8, .int .i64 a9], .int .i64 0, .int .i64 a11] W fun e w' => e = .returned (.tuple #[.bool false, .agg #[.slice da dn dc, .string a1, .int .i64 a2, .int .i64 a3, .int .i64 a4, .int .i64 a5, .int .i64 a6, .int .i64 a7, .bool a8, .int .i64 a9], .int .i64 a11]) ∧ Below W.heap.size W w')) :
    Calls Try.prog 3 #[.slice d0 dn c0, .string a1, .int .i64 a2, .int .i64 a3, .int .i64 a4, .int .i64 a5, .int .i64 a6, .int .i64 a7, .bool a8, .int .i64 a9, .int .i64 0, .int .i64 a11] w fun e w' => e = .returned (.bool true) ∧ Below w.heap.size w w' := by
  go_enter Try.func3, Try.ntmps3
  go_wp2_with (go_at_call 6; go_in)
  refine HC.out.mono ?_
  rintro e w1 ⟨da, dc, rfl, hb1, hB1⟩
  have hz1 := hb1.size
  go_wp2_with fail
  refine (HZ.out da dc _).mono ?_
  rintro e w2 ⟨rfl, hb2⟩
  obtain ⟨hc2, hf2⟩ := bcell hb2
  have hz2 : w1.heap.size < w2.heap.size := by have := hb2.size; simp only [World.size_alloc] at this; omega
  simp only [World.size_alloc] at hc2 hf2
  have hB2 : Bytes w2 da dn z := (hB1.below ((Below.refl _ _).alloc (Nat.le_refl _) _)).below hb2
  have B2 : Below w.heap.size w w2 := (hb1.trans ((Below.refl _ _).alloc hz1 _)).trans (hb2.mono (by simp; omega))
  have HB2 : Hid _ := B2
  clear hb1 hB1 hb2 B2 hf2
  go_wp2_with fail
  refine (sf_same da dn dc a1 a2 a3 a4 a5 a6 a7 a8 a9 a6 a7 a8 a9 z _ (hB2.below ((Below.refl _ _).alloc (Nat.le_refl _) _))).mono ?_
  rintro e w3 ⟨rfl, hb3⟩
  obtain ⟨hc3, hf3⟩ := bcell hb3
  simp only [World.size_alloc] at hc3
  have hB3 : Bytes w3 da dn z := (hB2.below ((Below.refl _ _).alloc (Nat.le_refl _) _)).below hb3
  have hz3 : w2.heap.size < w3.heap.size := by have := hb3.size; simp only [World.size_alloc] at this; omega
  have B3 : Below w.heap.size w w3 := (HB2.out.trans ((Below.refl _ _).alloc HB2.out.size _)).trans (hb3.mono (by have := HB2.out.size; simp; omega))
  have HB3 : Hid _ := B3
  have hz4 : w1.heap.size < w2.heap.size + 1 := by omega
  clear hb3 hB2 HB2 B3 hf3
  go_wp2_with fail
  refine (ss_same da dn dc a1 a2 a3 a4 a5 a6 a7 a8 a9 z _ hB3).mono ?_
  rintro e w4 ⟨rfl, hb4⟩
  go_wp2
  go_ret
  exact ⟨rfl, HB3.out.trans (hb4.mono HB3.out.size)⟩

set_option maxRecDepth 20000 in
set_option maxHeartbeats 1000000 in
theorem frame_blank (z : Nat → Int) (h0 : dn ≤ 524288) (h1 : a1.size ≤ 524288) 
    (HC : Hid (Calls Try.prog 7 #[.slice d0 dn c0] w fun e w' => ∃ da dc, e = .returned (.slice da dn dc) ∧ Below w.heap.size w w' ∧ Bytes w' da dn z))
    (HZ : Hid (∀ da dc W, Calls Try.prog 8 #[.agg #[.slice da dn dc, .string a1, .int .i64 a2, .int .i64 a3, .int .i64 a4, .int .i64 a5, .int .i64 a6, .int .i64 a7, .bool a8, .int .i64 a9], .int .i64 1, .int .i64 a11] W fun e w' => e = .returned (.tuple #[.bool true, .agg #[.slice da dn dc, .string a1, .int .i64 a2, .int .i64 a3, .int .i64 a4, .int .i64 a5, .int .i64 a6, .int .i64 a7, .bool a8, .int .i64 a9], .int .i64 a11]) ∧ Below W.heap.size W w')) :
    Calls Try.prog 3 #[.slice d0 dn c0, .string a1, .int .i64 a2, .int .i64 a3, .int .i64 a4, .int .i64 a5, .int .i64 a6, .int .i64 a7, .bool a8, .int .i64 a9, .int .i64 1, .int .i64 a11] w fun e w' => e = .returned (.bool true) ∧ Below w.heap.size w w' := by
  go_enter Try.func3, Try.ntmps3
  go_wp2_with (go_at_call 6; go_in)
  refine HC.out.mono ?_
  rintro e w1 ⟨da, dc, rfl, hb1, hB1⟩
  have hz1 := hb1.size
  go_wp2_with fail
  refine (HZ.out da dc _).mono ?_
  rintro e w2 ⟨rfl, hb2⟩
  obtain ⟨hc2, hf2⟩ := bcell hb2
  have hz2 : w1.heap.size < w2.heap.size := by have := hb2.size; simp only [World.size_alloc] at this; omega
  simp only [World.size_alloc] at hc2 hf2
  have hB2 : Bytes w2 da dn z := (hB1.below ((Below.refl _ _).alloc (Nat.le_refl _) _)).below hb2
  have B2 : Below w.heap.size w w2 := (hb1.trans ((Below.refl _ _).alloc hz1 _)).trans (hb2.mono (by simp; omega))
  have HB2 : Hid _ := B2
  clear hb1 hB1 hb2 B2 hf2
  go_wp2_with fail
  refine (sf_same da dn dc a1 a2 a3 a4 a5 a6 a7 a8 a9 a6 a7 a8 a9 z _ (hB2.below ((Below.refl _ _).alloc (Nat.le_refl _) _))).mono ?_
  rintro e w3 ⟨rfl, hb3⟩
  obtain ⟨hc3, hf3⟩ := bcell hb3
  simp only [World.size_alloc] at hc3
  have hB3 : Bytes w3 da dn z := (hB2.below ((Below.refl _ _).alloc (Nat.le_refl _) _)).below hb3
  have hz3 : w2.heap.size < w3.heap.size := by have := hb3.size; simp only [World.size_alloc] at this; omega
  have B3 : Below w.heap.size w w3 := (HB2.out.trans ((Below.refl _ _).alloc HB2.out.size _)).trans (hb3.mono (by have := HB2.out.size; simp; omega))
  have HB3 : Hid _ := B3
  have hz4 : w1.heap.size < w2.heap.size + 1 := by omega
  clear hb3 hB2 HB2 B3 hf3
  go_wp2_with fail
  refine (ss_same da dn dc a1 a2 a3 a4 a5 a6 a7 a8 a9 z _ hB3).mono ?_
  rintro e w4 ⟨rfl, hb4⟩
  go_wp2
  go_ret
  exact ⟨rfl, HB3.out.trans (hb4.mono HB3.out.size)⟩

set_option maxRecDepth 20000 in
set_option maxHeartbeats 1000000 in
theorem frame_item (z : Nat → Int) (h0 : dn ≤ 524288) (h1 : a1.size ≤ 524288) 
    (HC : Hid (Calls Try.prog 7 #[.slice d0 dn c0] w fun e w' => ∃ da dc, e = .returned (.slice da dn dc) ∧ Below w.heap.size w w' ∧ Bytes w' da dn z))
    (HZ : Hid (∀ da dc W, Calls Try.prog 8 #[.agg #[.slice da dn dc, .string a1, .int .i64 a2, .int .i64 a3, .int .i64 a4, .int .i64 a5, .int .i64 a6, .int .i64 a7, .bool a8, .int .i64 a9], .int .i64 4, .int .i64 a11] W fun e w' => e = .returned (.tuple #[.bool true, .agg #[.slice da dn dc, .string a1, .int .i64 a2, .int .i64 a3, .int .i64 a4, .int .i64 a5, .int .i64 a6, .int .i64 a7, .bool a8, .int .i64 a11], .int .i64 a11]) ∧ Below W.heap.size W w')) :
    Calls Try.prog 3 #[.slice d0 dn c0, .string a1, .int .i64 a2, .int .i64 a3, .int .i64 a4, .int .i64 a5, .int .i64 a6, .int .i64 a7, .bool a8, .int .i64 a9, .int .i64 4, .int .i64 a11] w fun e w' => e = .returned (.bool true) ∧ Below w.heap.size w w' := by
  go_enter Try.func3, Try.ntmps3
  go_wp2_with (go_at_call 6; go_in)
  refine HC.out.mono ?_
  rintro e w1 ⟨da, dc, rfl, hb1, hB1⟩
  have hz1 := hb1.size
  go_wp2_with fail
  refine (HZ.out da dc _).mono ?_
  rintro e w2 ⟨rfl, hb2⟩
  obtain ⟨hc2, hf2⟩ := bcell hb2
  have hz2 : w1.heap.size < w2.heap.size := by have := hb2.size; simp only [World.size_alloc] at this; omega
  simp only [World.size_alloc] at hc2 hf2
  have hB2 : Bytes w2 da dn z := (hB1.below ((Below.refl _ _).alloc (Nat.le_refl _) _)).below hb2
  have B2 : Below w.heap.size w w2 := (hb1.trans ((Below.refl _ _).alloc hz1 _)).trans (hb2.mono (by simp; omega))
  have HB2 : Hid _ := B2
  clear hb1 hB1 hb2 B2 hf2
  go_wp2_with fail
  refine (sf_same da dn dc a1 a2 a3 a4 a5 a6 a7 a8 a9 a6 a7 a8 a11 z _ (hB2.below ((Below.refl _ _).alloc (Nat.le_refl _) _))).mono ?_
  rintro e w3 ⟨rfl, hb3⟩
  obtain ⟨hc3, hf3⟩ := bcell hb3
  simp only [World.size_alloc] at hc3
  have hB3 : Bytes w3 da dn z := (hB2.below ((Below.refl _ _).alloc (Nat.le_refl _) _)).below hb3
  have hz3 : w2.heap.size < w3.heap.size := by have := hb3.size; simp only [World.size_alloc] at this; omega
  have B3 : Below w.heap.size w w3 := (HB2.out.trans ((Below.refl _ _).alloc HB2.out.size _)).trans (hb3.mono (by have := HB2.out.size; simp; omega))
  have HB3 : Hid _ := B3
  have hz4 : w1.heap.size < w2.heap.size + 1 := by omega
  clear hb3 hB2 HB2 B3 hf3
  go_wp2
  go_ret
  exact ⟨rfl, HB3.out⟩

set_option maxRecDepth 20000 in
set_option maxHeartbeats 1000000 in
theorem frame_entry (z : Nat → Int) (h0 : dn ≤ 524288) (h1 : a1.size ≤ 524288) (k0 : 0 ≤ a10) (k4 : a10 ≤ 4) (e0 : (a10 == 0) = false) (e1 : (a10 == 1) = false) (e4 : (a10 == 4) = false)
    (HC : Hid (Calls Try.prog 7 #[.slice d0 dn c0] w fun e w' => ∃ da dc, e = .returned (.slice da dn dc) ∧ Below w.heap.size w w' ∧ Bytes w' da dn z))
    (HZ : Hid (∀ da dc W, Calls Try.prog 8 #[.agg #[.slice da dn dc, .string a1, .int .i64 a2, .int .i64 a3, .int .i64 a4, .int .i64 a5, .int .i64 a6, .int .i64 a7, .bool a8, .int .i64 a9], .int .i64 a10, .int .i64 a11] W fun e w' => e = .returned (.tuple #[.bool true, .agg #[.slice da dn dc, .string a1, .int .i64 a2, .int .i64 a3, .int .i64 a4, .int .i64 a5, .int .i64 (wrap64 (a6 + 1)), .int .i64 a11, .bool (a10 == 3), .int .i64 (-1)], .int .i64 a11]) ∧ Below W.heap.size W w')) :
    Calls Try.prog 3 #[.slice d0 dn c0, .string a1, .int .i64 a2, .int .i64 a3, .int .i64 a4, .int .i64 a5, .int .i64 a6, .int .i64 a7, .bool a8, .int .i64 a9, .int .i64 a10, .int .i64 a11] w fun e w' => e = .returned (.bool true) ∧ Below w.heap.size w w' := by
  go_enter Try.func3, Try.ntmps3
  go_wp2_with (go_at_call 6; go_in)
  refine HC.out.mono ?_
  rintro e w1 ⟨da, dc, rfl, hb1, hB1⟩
  have hz1 := hb1.size
  go_wp2_with fail
  refine (HZ.out da dc _).mono ?_
  rintro e w2 ⟨rfl, hb2⟩
  obtain ⟨hc2, hf2⟩ := bcell hb2
  have hz2 : w1.heap.size < w2.heap.size := by have := hb2.size; simp only [World.size_alloc] at this; omega
  simp only [World.size_alloc] at hc2 hf2
  have hB2 : Bytes w2 da dn z := (hB1.below ((Below.refl _ _).alloc (Nat.le_refl _) _)).below hb2
  have B2 : Below w.heap.size w w2 := (hb1.trans ((Below.refl _ _).alloc hz1 _)).trans (hb2.mono (by simp; omega))
  have HB2 : Hid _ := B2
  clear hb1 hB1 hb2 B2 hf2
  go_wp2_with fail
  refine (sf_same da dn dc a1 a2 a3 a4 a5 a6 a7 a8 a9 (wrap64 (a6 + 1)) a11 (a10 == 3) (-1) z _ (hB2.below ((Below.refl _ _).alloc (Nat.le_refl _) _))).mono ?_
  rintro e w3 ⟨rfl, hb3⟩
  obtain ⟨hc3, hf3⟩ := bcell hb3
  simp only [World.size_alloc] at hc3
  have hB3 : Bytes w3 da dn z := (hB2.below ((Below.refl _ _).alloc (Nat.le_refl _) _)).below hb3
  have hz3 : w2.heap.size < w3.heap.size := by have := hb3.size; simp only [World.size_alloc] at this; omega
  have B3 : Below w.heap.size w w3 := (HB2.out.trans ((Below.refl _ _).alloc HB2.out.size _)).trans (hb3.mono (by have := HB2.out.size; simp; omega))
  have HB3 : Hid _ := B3
  have hz4 : w1.heap.size < w2.heap.size + 1 := by omega
  clear hb3 hB2 HB2 B3 hf3
  go_wp2
  go_ret
  exact ⟨rfl, HB3.out⟩

end
end Go.Proofs.Qxb6606439a
