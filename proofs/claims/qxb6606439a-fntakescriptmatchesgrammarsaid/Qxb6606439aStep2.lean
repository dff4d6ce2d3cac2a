/-
  Seat b6606439a: ZZTake on the state that the grammar gives.
-/
import Derived.Test.Qxb6606439aStep
namespace Go.Proofs.Qxb6606439a
open Go.RowKit
set_option linter.unusedVariables false

section
variable (K X : Nat → Int) (i : Nat) (w : World)
theorem agg_eq {c c' : Int} {a a' : Int} {b b' : Bool} {d d' : Int} (h1 : c = c') (h2 : a = a') (h3 : b = b') (h4 : d = d') (x : Int) :
    Ending.returned (.tuple #[.bool true, .agg #[.slice none 0 0, .string { data := #[] }, .int .i64 0, .int .i64 0, .int .i64 0, .int .i64 0, .int .i64 c, .int .i64 a, .bool b, .int .i64 d], .int .i64 x]) =
      .returned (.tuple #[.bool true, .agg #[.slice none 0 0, .string { data := #[] }, .int .i64 0, .int .i64 0, .int .i64 0, .int .i64 0, .int .i64 c', .int .i64 a', .bool b', .int .i64 d'], .int .i64 x]) := by
  rw [h1, h2, h3, h4]

theorem zz_no (hV : Valid K X (i + 1)) (hE : Even K X i) (ha : accB K X i = false) :
    Calls Try.prog 8 #[.agg #[.slice none 0 0, .string { data := #[] }, .int .i64 0, .int .i64 0, .int .i64 0, .int .i64 0, .int .i64 (cntE K i : Nat), .int .i64 (wInd K X i), .bool (wBlk K i), .int .i64 (wDash K X i)], .int .i64 (K i), .int .i64 (X i)] w fun e w' =>
      e = .returned (.tuple #[.bool false, .agg #[.slice none 0 0, .string { data := #[] }, .int .i64 0, .int .i64 0, .int .i64 0, .int .i64 0, .int .i64 (cntE K i : Nat), .int .i64 (wInd K X i), .bool (wBlk K i), .int .i64 (wDash K X i)], .int .i64 (X i)]) ∧ Below w.heap.size w w' := by
  have hV' : Valid K X i := fun m hm => hV m (by omega)
  obtain ⟨k0, k4, x0⟩ := hV i (by omega)
  refine zz_same none 0 0 { data := #[] } 0 0 0 0 (cntE K i : Nat) (wInd K X i) (wBlk K i) (wDash K X i) (K i) (X i) false w fun b c W h6 h7 h8 h9 hx f6 f7 f8 f9 => ?_
  by_cases e0 : K i = 0
  · rw [e0]; exact take_0 b c W
  by_cases e1 : K i = 1
  · unfold accB at ha; rw [if_neg e0, if_pos e1] at ha; cases ha
  by_cases e4 : K i = 4
  · rw [e4]
    cases hb : wBlk K i with
    | false => rw [hb] at h8; exact take_4a b c W h8
    | true =>
      rw [hb] at h8
      obtain ⟨l0, l3⟩ := blk_true K i hb
      unfold accB at ha
      rw [if_neg e0, if_neg e1, if_pos e4, if_pos ⟨l0, l3⟩] at ha
      by_cases hq : 0 ≤ firstI K ((lastE K i).toNat + 1) i
      · rw [if_pos hq] at ha
        obtain ⟨d1, d2⟩ := dash_q K X i hV' l0 hq
        exact take_4d b c (wInd K X i) (wDash K X i) (X i) W h8 h9 h7 hx d2 (by rw [d1]; simpa using ha)
      · rw [if_neg hq, ind_last K X i hE l0] at ha
        have := dash_no K X i hq
        exact take_4b b c (wInd K X i) (wDash K X i) (X i) W h8 h9 h7 hx (by omega) (by have := of_decide_eq_false ha; omega)
  have b0 : (K i == 0) = false := by simpa using e0
  have b1 : (K i == 1) = false := by simpa using e1
  have b4 : (K i == 4) = false := by simpa using e4
  cases hw : (!wBlk K i || decide (0 ≤ wDash K X i)) with
  | false => exact take_ea b c (wInd K X i) (wDash K X i) (X i) W (K i) (wBlk K i) h8 h9 h7 hx b0 b1 b4 hw
  | true =>
    rw [acc_entry K X i hV' e0 e1 e4 hw] at ha
    by_cases hi : 0 ≤ wInd K X i
    · rw [if_pos hi] at ha
      exact take_eb b c (wInd K X i) (wDash K X i) (X i) W (K i) (wBlk K i) h8 h9 h7 hx b0 b1 b4 hw hi (by simpa using ha)
    · rw [if_neg hi] at ha; cases ha

theorem zz_yes (hi : i < 4096) (hV : Valid K X (i + 1)) (hE : Even K X i) (ha : accB K X i = true) :
    Even K X (i + 1) ∧ Calls Try.prog 8 #[.agg #[.slice none 0 0, .string { data := #[] }, .int .i64 0, .int .i64 0, .int .i64 0, .int .i64 0, .int .i64 (cntE K i : Nat), .int .i64 (wInd K X i), .bool (wBlk K i), .int .i64 (wDash K X i)], .int .i64 (K i), .int .i64 (X i)] w fun e w' =>
      e = .returned (.tuple #[.bool true, .agg #[.slice none 0 0, .string { data := #[] }, .int .i64 0, .int .i64 0, .int .i64 0, .int .i64 0, .int .i64 (cntE K (i + 1) : Nat), .int .i64 (wInd K X (i + 1)), .bool (wBlk K (i + 1)), .int .i64 (wDash K X (i + 1))], .int .i64 (X i)]) ∧ Below w.heap.size w w' := by
  have hV' : Valid K X i := fun m hm => hV m (by omega)
  obtain ⟨k0, k4, x0⟩ := hV i (by omega)
  by_cases e0 : K i = 0
  · unfold accB at ha; rw [if_pos e0] at ha; cases ha
  by_cases e1 : K i = 1
  · have en : isE (K i) = false := isE_not (by omega) (by omega)
    refine ⟨even_noE K X i hE en, ?_⟩
    refine (zz_same none 0 0 { data := #[] } 0 0 0 0 (cntE K i : Nat) (wInd K X i) (wBlk K i) (wDash K X i) (K i) (X i) true w fun b c W h6 h7 h8 h9 hx f6 f7 f8 f9 => ?_).mono ?_
    · rw [e1]; exact take_1 b c W
    · rintro e w' ⟨rfl, hb⟩
      exact ⟨agg_eq (by rw [cntE_noE K i en]) (wInd_noE K X i en).symm (wBlk_noE K i en).symm (wDash_blank K X i en (by omega)).symm _, hb⟩
  by_cases e4 : K i = 4
  · have en : isE (K i) = false := isE_not (by omega) (by omega)
    refine ⟨even_noE K X i hE en, ?_⟩
    have hb : wBlk K i = true := by
      cases hb : wBlk K i with
      | true => rfl
      | false => unfold accB at ha; rw [if_neg e0, if_neg e1, if_pos e4, if_neg (blk_false K i hb)] at ha; cases ha
    obtain ⟨l0, l3⟩ := blk_true K i hb
    unfold accB at ha
    rw [if_neg e0, if_neg e1, if_pos e4, if_pos ⟨l0, l3⟩] at ha
    have hd : wDash K X (i + 1) = X i := wDash_item K X i en e4 l0 fun hq => by rw [if_pos hq] at ha; simpa using ha
    refine (zz_item none 0 0 { data := #[] } 0 0 0 0 (cntE K i : Nat) (wInd K X i) (wBlk K i) (wDash K X i) (K i) (X i) w fun b c W h6 h7 h8 h9 hx f6 f7 f8 f9 => ?_).mono ?_
    · rw [e4]
      rw [hb] at h8
      by_cases hq : 0 ≤ firstI K ((lastE K i).toNat + 1) i
      · rw [if_pos hq] at ha
        obtain ⟨d1, d2⟩ := dash_q K X i hV' l0 hq
        exact take_4e b c (wInd K X i) (wDash K X i) (X i) W h8 h9 h7 hx f9 d2 (by rw [d1]; simpa using ha)
      · rw [if_neg hq, ind_last K X i hE l0] at ha
        have := dash_no K X i hq
        exact take_4c b c (wInd K X i) (wDash K X i) (X i) W h8 h9 h7 hx f9 (by omega) (of_decide_eq_true ha)
    · rintro e w' ⟨rfl, hbl⟩
      exact ⟨agg_eq (by rw [cntE_noE K i en]) (wInd_noE K X i en).symm (wBlk_noE K i en).symm hd.symm _, hbl⟩
  have b0 : (K i == 0) = false := by simpa using e0
  have b1 : (K i == 1) = false := by simpa using e1
  have b4 : (K i == 4) = false := by simpa using e4
  have en := isE_of K i k0 k4 e0 e1 e4
  cases hw : (!wBlk K i || decide (0 ≤ wDash K X i)) with
  | false => rw [acc_entry_no K X i hV' e0 e1 e4 hw] at ha; cases ha
  | true =>
    rw [acc_entry K X i hV' e0 e1 e4 hw] at ha
    have hor : firstE K i < 0 ∨ X i = wInd K X i := by
      by_cases hf : 0 ≤ firstE K i
      · rw [if_pos (ind_nonneg K X i hV' hf)] at ha
        exact .inr (by simpa using ha)
      · exact .inl (by omega)
    refine ⟨even_E K X i hE en hor, ?_⟩
    have hc := cntE_le K i
    refine (zz_entry none 0 0 { data := #[] } 0 0 0 0 (cntE K i : Nat) (wInd K X i) (wBlk K i) (wDash K X i) (K i) (X i) w fun b c W h6 h7 h8 h9 hx f6 f7 f8 f9 => ?_).mono ?_
    · by_cases hin : 0 ≤ wInd K X i
      · rw [if_pos hin] at ha
        exact take_ed b c (cntE K i : Nat) (wInd K X i) (wDash K X i) (X i) W (K i) (wBlk K i) h8 h9 h7 hx h6 f6 f7 f8 f9 b0 b1 b4 hw hin (by simpa using ha)
      · exact take_ec b c (cntE K i : Nat) (wInd K X i) (wDash K X i) (X i) W (K i) (wBlk K i) h8 h9 h7 hx h6 f6 f7 f8 f9 b0 b1 b4 hw (decide_eq_false hin)
    · rintro e w' ⟨rfl, hbl⟩
      exact ⟨agg_eq (by rw [cntE_E K i en]; simp only [wrap64]; omega) (wInd_E K X i en hor).symm (wBlk_E K i en).symm (wDash_E K X i en).symm _, hbl⟩
end
end Go.Proofs.Qxb6606439a
