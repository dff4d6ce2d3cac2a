/-
  Seat b6606430a: the template's bytes; the walk of FnCurrentVersionsAfterSplicesAfterTwice.
-/
import Derived.Test.Qxb6606430aSpl
namespace Go.Proofs.Qxb6606430a
open Go.RowKit

/-- The SQL's bytes, as a list. -/
def sql (a : List UInt8) : List UInt8 := hd.data.toList ++ (lx.data.toList ++ a ++ (bb.data.toList ++ (vx.data.toList ++ a ++ cc.data.toList)))
theorem cvS_list (a : ByteArray) : (cvS a).data.toList = sql a.data.toList := by
  rw [cvS_is]; unfold sql; simp only [ByteArray.toList_data_append]
/-- The template's bytes. -/
def tml : List UInt8 := sql [0, 97, 0]
theorem tml_len : tml.length = 287 := by kernel_rfl
theorem tml_plain : ((List.range 287).all fun k => (decide (243 ≤ k) && decide (k ≤ 245)) || (decide (270 ≤ k) && decide (k ≤ 272)) || tml.getD k 0 != 0) = true := by kernel_rfl
theorem tml_1 : tml.getD 243 0 = 0 ∧ tml.getD 244 0 = 97 ∧ tml.getD 245 0 = 0 := ⟨by kernel_rfl, by kernel_rfl, by kernel_rfl⟩
theorem tml_2 : tml.getD 270 0 = 0 ∧ tml.getD 271 0 = 97 ∧ tml.getD 272 0 = 0 := ⟨by kernel_rfl, by kernel_rfl, by kernel_rfl⟩
theorem tml_a : tml.take 243 = hd.data.toList ++ lx.data.toList := by kernel_rfl
theorem tml_b : (tml.take 270).drop 246 = bb.data.toList ++ vx.data.toList := by kernel_rfl
theorem tml_c : (tml.take 287).drop 273 = cc.data.toList := by kernel_rfl
theorem sp_all (a : List UInt8) : sp tml a 287 = sql a := by
  unfold sp
  rw [if_neg (by omega), if_neg (by omega), tml_a, tml_b, tml_c]
  unfold sql
  simp only [List.append_assoc]

theorem get_list (t : ByteArray) (l : List UInt8) (h : t.data.toList = l) (k : Nat) (hk : k < t.size) : t[k] = l.getD k 0 := by
  subst h
  rw [ByteArray.getElem_eq_getElem_data]
  have hk' : k < t.data.size := hk
  rw [List.getD, Array.getElem?_toList, Array.getElem?_eq_getElem hk']; rfl
theorem tmpl_of (t : ByteArray) (h : t.data.toList = tml) : Tmpl t := by
  have hz : t.size = 287 := by rw [← tml_len, ← h, Array.length_toList]; rfl
  have g : ∀ k (hk : k < t.size), t[k] = tml.getD k 0 := get_list t tml h
  refine ⟨hz, fun k hk h1 h2 => ?_, ?_, ?_⟩
  · have hp := tml_plain
    rw [List.all_eq_true] at hp
    have := hp k (by rw [List.mem_range]; omega)
    rw [g k hk]
    have q : (tml.getD k 0 != 0) = true := by
      simp only [Bool.or_eq_true, Bool.and_eq_true, decide_eq_true_eq] at this
      rcases this with (h | h) | h
      · exact absurd h h1
      · exact absurd h h2
      · exact h
    have q2 : tml.getD k 0 ≠ 0 := by simpa using q
    have q3 : (tml.getD k 0).toNat ≠ 0 := fun e => q2 (UInt8.toNat_inj.mp e)
    simp only [beq_eq_false_iff_ne, ne_eq]
    omega
  · rw [g 243 (by omega), g 244 (by omega), g 245 (by omega), tml_1.1, tml_1.2.1, tml_1.2.2]; exact ⟨rfl, rfl, rfl⟩
  · rw [g 270 (by omega), g 271 (by omega), g 272 (by omega), tml_2.1, tml_2.2.1, tml_2.2.2]; exact ⟨rfl, rfl, rfl⟩

set_option maxHeartbeats 400000 in
theorem spl_long (a0 : ByteArray) (w0 : a0.size ≤ maxLen) (hn : 65536 < a0.size) (w : World) :
    Calls Try.prog 3 #[.string a0] w fun e w' => e = .returned (.bool true) ∧ Below w.heap.size w w' := by
  unfold maxLen at w0
  go_enter Try.func3, Try.ntmps3
  go_wp2
  all_goals
    go_ret
    exact ⟨rfl, Below.refl _ _⟩
set_option maxHeartbeats 400000 in
theorem spl_empty (w : World) :
    Calls Try.prog 3 #[.string { data := #[] }] w fun e w' => e = .returned (.bool true) ∧ Below w.heap.size w w' := by
  go_enter Try.func3, Try.ntmps3
  go_wp2
  all_goals
    go_ret
    exact ⟨rfl, Below.refl _ _⟩

theorem mark_some : (!({ data := #[0, 97, 0] } : ByteArray).toList.isEmpty) = true := by rw [toList_isEmpty]; rfl

set_option maxHeartbeats 400000 in
theorem spl_some (a0 T R S : ByteArray) (h1 : a0.size ≤ 65536) (hn : a0.toList.isEmpty = false) (hT : Hid (cvS { data := #[0, 97, 0] } = T)) (hR : Hid (cvS a0 = R)) (H : Tmpl T)
    (hS : (⟨(sp T.data.toList a0.data.toList 287).toArray⟩ : ByteArray) = S) (hRS : (R.toList == S.toList) = true) (w : World) :
    Calls Try.prog 3 #[.string a0] w fun e w' => e = .returned (.bool true) ∧ Below w.heap.size w w' := by
  have HS := splice_any T a0 H h1
  rw [hS] at HS
  have HS' : Hid _ := HS
  clear HS hS
  go_enter Try.func3, Try.ntmps3
  go_wp2_with (go_at_call 6; go_in)
  refine (cv_some { data := #[0, 97, 0] } T _ (by decide) mark_some hT).mono ?_
  rintro e w ⟨rfl, rfl⟩
  go_wp2_with fail
  refine (count_any T H _).mono ?_
  rintro e w ⟨rfl, rfl⟩
  go_wp2_with fail
  refine (cv_some a0 R _ h1 (by rw [hn]; rfl) hR).mono ?_
  rintro e w ⟨rfl, rfl⟩
  go_wp2_with fail
  refine (HS'.out _).mono ?_
  rintro e w1 ⟨rfl, hb⟩
  go_wp2
  go_ret
  exact ⟨rfl, hb⟩

theorem spl_walk (a0 : ByteArray) (w0 : a0.size ≤ maxLen) (w : World) :
    Calls Try.prog 3 #[.string a0] w fun e w' => e = .returned (.bool true) ∧ Below w.heap.size w w' := by
  by_cases h : 65536 < a0.size
  · exact spl_long a0 w0 h w
  by_cases h0 : a0.size = 0
  · have := e_of a0 h0; subst this; exact spl_empty w
  obtain ⟨T, hT⟩ : ∃ T, cvS { data := #[0, 97, 0] } = T := ⟨_, rfl⟩
  obtain ⟨R, hR⟩ : ∃ R, cvS a0 = R := ⟨_, rfl⟩
  have lT : T.data.toList = tml := by rw [← hT]; exact cvS_list _
  have lR : R.data.toList = sql a0.data.toList := by rw [← hR]; exact cvS_list _
  refine spl_some a0 T R _ (by omega) (by rw [toList_isEmpty]; simp [h0]) hT hR (tmpl_of T lT) rfl ?_ w
  rw [ByteArray.toList_eq, ByteArray.toList_eq, lR, lT, sp_all]
  simp
end Go.Proofs.Qxb6606430a
