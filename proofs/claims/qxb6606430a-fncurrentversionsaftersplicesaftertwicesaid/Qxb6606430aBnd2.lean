/-
  Seat b6606430a: the plain facts on the two SQL texts, and the ways of the Bounds law joined.
-/
import Derived.Test.Qxb6606430aBnd
namespace Go.Proofs.Qxb6606430a
open Go.RowKit

def lx : ByteArray := { data := #[32, 65, 78, 68, 32, 108, 97, 116, 101, 114, 46, 108, 111, 97, 110, 32, 62, 32] }
def vx : ByteArray := { data := #[32, 65, 78, 68, 32, 118, 101, 114, 115, 105, 111, 110, 46, 108, 111, 97, 110, 32, 62, 32] }
def bb : ByteArray := { data := #[10, 9, 9, 41] }
def cc : ByteArray := { data := #[10, 9, 41, 32, 65, 83, 32, 99, 117, 114, 114, 101, 110, 116] }
theorem lx_size : lx.size = 18 := rfl
theorem vx_size : vx.size = 20 := rfl
theorem bb_size : bb.size = 4 := rfl
theorem cc_size : cc.size = 14 := rfl
theorem cvS_is (a : ByteArray) : cvS a = hd ++ ((lx ++ a) ++ (bb ++ ((vx ++ a) ++ cc))) := by
  show hd ++ (lx ++ a) ++ bb ++ (vx ++ a) ++ cc = _
  simp only [ByteArray.append_assoc]
theorem cvE_is : cvE = hd ++ (bb ++ cc) := by
  show hd ++ bb ++ cc = _
  simp only [ByteArray.append_assoc]

theorem toList_eq_iff (a b : ByteArray) : (a.toList == b.toList) = true ↔ a = b := by
  rw [ByteArray.toList_eq, ByteArray.toList_eq]
  constructor
  · intro h
    have h : a.data.toList = b.data.toList := by simpa using h
    cases a; cases b; simp at h; simp [h]
  · intro h; simp [h]
theorem toList_ne (a b : ByteArray) (h : a ≠ b) : (a.toList == b.toList) = false := by
  cases e : (a.toList == b.toList) with
  | false => rfl
  | true => exact absurd ((toList_eq_iff a b).mp e) h
theorem toList_isEmpty (p : ByteArray) : p.toList.isEmpty = decide (p.size = 0) := by
  rw [ByteArray.toList_eq]
  cases h : p.data.toList with
  | nil => simp [ByteArray.size, Array.toList_eq_nil_iff.mp h]
  | cons a l =>
    have : p.data.size = l.length + 1 := by rw [← Array.length_toList, h]; rfl
    simp [ByteArray.size, this]
theorem e_of (a : ByteArray) (h : a.size = 0) : a = { data := #[] } := ByteArray.size_eq_zero_iff.mp h

theorem mid (A B C : ByteArray) (n : Nat) (h : n = A.size) : (A ++ (B ++ C)).extract n (n + B.size) = B := by
  subst h
  have := ByteArray.extract_append_size_add (a := A) (b := B ++ C) (i := 0) (j := B.size)
  rw [Nat.add_zero] at this
  rw [this, ByteArray.extract_append_eq_left rfl]
theorem tail2 (A B C : ByteArray) (n z : Nat) (h : n = A.size) (hz : z = (A ++ (B ++ C)).size) : (A ++ (B ++ C)).extract (n + B.size) z = C := by
  subst h; subst hz
  rw [← ByteArray.append_assoc]
  exact ByteArray.extract_append_eq_right (by rw [ByteArray.size_append]) (by rw [ByteArray.size_append])
theorem head_le (A B : ByteArray) (m : Nat) (h : m ≤ A.size) : (A ++ B).extract 0 m = A.extract 0 m := by
  rw [ByteArray.extract_append]
  have : m - A.size = 0 := by omega
  rw [this, Nat.zero_sub, ByteArray.extract_same, ByteArray.append_empty]

theorem bnd_ok (a0 : ByteArray) (h1 : a0.size ≤ 65536) (hn : a0.size ≠ 0) (w : World) :
    Calls Try.prog 4 #[.string a0] w fun e w' => e = .returned (.bool true) ∧ Grown w w' := by
  obtain ⟨X, hX⟩ : ∃ X, lx ++ a0 = X := ⟨_, rfl⟩
  obtain ⟨Y, hY⟩ : ∃ Y, vx ++ a0 = Y := ⟨_, rfl⟩
  obtain ⟨Rs, hRs⟩ : ∃ Rs, bb ++ (Y ++ cc) = Rs := ⟨_, rfl⟩
  obtain ⟨R, hR⟩ : ∃ R, cvS a0 = R := ⟨_, rfl⟩
  obtain ⟨E, hE⟩ : ∃ E, cvE = E := ⟨_, rfl⟩
  have eR : R = hd ++ (X ++ Rs) := by rw [← hR, ← hRs, ← hX, ← hY, cvS_is]
  have eE : E = hd ++ (bb ++ cc) := by rw [← hE, cvE_is]
  have zX := congrArg ByteArray.size hX
  have zY := congrArg ByteArray.size hY
  have zRs := congrArg ByteArray.size hRs
  have zR := congrArg ByteArray.size eR
  have zE := congrArg ByteArray.size eE
  simp only [ByteArray.size_append, lx_size, vx_size, bb_size, cc_size, hd_size] at zX zY zRs zR zE
  have y0 : ∀ h : 0 < Y.size, Y[0] = 32 := by
    intro h; subst hY
    rw [ByteArray.getElem_append_left (by rw [vx_size]; omega)]; rfl
  refine bnd_some a0 E R X Y Rs h1 (by rw [toList_isEmpty]; simp [hn]) hE hR hX hY (by omega) (by omega) (by omega) (by omega) (by omega) (by omega) ?_ ?_ ?_ ?_ (by omega) (by omega) ?_ ?_ ?_ ?_ w
  · intro k hk
    have q1 : R[k]'(by omega) = hd[k]'(by rw [hd_size]; exact hk) := by
      subst eR; exact ByteArray.getElem_append_left _
    have q2 : E[k]'(by omega) = hd[k]'(by rw [hd_size]; exact hk) := by
      subst eE; exact ByteArray.getElem_append_left _
    rw [q1, q2]; simp
  · have q1 : R[225]'(by omega) = 32 := by
      subst eR
      rw [ByteArray.getElem_append_right (by rw [hd_size]; omega)]
      simp only [hd_size, Nat.sub_self]
      rw [ByteArray.getElem_append_left (by omega)]
      subst hX
      rw [ByteArray.getElem_append_left (by rw [lx_size]; omega)]; rfl
    have q2 : E[225]'(by omega) = 10 := by
      subst eE
      rw [ByteArray.getElem_append_right (by rw [hd_size]; omega)]
      simp only [hd_size, Nat.sub_self]
      rw [ByteArray.getElem_append_left (by rw [bb_size]; omega)]; rfl
    rw [q1, q2]; exact rfl
  · rw [eR]; exact mid hd X Rs 225 hd_size.symm
  · rw [eR]; exact tail2 hd X Rs 225 _ hd_size.symm rfl
  · intro m hm
    rw [toList_eq_iff, ← hRs, eE, head_le bb _ m (by rw [bb_size]; exact hm)]
    have := ByteArray.extract_append_size_add' (a := hd) (b := bb ++ cc) (i := 0) (j := m) (k := 225) hd_size.symm
    rw [Nat.add_zero] at this
    rw [this, head_le bb _ m (by rw [bb_size]; exact hm)]
  · intro m hm
    refine toList_ne _ _ fun h => ?_
    have hs : 0 < (Rs.extract m (m + Y.size)).size := by rw [h]; omega
    have g1 : (Rs.extract m (m + Y.size))[0] = 32 := by
      have : ∀ (Z : ByteArray) (hz : 0 < Z.size), Z = Y → Z[0] = 32 := by intro Z hz e; subst e; exact y0 hz
      exact this _ hs h
    rw [ByteArray.getElem_extract] at g1
    have hm0 : m + 0 < Rs.size := by omega
    have g2 : Rs[m + 0] = bb[m]'(by rw [bb_size]; exact hm) := by
      subst hRs; exact ByteArray.getElem_append_left _
    rw [g2] at g1
    have : m = 0 ∨ m = 1 ∨ m = 2 ∨ m = 3 := by omega
    rcases this with rfl | rfl | rfl | rfl <;> cases g1
  · rw [← hRs]; exact mid bb Y cc 4 bb_size.symm
  · have q1 : Rs.extract (4 + Y.size) Rs.size = cc := by rw [← hRs]; exact tail2 bb Y cc 4 _ bb_size.symm rfl
    have q2 : E.extract 229 E.size = cc := by
      rw [eE]; exact tail2 hd bb cc 225 _ hd_size.symm rfl
    rw [q1, q2]

theorem bnd_walk (a0 : ByteArray) (w0 : a0.size ≤ maxLen) (w : World) :
    Calls Try.prog 4 #[.string a0] w fun e w' => e = .returned (.bool true) ∧ Grown w w' := by
  by_cases h : 65536 < a0.size
  · exact bnd_long a0 w0 h w
  by_cases h0 : a0.size = 0
  · have := e_of a0 h0; subst this; exact bnd_empty w
  · exact bnd_ok a0 (by omega) h0 w
end Go.Proofs.Qxb6606430a
