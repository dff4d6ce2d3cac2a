/-
  Seat b6606439a: the walk of FnTakeScriptMatchesGrammar (5).
-/
import Derived.Test.Qxb6606439aStep2
import Derived.Test.Qxb6606439aSame
import Derived.Test.Qxb6606439aClone
import Derived.OpenShut
import Derived.Deep.RegionHeld3
import Derived.Deep.CutBlock
import Derived.Deep.CutRange
namespace Go.Proofs.Qxb6606439a
open Go.RowKit
set_option linter.unusedVariables false

theorem min_as (a b n : Nat) (h : n = min a b) (ha : a ≤ 4096) (hb : b ≤ 4096) (w : World) : Calls Try.prog 13 #[.int .i64 a, .int .i64 b] w fun e w' => e = .returned (.int .i64 n) ∧ w = w' := by
  by_cases hl : a < b
  · obtain rfl : n = a := by omega
    clear h
    go_enter Try.func13, Try.ntmps13
    go_wp2
    go_ret
    exact ⟨rfl, rfl⟩
  · obtain rfl : n = b := by omega
    clear h
    go_enter Try.func13, Try.ntmps13
    go_wp2
    go_ret
    exact ⟨rfl, rfl⟩

/-- The ints of a slice that came in. -/
def Came (w : World) (a : Option Addr) (n : Nat) (z : Nat → Int) : Prop :=
  0 < n → ∃ b off, a = some ⟨b, off, none⟩ ∧ ∀ j, j < n → w.cell? ⟨b, off + j, none⟩ = some (.int .i64 (z j))
theorem Came.below {w w' : World} {a : Option Addr} {n : Nat} {z : Nat → Int} (h : Came w a n z) (hb : Below w.heap.size w w') : Came w' a n z := fun hp => by
  obtain ⟨b, off, e, hc⟩ := h hp
  exact ⟨b, off, e, fun j hj => by rw [hb.cell (p := ⟨b, off + j, none⟩) (World.block_lt_of_cell? _ _ (hc j hj))]; exact hc j hj⟩

/-- cloneInts, whatever the slice. -/
theorem clonei_row (a0 : Option Addr) (n c : Nat) (z : Nat → Int) (w : World) (hn : n ≤ 4096) (h : Came w a0 n z) (h0 : a0 = none → n = 0 ∧ c = 0) :
    Calls Try.prog 14 #[.slice a0 n c] w fun e w' => ∃ da dc, e = .returned (.slice da n dc) ∧ Below w.heap.size w w' ∧ Ints w' da n z := by
  cases a0 with
  | none =>
    obtain ⟨rfl, rfl⟩ := h0 rfl
    refine (clonei_nil w).mono ?_
    rintro e w' ⟨rfl, rfl⟩
    exact ⟨none, 0, rfl, Below.refl _ _, ⟨by omega, fun h => absurd h (by omega)⟩⟩
  | some x =>
    obtain ⟨b, off, hx, hcc⟩ : ∃ b off, (0 < n → x = ⟨b, off, none⟩) ∧ ∀ j, j < n → w.cell? ⟨b, off + j, none⟩ = some (.int .i64 (z j)) := by
      by_cases h1 : 0 < n
      · obtain ⟨b, off, e, hcc⟩ := h h1
        exact ⟨b, off, fun _ => by simpa using e, hcc⟩
      · exact ⟨0, 0, fun h => absurd h h1, fun j hj => absurd hj (by omega)⟩
    refine (clonei_some x b off n c z w hx (by omega) hcc).mono ?_
    rintro e w' ⟨rfl, hb, hz, hcell⟩
    exact ⟨_, _, rfl, hb, ⟨hn, fun _ => ⟨w.heap.size, rfl, by omega, hcell⟩⟩⟩

/-- The section's state as it lies in block s. -/
def StV (wr : World) (s : Nat) (K X : Nat → Int) (k : Nat) : Prop :=
  wr.cell? ⟨s, 0, none⟩ = some (.slice none 0 0) ∧ wr.cell? ⟨s, 1, none⟩ = some (.string { data := #[] }) ∧ wr.cell? ⟨s, 2, none⟩ = some (.int .i64 0) ∧ wr.cell? ⟨s, 3, none⟩ = some (.int .i64 0) ∧
  wr.cell? ⟨s, 4, none⟩ = some (.int .i64 0) ∧ wr.cell? ⟨s, 5, none⟩ = some (.int .i64 0) ∧ wr.cell? ⟨s, 6, none⟩ = some (.int .i64 (cntE K k : Nat)) ∧ wr.cell? ⟨s, 7, none⟩ = some (.int .i64 (wInd K X k)) ∧
  wr.cell? ⟨s, 8, none⟩ = some (.bool (wBlk K k)) ∧ wr.cell? ⟨s, 9, none⟩ = some (.int .i64 (wDash K X k))
def StC (wr : World) (s : Nat) (K X : Nat → Int) (k : Nat) : Prop := StV wr s K X k ∧ (∀ j, wr.frozen? ⟨s, j, none⟩ = false) ∧ s < wr.heap.size

/-- What lay there stays. -/
def Kept (wr w' : World) : Prop := Below wr.heap.size wr w'
theorem kept_mk {wr w' : World} (h : Kept wr w') : Kept wr w' ∧ ∀ b o, b < wr.heap.size → w'.cell? ⟨b, o, none⟩ = wr.cell? ⟨b, o, none⟩ := ⟨h, fun b o hb => h.cell (p := ⟨b, o, none⟩) hb⟩
theorem kept_refl (wr : World) : Kept wr wr := Below.refl _ _
theorem kept_drew {wr w' : World} (h : Kept wr w') : Kept wr w'.drew := Below.drew h
theorem kept_alloc {wr w' : World} (h : Kept wr w') (o : Obj) : Kept wr (w'.alloc o) := Below.alloc h h.size o
theorem kept_set {wr w' : World} (h : Kept wr w') {p : Addr} (hp : wr.heap.size ≤ p.block) (v : Value) : Kept wr (w'.setCell p v) := Below.setCell h hp v
theorem kept_call {wr W w' : World} (h : Kept wr W) (hb : Below W.heap.size W w') : Kept wr w' := Below.trans h (hb.mono h.size)

theorem stv_set (W : World) (b : Nat) (v0 v1 v2 v3 v4 v5 v6 v7 v8 v9 u0 u1 u2 u3 u4 u5 u6 u7 u8 u9 : Value)
  (h0 : W.cell? ⟨b, 0, none⟩ = some u0) (h1 : W.cell? ⟨b, 1, none⟩ = some u1) (h2 : W.cell? ⟨b, 2, none⟩ = some u2) (h3 : W.cell? ⟨b, 3, none⟩ = some u3) (h4 : W.cell? ⟨b, 4, none⟩ = some u4) (h5 : W.cell? ⟨b, 5, none⟩ = some u5) (h6 : W.cell? ⟨b, 6, none⟩ = some u6) (h7 : W.cell? ⟨b, 7, none⟩ = some u7) (h8 : W.cell? ⟨b, 8, none⟩ = some u8) (h9 : W.cell? ⟨b, 9, none⟩ = some u9) (W' : World)
  (hW : W' = (((((((((W.setCell ⟨b, 0, none⟩ v0).setCell ⟨b, 1, none⟩ v1).setCell ⟨b, 2, none⟩ v2).setCell ⟨b, 3, none⟩ v3).setCell ⟨b, 4, none⟩ v4).setCell ⟨b, 5, none⟩ v5).setCell ⟨b, 6, none⟩ v6).setCell ⟨b, 7, none⟩ v7).setCell ⟨b, 8, none⟩ v8).setCell ⟨b, 9, none⟩ v9) :
  W'.cell? ⟨b, 0, none⟩ = some v0 ∧ W'.cell? ⟨b, 1, none⟩ = some v1 ∧ W'.cell? ⟨b, 2, none⟩ = some v2 ∧ W'.cell? ⟨b, 3, none⟩ = some v3 ∧ W'.cell? ⟨b, 4, none⟩ = some v4 ∧ W'.cell? ⟨b, 5, none⟩ = some v5 ∧ W'.cell? ⟨b, 6, none⟩ = some v6 ∧ W'.cell? ⟨b, 7, none⟩ = some v7 ∧ W'.cell? ⟨b, 8, none⟩ = some v8 ∧ W'.cell? ⟨b, 9, none⟩ = some v9 := by
  subst hW
  simp [go_sem, *]

theorem StC.below {w w' : World} {s : Nat} {K X : Nat → Int} {k : Nat} (h : StC w s K X k) (hb : Below w.heap.size w w') : StC w' s K X k := by
  obtain ⟨⟨h0, h1, h2, h3, h4, h5, h6, h7, h8, h9⟩, hf, hz⟩ := h
  have hc := fun o => hb.cell (p := ⟨s, o, none⟩) hz
  exact ⟨⟨(hc 0).trans h0, (hc 1).trans h1, (hc 2).trans h2, (hc 3).trans h3, (hc 4).trans h4, (hc 5).trans h5, (hc 6).trans h6, (hc 7).trans h7, (hc 8).trans h8, (hc 9).trans h9⟩,
    fun j => (hb.frozen (p := ⟨s, j, none⟩) hz).trans (hf j), Nat.lt_of_lt_of_le hz hb.size⟩

section
variable (a0 : Option Addr) (n0 c0 : Nat) (a1 : Option Addr) (n1 c1 : Nat) (K X : Nat → Int) (w : World)
set_option maxRecDepth 20000 in
theorem script_long (h0 : n0 ≤ 9223372036854775807) (h1 : n1 ≤ 9223372036854775807) (hn : 4096 < n0 ∨ 4096 < n1) :
    Calls Try.prog 5 #[.slice a0 n0 c0, .slice a1 n1 c1] w fun e w' => e = .returned (.bool true) ∧ Below w.heap.size w w' := by
  by_cases hm : 4096 < n0
  · go_enter Try.func5, Try.ntmps5
    go_wp2
    all_goals
      go_ret
      exact ⟨rfl, Below.refl _ _⟩
  · have hm' : 4096 < n1 := by omega
    go_enter Try.func5, Try.ntmps5
    go_wp2
    all_goals
      go_ret
      exact ⟨rfl, Below.refl _ _⟩

set_option maxRecDepth 20000 in
set_option maxHeartbeats 2000000 in
theorem script_main (n : Nat) (hn : Hid (n = min n0 n1)) (h0 : n0 ≤ 4096) (h1 : n1 ≤ 4096) (hn0 : n ≤ n0) (hn1 : n ≤ n1)
    (hK : Hid (Came w a0 n0 K)) (hX : Hid (Came w a1 n1 X)) (z0 : Hid (a0 = none → n0 = 0 ∧ c0 = 0)) (z1 : Hid (a1 = none → n1 = 0 ∧ c1 = 0)) :
    Calls Try.prog 5 #[.slice a0 n0 c0, .slice a1 n1 c1] w fun e w' => e = .returned (.bool true) ∧ Below w.heap.size w w' := by
  go_enter Try.func5, Try.ntmps5
  go_wp2_with (first
    | (go_at_call 12; go_in)
    | (go_at_call 13; refine (min_as n0 n1 n hn.out h0 h1 _).mono ?_; rintro e w' ⟨rfl, rfl⟩))
  go_loop [6] (fun j => ∃ k : Nat, k ≤ n ∧ j = .int .i64 k ∧ Hid (Valid K X k)) (fun j => n - (intOf j).toNat)
  case atStart => exact ⟨0, Nat.zero_le _, rfl, fun m hm => absurd hm (by omega)⟩
  case round =>
    obtain ⟨k, hk, rfl, hV⟩ := hrel
    by_cases hlt : k < n
    · obtain ⟨b, off, rfl, hc⟩ := hK.out (by omega)
      obtain ⟨r, rof, rfl, hd⟩ := hX.out (by omega)
      have g0 := hc k (by omega)
      have g1 := hd k (by omega)
      have b0 : (k : Int) < (n0 : Int) := by omega
      have b1 : (k : Int) < (n1 : Int) := by omega
      clear hc hd
      by_cases v0 : K k < 0
      · go_wp2
        go_ret
        exact ⟨rfl, Below.refl _ _⟩
      by_cases v1 : 4 < K k
      · go_wp2
        go_ret
        exact ⟨rfl, Below.refl _ _⟩
      by_cases v2 : X k < 0
      · go_wp2
        go_ret
        exact ⟨rfl, Below.refl _ _⟩
      go_wp2
      go_round
      case rel => exact ⟨k + 1, by omega, by go_num, fun m hm => by by_cases e : m = k; (· rw [e]; exact ⟨by omega, by omega, by omega⟩); exact hV.out m (by omega)⟩
      case measure => simp [intOf]; omega
    · obtain rfl : n = k := by omega
      go_wp2_with fail
      refine (clonei_row a0 n0 c0 K w h0 hK.out z0.out).mono ?_
      rintro e w1 ⟨da, dc, rfl, hb1, hI1⟩
      go_wp2_with fail
      refine (clonei_row a1 n1 c1 X w1 h1 (hX.out.below hb1) z1.out).mono ?_
      rintro e w2 ⟨xa, xc, rfl, hb2, hI2⟩
      have hB2 : Hid (Below w.heap.size w w2) := hb1.trans (hb2.mono hb1.size)
      have hJ1 : Hid (Ints w2 da n0 K) := hI1.below hb2
      have hJ2 : Hid (Ints w2 xa n1 X) := hI2
      clear hb1 hb2 hI1 hI2 hK hX z0 z1
      go_upto_block 2 with fail
      go_cut [8] from 21 (fun t wr => ∃ k : Nat, k ≤ n ∧ t = .int .i64 k ∧ Hid (∀ m, m < k → accB K X m = true) ∧ Hid (k < n → accB K X k = false) ∧ Hid (StC wr w2.heap.size K X k) ∧ Hid (Below w2.heap.size w2 wr))
      case first =>
        go_wp2_with fail
        go_loopw [8] (fun t wr => ∃ k : Nat, k ≤ n ∧ t = .int .i64 k ∧ Hid (∀ m, m < k → accB K X m = true) ∧ Hid (Even K X k) ∧ Hid (StC wr w2.heap.size K X k) ∧ Hid (Below w2.heap.size w2 wr)) (fun t _ => n - (intOf t).toNat)
        case atStart =>
          exact ⟨0, Nat.zero_le _, rfl, fun m hm => absurd hm (by omega), fun m hm => absurd hm (by omega), ⟨⟨by simp [go_sem], by simp [go_sem], by simp [go_sem], by simp [go_sem], by simp [go_sem], by simp [go_sem], by simp [go_sem, cntE], by simp [go_sem, wInd, firstE], by simp [go_sem, wBlk, lastE], by simp [go_sem, wDash, lastE]⟩, fun j => World.frozen?_alloc_at _ _ _ _ rfl, by simp⟩, (Below.refl _ _).alloc (Nat.le_refl _) _⟩
        case round =>
          obtain ⟨k, hk, rfl, hA, hE, hS, hB⟩ := hrel
          by_cases hlt : k < n
          · obtain ⟨⟨s0, s1, s2, s3, s4, s5, s6, s7, s8, s9⟩, sf, sz⟩ := hS.out
            have I1 := hJ1.out.below hB.out
            have I2 := hJ2.out.below hB.out
            obtain ⟨g, rfl, hg, hc⟩ := I1.2 (by omega)
            obtain ⟨r, rfl, hr, hd⟩ := I2.2 (by omega)
            have g0 := hc k (by omega)
            have g1 := hd k (by omega)
            have b0 : (k : Int) < (n0 : Int) := by omega
            have b1 : (k : Int) < (n1 : Int) := by omega
            clear hc hd I1 I2
            have SF : Hid (∀ j, wr.frozen? ⟨w2.heap.size, j, none⟩ = false) := sf
            clear sf
            cases ha : accB K X k with
            | false =>
              have HZ : Hid (∀ W, _) := fun W => zz_no K X k W (fun m hm => hV.out m (by omega)) hE.out ha
              go_upto_region 16 with fail
              go_cut [9] from 67 to 88 (fun ok wx => ok = .bool false ∧ Hid (Below wr.heap.size wr wx))
              case first =>
                go_region_held3 (fun w' => Kept wr w' ∧ ∀ b o, b < wr.heap.size → w'.cell? ⟨b, o, none⟩ = wr.cell? ⟨b, o, none⟩) ((refine kept_mk ?_; (repeat' (first | (with_reducible assumption) | (with_reducible exact kept_refl _) | (with_reducible refine kept_drew ?_) | (with_reducible refine kept_alloc ?_ _) | (with_reducible refine kept_set ?_ ?_ _) | (simp; done) | (simp; omega))); done))
                  (first
                    | (go_at_call 8; refine (HZ.out _).mono ?_; rintro e w' ⟨rfl, hb⟩; have hk' := kept_call (wr := wr) (by first | assumption | exact And.left (by assumption)) hb; obtain ⟨hc', hf'⟩ := bcell hb; have hz' := hb.size; clear hb))
                all_goals
                  go_wp2_with fail
                  go_meet
                  case rel => exact ⟨rfl, And.left (by assumption)⟩
              case rest =>
                obtain ⟨rfl, hb⟩ := hcut
                go_wp2
                go_meet
                case rel => exact ⟨k, hk, rfl, hA, fun _ => ha, hS.out.below hb.out, hB.out.trans (hb.out.mono hB.out.size)⟩
            | true =>
              have HY := fun W => zz_yes K X k W (by omega) (fun m hm => hV.out m (by omega)) hE.out ha
              have HE' : Hid (Even K X (k + 1)) := (HY w).1
              have HZ : Hid (∀ W, _) := fun W => (HY W).2
              clear HY
              go_upto_region 16 with fail
              go_cut [9, 10] from 67 to 88 (fun ok p wx => ok = .bool true ∧ ∃ b, p = .pointer (some ⟨b, 0, none⟩) ∧ Hid (Below wr.heap.size wr wx) ∧ Hid (StV wx b K X (k + 1)))
              case first =>
                go_region_held3 (fun w' => Kept wr w' ∧ ∀ b o, b < wr.heap.size → w'.cell? ⟨b, o, none⟩ = wr.cell? ⟨b, o, none⟩) ((refine kept_mk ?_; (repeat' (first | (with_reducible assumption) | (with_reducible exact kept_refl _) | (with_reducible refine kept_drew ?_) | (with_reducible refine kept_alloc ?_ _) | (with_reducible refine kept_set ?_ ?_ _) | (simp; done) | (simp; omega))); done))
                  (first
                    | (go_at_call 8; refine (HZ.out _).mono ?_; rintro e w' ⟨rfl, hb⟩; have hk' := kept_call (wr := wr) (by first | assumption | exact And.left (by assumption)) hb; obtain ⟨hc', hf'⟩ := bcell hb; have hz' := hb.size; clear hb))
                all_goals
                  go_wp2_with fail
                  go_meet
                  case rel =>
                    refine ⟨rfl, _, rfl, And.left (by assumption), ?_⟩
                    first
                      | (show StV _ _ _ _ _; unfold StV; simp [go_sem]; done)
                      | exact stv_set w' wr.heap.size _ _ _ _ _ _ _ _ _ _ (.slice none 0 0) (.string { data := #[] }) (.int .i64 0) (.int .i64 0) (.int .i64 0) (.int .i64 0) (.int .i64 0) (.int .i64 0) (.bool false) (.int .i64 0) (by rw [hc' _ _ (by simp)]; simp [go_sem]) (by rw [hc' _ _ (by simp)]; simp [go_sem]) (by rw [hc' _ _ (by simp)]; simp [go_sem]) (by rw [hc' _ _ (by simp)]; simp [go_sem]) (by rw [hc' _ _ (by simp)]; simp [go_sem]) (by rw [hc' _ _ (by simp)]; simp [go_sem]) (by rw [hc' _ _ (by simp)]; simp [go_sem]) (by rw [hc' _ _ (by simp)]; simp [go_sem]) (by rw [hc' _ _ (by simp)]; simp [go_sem]) (by rw [hc' _ _ (by simp)]; simp [go_sem]) _ rfl
              case rest =>
                obtain ⟨rfl, b, rfl, hb, hN⟩ := hcut
                obtain ⟨n0', n1', n2', n3', n4', n5', n6', n7', n8', n9'⟩ := hN.out
                obtain ⟨⟨t0, t1, t2, t3, t4, t5, t6, t7, t8, t9⟩, tf, tz⟩ := hS.out.below hb.out
                have f0 := tf 0
                have f1 := tf 1
                have f2 := tf 2
                have f3 := tf 3
                have f4 := tf 4
                have f5 := tf 5
                have f6 := tf 6
                have f7 := tf 7
                have f8 := tf 8
                have f9 := tf 9
                have TF : Hid (∀ j, wc.frozen? ⟨w2.heap.size, j, none⟩ = false) := tf
                have HBc : Hid (Below w2.heap.size w2 wc) := hB.out.trans (hb.out.mono hB.out.size)
                clear tf s0 s1 s2 s3 s4 s5 s6 s7 s8 s9 g0 g1 hN
                go_wp2
                go_roundw
                case rel =>
                  refine ⟨k + 1, by omega, by go_num, fun m hm => ?_, HE', ⟨stv_set wc w2.heap.size _ _ _ _ _ _ _ _ _ _ _ _ _ _ _ _ _ _ _ _ t0 t1 t2 t3 t4 t5 t6 t7 t8 t9 _ rfl, fun j => ?_, ?_⟩, ?_⟩
                  · by_cases e : m = k
                    · rw [e]; exact ha
                    · exact hA.out m (by omega)
                  · rw [World.frozen?_setCell, World.frozen?_setCell, World.frozen?_setCell, World.frozen?_setCell, World.frozen?_setCell, World.frozen?_setCell, World.frozen?_setCell, World.frozen?_setCell, World.frozen?_setCell, World.frozen?_setCell]; exact TF.out j
                  · simp only [World.size_setCell]; exact tz
                  · exact ((((((((((HBc.out.setCell (Nat.le_refl _) _).setCell (Nat.le_refl _) _).setCell (Nat.le_refl _) _).setCell (Nat.le_refl _) _).setCell (Nat.le_refl _) _).setCell (Nat.le_refl _) _).setCell (Nat.le_refl _) _).setCell (Nat.le_refl _) _).setCell (Nat.le_refl _) _).setCell (Nat.le_refl _) _)
                case measure => simp [intOf]; omega
          · obtain rfl : n = k := by omega
            go_wp2
            go_meet
            case rel => exact ⟨n, Nat.le_refl _, rfl, hA, fun h => absurd h (by omega), hS, hB⟩
      case rest =>
        obtain ⟨k, hk, rfl, hA, hF, hS, hB⟩ := hcut
        have J1 : Hid (Ints wc da n0 K) := hJ1.out.below hB.out
        have J2 : Hid (Ints wc xa n1 X) := hJ2.out.below hB.out
        have HW : Hid (Below w.heap.size w wc) := hB2.out.trans (hB.out.mono hB2.out.size)
        clear hJ1 hJ2 hB hB2
        go_upto_block 4 with fail
        go_cut [12] from 21 (fun t wx => t = .int .i64 k ∧ wc = wx)
        case first =>
          go_wp2_with fail
          go_loop [12] (fun t => ∃ j : Nat, j ≤ k ∧ t = .int .i64 j) (fun t => k - (intOf t).toNat)
          case atStart => exact ⟨0, Nat.zero_le _, rfl⟩
          case round =>
            obtain ⟨j, hj, rfl⟩ := hrel
            by_cases hjk : j < k
            · have ha := hA.out j hjk
              have hjn : (j : Int) < (n : Int) := by omega
              go_wp2_with (go_at_call 15; refine (acc_any da n0 dc xa n1 xc K X _ j J1.out J2.out (by omega) (by omega)).mono ?_; rintro e w' ⟨rfl, rfl⟩)
              go_round
              case rel => exact ⟨j + 1, by omega, by go_num⟩
              case measure => simp [intOf]; omega
            · obtain rfl : k = j := by omega
              by_cases hkn : k < n
              · have ha := hF.out hkn
                have hjn : (k : Int) < (n : Int) := by omega
                go_wp2_with (go_at_call 15; refine (acc_any da n0 dc xa n1 xc K X _ k J1.out J2.out (by omega) (by omega)).mono ?_; rintro e w' ⟨rfl, rfl⟩)
                go_meet
                case rel => exact ⟨rfl, rfl⟩
              · have hjn : decide ((k : Int) < (n : Int)) = false := decide_eq_false (by omega)
                go_wp2
                go_meet
                case rel => exact ⟨rfl, rfl⟩
        case rest =>
          obtain ⟨rfl, rfl⟩ := hcut
          go_wp2_with fail
          go_loop [13, 14] (fun c t => ∃ j : Nat, j ≤ k ∧ t = .int .i64 j ∧ c = .int .i64 (cntE K j : Nat)) (fun _ t => k - (intOf t).toNat)
          case atStart => exact ⟨0, Nat.zero_le _, rfl, rfl⟩
          case round =>
            obtain ⟨j, hj, rfl, rfl⟩ := hrel
            by_cases hjk : j < k
            · obtain ⟨g, rfl, hg, hc⟩ := J1.out.2 (by omega)
              have g0 := hc j (by omega)
              have b0 : (j : Int) < (n0 : Int) := by omega
              have hcl := cntE_le K j
              clear hc
              cases he : isE (K j) with
              | true =>
                have hN : Hid (cntE K (j + 1) = cntE K j + 1) := cntE_E K j he
                go_wp2_with (go_at_call 16; refine (isE_any _ _).mono ?_; rintro e w' ⟨rfl, rfl⟩)
                go_round
                case rel => exact ⟨j + 1, by omega, by go_num, by rw [hN.out]; go_num⟩
                case measure => simp [intOf]; omega
              | false =>
                have hN : Hid (cntE K (j + 1) = cntE K j) := cntE_noE K j he
                go_wp2_with (go_at_call 16; refine (isE_any _ _).mono ?_; rintro e w' ⟨rfl, rfl⟩)
                go_round
                case rel => exact ⟨j + 1, by omega, by go_num, by rw [hN.out]⟩
                case measure => simp [intOf]; omega
            · obtain rfl : k = j := by omega
              obtain ⟨⟨s0, s1, s2, s3, s4, s5, s6, s7, s8, s9⟩, sf, sz⟩ := hS.out
              clear s0 s1 s2 s3 s4 s5 sf hS hA hF
              have hlb := lastE_bd K k
              have hfb := firstE_bd K k
              by_cases hk0 : 0 < k
              · obtain ⟨g, rfl, _, hc⟩ := J1.out.2 (by omega)
                obtain ⟨r, rfl, _, hd⟩ := J2.out.2 (by omega)
                have KC : Hid (∀ m, m < n0 → wc.cell? ⟨g, m, none⟩ = some (.int .i64 (K m))) := hc
                have XC : Hid (∀ m, m < n1 → wc.cell? ⟨r, m, none⟩ = some (.int .i64 (X m))) := hd
                clear hc hd
                by_cases hf0 : 0 ≤ firstE K k
                · obtain ⟨F, hF'⟩ := Int.eq_ofNat_of_zero_le hf0
                  have hFk : F < k := by omega
                  have hf : Hid (firstE K k = (F : Int)) := hF'
                  have xf := XC.out F (by omega)
                  have bf : (F : Int) < (n1 : Int) := by omega
                  have c7 : wInd K X k = X F := by unfold wInd; rw [if_pos hf0, hF']; simp
                  clear hf0 hF'
                  by_cases hp : 0 ≤ lastE K k
                  · obtain ⟨P, hP⟩ := Int.eq_ofNat_of_zero_le hp
                    have hPk : P < k := by omega
                    have eP : (lastE K k).toNat = P := by omega
                    have hl : Hid (lastE K k = (P : Int)) := hP
                    have kp := KC.out P (by omega)
                    have bp : (P : Int) < (n0 : Int) := by omega
                    have c8 : wBlk K k = (K P == 3) := by unfold wBlk; rw [eP, decide_eq_true hp]; simp
                    have hib := firstI_bd K (P + 1) k
                    by_cases hq0 : 0 ≤ firstI K (P + 1) k
                    · obtain ⟨Q, hQ⟩ := Int.eq_ofNat_of_zero_le hq0
                      have hq : Hid (firstI K (P + 1) k = (Q : Int)) := hQ
                      have xq := XC.out Q (by omega)
                      have bq : (Q : Int) < (n1 : Int) := by omega
                      have c9 : wDash K X k = X Q := by unfold wDash; rw [eP, if_pos ⟨hp, hq0⟩, hQ]; simp
                      clear hp hP eP hib hq0 hQ KC XC hlb hfb
                      go_wp2_with (first
                        | (go_at_call 17; refine (firstE_as _ n0 dc K _ k J1.out (by omega) F hf.out).mono ?_; rintro e w' ⟨rfl, rfl⟩)
                        | (go_at_call 18; refine (lastE_as _ n0 dc K _ k J1.out (by omega) P hl.out).mono ?_; rintro e w' ⟨rfl, rfl⟩)
                        | (go_at_call 19; refine (firstI_as _ n0 dc K _ k J1.out (P + 1) _ (by omega) (by omega) (by omega) Q hq.out).mono ?_; rintro e w' ⟨rfl, rfl⟩)
                        | fail)
                      go_ret
                      exact ⟨rfl, HW.out⟩
                    · have hq : Hid (firstI K (P + 1) k = -1) := show firstI K (P + 1) k = -1 by omega
                      have c9 : wDash K X k = -1 := by unfold wDash; rw [eP, if_neg (fun h => hq0 h.2)]
                      clear hp hP eP hib hq0 KC XC hlb hfb
                      go_wp2_with (first
                        | (go_at_call 17; refine (firstE_as _ n0 dc K _ k J1.out (by omega) F hf.out).mono ?_; rintro e w' ⟨rfl, rfl⟩)
                        | (go_at_call 18; refine (lastE_as _ n0 dc K _ k J1.out (by omega) P hl.out).mono ?_; rintro e w' ⟨rfl, rfl⟩)
                        | (go_at_call 19; refine (firstI_as _ n0 dc K _ k J1.out (P + 1) _ (by omega) (by omega) (by omega) (-1) hq.out).mono ?_; rintro e w' ⟨rfl, rfl⟩)
                        | fail)
                      go_ret
                      exact ⟨rfl, HW.out⟩
                  · have hl : Hid (lastE K k = -1) := show lastE K k = -1 by omega
                    have c8 : wBlk K k = false := by unfold wBlk; rw [decide_eq_false hp]; rfl
                    have c9 : wDash K X k = -1 := by unfold wDash; rw [if_neg (fun h => hp h.1)]
                    clear hp KC XC hlb hfb
                    go_wp2_with (first
                      | (go_at_call 17; refine (firstE_as _ n0 dc K _ k J1.out (by omega) F hf.out).mono ?_; rintro e w' ⟨rfl, rfl⟩)
                      | (go_at_call 18; refine (lastE_as _ n0 dc K _ k J1.out (by omega) (-1) hl.out).mono ?_; rintro e w' ⟨rfl, rfl⟩)
                      | fail)
                    go_ret
                    exact ⟨rfl, HW.out⟩
                · have hf : Hid (firstE K k = -1) := show firstE K k = -1 by omega
                  have c7 : wInd K X k = -1 := by unfold wInd; rw [if_neg hf0]
                  clear hf0
                  by_cases hp : 0 ≤ lastE K k
                  · obtain ⟨P, hP⟩ := Int.eq_ofNat_of_zero_le hp
                    have hPk : P < k := by omega
                    have eP : (lastE K k).toNat = P := by omega
                    have hl : Hid (lastE K k = (P : Int)) := hP
                    have kp := KC.out P (by omega)
                    have bp : (P : Int) < (n0 : Int) := by omega
                    have c8 : wBlk K k = (K P == 3) := by unfold wBlk; rw [eP, decide_eq_true hp]; simp
                    have hib := firstI_bd K (P + 1) k
                    by_cases hq0 : 0 ≤ firstI K (P + 1) k
                    · obtain ⟨Q, hQ⟩ := Int.eq_ofNat_of_zero_le hq0
                      have hq : Hid (firstI K (P + 1) k = (Q : Int)) := hQ
                      have xq := XC.out Q (by omega)
                      have bq : (Q : Int) < (n1 : Int) := by omega
                      have c9 : wDash K X k = X Q := by unfold wDash; rw [eP, if_pos ⟨hp, hq0⟩, hQ]; simp
                      clear hp hP eP hib hq0 hQ KC XC hlb hfb
                      go_wp2_with (first
                        | (go_at_call 17; refine (firstE_as _ n0 dc K _ k J1.out (by omega) (-1) hf.out).mono ?_; rintro e w' ⟨rfl, rfl⟩)
                        | (go_at_call 18; refine (lastE_as _ n0 dc K _ k J1.out (by omega) P hl.out).mono ?_; rintro e w' ⟨rfl, rfl⟩)
                        | (go_at_call 19; refine (firstI_as _ n0 dc K _ k J1.out (P + 1) _ (by omega) (by omega) (by omega) Q hq.out).mono ?_; rintro e w' ⟨rfl, rfl⟩)
                        | fail)
                      go_ret
                      exact ⟨rfl, HW.out⟩
                    · have hq : Hid (firstI K (P + 1) k = -1) := show firstI K (P + 1) k = -1 by omega
                      have c9 : wDash K X k = -1 := by unfold wDash; rw [eP, if_neg (fun h => hq0 h.2)]
                      clear hp hP eP hib hq0 KC XC hlb hfb
                      go_wp2_with (first
                        | (go_at_call 17; refine (firstE_as _ n0 dc K _ k J1.out (by omega) (-1) hf.out).mono ?_; rintro e w' ⟨rfl, rfl⟩)
                        | (go_at_call 18; refine (lastE_as _ n0 dc K _ k J1.out (by omega) P hl.out).mono ?_; rintro e w' ⟨rfl, rfl⟩)
                        | (go_at_call 19; refine (firstI_as _ n0 dc K _ k J1.out (P + 1) _ (by omega) (by omega) (by omega) (-1) hq.out).mono ?_; rintro e w' ⟨rfl, rfl⟩)
                        | fail)
                      go_ret
                      exact ⟨rfl, HW.out⟩
                  · have hl : Hid (lastE K k = -1) := show lastE K k = -1 by omega
                    have c8 : wBlk K k = false := by unfold wBlk; rw [decide_eq_false hp]; rfl
                    have c9 : wDash K X k = -1 := by unfold wDash; rw [if_neg (fun h => hp h.1)]
                    clear hp KC XC hlb hfb
                    go_wp2_with (first
                      | (go_at_call 17; refine (firstE_as _ n0 dc K _ k J1.out (by omega) (-1) hf.out).mono ?_; rintro e w' ⟨rfl, rfl⟩)
                      | (go_at_call 18; refine (lastE_as _ n0 dc K _ k J1.out (by omega) (-1) hl.out).mono ?_; rintro e w' ⟨rfl, rfl⟩)
                      | fail)
                    go_ret
                    exact ⟨rfl, HW.out⟩
              · obtain rfl : k = 0 := by omega
                have hl : Hid (lastE K 0 = -1) := show lastE K 0 = -1 from rfl
                have hf : Hid (firstE K 0 = -1) := show firstE K 0 = -1 from rfl
                have c7 : wInd K X 0 = -1 := rfl
                have c8 : wBlk K 0 = false := rfl
                have c9 : wDash K X 0 = -1 := rfl
                go_wp2_with (first
                  | (go_at_call 17; refine (firstE_as _ n0 dc K _ 0 J1.out (by omega) (-1) hf.out).mono ?_; rintro e w' ⟨rfl, rfl⟩)
                  | (go_at_call 18; refine (lastE_as _ n0 dc K _ 0 J1.out (by omega) (-1) hl.out).mono ?_; rintro e w' ⟨rfl, rfl⟩)
                  | fail)
                go_ret
                exact ⟨rfl, HW.out⟩
end
end Go.Proofs.Qxb6606439a
