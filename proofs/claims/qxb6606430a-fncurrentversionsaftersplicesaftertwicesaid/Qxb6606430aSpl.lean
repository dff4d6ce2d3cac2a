/-
  Seat b6606430a: splice (9).
-/
import Derived.Test.Qxb6606430aMark
import Derived.Lib.AppendStr
namespace Go.Proofs.Qxb6606430a
open Go.RowKit

theorem info5 : (Try.prog.info? 5).map (fun i => (i.zero, i.size, i.bytes)) = some (some (.int .u8 0), 1, 1) := by kernel_rfl

/-- Bytes as cells. -/
def cells (l : List UInt8) : List Value := l.map fun b => Value.int .u8 b.toNat
theorem cells_app (a b : List UInt8) : cells (a ++ b) = cells a ++ cells b := by unfold cells; rw [List.map_append]
theorem cells_len (a : List UInt8) : (cells a).length = a.length := by unfold cells; rw [List.length_map]

/-- 'string(out)' of a slice of bytes that the call owns. -/
theorem conv_own {w : World} {base n : Nat} {v : Value} {l : List UInt8} (h : w.ownsRow base 5 1 v n (cells l)) :
    (convert 28 9 v).run Try.prog w = .ok (.string ⟨l.toArray⟩) w := by
  have hl : l.length = n := by have := h.1; rw [cells_len] at this; omega
  rcases h.2 with ⟨rfl, hn⟩ | ⟨g, cap, cur, rfl, hb, hg, hnc, hcm, hcs, htake⟩
  · have hnil : l = [] := List.eq_nil_of_length_eq_zero (by omega)
    subst hnil
    exact run_convert_bytes_nil (P := Try.prog) w 28 5 Try.underlying28 Try.underlying5 0 0 9 Try.underlying9
  · have hc := h.cells (g := g) rfl
    have := run_convert_bytes_arg (P := Try.prog) w 28 5 Try.underlying28 Try.underlying5 g 0 n cap (l.map fun b => (b.toNat : Int)) (by simpa using hl) (fun i hi => by
      have e1 : (cells l)[i]? = some (.int .u8 ((l[i]'(by omega)).toNat)) := by simp [cells, List.getElem?_eq_getElem (show i < l.length by omega)]
      have e2 := hc i _ e1
      have hadd : (⟨g, 0, none⟩ : Addr).add i = ⟨g, 0 + i, none⟩ := by unfold Addr.add; split <;> simp_all
      rw [hadd] at e2
      rw [e2]
      simp [List.getD, List.getElem?_eq_getElem (show i < l.length by omega)]) 9 Try.underlying9
    rw [this]
    have hid : ((fun n : Int => UInt8.ofNat n.toNat) ∘ fun b : UInt8 => (b.toNat : Int)) = id := by funext b; simp
    simp [strOfNums, hid]

/-- What splice has gathered when it stands at place k of the template. -/
def sp (t a : List UInt8) (k : Nat) : List UInt8 :=
  if k ≤ 243 then t.take k else if k ≤ 270 then t.take 243 ++ a ++ (t.take k).drop 246 else t.take 243 ++ a ++ (t.take 270).drop 246 ++ a ++ (t.take k).drop 273
theorem take_snoc (t : List UInt8) (k : Nat) (h : k < t.length) : t.take (k + 1) = t.take k ++ [t[k]] := List.take_succ_eq_append_getElem h
theorem sp_step (t a : List UInt8) (k : Nat) (hl : t.length = 287) (hO : Ok k) (hk : k < 287) (h1 : k ≠ 243) (h2 : k ≠ 270) : sp t a (k + 1) = sp t a k ++ [t[k]] := by
  have ht := take_snoc t k (by omega)
  unfold Ok at hO
  unfold sp
  by_cases c1 : k ≤ 243
  · rw [if_pos c1, if_pos (by omega), ht]
  by_cases c2 : k ≤ 270
  · rw [if_neg c1, if_pos c2, if_neg (by omega), if_pos (by omega), ht, List.drop_append_of_le_length (by simp; omega)]
    simp only [List.append_assoc]
  · rw [if_neg c1, if_neg c2, if_neg (by omega), if_neg (by omega), ht, List.drop_append_of_le_length (by simp; omega)]
    simp only [List.append_assoc]
theorem sp_1 (t a : List UInt8) : sp t a 246 = sp t a 243 ++ a := by
  unfold sp
  rw [if_neg (by omega), if_pos (by omega), if_pos (by omega), List.drop_of_length_le (by simp; omega), List.append_nil]
theorem sp_2 (t a : List UInt8) : sp t a 273 = sp t a 270 ++ a := by
  unfold sp
  rw [if_neg (by omega), if_neg (by omega), if_neg (by omega), if_pos (by omega), List.drop_of_length_le (l := t.take 273) (by simp; omega), List.append_nil]
theorem sp_len (t a : List UInt8) (k : Nat) (hl : t.length = 287) : (sp t a k).length ≤ 900 + 2 * a.length := by
  unfold sp
  split
  · simp; omega
  · split
    · simp; omega
    · simp; omega

/-- One byte appended. -/
theorem rel_byte {w wr w1 : World} {v v' : Value} {l : List UInt8} {b : UInt8} (hb : Below w.heap.size w wr) (hown : wr.ownsRow w.heap.size 5 1 v l.length (cells l))
    (o : Obj) (hown' : w1.ownsRow w.heap.size 5 1 v' (l.length + 1) (cells l ++ [.int .u8 b.toNat])) (hg : (wr.alloc o).grownBy w1 v.ownBlock) :
    w1.ownsRow w.heap.size 5 1 v' (l ++ [b]).length (cells (l ++ [b])) ∧ Below w.heap.size w w1 := by
  refine ⟨by rw [cells_app, List.length_append]; exact hown', ?_⟩
  refine (hb.alloc hb.size o).grown hg (by have := hb.size; simp; omega) fun k hk => (hown.lt k hk).1
/-- A string appended. -/
theorem rel_str {w wr w1 : World} {v v' : Value} {l : List UInt8} {s : ByteArray} (hb : Below w.heap.size w wr) (hown : wr.ownsRow w.heap.size 5 1 v l.length (cells l))
    (hown' : w1.ownsRow w.heap.size 5 1 v' (l.length + s.size) (cells l ++ Lib.strCells s)) (hg : wr.grownBy w1 v.ownBlock) :
    w1.ownsRow w.heap.size 5 1 v' (l ++ s.data.toList).length (cells (l ++ s.data.toList)) ∧ Below w.heap.size w w1 := by
  refine ⟨by rw [cells_app, List.length_append, Array.length_toList]; exact hown', ?_⟩
  exact hb.grown hg hb.size fun k hk => (hown.lt k hk).1

set_option maxHeartbeats 800000 in
theorem splice_any (t a : ByteArray) (H : Tmpl t) (ha : a.size ≤ 65536) (w : World) :
    Calls Try.prog 9 #[.string t, .string a, .string { data := #[] }, .string { data := #[] }, .string { data := #[] }, .string { data := #[] }] w
      fun e w' => e = .returned (.string ⟨(sp t.data.toList a.data.toList 287).toArray⟩) ∧ Below w.heap.size w w' := by
  obtain ⟨i0, hi, hz0, hz1, hz2⟩ := info_parts info5
  have hz3 : t.size ≤ 287 := by rw [H.size]; omega
  have hz4 : 287 ≤ t.size := by rw [H.size]; omega
  have hl : Hid (t.data.toList.length = 287) := by rw [Array.length_toList]; exact H.size
  have hal : Hid (a.data.toList.length = a.size) := Array.length_toList
  go_enter Try.func9, Try.ntmps9
  go_wp2
  go_loopw [13, 14] (fun v i wr => ∃ k : Nat, Ok k ∧ i = .int .i64 k ∧ wr.ownsRow w.heap.size 5 1 v (sp t.data.toList a.data.toList k).length (cells (sp t.data.toList a.data.toList k)) ∧ Below w.heap.size w wr) (fun _ i _ => 287 - (intOf i).toNat)
  case atStart => exact ⟨0, by unfold Ok; omega, rfl, World.ownsRow_nil _ _ _ _, Below.refl _ _⟩
  case round =>
    obtain ⟨k, hO, rfl, hown, hb⟩ := hrel
    have hsl := sp_len t.data.toList a.data.toList k hl.out
    rw [hal.out] at hsl
    by_cases hk : k < 287
    · by_cases h1 : k = 243
      · subst h1
        have hsp := sp_1 t.data.toList a.data.toList
        have HS : Hid (sp t.data.toList a.data.toList 246 = sp t.data.toList a.data.toList 243 ++ a.data.toList) := hsp
        clear hsp
        go_wp2_with (first
          | (go_at_call 15; refine (mk_1 t H _).mono ?_; rintro e w' ⟨rfl, rfl⟩)
          | (at_builtin; refine Lib.wpList_append_own_string _ rfl _ _ 28 9 rfl w.heap.size 5 i0 Try.underlying28 Try.underlying9 hi hz0 hz1 hz2 _ _ _ rfl hown a rfl ?c1 ?c2 ?c3 ?_))
        case c1 => unfold maxLen; omega
        case c2 => omega
        case c3 => exact hb.size
        intro v' w1 hown' hgrow _
        have R := rel_str hb hown hown' hgrow
        rw [← HS.out] at R
        clear hown' hgrow hown hb
        go_wp2
        go_roundw
        case rel => exact ⟨246, by unfold Ok; omega, by go_num, R.1, R.2⟩
        case measure => simp [intOf]
      by_cases h2 : k = 270
      · subst h2
        have hsp := sp_2 t.data.toList a.data.toList
        have HS : Hid (sp t.data.toList a.data.toList 273 = sp t.data.toList a.data.toList 270 ++ a.data.toList) := hsp
        clear hsp
        go_wp2_with (first
          | (go_at_call 15; refine (mk_2 t H _).mono ?_; rintro e w' ⟨rfl, rfl⟩)
          | (at_builtin; refine Lib.wpList_append_own_string _ rfl _ _ 28 9 rfl w.heap.size 5 i0 Try.underlying28 Try.underlying9 hi hz0 hz1 hz2 _ _ _ rfl hown a rfl ?c1 ?c2 ?c3 ?_))
        case c1 => unfold maxLen; omega
        case c2 => omega
        case c3 => exact hb.size
        intro v' w1 hown' hgrow _
        have R := rel_str hb hown hown' hgrow
        rw [← HS.out] at R
        clear hown' hgrow hown hb
        go_wp2
        go_roundw
        case rel => exact ⟨273, by unfold Ok; omega, by go_num, R.1, R.2⟩
        case measure => simp [intOf]
      have hkt : k < t.size := by omega
      have HS : Hid (sp t.data.toList a.data.toList (k + 1) = sp t.data.toList a.data.toList k ++ [t[k]]) := sp_step t.data.toList a.data.toList k hl.out hO hk h1 h2
      go_wp2_with (first
        | (go_at_call 15; refine (mk_0 t H k _ hO hk h1 h2).mono ?_; rintro e w' ⟨rfl, rfl⟩)
        | (at_builtin; refine wpList_append_own _ rfl _ _ 28 rfl w.heap.size 5 i0 (.int .u8 0) 1 1 Try.underlying28 hi hz0 hz1 hz2 rfl (by decide) _ _ _ rfl (hown.alloc _) ⟨_, 0, none⟩ 1 1 [.int .u8 (t[k].toNat)] rfl rfl ?c1 ?c2 ?c3 ?c4 ?c5 ?_))
      case c1 =>
        intro j u hj
        match j, hj with
        | 0, hj => simp at hj; subst hj; simp [Addr.add]
      case c2 => intro u hu; simp at hu; subst hu; rfl
      case c3 => unfold maxLen; omega
      case c4 => omega
      case c5 => have := hb.size; simp; omega
      intro v' w1 hown' hgrow _
      have R := rel_byte hb hown _ hown' hgrow
      rw [← HS.out] at R
      clear hown' hgrow hown hb
      go_wp2
      go_roundw
      case rel => exact ⟨k + 1, by unfold Ok at *; omega, by go_num, R.1, R.2⟩
      case measure => simp [intOf]; omega
    · obtain rfl : k = 287 := by unfold Ok at hO; omega
      have hcv := conv_own hown
      go_wp2
      go_ret
      exact ⟨rfl, hb⟩
end Go.Proofs.Qxb6606430a
