/-
  Seat b6606429a: the contracts of Within (6), zzFitsWithIndex (7), zzIndexOf (8), and the two laws' walks.
-/
import Derived.Test.Qxb6606429aRows
import Derived.WalkKit
import Derived.ProofKit
import Derived.WalkSpells
namespace Go.Proofs.Qxb6606429a
open Go.RowKit

/-- What Within answers. -/
def wth (n : Int) : Int := n / 513 * 512 + (if 1 ≤ n % 513 then n % 513 - 1 else 0)
/-- What zzIndexOf answers. -/
def idx (m : Int) : Int := m / 512 + (if m % 512 = 0 then 0 else 1)

theorem ret_int {k : IntKind} {a b : Int} (h : a = b) : Ending.returned (.int k a) = .returned (.int k b) := by rw [h]

theorem within_any (n : Int) (w : World) (h0 : 0 ≤ n) (h1 : n ≤ 9223372036854775807) :
    Calls Try.prog 6 #[.int .i64 n] w fun e w' => e = .returned (.int .i64 (wth n)) ∧ w' = w := by
  go_enter Try.func6, Try.ntmps6
  go_wp2
  all_goals
    go_ret
    refine ⟨ret_int ?_, rfl⟩
    unfold wth
    split <;> omega
theorem index_any (n : Int) (w : World) (h0 : 0 ≤ n) (h1 : n ≤ 9223372036854775807) :
    Calls Try.prog 8 #[.int .i64 n] w fun e w' => e = .returned (.int .i64 (idx n)) ∧ w' = w := by
  go_enter Try.func8, Try.ntmps8
  go_wp2
  all_goals
    go_ret
    refine ⟨ret_int ?_, rfl⟩
    unfold idx
    split <;> simp_all

/-! ### The plain law -/
theorem idx_bd (m : Int) (h : 0 ≤ m) (h1 : m ≤ 9223372036854775807) : 0 ≤ idx m ∧ idx m ≤ 18014398509481985 := by unfold idx; split <;> omega
theorem wth_bd (n : Int) (h : 0 ≤ n) (h1 : n ≤ 9223372036854775807) : 0 ≤ wth n ∧ wth n ≤ 9223372036854775806 := by unfold wth; split <;> omega
theorem wth_fits (n : Int) (_h : 0 ≤ n) : wth n + idx (wth n) ≤ n := by unfold idx wth; split <;> split <;> omega
theorem wth_most (n : Int) (_h : 0 ≤ n) : n < wth n + 1 + idx (wth n + 1) := by unfold idx wth; split <;> split <;> omega
theorem wth_back (m : Int) (_h : 0 ≤ m) : wth (m + idx m) = m := by unfold idx wth; split <;> split <;> omega
theorem sum_bd (m : Int) (h : 0 ≤ m) (h1 : m ≤ 9205392754131861504) : 0 ≤ m + idx m ∧ m + idx m ≤ 9223372036854775807 := by unfold idx; split <;> omega

/-! ### zzFitsWithIndex -/
theorem fits_yes (m n : Int) (w : World) (h0 : 0 ≤ m) (h1 : m ≤ 9223372036854775807) (h2 : 0 ≤ n) (h3 : n ≤ 9223372036854775807) (hf : m + idx m ≤ n) :
    Calls Try.prog 7 #[.int .i64 m, .int .i64 n] w fun e w' => e = .returned (.bool true) ∧ w' = w := by
  obtain ⟨b0, b1⟩ := idx_bd m h0 h1
  go_enter Try.func7, Try.ntmps7
  go_wp2_with (go_at_call 8; refine (index_any _ _ (by omega) (by omega)).mono ?_; rintro e w' ⟨rfl, rfl⟩)
  go_ret
  refine ⟨?_, rfl⟩
  show Ending.returned (.bool (decide (m ≤ n - idx m))) = _
  rw [decide_eq_true (by omega)]
theorem fits_no (m n : Int) (w : World) (h0 : 0 ≤ m) (h1 : m ≤ 9223372036854775807) (h2 : 0 ≤ n) (h3 : n ≤ 9223372036854775807) (hf : n < m + idx m) :
    Calls Try.prog 7 #[.int .i64 m, .int .i64 n] w fun e w' => e = .returned (.bool false) ∧ w' = w := by
  obtain ⟨b0, b1⟩ := idx_bd m h0 h1
  go_enter Try.func7, Try.ntmps7
  go_wp2_with (go_at_call 8; refine (index_any _ _ (by omega) (by omega)).mono ?_; rintro e w' ⟨rfl, rfl⟩)
  go_ret
  refine ⟨?_, rfl⟩
  show Ending.returned (.bool (decide (m ≤ n - idx m))) = _
  rw [decide_eq_false (by omega)]

/-! ### The laws -/
theorem inverts_walk (a0 : Int) (w : World) :
    Calls Try.prog 4 #[.int .i64 a0] w fun e w' => e = .returned (.bool true) ∧ Grown w w' := by
  by_cases hn : a0 < 0
  · go_enter Try.func4, Try.ntmps4
    go_wp2
    go_ret
    exact ⟨rfl, Grown.refl _⟩
  by_cases hm : 9205392754131861504 < a0
  · go_enter Try.func4, Try.ntmps4
    go_wp2
    go_ret
    exact ⟨rfl, Grown.refl _⟩
  obtain ⟨s0, s1⟩ := sum_bd a0 (by omega) (by omega)
  have hb : (wth (a0 + idx a0) == a0) = true := by rw [wth_back a0 (by omega)]; simp
  go_enter Try.func4, Try.ntmps4
  go_wp2_with (first
    | (go_at_call 8; refine (index_any _ _ (by omega) (by omega)).mono ?_; rintro e w' ⟨rfl, rfl⟩)
    | (go_at_call 6; refine (within_any _ _ (by omega) (by omega)).mono ?_; rintro e w' ⟨rfl, rfl⟩))
  go_ret
  exact ⟨rfl, Grown.refl _⟩

theorem largest_walk (a0 : Int) (w0 : (Lit.int .i64 a0).wf = true) (w : World) :
    Calls Try.prog 3 #[.int .i64 a0] w fun e w' => e = .returned (.bool true) ∧ Grown w w' := by
  by_cases hn : a0 < 0
  · go_enter Try.func3, Try.ntmps3
    go_wp2
    go_ret
    exact ⟨rfl, Grown.refl _⟩
  have h1 : a0 ≤ 9223372036854775807 := by simp [Lit.wf] at w0; omega
  obtain ⟨b0, b1⟩ := wth_bd a0 (by omega) h1
  have f1 := wth_fits a0 (by omega)
  have f2 := wth_most a0 (by omega)
  go_enter Try.func3, Try.ntmps3
  go_wp2_with (first
    | (go_at_call 6; refine (within_any _ _ (by omega) (by omega)).mono ?_; rintro e w' ⟨rfl, rfl⟩)
    | (go_at_call 7; refine (fits_yes _ _ _ (by omega) (by omega) (by omega) (by omega) (by omega)).mono ?_; rintro e w' ⟨rfl, rfl⟩)
    | (go_at_call 7; refine (fits_no _ _ _ (by omega) (by omega) (by omega) (by omega) (by omega)).mono ?_; rintro e w' ⟨rfl, rfl⟩))
  go_ret
  exact ⟨rfl, Grown.refl _⟩
end Go.Proofs.Qxb6606429a
