/-
  Seat b6606423a: zzIndexByte, and the walk of FnAddressStringParsesBack.
-/
import Derived.Test.Qxb6606423aExt
namespace Go.Proofs.Qxb6606423a
open Go.RowKit

/-- Byte c stands nowhere in s. -/
def NoB (s : ByteArray) (c : Int) : Prop := ∀ i (h : i < s.size), ((s[i].toNat : Int) == c) = false
/-- Byte c stands in s first at k. -/
def AtB (s : ByteArray) (c : Int) (k : Nat) : Prop := ∃ h : k < s.size, ((s[k].toNat : Int) == c) = true ∧ ∀ i (_ : i < k), ((s[i].toNat : Int) == c) = false

set_option maxHeartbeats 400000 in
theorem ib_none (s : ByteArray) (c : Int) (w : World) (hs : s.size ≤ maxLen) (hn : NoB s c) :
    Calls Try.prog 7 #[.string s, .int .u8 c] w fun e w' => e = .returned (.int .i64 (-1)) ∧ w' = w := by
  unfold maxLen at hs
  go_enter Try.func7, Try.ntmps7
  go_wp2
  go_loop [5] (fun i => ∃ k : Nat, k ≤ s.size ∧ i = .int .i64 k) (fun i => s.size - (intOf i).toNat)
  case atStart => exact ⟨0, Nat.zero_le _, rfl⟩
  case round =>
    obtain ⟨k, hk, rfl⟩ := hrel
    by_cases hlt : k < s.size
    · have h1 := hn k hlt
      go_wp2
      go_round
      case rel => exact ⟨k + 1, by omega, by go_num⟩
      case measure => simp [intOf]; omega
    · go_wp2
      go_ret
      exact ⟨rfl, rfl⟩

set_option maxHeartbeats 400000 in
theorem ib_at (s : ByteArray) (c : Int) (j : Nat) (w : World) (hs : s.size ≤ maxLen) (ha : AtB s c j) :
    Calls Try.prog 7 #[.string s, .int .u8 c] w fun e w' => e = .returned (.int .i64 j) ∧ w' = w := by
  unfold maxLen at hs
  obtain ⟨hj, hc, hb⟩ := ha
  have HB : Hid (∀ i (_ : i < j), ((s[i].toNat : Int) == c) = false) := hb
  have HC : Hid (((s[j].toNat : Int) == c) = true) := hc
  clear hb hc
  go_enter Try.func7, Try.ntmps7
  go_wp2
  go_loop [5] (fun i => ∃ k : Nat, k ≤ j ∧ i = .int .i64 k) (fun i => s.size - (intOf i).toNat)
  case atStart => exact ⟨0, Nat.zero_le _, rfl⟩
  case round =>
    obtain ⟨k, hk, rfl⟩ := hrel
    have hlt : k < s.size := by omega
    by_cases hkj : k < j
    · have h1 := HB.out k hkj
      go_wp2
      go_round
      case rel => exact ⟨k + 1, by omega, by go_num⟩
      case measure => simp [intOf]; omega
    · obtain rfl : k = j := by omega
      have h1 := HC.out
      go_wp2
      go_ret
      exact ⟨rfl, rfl⟩

theorem sz (s : ByteArray) (h : s.size ≤ 4194304) : s.size ≤ maxLen := by unfold maxLen; omega

/-- The guard of the law. -/
theorem back_no (a0 a1 a2 : ByteArray) (w0 : a0.size ≤ maxLen) (w1 : a1.size ≤ maxLen) (w2 : a2.size ≤ maxLen) (hn : 1048576 < a0.size + a1.size + a2.size) (w : World) :
    Calls Try.prog 3 #[.string a0, .string a1, .string a2] w fun e w' => e = .returned (.bool true) ∧ Grown w w' := by
  unfold maxLen at w0 w1 w2
  go_enter Try.func3, Try.ntmps3
  go_wp2
  all_goals
    go_ret
    exact ⟨rfl, Grown.refl _⟩

set_option maxHeartbeats 400000 in
theorem back_a (a0 a1 a2 : ByteArray) (hy : a0.size + a1.size + a2.size ≤ 1048576) (k : Nat) (h : AtB a0 47 k) (w : World) :
    Calls Try.prog 3 #[.string a0, .string a1, .string a2] w fun e w' => e = .returned (.bool true) ∧ Grown w w' := by
  go_enter Try.func3, Try.ntmps3
  go_wp2_with (first
    | (go_at_call 7; refine (ib_at _ _ k _ (sz _ (by omega)) (by assumption)).mono ?_; rintro e w' ⟨rfl, rfl⟩)
    | go_in)
  go_ret
  exact ⟨rfl, Grown.refl _⟩

set_option maxHeartbeats 400000 in
theorem back_b (a0 a1 a2 : ByteArray) (hy : a0.size + a1.size + a2.size ≤ 1048576) (k : Nat) (h0 : NoB a0 47) (h : AtB a1 47 k) (w : World) :
    Calls Try.prog 3 #[.string a0, .string a1, .string a2] w fun e w' => e = .returned (.bool true) ∧ Grown w w' := by
  go_enter Try.func3, Try.ntmps3
  go_wp2_with fail
  go_wp2_with (first
    | (go_at_call 7; refine (ib_none _ _ _ (sz _ (by omega)) (by assumption)).mono ?_; rintro e w' ⟨rfl, rfl⟩)
    | (go_at_call 7; refine (ib_at _ _ k _ (sz _ (by omega)) (by assumption)).mono ?_; rintro e w' ⟨rfl, rfl⟩)
    | go_in)
  go_ret
  exact ⟨rfl, Grown.refl _⟩
end Go.Proofs.Qxb6606423a
