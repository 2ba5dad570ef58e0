import Derived.Test.Qxb6600263aCount
import Derived.Test.Qxb6600263aBuild
namespace Go.Proofs.Qxb6600263a
open Go.RowKit
set_option linter.unusedVariables false

def min3 (a b c : Nat) : Nat := min a (min b c)

theorem min3_any (a b c : Nat) (w : World) (ha : a ≤ 1048576) (hb : b ≤ 1048576) (hc : c ≤ 1048576) :
    Calls Try.prog 10 #[.int .i64 a, .int .i64 b, .int .i64 c] w fun e w' => e = .returned (.int .i64 (min3 a b c)) ∧ w' = w := by
  by_cases h1 : b < a
  · by_cases h2 : c < b
    · have H := hid (show min3 a b c = c by unfold min3; omega)
      go_enter Try.func10, Try.ntmps10
      go_wp2
      go_ret
      rw [H.out]
      exact ⟨rfl, rfl⟩
    · have H := hid (show min3 a b c = b by unfold min3; omega)
      go_enter Try.func10, Try.ntmps10
      go_wp2
      go_ret
      rw [H.out]
      exact ⟨rfl, rfl⟩
  · by_cases h2 : c < a
    · have H := hid (show min3 a b c = c by unfold min3; omega)
      go_enter Try.func10, Try.ntmps10
      go_wp2
      go_ret
      rw [H.out]
      exact ⟨rfl, rfl⟩
    · have H := hid (show min3 a b c = a by unfold min3; omega)
      go_enter Try.func10, Try.ntmps10
      go_wp2
      go_ret
      rw [H.out]
      exact ⟨rfl, rfl⟩

theorem bytes15_yes (t k : Int) (a1 a2 : Option Addr) (l1 c1 l2 c2 : Nat) (w : World) (h : l1 + l2 ≤ 1048576) :
    Calls Try.prog 15 #[.int .u32 t, .slice a1 l1 c1, .slice a2 l2 c2, .int .u8 k] w fun e w' => e = .returned (.bool true) ∧ w' = w := by
  go_enter Try.func15, Try.ntmps15
  go_wp2
  go_ret
  exact ⟨rfl, rfl⟩
theorem bytes15_no (t k : Int) (a1 a2 : Option Addr) (l1 c1 l2 c2 : Nat) (w : World) (h : ¬ l1 + l2 ≤ 1048576) (m1 : l1 ≤ maxLen) (m2 : l2 ≤ maxLen) :
    Calls Try.prog 15 #[.int .u32 t, .slice a1 l1 c1, .slice a2 l2 c2, .int .u8 k] w fun e w' => e = .returned (.bool false) ∧ w' = w := by
  unfold maxLen at m1 m2
  go_enter Try.func15, Try.ntmps15
  go_wp2
  all_goals go_ret
  all_goals exact ⟨rfl, rfl⟩

theorem bytes16_yes (a0 a1 a2 : Option Addr) (l0 c0 l1 c1 l2 c2 : Nat) (w : World) (h : l0 + l1 + l2 ≤ 1048576) :
    Calls Try.prog 16 #[.slice a0 l0 c0, .slice a1 l1 c1, .slice a2 l2 c2] w fun e w' => e = .returned (.bool true) ∧ w' = w := by
  go_enter Try.func16, Try.ntmps16
  go_wp2
  go_ret
  exact ⟨rfl, rfl⟩
theorem bytes16_no (a0 a1 a2 : Option Addr) (l0 c0 l1 c1 l2 c2 : Nat) (w : World) (h : ¬ l0 + l1 + l2 ≤ 1048576) (m0 : l0 ≤ maxLen) (m1 : l1 ≤ maxLen) (m2 : l2 ≤ maxLen) :
    Calls Try.prog 16 #[.slice a0 l0 c0, .slice a1 l1 c1, .slice a2 l2 c2] w fun e w' => e = .returned (.bool false) ∧ w' = w := by
  unfold maxLen at m0 m1 m2
  go_enter Try.func16, Try.ntmps16
  go_wp2
  all_goals go_ret
  all_goals exact ⟨rfl, rfl⟩
end Go.Proofs.Qxb6600263a
