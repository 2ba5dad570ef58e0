import Derived.Test.Qxb6601898aAcc
namespace Go.Proofs.Qxb6601898a
open Go.RowKit
set_option linter.unusedVariables false
set_option linter.unusedSimpArgs false

/-- A slice of strings that came in. -/
def SReads (w : World) (a : Option Addr) (n : Nat) (s : Nat → ByteArray) : Prop := VReads w a n (fun i => .string (s i))

/-- It returns a bool. -/
def IsB (e : Ending) : Prop := ∃ b : Bool, e = .returned (.bool b)

set_option maxHeartbeats 1000000 in
theorem fit12 (a : Option Addr) (l c : Nat) (s : Nat → ByteArray) (w : World) (hl : l ≤ maxLen) (hr : SReads w a l s) (hs : ∀ i, i < l → (s i).size ≤ maxLen) :
    Calls Try.prog 12 #[.slice a l c] w fun e w' => IsB e ∧ w' = w := by
  unfold maxLen at hl hs
  have HR := hid hr
  clear hr
  by_cases h1 : 32768 < l
  · go_enter Try.func12, Try.ntmps12
    go_wp2_with fail
    go_ret
    exact ⟨⟨_, rfl⟩, rfl⟩
  · go_enter Try.func12, Try.ntmps12
    go_wp2_with fail
    go_loop [3, 4] (fun t i => ∃ j m : Nat, j ≤ l ∧ i = .int .i64 j ∧ t = .int .i64 m ∧ m ≤ 524288) (fun _ i => l - (intOf i).toNat)
    case atStart => exact ⟨0, 16 * l, by omega, rfl, by go_num, by omega⟩
    case round =>
      obtain ⟨j, m, hj, rfl, rfl, hm⟩ := hrel
      by_cases hlt : j < l
      · obtain ⟨b, o, ha, q⟩ := HR.out.resolve_left (by omega)
        subst ha
        obtain ⟨sj, hsj⟩ : ∃ x, s j = x := ⟨_, rfl⟩
        have q1 : w.cell? ⟨b, o + j, none⟩ = some (.string sj) := by rw [← hsj]; exact q j hlt
        have q2 : sj.size ≤ 2 ^ 63 - 1 := by rw [← hsj]; exact hs j hlt
        clear hs q hsj
        by_cases g1 : 524288 < sj.size
        · go_wp2_with fail
          go_ret
          exact ⟨⟨_, rfl⟩, rfl⟩
        · by_cases g2 : 524288 < m + sj.size
          · go_wp2_with fail
            go_ret
            exact ⟨⟨_, rfl⟩, rfl⟩
          · go_wp2_with fail
            go_round
            case rel => exact ⟨j + 1, m + sj.size, by omega, by go_num, by go_num, by omega⟩
            case measure => simp [intOf]; omega
      · go_wp2_with fail
        go_ret
        exact ⟨⟨_, rfl⟩, rfl⟩

set_option maxHeartbeats 2000000 in
theorem bytes16 (a a1 a2 : Option Addr) (l c l1 c1 l2 c2 : Nat) (s : Nat → ByteArray) (w : World) (hl : l ≤ maxLen) (hl1 : l1 ≤ maxLen) (hl2 : l2 ≤ maxLen) (hr : SReads w a l s) (hs : ∀ i, i < l → (s i).size ≤ maxLen) :
    Calls Try.prog 16 #[.slice a l c, .slice a1 l1 c1, .slice a2 l2 c2] w fun e w' => IsB e ∧ w' = w := by
  unfold maxLen at hl hl1 hl2 hs
  have HR := hid hr
  clear hr
  by_cases h1 : 1048576 < l
  · go_enter Try.func16, Try.ntmps16
    go_wp2_with fail
    go_ret
    exact ⟨⟨_, rfl⟩, rfl⟩
  · go_enter Try.func16, Try.ntmps16
    go_wp2_with fail
    go_loop [7, 8] (fun t i => ∃ j m : Nat, j ≤ l ∧ i = .int .i64 j ∧ t = .int .i64 m ∧ m ≤ 1048576) (fun _ i => l - (intOf i).toNat)
    case atStart => exact ⟨0, l, by omega, rfl, by go_num, by omega⟩
    case round =>
      obtain ⟨j, m, hj, rfl, rfl, hm⟩ := hrel
      by_cases hlt : j < l
      · obtain ⟨b, o, ha, q⟩ := HR.out.resolve_left (by omega)
        subst ha
        obtain ⟨sj, hsj⟩ : ∃ x, s j = x := ⟨_, rfl⟩
        have q1 : w.cell? ⟨b, o + j, none⟩ = some (.string sj) := by rw [← hsj]; exact q j hlt
        have q2 : sj.size ≤ 2 ^ 63 - 1 := by rw [← hsj]; exact hs j hlt
        clear hs q hsj
        by_cases g1 : 1048576 < sj.size
        · go_wp2_with fail
          go_ret
          exact ⟨⟨_, rfl⟩, rfl⟩
        · by_cases g2 : 1048576 < m + sj.size
          · go_wp2_with fail
            go_ret
            exact ⟨⟨_, rfl⟩, rfl⟩
          · go_wp2_with fail
            go_round
            case rel => exact ⟨j + 1, m + sj.size, by omega, by go_num, by go_num, by omega⟩
            case measure => simp [intOf]; omega
      · go_wp2_with fail
        all_goals go_ret
        all_goals exact ⟨⟨_, rfl⟩, rfl⟩

end Go.Proofs.Qxb6601898a
