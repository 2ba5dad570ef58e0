/-
  The small functions: the bounds.
-/
import Derived.Test.Qxb6601932aHeld
namespace Go.Proofs.Qxb6601932a
open Go.RowKit
set_option linter.unusedVariables false
set_option linter.unusedSimpArgs false

/-- A slice of holdings. -/
def Holds (w : World) (a : Option Addr) (n : Nat) (sc : Nat → ByteArray × ByteArray) : Prop :=
  n = 0 ∨ ∃ b o, a = some ⟨b, o, none⟩ ∧ ∀ i, i < n → w.cell? ⟨b, o + i * 2, none⟩ = some (.string (sc i).1) ∧ w.cell? ⟨b, o + i * 2 + 1, none⟩ = some (.string (sc i).2)

theorem Holds.kept {S : Nat → Prop} {w w' : World} {a : Option Addr} {n : Nat} {sc : Nat → ByteArray × ByteArray} (h : Holds w a n sc) (k : Kept S w w') (hs : ∀ b o, a = some ⟨b, o, none⟩ → 0 < n → ¬ S b) : Holds w' a n sc := by
  rcases h with h | ⟨b, o, e, h⟩
  · exact .inl h
  · refine .inr ⟨b, o, e, fun i hi => ?_⟩
    obtain ⟨h1, h2⟩ := h i hi
    have hlt := World.block_lt_of_cell? w _ h1
    have hn := hs b o e (by omega)
    exact ⟨(k.cell (p := ⟨b, o + i * 2, none⟩) hlt hn).trans h1, (k.cell (p := ⟨b, o + i * 2 + 1, none⟩) hlt hn).trans h2⟩

/-- It returns a bool. -/
def FitB (l : Nat) (sc : Nat → ByteArray × ByteArray) (e : Ending) : Prop := ∃ r : Bool, e = .returned (.bool r) ∧ (r = true → ∀ i, i < l → (sc i).1.size ≤ 1048576 ∧ (sc i).2.size ≤ 1048576)
def IsB (e : Ending) : Prop := ∃ b : Bool, e = .returned (.bool b)

set_option maxHeartbeats 2000000 in
theorem bytes5 (a : Option Addr) (l c : Nat) (sc : Nat → ByteArray × ByteArray) (w : World) (hl : l ≤ maxLen) (hr : Holds w a l sc) (hs : ∀ i, i < l → (sc i).1.size ≤ maxLen ∧ (sc i).2.size ≤ maxLen) :
    Calls Try.prog 5 #[.slice a l c] w fun e w' => IsB e ∧ w' = w := by
  unfold maxLen at hl hs
  have HR := hid hr
  clear hr
  by_cases h1 : 1048576 < l
  · go_enter Try.func5, Try.ntmps5
    go_wp2_with fail
    go_ret
    exact ⟨⟨_, rfl⟩, rfl⟩
  · go_enter Try.func5, Try.ntmps5
    go_wp2_with fail
    go_loop [3, 4] (fun t i => ∃ j m : Nat, j ≤ l ∧ i = .int .i64 j ∧ t = .int .i64 m ∧ m ≤ 1048576) (fun _ i => l - (intOf i).toNat)
    case atStart => exact ⟨0, l, by omega, rfl, by go_num, by omega⟩
    case round =>
      obtain ⟨j, m, hj, rfl, rfl, hm⟩ := hrel
      by_cases hlt : j < l
      · obtain ⟨b, o, ha, q⟩ := HR.out.resolve_left (by omega)
        subst ha
        obtain ⟨sj, tj, hsj⟩ : ∃ x y, sc j = (x, y) := ⟨_, _, rfl⟩
        have q1 : w.cell? ⟨b, o + j * 2, none⟩ = some (.string sj) := by have := (q j hlt).1; rw [hsj] at this; exact this
        have q2 : w.cell? ⟨b, o + j * 2 + 1, none⟩ = some (.string tj) := by have := (q j hlt).2; rw [hsj] at this; exact this
        have q3 : sj.size ≤ 2 ^ 63 - 1 := by have := (hs j hlt).1; rw [hsj] at this; exact this
        have q4 : tj.size ≤ 2 ^ 63 - 1 := by have := (hs j hlt).2; rw [hsj] at this; exact this
        clear hs q hsj
        by_cases g1 : 1048576 < sj.size
        · go_wp2_with fail
          go_ret
          exact ⟨⟨_, rfl⟩, rfl⟩
        · by_cases g2 : 1048576 < m + sj.size
          · go_wp2_with fail
            go_ret
            exact ⟨⟨_, rfl⟩, rfl⟩
          · by_cases g3 : 1048576 < tj.size
            · go_wp2_with fail
              go_ret
              exact ⟨⟨_, rfl⟩, rfl⟩
            · by_cases g4 : 1048576 < m + sj.size + tj.size
              · go_wp2_with fail
                go_ret
                exact ⟨⟨_, rfl⟩, rfl⟩
              · go_wp2_with fail
                go_round
                case rel => exact ⟨j + 1, m + sj.size + tj.size, by omega, by go_num, by go_num, by omega⟩
                case measure => simp [intOf]; omega
      · go_wp2_with fail
        all_goals go_ret
        all_goals exact ⟨⟨_, rfl⟩, rfl⟩

set_option maxHeartbeats 2000000 in
theorem bytes12 (a : Option Addr) (l c : Nat) (sc : Nat → ByteArray × ByteArray) (w : World) (hl : l ≤ maxLen) (hr : Holds w a l sc) (hs : ∀ i, i < l → (sc i).1.size ≤ maxLen ∧ (sc i).2.size ≤ maxLen) :
    Calls Try.prog 12 #[.slice a l c] w fun e w' => IsB e ∧ w' = w := by
  unfold maxLen at hl hs
  have HR := hid hr
  clear hr
  by_cases h1 : 1048576 < l
  · go_enter Try.func12, Try.ntmps12
    go_wp2_with fail
    go_ret
    exact ⟨⟨_, rfl⟩, rfl⟩
  · go_enter Try.func12, Try.ntmps12
    go_wp2_with fail
    go_loop [3, 4] (fun t i => ∃ j m : Nat, j ≤ l ∧ i = .int .i64 j ∧ t = .int .i64 m ∧ m ≤ 1048576) (fun _ i => l - (intOf i).toNat)
    case atStart => exact ⟨0, l, by omega, rfl, by go_num, by omega⟩
    case round =>
      obtain ⟨j, m, hj, rfl, rfl, hm⟩ := hrel
      by_cases hlt : j < l
      · obtain ⟨b, o, ha, q⟩ := HR.out.resolve_left (by omega)
        subst ha
        obtain ⟨sj, tj, hsj⟩ : ∃ x y, sc j = (x, y) := ⟨_, _, rfl⟩
        have q1 : w.cell? ⟨b, o + j * 2, none⟩ = some (.string sj) := by have := (q j hlt).1; rw [hsj] at this; exact this
        have q2 : w.cell? ⟨b, o + j * 2 + 1, none⟩ = some (.string tj) := by have := (q j hlt).2; rw [hsj] at this; exact this
        have q3 : sj.size ≤ 2 ^ 63 - 1 := by have := (hs j hlt).1; rw [hsj] at this; exact this
        have q4 : tj.size ≤ 2 ^ 63 - 1 := by have := (hs j hlt).2; rw [hsj] at this; exact this
        clear hs q hsj
        by_cases g1 : 1048576 < sj.size
        · go_wp2_with fail
          go_ret
          exact ⟨⟨_, rfl⟩, rfl⟩
        · by_cases g2 : 1048576 < m + sj.size
          · go_wp2_with fail
            go_ret
            exact ⟨⟨_, rfl⟩, rfl⟩
          · by_cases g3 : 1048576 < tj.size
            · go_wp2_with fail
              go_ret
              exact ⟨⟨_, rfl⟩, rfl⟩
            · by_cases g4 : 1048576 < m + sj.size + tj.size
              · go_wp2_with fail
                go_ret
                exact ⟨⟨_, rfl⟩, rfl⟩
              · go_wp2_with fail
                go_round
                case rel => exact ⟨j + 1, m + sj.size + tj.size, by omega, by go_num, by go_num, by omega⟩
                case measure => simp [intOf]; omega
      · go_wp2_with fail
        all_goals go_ret
        all_goals exact ⟨⟨_, rfl⟩, rfl⟩

set_option maxHeartbeats 2000000 in
theorem fits6 (a : Option Addr) (l c : Nat) (sc : Nat → ByteArray × ByteArray) (w : World) (hl : l ≤ maxLen) (hr : Holds w a l sc) (hs : ∀ i, i < l → (sc i).1.size ≤ maxLen ∧ (sc i).2.size ≤ maxLen) :
    Calls Try.prog 6 #[.slice a l c] w fun e w' => FitB l sc e ∧ w' = w := by
  unfold maxLen at hl hs
  have HR := hid hr
  have HS := hid hs
  clear hr hs
  by_cases h1 : 4096 < l
  · go_enter Try.func6, Try.ntmps6
    go_wp2_with fail
    go_ret
    exact ⟨⟨false, rfl, fun h => by cases h⟩, rfl⟩
  · go_enter Try.func6, Try.ntmps6
    go_wp2_with fail
    go_loop [3, 4, 5, 6] (fun t i _ _ => ∃ j m : Nat, j ≤ l ∧ i = .int .i64 j ∧ t = .int .i64 m ∧ m ≤ 1048576 ∧ ∀ k, k < j → (sc k).1.size ≤ 1048576 ∧ (sc k).2.size ≤ 1048576) (fun _ i _ _ => l - (intOf i).toNat)
    case atStart => exact ⟨0, 32 * l, by omega, rfl, by go_num, by omega, fun k hk => by omega⟩
    case round =>
      obtain ⟨j, m, hj, rfl, rfl, hm, hk⟩ := hrel
      have HK := hid hk
      clear hk
      by_cases hlt : j < l
      · obtain ⟨b, o, ha, q⟩ := HR.out.resolve_left (by omega)
        subst ha
        obtain ⟨sj, tj, hsj⟩ : ∃ x y, sc j = (x, y) := ⟨_, _, rfl⟩
        have q1 : w.cell? ⟨b, o + j * 2, none⟩ = some (.string sj) := by have := (q j hlt).1; rw [hsj] at this; exact this
        have q2 : w.cell? ⟨b, o + j * 2 + 1, none⟩ = some (.string tj) := by have := (q j hlt).2; rw [hsj] at this; exact this
        have q3 : sj.size ≤ 2 ^ 63 - 1 := by have := (HS.out j hlt).1; rw [hsj] at this; exact this
        have q4 : tj.size ≤ 2 ^ 63 - 1 := by have := (HS.out j hlt).2; rw [hsj] at this; exact this
        have HSJ := hid hsj
        clear q hsj
        by_cases g1 : (1048576 : Int) - m < sj.size
        · go_wp2_with fail
          go_ret
          exact ⟨⟨false, rfl, fun h => by cases h⟩, rfl⟩
        · by_cases g2 : (1048576 : Int) - (m + sj.size) < tj.size
          · go_wp2_with fail
            go_ret
            exact ⟨⟨false, rfl, fun h => by cases h⟩, rfl⟩
          · go_wp2_with fail
            go_round
            case rel => exact ⟨j + 1, m + sj.size + tj.size, by omega, by go_num, by go_num, by omega, fun k hk => by
              by_cases e : k = j
              · subst e; rw [HSJ.out]; exact ⟨by show sj.size ≤ _; omega, by show tj.size ≤ _; omega⟩
              · exact HK.out k (by omega)⟩
            case measure => simp [intOf]; omega
      · obtain rfl : j = l := by omega
        go_wp2_with fail
        all_goals go_ret
        all_goals exact ⟨⟨true, rfl, fun _ => HK.out⟩, rfl⟩

end Go.Proofs.Qxb6601932a
