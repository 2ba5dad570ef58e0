import Derived.Test.Qxb6601538aRows
import Derived.Test.Qxb6601538aBase
import Derived.WalkSpells
import Derived.Deep.DeepCutAuto
namespace Go.Proofs.Qxb6601538a
open Go.RowKit
set_option linter.unusedVariables false

/-- The number modulo 2^64. -/
def M (x : Int) : Int := x % 18446744073709551616
/-- The sum of the first m of a row; of the first n rows. -/
def rowSum (f : Nat → Int) : Nat → Int
  | 0 => 0
  | m + 1 => rowSum f m + f m
def allSum (E : Nat → Nat → Int) : Nat → Int
  | 0 => 0
  | n + 1 => allSum E n + rowSum (E n) 1024

/-- 54 pointers to rows: of row r the cells are E r 0, E r 1, ..; where it is nil they count nothing. -/
def RowsAt (w : World) (cs : Array Value) (E : Nat → Nat → Int) : Prop :=
  ∀ r, r < 54 → (cs[r]? = some (.pointer none) ∧ ∀ c, c < 1024 → E r c = 0) ∨ ∃ b o, cs[r]? = some (.pointer (some ⟨b, o, none⟩)) ∧ ∀ c, c < 1024 → w.cell? ⟨b, o + c, none⟩ = some (.int .u64 (E r c))

theorem wrapM (x y : Int) : IntKind.u64.wrap (M x + y) = M (x + y) := by
  have h : ∀ z : Int, IntKind.u64.wrap z = z % 18446744073709551616 := fun z => IntKind.wrap_u64 z
  rw [h]
  unfold M
  omega
theorem rowSum_zero {f : Nat → Int} {n : Nat} (h : ∀ c, c < n → f c = 0) (m : Nat) (hm : m ≤ n) : rowSum f m = 0 := by
  induction m with
  | zero => rfl
  | succ m ih => simp only [rowSum]; rw [ih (by omega), h m (by omega)]; rfl
theorem allSum_nil (E : Nat → Nat → Int) (r : Nat) (h : ∀ c, c < 1024 → E r c = 0) : allSum E (r + 1) = allSum E r := by
  simp only [allSum]
  rw [rowSum_zero h 1024 (Nat.le_refl _), Int.add_zero]

set_option maxHeartbeats 1000000 in
theorem sum_any (cs : Array Value) (E : Nat → Nat → Int) (w : World) (h : RowsAt w cs E) :
    Calls Try.prog 18 #[.agg cs] w fun e w' => e = .returned (.int .u64 (M (allSum E 54))) ∧ Below w.heap.size w w' := by
  have hrow := h
  unfold RowsAt at hrow
  clear h
  go_enter Try.func18, Try.ntmps18
  go_wp2_with fail
  go_loop [3, 4] (fun s i => ∃ r : Nat, r ≤ 54 ∧ i = .int .i64 r ∧ s = .int .u64 (M (allSum E r))) (fun _ i => 54 - (intOf i).toNat)
  case atStart => exact ⟨0, Nat.zero_le _, rfl, rfl⟩
  case round =>
    obtain ⟨r, hr, rfl, rfl⟩ := hrel
    by_cases hlt : r < 54
    · have hi : (r : Int) < 54 := by omega
      rcases hrow r hlt with ⟨hp, hE⟩ | ⟨b, o, hp, hE⟩
      · have HE := hid (show allSum E (r + 1) = allSum E r from allSum_nil E r hE)
        clear hrow hE
        go_wp2_with fail
        go_round
        case rel => exact ⟨r + 1, by omega, by go_num, by rw [HE.out]⟩
        case measure => simp [intOf]; omega
      · have HE := hid hE
        have hb := World.block_lt_of_cell? w _ (hE 0 (by omega))
        simp only at hb
        clear hrow hE
        go_wp2_with fail
        go_loop [3, 5] (fun s i => ∃ c : Nat, c ≤ 1024 ∧ i = .int .i64 c ∧ s = .int .u64 (M (allSum E r + rowSum (E r) c))) (fun _ i => 1024 - (intOf i).toNat)
        case atStart => exact ⟨0, Nat.zero_le _, rfl, by simp [rowSum]⟩
        case round =>
          obtain ⟨c, hc, rfl, rfl⟩ := hrel
          by_cases hct : c < 1024
          · have hci : (c : Int) < 1024 := by omega
            have hx := HE.out c hct
            go_wp2_with fail
            go_round
            case rel => exact ⟨c + 1, by omega, by go_num, by rw [wrapM, Int.add_assoc]; rfl⟩
            case measure => simp [intOf]; omega
          · obtain rfl : c = 1024 := by omega
            go_wp2_with fail
            go_round
            case rel => exact ⟨r + 1, by omega, by go_num, rfl⟩
            case measure => simp [intOf]; omega
    · obtain rfl : r = 54 := by omega
      go_wp2_with fail
      go_ret
      exact ⟨rfl, (Below.refl _ _).alloc (Nat.le_refl _) _⟩

end Go.Proofs.Qxb6601538a
