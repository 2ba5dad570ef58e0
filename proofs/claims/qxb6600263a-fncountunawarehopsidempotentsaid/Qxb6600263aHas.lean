import Derived.Test.Qxb6600263aRows
import Derived.Test.Qxb6600263aBase
import Derived.WalkSpells
namespace Go.Proofs.Qxb6600263a
open Go.RowKit
set_option linter.unusedVariables false

/-- Is bit 0 (of RFC 9197's count) set? bit 8? -/
def has0 (f : Int) : Bool := bits BinOp.and IntKind.u32 f 8388608 != 0
def has8 (f : Int) : Bool := bits BinOp.and IntKind.u32 f 32768 != 0

theorem has_0 (f : Int) (w : World) :
    Calls Try.prog 21 #[.int .u32 f, .int .i64 0] w fun e w' => e = .returned (.bool (has0 f)) ∧ w' = w := by
  go_enter Try.func21, Try.ntmps21
  go_wp2
  go_ret
  exact ⟨rfl, rfl⟩
theorem has_8 (f : Int) (w : World) :
    Calls Try.prog 21 #[.int .u32 f, .int .i64 8] w fun e w' => e = .returned (.bool (has8 f)) ∧ w' = w := by
  go_enter Try.func21, Try.ntmps21
  go_wp2
  go_ret
  exact ⟨rfl, rfl⟩

/-- The Hop_Lim of an entry, and whether it has one. -/
def hl (f h v : Int) : Int := if has0 f then h else if has8 f then v else 0
def hok (f : Int) : Bool := has0 f || has8 f

set_option maxHeartbeats 400000 in
theorem hopLim_any (b o : Nat) (f h v : Int) (w : World) (c0 : w.cell? ⟨b, o, none⟩ = some (.int .u32 f)) (c1 : w.cell? ⟨b, o + 1, none⟩ = some (.int .u8 h)) (c14 : w.cell? ⟨b, o + 14, none⟩ = some (.int .u8 v)) :
    Calls Try.prog 20 #[.pointer (some ⟨b, o, none⟩)] w fun e w' => e = .returned (.tuple #[.int .u8 (hl f h v), .bool (hok f)]) ∧ w' = w := by
  unfold hl hok
  cases e0 : has0 f
  · cases e8 : has8 f
    all_goals
      have H0 : Hid (has0 f = false) := e0
      have H8 : Hid (has8 f = _) := e8
      clear e0 e8
      go_enter Try.func20, Try.ntmps20
      go_wp2_with fail
      refine (has_0 f _).mono ?_
      rintro e w' ⟨rfl, rfl⟩
      rw [H0.out]
      go_wp2_with fail
      refine (has_8 f _).mono ?_
      rintro e w' ⟨rfl, rfl⟩
      rw [H8.out]
      go_wp2_with fail
      go_ret2
      exact ⟨rfl, rfl⟩
  · have H0 : Hid (has0 f = true) := e0
    clear e0
    go_enter Try.func20, Try.ntmps20
    go_wp2_with fail
    refine (has_0 f _).mono ?_
    rintro e w' ⟨rfl, rfl⟩
    rw [H0.out]
    go_wp2_with fail
    go_ret2
    exact ⟨rfl, rfl⟩
end Go.Proofs.Qxb6600263a
