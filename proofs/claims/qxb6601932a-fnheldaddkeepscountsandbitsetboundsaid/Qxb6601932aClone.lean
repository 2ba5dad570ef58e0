/-
  strings.Clone at this program: the same bytes; of what was there nothing has turned. (The shelf's law of internal/stringslite.Clone at this program's numbers.)
-/
import Derived.Test.Qxb6601932aPairs
import Derived.Shelf.Strconv.Clone
namespace Go.Proofs.Qxb6601932a
open Go.RowKit Go.Shelf
set_option linter.unusedVariables false

/-- The shelf's numbers at this program. -/
def ren : Ren := ⟨fun _ => 17, fun t => if t = 37 then 56 else if t = 127 then 57 else t, fun x => x⟩
theorem lays0 : Lays.n316 Try.prog ren where
  mixed := by kernel_rfl
  f316 := by kernel_rfl
  t0 := by kernel_rfl
  a0 := fun w => by kernel_rfl
  z0 := fun w => by kernel_rfl
  v0 := fun w => by kernel_rfl
  t3 := by kernel_rfl
  a3 := fun w => by kernel_rfl
  z3 := fun w => by kernel_rfl
  v3 := fun w => by kernel_rfl
  t4 := by kernel_rfl
  a4 := fun w => by kernel_rfl
  z4 := fun w => by kernel_rfl
  v4 := fun w => by kernel_rfl
  t9 := by kernel_rfl
  a9 := fun w => by kernel_rfl
  z9 := fun w => by kernel_rfl
  v9 := fun w => by kernel_rfl
  t37 := by kernel_rfl
  a37 := fun w => by kernel_rfl
  z37 := fun w => by kernel_rfl
  v37 := fun w => by kernel_rfl
  t127 := by kernel_rfl
  a127 := fun w => by kernel_rfl
  z127 := fun w => by kernel_rfl
  v127 := fun w => by kernel_rfl
theorem laysM : LaysM.n316 Try.prog ren := { lays0 with t5 := by kernel_rfl, a5 := fun w => by kernel_rfl, z5 := fun w => by kernel_rfl, v5 := fun w => by kernel_rfl, i0 := by kernel_rfl, i3 := by kernel_rfl, i4 := by kernel_rfl, i5 := by kernel_rfl, i9 := by kernel_rfl, i37 := by kernel_rfl, i127 := by kernel_rfl }

theorem clone17 (s : ByteArray) (w : World) (hlim : s.size ≤ 281474976710656) : Calls Try.prog 17 #[.string s] w fun e w' => e = .returned (.string s) ∧ Below w.heap.size w w' := Any.stringslite_Clone laysM s w hlim

theorem clone16 (s : ByteArray) (w : World) (hlim : s.size ≤ 281474976710656) : Calls Try.prog 16 #[.string s] w fun e w' => e = .returned (.string s) ∧ Below w.heap.size w w' := by
  have C := hid (clone17 s w hlim)
  go_enter Try.func16, Try.ntmps16
  go_wp2_with fail
  refine C.out.mono ?_
  rintro e wz ⟨rfl, hb⟩
  have HB := hid hb
  clear hb
  go_wp2_with fail
  go_ret
  exact ⟨rfl, HB.out⟩

end Go.Proofs.Qxb6601932a
