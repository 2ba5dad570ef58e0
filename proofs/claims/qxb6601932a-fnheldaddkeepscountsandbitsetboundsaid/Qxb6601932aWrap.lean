/-
  ZZHeldAdd.
-/
import Derived.Test.Qxb6601932aAdd
import Derived.Test.Qxb6601932aScript
namespace Go.Proofs.Qxb6601932a
open Go.RowKit
set_option linter.unusedVariables false
set_option linter.unusedSimpArgs false

theorem add11 (T : Nat → Prop) (hb N : Nat) (S : St) (fund sym : ByteArray) (w : World) (h : HeldAt T w hb S) (hT : ∀ b, w.heap.size ≤ b → T b) (hF : Fits N S) (hN : N ≤ 8192) (z1 : fund.size ≤ 281474976710656) (z2 : sym.size ≤ 281474976710656) :
    Calls Try.prog 11 #[.pointer (some ⟨hb, 0, none⟩), .string fund, .string sym] w fun e w' => e = .returned (.tuple #[.int .i64 (placeN S.F fund : Nat), .int .i64 (placeN S.Y sym : Nat), .bool (S.step fund sym).1]) ∧ HeldAt T w' hb (S.add fund sym) ∧ Kept T w w' := by
  have C := hid (add15 T hb N S fund sym w h hT hF hN z1 z2)
  clear h hT hF hN z1 z2
  go_enter Try.func11, Try.ntmps11
  go_wp2_with fail
  refine C.out.mono ?_
  rintro e wz ⟨rfl, hh, hk⟩
  have HH := hid (And.intro hh hk)
  clear hh hk C
  obtain ⟨f, hf⟩ : ∃ f, placeN S.F fund = f := ⟨_, rfl⟩
  obtain ⟨s, hs⟩ : ∃ s, placeN S.Y sym = s := ⟨_, rfl⟩
  obtain ⟨r, hr⟩ : ∃ r, (S.step fund sym).1 = r := ⟨_, rfl⟩
  have HR := hid (And.intro hf (And.intro hs hr))
  rw [hf, hs, hr]
  clear hf hs hr
  go_wp2_with fail
  refine bodyPost_ret (v := .tuple #[.int .i64 f, .int .i64 s, .bool r]) (by simp [results, Try.results11, go_sem]) rfl ?_
  exact ⟨by rw [HR.out.1, HR.out.2.1, HR.out.2.2], HH.out⟩

end Go.Proofs.Qxb6601932a
