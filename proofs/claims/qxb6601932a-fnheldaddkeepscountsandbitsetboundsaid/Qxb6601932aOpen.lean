/-
  The argument opened: a slice of holdings.
-/
import Derived.Test.Qxb6601932aFit
import Derived.ProofKit
import Derived.OpenShut
import Derived.ShutString
import Derived.ChangeOld
import Derived.ChangeSame
namespace Go.Proofs.Qxb6601932a
open Go.ChangeShapes Go.WideShapes Go.ChangeAt Go.RowKit
set_option linter.unusedVariables false

def sOf : Option Value → ByteArray | some (.string s) => s | _ => ByteArray.empty

theorem cells29 : Try.prog.cellsOf 29 = 2 := by kernel_rfl
theorem cells9 : Try.prog.cellsOf 9 = 1 := by kernel_rfl

theorem open_two {H : Type} {enc : TypeId × Value → H} {w : World} {base : Nat} {sp : Nat → Bool} {held : Bool} {n : Nat} {cs : List Value} {x : DataW H × List MemPlace} (h : DataW.trod enc Try.prog w base sp held n 29 cs = some x) :
    ∃ s t : ByteArray, cs = [.string s, .string t] ∧ s.size ≤ maxLen ∧ t.size ≤ maxLen := by
  obtain ⟨y0, y1, m, _, hl, h0, h1⟩ := trod_struct2 Try.underlying29 h
  rw [cells29] at hl
  obtain ⟨u, v, rfl⟩ : ∃ u v, cs = [u, v] := by
    match cs, hl with
    | [u, v], _ => exact ⟨u, v, rfl⟩
  simp only [cells9, List.drop_zero, List.take_succ_cons, List.take_zero, List.drop_succ_cons] at h0 h1
  obtain ⟨s, e0, _, hs⟩ := DataW.trod_string Try.underlying9 h0
  obtain ⟨t, e1, _, ht⟩ := DataW.trod_string Try.underlying9 h1
  simp only [List.cons.injEq, and_true] at e0 e1
  subst e0 e1
  exact ⟨s, t, rfl, hs, ht⟩

theorem open_holds {H : Type} {enc : TypeId × Value → H} {w : World} {base : Nat} {sp : Nat → Bool} {held : Bool} {a : Option Addr} {len cap : Nat} {d : DataW H} {p : List MemPlace}
    (h : DataW.Trod enc Try.prog w base sp held 22 (.slice a len cap) d p) :
    len ≤ maxLen ∧ ∃ sc : Nat → ByteArray × ByteArray, Holds w a len sc ∧ ∀ i, i < len → (sc i).1.size ≤ maxLen ∧ (sc i).2.size ≤ maxLen := by
  obtain ⟨fuel, hf⟩ := h
  rcases DataW.trod_slice Try.underlying22 hf with ⟨hcs, _⟩ | ⟨x, l, c, elems, rest, n, _, hcs, _, _, hl, hm, hlen, hel, _⟩
  · simp [Value.cells] at hcs
    obtain ⟨rfl, rfl, rfl⟩ := hcs
    exact ⟨Nat.zero_le _, fun _ => (ByteArray.empty, ByteArray.empty), .inl rfl, fun i hi => by omega⟩
  · simp [Value.cells] at hcs
    obtain ⟨rfl, rfl, rfl⟩ := hcs
    refine ⟨by omega, ?_⟩
    have key : ∀ i, i < len → ∃ s t : ByteArray, w.cell? (x.add (i * 2)) = some (.string s) ∧ w.cell? ((x.add (i * 2)).add 1) = some (.string t) ∧ s.size ≤ maxLen ∧ t.size ≤ maxLen := by
      intro i hi
      have h1 := hel i hi
      rw [cells29, List.getElem?_eq_getElem (by omega), Option.bind_eq_some_iff] at h1
      obtain ⟨cs', h2, h3⟩ := h1
      obtain ⟨s, t, rfl, hs, ht⟩ := open_two h3
      have hc := (World.cells?_some h2).2.2
      have c0 := hc 0 (by omega)
      have c1 := hc 1 (by omega)
      refine ⟨s, t, ?_, ?_, hs, ht⟩
      · simpa [Addr.add] using c0
      · simpa using c1
    rcases Nat.eq_zero_or_pos len with h0 | h0
    · exact ⟨fun _ => (ByteArray.empty, ByteArray.empty), .inl h0, fun i hi => by omega⟩
    · obtain ⟨b, o, spot⟩ := x
      have hspot : spot = none := by
        obtain ⟨s, t, hv, _⟩ := key 0 h0
        simpa [Addr.add] using World.cell?_spot hv
      subst hspot
      have key2 : ∀ i, i < len → ∃ s t : ByteArray, w.cell? ⟨b, o + i * 2, none⟩ = some (.string s) ∧ w.cell? ⟨b, o + i * 2 + 1, none⟩ = some (.string t) ∧ s.size ≤ maxLen ∧ t.size ≤ maxLen := by
        intro i hi
        obtain ⟨s, t, h1, h2, h3, h4⟩ := key i hi
        rw [Addr.add_lit] at h1
        rw [Addr.add_lit, Addr.add_lit] at h2
        exact ⟨s, t, h1, h2, h3, h4⟩
      refine ⟨fun i => (sOf (w.cell? ⟨b, o + i * 2, none⟩), sOf (w.cell? ⟨b, o + i * 2 + 1, none⟩)), .inr ⟨b, o, rfl, fun i hi => ?_⟩, fun i hi => ?_⟩
      · obtain ⟨s, t, h1, h2, _, _⟩ := key2 i hi
        simp only [h1, h2, sOf]
        exact ⟨trivial, trivial⟩
      · obtain ⟨s, t, h1, h2, h3, h4⟩ := key2 i hi
        simp only [h1, h2, sOf]
        exact ⟨h3, h4⟩

end Go.Proofs.Qxb6601932a
