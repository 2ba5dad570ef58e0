/-
  The proof of 'Rows.FnPatternsAddReplayChangesNothingSaid': the guide's frame at this function's types; the walk: Qxb6601898aLaw.
-/
import Derived.Test.Qxb6601898aLaw
import Derived.WalkKit
import Derived.ProofKit
import Derived.OpenShut
import Derived.ShutString
import Derived.ChangeOld
import Derived.Below
namespace Go.Proofs.Qxb6601898a.fnPatternsAddReplayChangesNothing
open Go.ChangeShapes Go.WideShapes Go.ChangeAt Go.RowKit
open Go.ChangeMaps (open_string shut_string)
set_option linter.unusedVariables false

theorem own : ownKnob Try.prog.godebug = none := by kernel_rfl
theorem laidOut : laidOutB Try.prog = true := by kernel_rfl

/-- A slice of one-cell elements that came in. -/
theorem open_row {H : Type} {enc : TypeId × Value → H} {P : Program} {w : World} {base : Nat} {sp : Nat → Bool} {held : Bool} {t e : TypeId} {a : Option Addr} {len cap : Nat} {d : DataW H} {p : List MemPlace}
    (ht : P.underlying t = some (.slice e)) (hc : P.cellsOf e = 1) (F : Value → Prop) (hF : ∀ n cs y, DataW.trod enc P w base sp held n e cs = some y → ∃ v, cs = [v] ∧ F v) (h : DataW.Trod enc P w base sp held t (.slice a len cap) d p) :
    len ≤ maxLen ∧ ∃ f : Nat → Value, VReads w a len f ∧ ∀ i, i < len → F (f i) := by
  obtain ⟨fuel, hf⟩ := h
  rcases DataW.trod_slice ht hf with ⟨hcs, _⟩ | ⟨x, l, c, elems, rest, n, _, hcs, _, _, hl, hm, hlen, hel, _⟩
  · simp [Value.cells] at hcs
    obtain ⟨rfl, rfl, rfl⟩ := hcs
    exact ⟨Nat.zero_le _, fun _ => undef, .inl rfl, fun i hi => by omega⟩
  · simp [Value.cells] at hcs
    obtain ⟨rfl, rfl, rfl⟩ := hcs
    refine ⟨by omega, ?_⟩
    have key : ∀ i, i < len → ∃ v, w.cell? (x.add i) = some v ∧ F v := by
      intro i hi
      have h1 := hel i hi
      rw [hc, Nat.mul_one, List.getElem?_eq_getElem (by omega), Option.bind_eq_some_iff] at h1
      obtain ⟨cs', h2, h3⟩ := h1
      obtain ⟨v, rfl, hv⟩ := hF _ _ _ h3
      exact ⟨v, cell_of_cells?_one h2, hv⟩
    rcases Nat.eq_zero_or_pos len with h0 | h0
    · exact ⟨fun _ => undef, .inl h0, fun i hi => by omega⟩
    · obtain ⟨b, o, spot⟩ := x
      have hspot : spot = none := by
        obtain ⟨v, hv, _⟩ := key 0 h0
        simpa [Addr.add] using World.cell?_spot hv
      subst hspot
      refine ⟨fun i => (w.cell? ⟨b, o + i, none⟩).getD undef, .inr ⟨b, o, rfl, fun i hi => ?_⟩, fun i hi => ?_⟩
      · obtain ⟨v, hv, _⟩ := key i hi
        rw [Addr.add_lit] at hv
        simp only [hv, Option.getD_some]
      · obtain ⟨v, hv, hF⟩ := key i hi
        rw [Addr.add_lit] at hv
        simp only [hv]
        exact hF

def sOf : Value → ByteArray | .string s => s | _ => ByteArray.empty
def nOf : Value → Int | .int _ n => n | _ => 0
def bOf : Value → Bool | .bool b => b | _ => false

theorem VReads.re {w : World} {a : Option Addr} {n : Nat} {f g : Nat → Value} (h : VReads w a n f) (hg : ∀ i, i < n → f i = g i) : VReads w a n g := by
  rcases h with h | ⟨b, o, e, h⟩
  · exact .inl h
  · exact .inr ⟨b, o, e, fun i hi => by rw [h i hi, hg i hi]⟩

/-! ### THE ROW's STEP -/
set_option maxRecDepth 100000 in
theorem lifted (os : Os) (started : os.Started) (H : Type) (enc : TypeId × Value → H) :
    ReturnsInHanded {} Try.checked os 6 .any (Rows.fnPatternsAddReplayChangesNothingSpec.pre6 enc Try.prog Try.f6 Rows.fnPatternsAddReplayChangesNothingRow.domain false) (Rows.fnPatternsAddReplayChangesNothingSpec.post enc Try.prog Try.f6 false true false false) := by
  refine returnsInHanded_of_change (C := Try.checked) own started (by kernel_rfl) Try.func6
    (ChangeSpec.witness6 (enc := enc) (C := Try.checked) false ⟨#[], #[.slice none 0 0, .slice none 0 0, .slice none 0 0], []⟩ 8 (by kernel_rfl) (by kernel_rfl) (by kernel_rfl) (by kernel_rfl)) ?_
  intro W base args ds gs before hval0 hW hcnd _
  have hval : ∀ (j : Nat) t v, Try.f6.params[j]? = some t → args[j]? = some v → Value.okWide Try.prog W .any base t v := hval0
  have hW' := hW
  obtain ⟨p, q, hA0, hV, rfl, hfz, hnd⟩ := hW
  have hA : DataW.TrodAll enc Try.prog W 0 (fun _ => true) true Try.f6.params.toList args.toList ds p := hA0
  rw [Try.params6] at hA hval
  obtain ⟨v0, vs0, d0, ds0, p0, q0, hargs, rfl, rfl, h0, r0⟩ := trodAll_cons hA
  obtain ⟨v1, vs1, d1, ds1, p1, q1, rfl, rfl, rfl, h1, r1⟩ := trodAll_cons r0
  obtain ⟨v2, vs2, d2, ds2, p2, q2, rfl, rfl, rfl, h2, r2⟩ := trodAll_cons r1
  obtain ⟨rfl, rfl, rfl⟩ := trodAll_nil r2
  obtain rfl : args = #[v0, v1, v2] := by cases args; simp_all
  obtain ⟨rfl, rfl⟩ := trodVars_none hV
  have lt0 : ∀ x ∈ p0, x.block < W.heap.size := by obtain ⟨m, hm⟩ := h0; exact DataW.trod_lt m _ _ _ hm
  have lt1 : ∀ x ∈ p1, x.block < W.heap.size := by obtain ⟨m, hm⟩ := h1; exact DataW.trod_lt m _ _ _ hm
  have lt2 : ∀ x ∈ p2, x.block < W.heap.size := by obtain ⟨m, hm⟩ := h2; exact DataW.trod_lt m _ _ _ hm
  obtain ⟨a0, l0, c0, rfl⟩ := okWide_slice Try.underlying28 (hval 0 28 v0 rfl rfl)
  obtain ⟨a1, l1, c1, rfl⟩ := okWide_slice Try.underlying29 (hval 1 29 v1 rfl rfl)
  obtain ⟨a2, l2, c2, rfl⟩ := okWide_slice Try.underlying30 (hval 2 30 v2 rfl rfl)
  obtain ⟨m0, f0, R0, F0⟩ := open_row Try.underlying28 (by kernel_rfl) (fun v => ∃ s, v = .string s ∧ s.size ≤ maxLen) (fun n cs y h => by
    obtain ⟨s, e, _, hs⟩ := DataW.trod_string Try.underlying9 h
    exact ⟨_, e, s, rfl, hs⟩) h0
  obtain ⟨m1, f1, R1, F1⟩ := open_row Try.underlying29 (by kernel_rfl) (fun v => ∃ k, v = .int .i64 k) (fun n cs y h => by
    obtain ⟨s, e, _, hs⟩ := DataW.trod_int Try.underlying3 h
    exact ⟨_, e, s, rfl⟩) h1
  obtain ⟨m2, f2, R2, F2⟩ := open_row Try.underlying30 (by kernel_rfl) (fun v => ∃ b, v = .bool b) (fun n cs y h => by
    obtain ⟨s, e, _⟩ := DataW.trod_bool Try.underlying4 h
    exact ⟨_, e, s, rfl⟩) h2
  have R0' : VReads W a0 l0 (fun i => .string (sOf (f0 i))) := VReads.re R0 (fun i hi => by obtain ⟨s, e, _⟩ := F0 i hi; rw [e]; rfl)
  have R1' : VReads W a1 l1 (fun i => .int .i64 (nOf (f1 i))) := VReads.re R1 (fun i hi => by obtain ⟨s, e⟩ := F1 i hi; rw [e]; rfl)
  have R2' : VReads W a2 l2 (fun i => .bool (bOf (f2 i))) := VReads.re R2 (fun i hi => by obtain ⟨s, e⟩ := F2 i hi; rw [e]; rfl)
  clear hA0 hval0
  refine (replay_any a0 a1 a2 l0 c0 l1 c1 l2 c2 _ _ _ W m0 m1 m2 R0' R1' R2' (fun i hi => by obtain ⟨s, e, hs⟩ := F0 i hi; simp only [e, sOf]; exact hs)).mono fun e W' ⟨he, bel⟩ => ?_
  subst he
  exact ⟨_, rfl, _, _, _, [], _, [], hW', trodAll_mk1 (shut_bool Try.underlying4 _), (trodAll_cons_mk (Below.trod laidOut (by kernel_rfl) (of_decide_eq_true (by kernel_rfl)) h0 bel lt0) (trodAll_cons_mk (Below.trod laidOut (by kernel_rfl) (of_decide_eq_true (by kernel_rfl)) h1 bel lt1) (trodAll_cons_mk (Below.trod laidOut (by kernel_rfl) (of_decide_eq_true (by kernel_rfl)) h2 bel lt2) trodAll_mk0))), rfl, bel.frame _, fun h => by cases h⟩

theorem over : Rows.fnPatternsAddReplayChangesNothingRow.holds Try.pinned (OpenSpec.ofChange Rows.fnPatternsAddReplayChangesNothingSpec) :=
  OpenClaim.holds_of_wide 6 Try.f6 rfl rfl rfl rfl rfl rfl rfl ⟨rfl, rfl, rfl, rfl, rfl⟩ rfl rfl rfl rfl rfl (by kernel_rfl) Try.func6 (by kernel_rfl)
    (of_decide_eq_true (by kernel_rfl)) (by unfold Func.isWrapper; first | (rw [if_pos (by decide +kernel)]; kernel_rfl) | (rw [if_neg (by decide +kernel)]; exact ⟨rfl, rfl⟩))
    (fun os started H enc _ => lifted os started H enc)

/-- THE STATEMENT -/
theorem proved : Rows.FnPatternsAddReplayChangesNothingSaid := over
#print axioms proved
end Go.Proofs.Qxb6601898a.fnPatternsAddReplayChangesNothing
