/-
  The proof of 'Rows.FnLatenciesAddKeepsCountSumSaid': the guide's frame at this function's types; the walk: Qxb6601538aKeeps.
-/
import Derived.Test.Qxb6601538aKeeps
import Derived.WalkKit
import Derived.ProofKit
import Derived.OpenShut
import Derived.ShutString
import Derived.ChangeOld
import Derived.Below
namespace Go.Proofs.Qxb6601538a.fnLatenciesAddKeepsCountSum
open Go.ChangeShapes Go.WideShapes Go.ChangeAt Go.RowKit
open Go.ChangeMaps (open_string shut_string)
set_option linter.unusedVariables false

theorem own : ownKnob Try.prog.godebug = none := by kernel_rfl
theorem laidOut : laidOutB Try.prog = true := by kernel_rfl
theorem cells35 : Try.prog.cellsOf 35 = 54 := by kernel_rfl
theorem cells34 : Try.prog.cellsOf 34 = 1 := by kernel_rfl
theorem cells48 : Try.prog.cellsOf 48 = 1024 := by kernel_rfl
theorem cells22 : Try.prog.cellsOf 22 = 1 := by kernel_rfl

theorem cells?_get {w : World} {base : Nat} {a : Addr} {n : Nat} {cs : List Value} (h : w.cells? base a n = some cs) : cs.length = n ∧ ∀ i, i < n → w.cell? (a.add i) = cs[i]? := by
  unfold World.cells? at h
  split at h
  · exact ⟨by simpa using mapM_some_length h, fun i hi => mapM_some_get h i i (by simp [hi])⟩
  · cases h

/-- The number at cell c of row r. -/
def num (w : World) (cs : Array Value) (r c : Nat) : Int :=
  match cs[r]? with
  | some (.pointer (some a)) => match w.cell? (a.add c) with
    | some (.int .u64 n) => n
    | _ => 0
  | _ => 0

theorem one_of {l : List Value} {i : Nat} {v : Value} (h : (l.drop (i * 1)).take 1 = [v]) : l[i]? = some v := by
  rw [Nat.mul_one] at h
  have : ((l.drop i).take 1)[0]? = some v := by rw [h]; rfl
  simpa using this

theorem open_rows {H : Type} {enc : TypeId × Value → H} {w : World} {base b0 : Nat} {sp : Nat → Bool} {held : Bool} {v : Value} {d : DataW H} {p : List MemPlace}
    (hv : Value.okWide Try.prog w .any b0 35 v) (h : DataW.Trod enc Try.prog w base sp held 35 v d p) :
    ∃ cs, v = .agg cs ∧ cs.size = 54 ∧ RowsAt w cs (num w cs) ∧ ∀ r c, r < 54 → c < 1024 → M (num w cs r c) = num w cs r c := by
  obtain ⟨cs, rfl, hsz⟩ : ∃ cs, v = .agg cs ∧ cs.size = Try.prog.cellsOf 35 := by
    unfold Value.okWide at hv
    rw [Try.underlying35] at hv
    obtain ⟨cs, h1, h2, _⟩ := hv
    exact ⟨cs, h1, h2⟩
  rw [cells35] at hsz
  obtain ⟨fuel, hf⟩ := h
  obtain ⟨xs, m, rfl, _, hl, hx, hel⟩ := DataW.trod_array Try.underlying35 hf
  rw [cells34] at hel
  have key : ∀ r, r < 54 → (cs[r]? = some (.pointer none)) ∨ ∃ b o, cs[r]? = some (.pointer (some ⟨b, o, none⟩)) ∧ ∀ c, c < 1024 → ∃ n, w.cell? ⟨b, o + c, none⟩ = some (.int .u64 n) ∧ (Lit.int .u64 n).wf = true := by
    intro r hr
    have h1 := hel r hr
    rw [List.getElem?_eq_getElem (by omega)] at h1
    rcases DataW.trod_pointer Try.underlying34 h1 with ⟨h2, _⟩ | ⟨a, cs', y, n, _, h2, _, hc, hy⟩
    · left
      have := one_of h2
      simpa [Value.cells] using this
    · right
      have h3 : cs[r]? = some (.pointer (some a)) := by have := one_of h2; simpa [Value.cells] using this
      rw [cells48] at hc
      obtain ⟨hl', hg⟩ := cells?_get hc
      obtain ⟨ys, m', _, _, _, hy', hel'⟩ := DataW.trod_array Try.underlying48 hy
      rw [cells22] at hel'
      have hcell : ∀ c, c < 1024 → ∃ n, w.cell? (a.add c) = some (.int .u64 n) ∧ (Lit.int .u64 n).wf = true := by
        intro c hc'
        have h4 := hel' c hc'
        rw [List.getElem?_eq_getElem (by omega)] at h4
        obtain ⟨n', h5, _, h6⟩ := DataW.trod_int Try.underlying22 h4
        exact ⟨n', by rw [hg c hc']; exact one_of h5, h6⟩
      obtain ⟨b, o, spot⟩ := a
      have hspot : spot = none := by
        obtain ⟨n0, h0, _⟩ := hcell 0 (by omega)
        simpa [Addr.add] using World.cell?_spot h0
      subst hspot
      exact ⟨b, o, h3, fun c hc' => by have := hcell c hc'; rwa [Addr.add_lit] at this⟩
  refine ⟨cs, rfl, hsz, fun r hr => ?_, fun r c hr hc => ?_⟩
  · rcases key r hr with h1 | ⟨b, o, h1, h2⟩
    · exact .inl ⟨h1, fun c _ => by simp [num, h1]⟩
    · refine .inr ⟨b, o, h1, fun c hc => ?_⟩
      obtain ⟨n, h3, _⟩ := h2 c hc
      rw [h3]
      simp [num, h1, Addr.add_lit, h3]
  · rcases key r hr with h1 | ⟨b, o, h1, h2⟩
    · simp [num, h1, M]
    · obtain ⟨n, h3, h4⟩ := h2 c hc
      have e : num w cs r c = n := by simp [num, h1, Addr.add_lit, h3]
      rw [e]
      have := bounds_u64 h4
      unfold M
      omega

/-! ### THE ROW's STEP -/
set_option maxRecDepth 100000 in
theorem lifted (os : Os) (started : os.Started) (H : Type) (enc : TypeId × Value → H) :
    ReturnsInHanded {} Try.checked os 8 .any (Rows.fnLatenciesAddKeepsCountSumSpec.pre6 enc Try.prog Try.f8 Rows.fnLatenciesAddKeepsCountSumRow.domain false) (Rows.fnLatenciesAddKeepsCountSumSpec.post enc Try.prog Try.f8 false true false false) := by
  refine returnsInHanded_of_change (C := Try.checked) own started (by kernel_rfl) Try.func8
    (ChangeSpec.witness6 (enc := enc) (C := Try.checked) false ⟨#[], #[.agg nil54, .int .u64 0, .agg nil54, .int .u64 0], []⟩ 8 (by kernel_rfl) (by kernel_rfl) (by kernel_rfl) (by kernel_rfl)) ?_
  intro W base args ds gs before hval0 hW hcnd _
  have hval : ∀ (j : Nat) t v, Try.f8.params[j]? = some t → args[j]? = some v → Value.okWide Try.prog W .any base t v := hval0
  have hW' := hW
  obtain ⟨p, q, hA0, hV, rfl, hfz, hnd⟩ := hW
  have hA : DataW.TrodAll enc Try.prog W 0 (fun _ => true) true Try.f8.params.toList args.toList ds p := hA0
  rw [Try.params8] at hA hval
  obtain ⟨v0, vs0, d0, ds0, p0, q0, hargs, rfl, rfl, h0, r0⟩ := trodAll_cons hA
  obtain ⟨v1, vs1, d1, ds1, p1, q1, rfl, rfl, rfl, h1, r1⟩ := trodAll_cons r0
  obtain ⟨v2, vs2, d2, ds2, p2, q2, rfl, rfl, rfl, h2, r2⟩ := trodAll_cons r1
  obtain ⟨v3, vs3, d3, ds3, p3, q3, rfl, rfl, rfl, h3, r3⟩ := trodAll_cons r2
  obtain ⟨rfl, rfl, rfl⟩ := trodAll_nil r3
  obtain rfl : args = #[v0, v1, v2, v3] := by cases args; simp_all
  obtain ⟨rfl, rfl⟩ := trodVars_none hV
  have lt0 : ∀ x ∈ p0, x.block < W.heap.size := by obtain ⟨m, hm⟩ := h0; exact DataW.trod_lt m _ _ _ hm
  have lt2 : ∀ x ∈ p2, x.block < W.heap.size := by obtain ⟨m, hm⟩ := h2; exact DataW.trod_lt m _ _ _ hm
  obtain ⟨cs0, rfl, z0, rw0, bd0⟩ := open_rows (hval 0 35 v0 rfl rfl) h0
  obtain ⟨a1, rfl, rfl, rfl, w1⟩ := open_int Try.underlying22 (hval 1 22 v1 rfl rfl) h1
  obtain ⟨cs2, rfl, z2, rw2, bd2⟩ := open_rows (hval 2 35 v2 rfl rfl) h2
  obtain ⟨a3, rfl, rfl, rfl, w3⟩ := open_int Try.underlying22 (hval 3 22 v3 rfl rfl) h3
  clear hA0 hval0
  refine (keeps_any cs0 cs2 a1 a3 _ _ W z0 z2 rw0 rw2 bd0).mono fun e W' ⟨he, bel⟩ => ?_
  subst he
  exact ⟨_, rfl, _, _, _, [], _, [], hW', trodAll_mk1 (shut_bool Try.underlying4 _), (trodAll_cons_mk (Below.trod laidOut (by kernel_rfl) (of_decide_eq_true (by kernel_rfl)) h0 bel lt0) (trodAll_cons_mk (shut_int Try.underlying22 w1) (trodAll_cons_mk (Below.trod laidOut (by kernel_rfl) (of_decide_eq_true (by kernel_rfl)) h2 bel lt2) (trodAll_cons_mk (shut_int Try.underlying22 w3) trodAll_mk0)))), rfl, bel.frame _, fun h => by cases h⟩

theorem over : Rows.fnLatenciesAddKeepsCountSumRow.holds Try.pinned (OpenSpec.ofChange Rows.fnLatenciesAddKeepsCountSumSpec) :=
  OpenClaim.holds_of_wide 8 Try.f8 rfl rfl rfl rfl rfl rfl rfl ⟨rfl, rfl, rfl, rfl, rfl⟩ rfl rfl rfl rfl rfl (by kernel_rfl) Try.func8 (by kernel_rfl)
    (of_decide_eq_true (by kernel_rfl)) (by unfold Func.isWrapper; first | (rw [if_pos (by decide +kernel)]; kernel_rfl) | (rw [if_neg (by decide +kernel)]; exact ⟨rfl, rfl⟩))
    (fun os started H enc _ => lifted os started H enc)

/-- THE STATEMENT -/
theorem proved : Rows.FnLatenciesAddKeepsCountSumSaid := over
#print axioms proved
end Go.Proofs.Qxb6601538a.fnLatenciesAddKeepsCountSum
