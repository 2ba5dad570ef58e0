import Derived.Test.Qxb6601898aPat
namespace Go.Proofs.Qxb6601898a
open Go.RowKit
set_option linter.unusedVariables false
set_option linter.unusedSimpArgs false

theorem zero3 (w : World) : (zeroValue 3).run Try.prog w = .ok (.int .i64 0) w := by kernel_rfl

/-- A slice that is only read. -/
def VReads (w : World) (a : Option Addr) (n : Nat) (f : Nat → Value) : Prop := n = 0 ∨ ∃ b o, a = some ⟨b, o, none⟩ ∧ ∀ i, i < n → w.cell? ⟨b, o + i, none⟩ = some (f i)
theorem VReads.kept {T : Nat → Prop} {w w' : World} {a : Option Addr} {n : Nat} {f : Nat → Value} (h : VReads w a n f) (k : Kept T w w') (hT : ∀ b, b < w.heap.size → ¬ T b) : VReads w' a n f := by
  rcases h with h | ⟨b, o, e, h⟩
  · exact .inl h
  · exact .inr ⟨b, o, e, fun i hi => by
      have hb := World.block_lt_of_cell? w _ (h i hi)
      rw [k.cell (p := ⟨b, o + i, none⟩) hb (hT b hb)]; exact h i hi⟩
theorem VReads.mono {w : World} {a : Option Addr} {n m : Nat} {f : Nat → Value} (h : VReads w a n f) (hm : m ≤ n) : VReads w a m f := by
  rcases h with h | ⟨b, o, e, h⟩
  · exact .inl (by omega)
  · exact .inr ⟨b, o, e, fun i hi => h i (by omega)⟩

theorem list17 (T : Nat → Prop) (pb : Nat) (S : Pats) (w : World) (h : PatAt T w pb S) :
    Calls Try.prog 17 #[.pointer (some ⟨pb, 0, none⟩)] w fun e w' => ∃ a cap, e = .returned (.slice a S.length cap) ∧ w' = w ∧ w.ownsRow 0 9 1 (.slice a S.length cap) S.length (S.map fun x => .string x.1) := by
  obtain ⟨vl, vo, mo, vs, hp⟩ := h
  have c0 := hp.c0
  have hl := hp.list
  have e : (S.map (·.1)).map Value.string = S.map fun x => Value.string x.1 := by simp
  rw [e, List.length_map] at hl
  obtain ⟨a, cap, rfl⟩ := own_form hl
  have HL := hid hl
  clear hp hl e
  go_enter Try.func17, Try.ntmps17
  go_wp2_with fail
  go_ret
  exact ⟨a, cap, rfl, rfl, HL.out⟩

theorem owners18 (T : Nat → Prop) (pb : Nat) (S : Pats) (w : World) (h : PatAt T w pb S) :
    Calls Try.prog 18 #[.pointer (some ⟨pb, 0, none⟩)] w fun e w' => e = .returned (.int .i64 S.length) ∧ w' = w := by
  obtain ⟨vl, vo, mo, vs, hp⟩ := h
  have c1 := hp.c1
  have hl := hp.own
  rw [List.length_map] at hl
  obtain ⟨a, cap, rfl⟩ := own_form hl
  clear hp hl
  go_enter Try.func18, Try.ntmps18
  go_wp2_with fail
  go_ret
  exact ⟨rfl, rfl⟩

/-- 'len(m)' at the operation. -/
theorem wpList_len_map {P : Program} {ops : Array Oper} {rest : List Oper} {o : Oper} {a : Act} {w : World} {Q : Exit → Act → World → Prop} (hg : o.guard = none) (x : Operand) (t k e : TypeId) (hop : o.op = .call { callee := .builtin .len, args := #[x], argTypes := #[t] })
    (ht : P.underlying t = some (.map k e)) (b cl : Nat) (es : Array MapEntry) (hx : a.eval x = .map (some b)) (hb : w.heap[b]? = some (.map es cl)) (h : wpList P ops Q rest (a.put o.dst (.int .i64 es.size)) w) : wpList P ops Q (o :: rest) a w := by
  refine wpList_plain hg fun K hK => ?_
  have hr : ∀ ty, (Builtin.len_ #[t] ty #[.map (some b)]).run P w = .ok (.int .i64 es.size) w := fun ty => by
    simp [Builtin.len_, run_underlying ht, getObj, Sem.run, hb, goInt]
  unfold Oper.wp
  simp [execOp, hop, resolve, invoke, builtin, hx, hr, Result.andThen]
  exact hK _ _ h

theorem ids19 (T : Nat → Prop) (pb : Nat) (S : Pats) (w : World) (h : PatAt T w pb S) :
    Calls Try.prog 19 #[.pointer (some ⟨pb, 0, none⟩)] w fun e w' => e = .returned (.int .i64 S.length) ∧ w' = w := by
  obtain ⟨vl, vo, mo, vs, hp⟩ := h
  have c2 := hp.c2
  rcases hp.map with ⟨rfl, h2⟩ | ⟨mb, rfl, _, h3⟩
  · have : S = [] := by simpa using h2
    subst this
    clear hp
    go_enter Try.func19, Try.ntmps19
    go_wp2_with fail
    go_ret
    exact ⟨rfl, rfl⟩
  · have hs : (mapOf (S.map (·.1))).size = S.length := by rw [size_mapOf]; simp
    have hb := hid h3
    clear hp h3
    go_enter Try.func19, Try.ntmps19
    go_wp2_with ((with_reducible (refine at_op (.call { callee := .builtin .len, args := #[.tmp 6], argTypes := #[36] }) rfl ?_)); refine wpList_len_map rfl (.tmp 6) 36 9 3 (by rfl) Try.underlying36 mb (S.map (·.1)).length (mapOf (S.map (·.1))) (by rfl) hb.out ?_; rw [hs])
    go_ret
    exact ⟨rfl, rfl⟩

theorem run_lookup_nil (w : World) (s : ByteArray) : (Instr.lookup 36 (.map none) (.string s) true).run Try.prog w = .ok (.tuple #[.int .i64 0, .bool false]) w := by
  have hc := run_checkKey_string (P := Try.prog) (w := w) true 9999 Try.underlying9 s
  simp [Instr.lookup, run_underlying Try.underlying36, run_underlying Try.underlying9, hc, Instr.findKey, Instr.findNow, zero3]

theorem id20 (T : Nat → Prop) (pb : Nat) (S : Pats) (p : ByteArray) (w : World) (h : PatAt T w pb S) :
    Calls Try.prog 20 #[.pointer (some ⟨pb, 0, none⟩), .string p] w fun e w' => e = .returned (.tuple #[.int .i64 (((place (S.map (·.1)) p).getD 0 : Nat) : Int), .bool (place (S.map (·.1)) p).isSome]) ∧ w' = w := by
  obtain ⟨vl, vo, mo, vs, hp⟩ := h
  have c2 := hp.c2
  rcases hp.map with ⟨rfl, h2⟩ | ⟨mb, rfl, _, h3⟩
  · have : S = [] := by simpa using h2
    subst this
    have hlk := run_lookup_nil w p
    clear hp
    go_enter Try.func20, Try.ntmps20
    go_wp2_with fail
    go_ret2
    exact ⟨rfl, rfl⟩
  · have hlk := run_lookup_place (P := Try.prog) (w := w) Try.underlying36 Try.underlying9 (zero3 w) h3 p
    generalize place (S.map (·.1)) p = pl at *
    clear hp h3
    go_enter Try.func20, Try.ntmps20
    go_wp2_with fail
    go_ret2
    exact ⟨rfl, rfl⟩

/-- Where row k of the owners lies. -/
theorem Pat.rowAt {T : Nat → Prop} {w : World} {pb : Nat} {S : Pats} {vl vo : Value} {mo : Option Nat} {vs : List Value} (hp : Pat T w pb (S.map (·.1)) (S.map (·.1)) (S.map (·.2)) vl vo mo vs) (k : Nat) (hk : k < S.length) :
    ∃ go co aa ca, vo = .slice (some ⟨go, 0, none⟩) S.length co ∧ w.cell? ⟨go, k, none⟩ = some (.slice aa S[k].2.length ca) ∧ w.ownsRow 0 55 2 (.slice aa S[k].2.length ca) S[k].2.length (flat S[k].2) := by
  have hk' : k < (S.map (·.2)).length := by simpa using hk
  obtain ⟨v, hv, hr⟩ := hp.row k hk'
  have e : (S.map (·.2))[k] = S[k].2 := by simp
  rw [e] at hr
  obtain ⟨aa, ca, rfl⟩ := own_form hr
  obtain ⟨go, co, rfl, _⟩ := own_at hp.own (by omega)
  refine ⟨go, co, aa, ca, by simp, ?_, hr⟩
  rw [hp.own.cellAt k (by omega)]
  exact hv

theorem count21 (T : Nat → Prop) (pb k : Nat) (S : Pats) (w : World) (h : PatAt T w pb S) (hk : k < S.length) (hS : S.length ≤ 8192) :
    Calls Try.prog 21 #[.pointer (some ⟨pb, 0, none⟩), .int .i64 k] w fun e w' => e = .returned (.int .i64 S[k].2.length) ∧ w' = w := by
  obtain ⟨vl, vo, mo, vs, hp⟩ := h
  have c1 := hp.c1
  obtain ⟨go, co, aa, ca, rfl, ck, hr⟩ := hp.rowAt k hk
  have hki : (k : Int) < S.length := by omega
  have hk0 : (0 : Int) ≤ k := by omega
  generalize S[k].2 = ol at *
  clear hp hr
  go_enter Try.func21, Try.ntmps21
  go_wp2_with fail
  go_ret
  exact ⟨rfl, rfl⟩

theorem owner22 (T : Nat → Prop) (pb k i : Nat) (S : Pats) (w : World) (h : PatAt T w pb S) (hk : k < S.length) (hS : S.length ≤ 8192) (hi : i < S[k].2.length) (ho : S[k].2.length ≤ 8192) :
    Calls Try.prog 22 #[.pointer (some ⟨pb, 0, none⟩), .int .i64 k, .int .i64 i] w fun e w' => e = .returned (.tuple #[.int .i64 S[k].2[i].1, .bool S[k].2[i].2]) ∧ ∃ nq, w' = w.drewN nq := by
  obtain ⟨vl, vo, mo, vs, hp⟩ := h
  have c1 := hp.c1
  obtain ⟨go, co, aa, ca, rfl, ck, hr⟩ := hp.rowAt k hk
  have hki : (k : Int) < S.length := by omega
  have hk0 : (0 : Int) ≤ k := by omega
  have hi0 : (0 : Int) ≤ i := by omega
  generalize S[k].2 = ol at *
  have hii : (i : Int) < ol.length := by omega
  obtain ⟨g, ca', e, _⟩ := own_at hr (by omega)
  cases e
  have e0 : w.cell? ⟨g, i * 2, none⟩ = some (.int .i64 ol[i].1) := by rw [hr.cellAt (i * 2) (by omega), (flat_at ol i hi).1]
  have e1 : w.cell? ⟨g, i * 2 + 1, none⟩ = some (.bool ol[i].2) := by rw [hr.cellAt (i * 2 + 1) (by omega), (flat_at ol i hi).2]
  generalize ol[i].1 = x at *
  generalize ol[i].2 = y at *
  clear hp hr
  go_enter Try.func22, Try.ntmps22
  go_wp2_with fail
  go_quiet (fail)
  go_wp2_with fail
  go_ret2
  exact ⟨rfl, _, rfl⟩

theorem length13 (a0 a1 a2 : Option Addr) (l0 c0 l1 c1 l2 c2 : Nat) (w : World) : Calls Try.prog 13 #[.slice a0 l0 c0, .slice a1 l1 c1, .slice a2 l2 c2] w fun e w' => e = .returned (.int .i64 (min l0 (min l1 l2) : Nat)) ∧ w' = w := by
  by_cases h1 : l1 < l0
  · by_cases h2 : l2 < l1
    · have H := hid (show min l0 (min l1 l2) = l2 by omega)
      go_enter Try.func13, Try.ntmps13
      go_wp2
      go_ret
      rw [H.out]
      exact ⟨rfl, rfl⟩
    · have H := hid (show min l0 (min l1 l2) = l1 by omega)
      go_enter Try.func13, Try.ntmps13
      go_wp2
      go_ret
      rw [H.out]
      exact ⟨rfl, rfl⟩
  · by_cases h2 : l2 < l0
    · have H := hid (show min l0 (min l1 l2) = l2 by omega)
      go_enter Try.func13, Try.ntmps13
      go_wp2
      go_ret
      rw [H.out]
      exact ⟨rfl, rfl⟩
    · have H := hid (show min l0 (min l1 l2) = l0 by omega)
      go_enter Try.func13, Try.ntmps13
      go_wp2
      go_ret
      rw [H.out]
      exact ⟨rfl, rfl⟩

end Go.Proofs.Qxb6601898a
