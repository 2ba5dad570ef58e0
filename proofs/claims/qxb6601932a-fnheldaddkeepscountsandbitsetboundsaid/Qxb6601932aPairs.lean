/-
  The set of pairs: what the map's operations do.
-/
import Derived.Test.Qxb6601932aHeld
import Derived.Laws.StructEq
import Derived.Laws.Tables
import Derived.WideKeyRuns
namespace Go.Proofs.Qxb6601932a
open Go.RowKit
set_option linter.unusedVariables false
set_option linter.unusedSimpArgs false

theorem eq55 (a b c d : Int) (w : World) : (Op.equal 55 (.agg #[.int .i64 a, .int .i64 b]) (.agg #[.int .i64 c, .int .i64 d])).run Try.prog w = .ok (a == c && b == d) w := by
  have u3 := Try.underlying3
  have a3 := Try.isAgg3
  have z3 := Try.sizeOf3
  have hS : Try.prog.underlying 55 = some (.struct (Try.prog.fieldsOf 55)) := by kernel_rfl
  have hp : Try.prog.stoodInHeld 55 = false := by kernel_rfl
  unfold Op.equal Op.maxDepth
  rw [show (10000 : Nat) = 9999 + 1 from rfl, run_equalIn_agg w 9999 55 _ _ hS hp]
  simp only [Program.fieldsOf, Try.underlying55]
  go_simp
  by_cases h1 : a = c <;> by_cases h2 : b = d <;> simp [h1, h2]

theorem check3 (n : Nat) (a : Int) (w : World) (em : Bool) : (Instr.checkKey em (n + 1) 3 (.int .i64 a)).run Try.prog w = .ok () w := by
  simp [Instr.checkKey, run_underlying Try.underlying3]
theorem check55 (a b : Int) (w : World) (em : Bool) : (Instr.checkKey em 10000 55 (.agg #[.int .i64 a, .int .i64 b])).run Try.prog w = .ok () w := by
  have u3 := Try.underlying3
  have a3 := Try.isAgg3
  have z3 := Try.sizeOf3
  have c3 := fun a w => check3 9998 a w em
  rw [show (10000 : Nat) = 9998 + 1 + 1 from rfl, Instr.checkKey]
  simp only [Sem.run_bind, run_underlying Try.underlying55, Result.andThen_ok]
  go_simp

theorem zero52 (w : World) : (zeroValue 52).run Try.prog w = .ok (.agg #[]) w := by kernel_rfl

theorem hasQ_cons (p : Nat × Nat) (Q : List (Nat × Nat)) (q : Nat × Nat) : hasQ (p :: Q) q = (p == q || hasQ Q q) := rfl
theorem pair_beq (f s : Nat) (p : Nat × Nat) : (((f : Int) == (p.1 : Int)) && ((s : Int) == (p.2 : Int))) = (p == (f, s)) := by
  obtain ⟨a, b⟩ := p
  rw [Bool.eq_iff_iff]
  simp
  omega

theorem find_pairs (f s : Nat) (w : World) : ∀ (Q : List (Nat × Nat)) (k i : Nat), ∃ r, (Instr.findAsking 55 (.agg #[.int .i64 (f : Int), .int .i64 (s : Int)]) (pairsFrom k Q) i).run Try.prog w = .ok r w ∧ r.isSome = hasQ Q (f, s) ∧ ∀ x, r = some x → x.2 = .agg #[]
  | [], k, i => ⟨none, by simp [pairsFrom, Instr.findAsking], rfl, fun x h => by cases h⟩
  | p :: Q, k, i => by
    obtain ⟨r, h1, h2, h3⟩ := find_pairs f s w Q (k + 1) (i + 1)
    cases hp : (p == (f, s))
    · refine ⟨r, ?_, by rw [h2, hasQ_cons, hp, Bool.false_or], h3⟩
      simp only [pairsFrom, Instr.findAsking, Sem.run_bind, eq55, pair_beq, hp, Result.andThen_ok]
      simpa using h1
    · refine ⟨some (i, .agg #[]), ?_, by rw [hasQ_cons, hp]; rfl, fun x h => by cases h; rfl⟩
      simp only [pairsFrom, Instr.findAsking, Sem.run_bind, eq55, pair_beq, hp, Result.andThen_ok]
      simp

theorem findKey_pairs (f s : Nat) (w : World) (Q : List (Nat × Nat)) : ∃ r, (Instr.findKey 55 (.agg #[.int .i64 (f : Int), .int .i64 (s : Int)]) (pairsFrom 0 Q)).run Try.prog w = .ok r w ∧ r.isSome = hasQ Q (f, s) ∧ ∀ x, r = some x → x.2 = .agg #[] := by
  rw [run_findKey_eq w (by rw [Try.underlying55])]
  exact find_pairs f s w Q 0 0

/-- '_, ok := m[p]' -/
theorem run_lookup_pair {w : World} {b cl : Nat} {Q : List (Nat × Nat)} (hb : w.heap[b]? = some (.map (pairMap Q) cl)) (f s : Nat) :
    (Instr.lookup 40 (.map (some b)) (.agg #[.int .i64 (f : Int), .int .i64 (s : Int)]) true).run Try.prog w = .ok (.tuple #[.agg #[], .bool (hasQ Q (f, s))]) w := by
  obtain ⟨r, h1, h2, h3⟩ := findKey_pairs f s w Q
  have hc := check55 (f : Int) (s : Int) w (pairMap Q).isEmpty
  have hl : (pairMap Q).toList = pairsFrom 0 Q := by simp [pairMap]
  cases r with
  | none =>
    have h2' : hasQ Q (f, s) = false := by rw [← h2]; rfl
    simp [Instr.lookup, run_underlying Try.underlying40, getObj, Sem.run, hb, hc, hl, h1, zero52, h2']
  | some x =>
    have h2' : hasQ Q (f, s) = true := by rw [← h2]; rfl
    have h3' := h3 x rfl
    simp [Instr.lookup, run_underlying Try.underlying40, getObj, Sem.run, hb, hc, hl, h1, h2', h3']

theorem pairsFrom_snoc (p : Nat × Nat) : ∀ (Q : List (Nat × Nat)) (k : Nat), pairsFrom k (Q ++ [p]) = pairsFrom k Q ++ [{ key := .agg #[.int .i64 (p.1 : Int), .int .i64 (p.2 : Int)], val := .agg #[], born := k + Q.length }]
  | [], k => by simp [pairsFrom]
  | t :: r, k => by
    simp only [List.cons_append, pairsFrom, pairsFrom_snoc p r (k + 1), List.length_cons]
    rw [show k + 1 + r.length = k + (r.length + 1) by omega]
theorem pairMap_snoc (Q : List (Nat × Nat)) (p : Nat × Nat) : pairMap (Q ++ [p]) = (pairMap Q).push { key := .agg #[.int .i64 (p.1 : Int), .int .i64 (p.2 : Int)], val := .agg #[], born := Q.length } := by
  simp [pairMap, pairsFrom_snoc]
theorem size_pairMap (Q : List (Nat × Nat)) : (pairMap Q).size = Q.length := by
  have : ∀ (Q : List (Nat × Nat)) k, (pairsFrom k Q).length = Q.length := by
    intro Q
    induction Q with
    | nil => intro k; rfl
    | cons p r ih => intro k; simp [pairsFrom, ih]
  simp [pairMap, this]

/-- 'm[p] = struct{}{}', p not there yet. -/
theorem run_update_pair {w : World} {b : Nat} {Q : List (Nat × Nat)} (hb : w.heap[b]? = some (.map (pairMap Q) Q.length)) (f s : Nat) (hs : hasQ Q (f, s) = false) :
    (Instr.mapUpdate 40 (.map (some b)) (.agg #[.int .i64 (f : Int), .int .i64 (s : Int)]) (.agg #[])).run Try.prog w = .ok () { w with heap := w.heap.setIfInBounds b (.map (pairMap (Q ++ [(f, s)])) (Q.length + 1)) } := by
  obtain ⟨r, h1, h2, _⟩ := findKey_pairs f s w Q
  have hc := check55 (f : Int) (s : Int) w false
  have hl : (pairMap Q).toList = pairsFrom 0 Q := by simp [pairMap]
  cases r with
  | some x => rw [hs] at h2; cases h2
  | none => simp [Instr.mapUpdate, run_underlying Try.underlying40, getObj, setObj, Sem.run, hb, hc, hl, h1, pairMap_snoc]

end Go.Proofs.Qxb6601932a
