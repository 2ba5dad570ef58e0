/-
  Rows of the call's own: 54 pointers, each nil or to a block of 1024 numbers, all blocks apart.
-/
import Derived.Test.Qxb6601538aSum
namespace Go.Proofs.Qxb6601538a
open Go.RowKit
set_option linter.unusedVariables false

def z48 : Array Value := Array.replicate 1024 (.int .u64 0)
theorem Try.info48 : (Try.prog.info? 48).map (fun i => (i.zero, i.size, i.bytes)) = some (some (.agg z48), 1024, 8192) := by kernel_rfl
theorem Try.size35 : (Try.prog.info? 35).map (·.size) = some 54 := by kernel_rfl
theorem Try.size50 : (Try.prog.info? 50).map (·.size) = some 55 := by kernel_rfl

theorem Nums.new48 (w : World) (B : Nat) (hB : w.heap.size = B) : Nums .u64 48 (w.alloc (.cells z48 48)) B 1024 (fun _ => 0) := by
  subst hB
  refine ⟨_, Blk.new _ _ _, by simp [z48], fun i hi => ?_⟩
  simp [z48, hi]

theorem Blk.setRow {w : World} {b : Nat} {c : Array Value} {e : TypeId} (h : Blk w b c e) (c' : Array Value) : Blk (w.setRow b c') b c' e := setRow_heap w b c c' e (0, 0) h
theorem Kept.setRow {S : Nat → Prop} {a w : World} (h : Kept S a w) (g : Nat) (c : Array Value) (hp : a.heap.size ≤ g ∨ S g) : Kept S a (w.setRow g c) :=
  ⟨h.os, h.tape, h.output, by simpa using h.size, fun k hk hs => (setRow_other w g k c (by
    rintro rfl
    rcases hp with hp | hp
    · omega
    · exact hs hp)).trans (h.block k hk hs)⟩

/-- A guard: the next operation is this one. -/
theorem at_op {P : Program} {ops : Array Oper} {rest : List Oper} {o : Oper} {a : Act} {w : World} {Q : Exit → Act → World → Prop} (q : Op) (h : o.op = q) (hK : wpList P ops Q (o :: rest) a w) : wpList P ops Q (o :: rest) a w := hK

/-- 'new(T)', T an array: the zero value's cells in a new block. -/
theorem wpList_alloc_agg {P : Program} {ops : Array Oper} {rest : List Oper} {o : Oper} {a : Act} {w : World} {Q : Exit → Act → World → Prop}
    (e : TypeId) (z : Array Value) (hop : o.op = Op.alloc e) (hg : o.guard = none) (i : TypeInfo) (h2 : P.info? e = some i) (h3 : i.zero = some (.agg z))
    (hK : wpList P ops Q rest (a.put o.dst (.pointer (some ⟨w.heap.size, 0, none⟩))) (w.alloc (.cells z e))) :
    wpList P ops Q (o :: rest) a w := by
  refine wpList_plain hg fun K hK' => ?_
  unfold Oper.wp
  simp [execOp, hop, Instr.alloc, zeroValue, typeInfo, h2, h3, newVar, newRow, Value.cells, Result.andThen]
  exact hK' _ _ hK

/-- The rows are the call's own: each pointer is nil or leads to a block of its own, out of S. -/
def OwnRows (S : Nat → Prop) (w : World) (cs : Array Value) (E : Nat → Nat → Int) : Prop :=
  ∃ g : Nat → Option Nat, (∀ r, r < 54 → cs[r]? = some (.pointer ((g r).map fun b => ⟨b, 0, none⟩))) ∧ (∀ r, r < 54 → g r = none → ∀ c, c < 1024 → E r c = 0) ∧
    (∀ r b, r < 54 → g r = some b → S b ∧ Nums .u64 48 w b 1024 (E r)) ∧ (∀ r r' b, r < 54 → r' < 54 → g r = some b → g r' = some b → r = r')

theorem OwnRows.rowsAt {S : Nat → Prop} {w : World} {cs : Array Value} {E : Nat → Nat → Int} (h : OwnRows S w cs E) : RowsAt w cs E := by
  obtain ⟨g, h1, h2, h3, _⟩ := h
  intro r hr
  cases hg : g r with
  | none => exact .inl ⟨by rw [h1 r hr, hg]; rfl, h2 r hr hg⟩
  | some b => exact .inr ⟨b, 0, by rw [h1 r hr, hg]; rfl, fun c hc => by rw [Nat.zero_add]; exact (h3 r b hr hg).2.cell c hc⟩

/-- What lies at place k. -/
theorem OwnRows.at {S : Nat → Prop} {w : World} {cs : Array Value} {E : Nat → Nat → Int} (h : OwnRows S w cs E) (k : Nat) (hk : k < 54) :
    (cs[k]? = some (.pointer none) ∧ ∀ c, c < 1024 → E k c = 0) ∨ ∃ b, cs[k]? = some (.pointer (some ⟨b, 0, none⟩)) ∧ S b ∧ Nums .u64 48 w b 1024 (E k) := by
  obtain ⟨g, h1, h2, h3, _⟩ := h
  cases hg : g k with
  | none => exact .inl ⟨by rw [h1 k hk, hg]; rfl, h2 k hk hg⟩
  | some b => exact .inr ⟨b, by rw [h1 k hk, hg]; rfl, (h3 k b hk hg).1, (h3 k b hk hg).2⟩

theorem OwnRows.row {S : Nat → Prop} {w : World} {cs : Array Value} {E : Nat → Nat → Int} (h : OwnRows S w cs E) {k b : Nat} (hk : k < 54) (hp : cs[k]? = some (.pointer (some ⟨b, 0, none⟩))) : S b ∧ Nums .u64 48 w b 1024 (E k) := by
  rcases h.at k hk with ⟨h1, _⟩ | ⟨b', h1, h2, h3⟩
  · rw [h1] at hp; simp at hp
  · rw [h1] at hp
    simp at hp
    subst hp
    exact ⟨h2, h3⟩

theorem OwnRows.kept {S T : Nat → Prop} {w w' : World} {cs : Array Value} {E : Nat → Nat → Int} (h : OwnRows S w cs E) (k : Kept T w w') (hs : ∀ b, S b → ¬ T b) : OwnRows S w' cs E := by
  obtain ⟨g, h1, h2, h3, h4⟩ := h
  exact ⟨g, h1, h2, fun r b hr hg => ⟨(h3 r b hr hg).1, (h3 r b hr hg).2.kept k (hs b (h3 r b hr hg).1)⟩, h4⟩

theorem OwnRows.congr {S : Nat → Prop} {w : World} {cs : Array Value} {E E' : Nat → Nat → Int} (h : OwnRows S w cs E) (he : ∀ r c, r < 54 → c < 1024 → E r c = E' r c) : OwnRows S w cs E' := by
  obtain ⟨g, h1, h2, h3, h4⟩ := h
  exact ⟨g, h1, fun r hr hg c hc => by rw [← he r c hr hc]; exact h2 r hr hg c hc, fun r b hr hg => ⟨(h3 r b hr hg).1, (h3 r b hr hg).2.congr (fun c hc => he r c hr hc)⟩, h4⟩

/-- Only the 54 cells are looked at. -/
theorem OwnRows.cells {S : Nat → Prop} {w : World} {cs cs' : Array Value} {E : Nat → Nat → Int} (h : OwnRows S w cs E) (hc : ∀ r, r < 54 → cs'[r]? = cs[r]?) : OwnRows S w cs' E := by
  obtain ⟨g, h1, h2, h3, h4⟩ := h
  exact ⟨g, fun r hr => by rw [hc r hr]; exact h1 r hr, h2, h3, h4⟩

theorem OwnRows.mono {S T : Nat → Prop} {w : World} {cs : Array Value} {E : Nat → Nat → Int} (h : OwnRows S w cs E) (hb : ∀ b, b < w.heap.size → S b → T b) : OwnRows T w cs E := by
  obtain ⟨g, h1, h2, h3, h4⟩ := h
  exact ⟨g, h1, h2, fun r b hr hg => ⟨hb b (h3 r b hr hg).2.lt (h3 r b hr hg).1, (h3 r b hr hg).2⟩, h4⟩

/-- A new row comes in at place k. -/
theorem OwnRows.put {S : Nat → Prop} {w w' : World} {nb k : Nat} {cs : Array Value} {E : Nat → Nat → Int} {f : Nat → Int} (h : OwnRows S w cs E) (hk : k < 54) (hB : S nb) (hnb : w.heap.size ≤ nb) (kp : Kept (fun _ => False) w w')
    (hn : Nums .u64 48 w' nb 1024 f) : OwnRows S w' (cs.setIfInBounds k (.pointer (some ⟨nb, 0, none⟩))) (fun r c => if r = k then f c else E r c) := by
  obtain ⟨g, h1, h2, h3, h4⟩ := h
  have hks : k < cs.size := by
    have := h1 k hk
    rcases Nat.lt_or_ge k cs.size with h | h
    · exact h
    · rw [Array.getElem?_eq_none h] at this; cases this
  have hne : ∀ r b, r < 54 → g r = some b → b ≠ nb := fun r b hr hg => by
    have := (h3 r b hr hg).2.lt
    omega
  refine ⟨fun r => if r = k then some nb else g r, fun r hr => ?_, fun r hr hg c hc => ?_, fun r b hr hg => ?_, fun r r' b hr hr' hg hg' => ?_⟩
  · rw [Array.getElem?_setIfInBounds]
    dsimp only
    by_cases h : r = k
    · subst h; simp [hks]
    · rw [if_neg (fun e => h e.symm), if_neg h]; exact h1 r hr
  · dsimp only at hg ⊢
    by_cases h : r = k
    · subst h; simp at hg
    · rw [if_neg h] at hg ⊢; exact h2 r hr hg c hc
  · dsimp only at hg ⊢
    by_cases h : r = k
    · subst h
      rw [if_pos rfl] at hg
      obtain rfl := Option.some.inj hg
      exact ⟨hB, hn.congr (fun c _ => by simp)⟩
    · rw [if_neg h] at hg
      exact ⟨(h3 r b hr hg).1, ((h3 r b hr hg).2.kept kp id).congr (fun c _ => by simp [h])⟩
  · dsimp only at hg hg'
    by_cases h : r = k
    · by_cases h' : r' = k
      · omega
      · subst h
        rw [if_pos rfl] at hg
        obtain rfl := Option.some.inj hg
        rw [if_neg h'] at hg'
        exact absurd rfl (hne r' _ hr' hg')
    · rw [if_neg h] at hg
      by_cases h' : r' = k
      · rw [if_pos h'] at hg'
        obtain rfl := Option.some.inj hg'
        exact absurd rfl (hne r _ hr hg)
      · rw [if_neg h'] at hg'
        exact h4 r r' b hr hr' hg hg'

/-- The row at place k is written at one cell. -/
theorem OwnRows.write {S : Nat → Prop} {w : World} {k b c : Nat} {cs : Array Value} {E : Nat → Nat → Int} (h : OwnRows S w cs E) (hk : k < 54) (hc : c < 1024) (hp : cs[k]? = some (.pointer (some ⟨b, 0, none⟩))) (v : Int) :
    OwnRows S (w.setCell ⟨b, c, none⟩ (.int .u64 v)) cs (fun r d => if r = k ∧ d = c then v else E r d) := by
  obtain ⟨g, h1, h2, h3, h4⟩ := h
  have hg : g k = some b := by
    have := h1 k hk
    rw [hp] at this
    cases hgk : g k with
    | none => rw [hgk] at this; simp at this
    | some x => rw [hgk] at this; simp at this; rw [this]
  refine ⟨g, h1, fun r hr hn d hd => ?_, fun r x hr hx => ?_, h4⟩
  · have : r ≠ k := fun e => by subst e; rw [hg] at hn; cases hn
    simp only [this, false_and, if_false]
    exact h2 r hr hn d hd
  · refine ⟨(h3 r x hr hx).1, ?_⟩
    by_cases e : r = k
    · subst e
      rw [hg] at hx
      obtain rfl := Option.some.inj hx
      exact ((h3 r b hk hg).2.set c v).congr (fun d _ => by by_cases hd : d = c <;> simp [hd])
    · have hxb : x ≠ b := fun e' => by subst e'; exact e (h4 r k x hr hk hx hg)
      exact ((h3 r x hr hx).2.set_other (a := ⟨b, c, none⟩) hxb _).congr (fun d _ => by simp [e])

theorem OwnRows.oneCell {S : Nat → Prop} {w : World} {cs : Array Value} {E : Nat → Nat → Int} (h : OwnRows S w cs E) (hs : cs.size = 54) : cs.all (·.oneCell') = true := by
  obtain ⟨g, h1, _⟩ := h
  rw [Array.all_eq_true]
  intro i hi
  have := h1 i (by omega)
  rw [Array.getElem?_eq_getElem hi] at this
  rw [Option.some.inj this]
  rfl

end Go.Proofs.Qxb6601538a
