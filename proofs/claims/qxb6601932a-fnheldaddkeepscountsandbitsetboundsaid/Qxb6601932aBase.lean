/-
  Plain facts on worlds: a block of cells known whole, a block of numbers, what stays. No program in sight.
-/
import Derived.WalkKit
import Derived.Below
import Derived.Deep.QuietTactic
import Derived.BigQuiet
namespace Go.Proofs.Qxb6601932a
open Go.RowKit
set_option linter.unusedVariables false

theorem hid {p : Prop} (h : p) : Hid p := h

/-- Every block below the old size, but those in S, is as it was. -/
structure Kept (S : Nat → Prop) (w w' : World) : Prop where
  os : w'.os = w.os
  tape : w'.tape = w.tape
  output : w'.output = w.output
  size : w.heap.size ≤ w'.heap.size
  block : ∀ k, k < w.heap.size → ¬ S k → w'.heap[k]? = w.heap[k]?

theorem Kept.refl (S : Nat → Prop) (w : World) : Kept S w w := ⟨rfl, rfl, rfl, Nat.le_refl _, fun _ _ _ => rfl⟩
theorem Kept.trans {S : Nat → Prop} {a b c : World} (h : Kept S a b) (k : Kept S b c) : Kept S a c :=
  ⟨k.os.trans h.os, k.tape.trans h.tape, k.output.trans h.output, Nat.le_trans h.size k.size,
    fun i hi hs => (k.block i (Nat.lt_of_lt_of_le hi h.size) hs).trans (h.block i hi hs)⟩
theorem Kept.mono {S T : Nat → Prop} {w w' : World} (h : Kept S w w') (hs : ∀ k, k < w.heap.size → S k → T k) : Kept T w w' :=
  ⟨h.os, h.tape, h.output, h.size, fun k hk ht => h.block k hk (fun s => ht (hs k hk s))⟩
theorem Kept.alloc {S : Nat → Prop} {a w : World} (h : Kept S a w) (o : Obj) : Kept S a (w.alloc o) :=
  ⟨h.os, h.tape, h.output, by have := h.size; simp; omega, fun k hk hs => (Below.heap_alloc w o k (Nat.lt_of_lt_of_le hk h.size)).trans (h.block k hk hs)⟩
theorem Kept.drew {S : Nat → Prop} {a w : World} (h : Kept S a w) : Kept S a w.drew := ⟨h.os, h.tape, h.output, h.size, h.block⟩
theorem Kept.drewN {S : Nat → Prop} {a w : World} (h : Kept S a w) (n : Nat) : Kept S a (w.drewN n) := ⟨h.os, h.tape, h.output, h.size, h.block⟩
theorem Kept.setCell {S : Nat → Prop} {a w : World} (h : Kept S a w) {p : Addr} (hp : a.heap.size ≤ p.block ∨ S p.block) (u : Value) : Kept S a (w.setCell p u) :=
  ⟨h.os, h.tape, h.output, by have := h.size; simp; omega, fun k hk hs => (Below.heap_setCell w p u k (by
    rintro rfl
    rcases hp with hp | hp
    · omega
    · exact hs hp)).trans (h.block k hk hs)⟩
theorem Kept.below {S : Nat → Prop} {w w' : World} {B : Nat} (h : Kept S w w') (hB : B ≤ w.heap.size) (hs : ∀ k, k < B → ¬ S k) : Below B w w' :=
  ⟨h.os, h.tape, h.output, h.size, fun k hk => h.block k (by omega) (hs k hk)⟩
theorem Kept.of_below {S : Nat → Prop} {w w' : World} (h : Below w.heap.size w w') : Kept S w w' :=
  ⟨h.os, h.tape, h.output, h.size, fun k hk _ => h.block k hk⟩
theorem Kept.cell {S : Nat → Prop} {w w' : World} (h : Kept S w w') {p : Addr} (hp : p.block < w.heap.size) (hs : ¬ S p.block) : w'.cell? p = w.cell? p :=
  World.cell?_of_block (w := w) (h.block p.block hp hs)

/-- The block b is a row of cells, c, none frozen. -/
def Blk (w : World) (b : Nat) (c : Array Value) (e : TypeId) : Prop := w.heap[b]? = some (.cells c e (0, 0))

theorem Blk.lt {w : World} {b : Nat} {c : Array Value} {e : TypeId} (h : Blk w b c e) : b < w.heap.size := by
  unfold Blk at h
  rcases Nat.lt_or_ge b w.heap.size with h' | h'
  · exact h'
  · simp [Array.getElem?_eq_none h'] at h
theorem Blk.cell {w : World} {b : Nat} {c : Array Value} {e : TypeId} (h : Blk w b c e) (o : Nat) : w.cell? ⟨b, o, none⟩ = c[o]? := by
  unfold Blk at h
  simp [World.cell?, h]
theorem Blk.frozen {w : World} {b : Nat} {c : Array Value} {e : TypeId} (h : Blk w b c e) (o : Nat) : w.frozen? ⟨b, o, none⟩ = false := by
  unfold Blk at h
  simp [World.frozen?, h]
theorem Blk.set {w : World} {b : Nat} {c : Array Value} {e : TypeId} (h : Blk w b c e) (o : Nat) (v : Value) : Blk (w.setCell ⟨b, o, none⟩ v) b (c.setIfInBounds o v) e := by
  unfold Blk at h ⊢
  simp only [World.setCell, Array.getElem?_modify, ↓reduceIte, h, Option.map_some]
  simp
theorem Blk.set_other {w : World} {b : Nat} {c : Array Value} {e : TypeId} (h : Blk w b c e) {a : Addr} (ha : b ≠ a.block) (v : Value) : Blk (w.setCell a v) b c e := by
  unfold Blk at h ⊢
  rw [Below.heap_setCell _ _ _ _ ha]
  exact h
theorem Blk.alloc {w : World} {b : Nat} {c : Array Value} {e : TypeId} (h : Blk w b c e) (o : Obj) : Blk (w.alloc o) b c e := by
  have := h.lt
  unfold Blk at h ⊢
  rw [Below.heap_alloc _ _ _ this]
  exact h
theorem Blk.new (w : World) (c : Array Value) (e : TypeId) : Blk (w.alloc (.cells c e)) w.heap.size c e := by
  show (w.heap.push _)[w.heap.size]? = _
  simp
theorem Blk.kept {w w' : World} {S : Nat → Prop} {b : Nat} {c : Array Value} {e : TypeId} (h : Blk w b c e) (k : Kept S w w') (hs : ¬ S b) : Blk w' b c e := by
  have := h.lt
  unfold Blk at h ⊢
  rw [k.block b this hs]
  exact h

/-- The block b is a row of n numbers of kind k: z 0, z 1, .. -/
def Nums (k : IntKind) (e : TypeId) (w : World) (b n : Nat) (z : Nat → Int) : Prop :=
  ∃ c, Blk w b c e ∧ c.size = n ∧ ∀ i, i < n → c[i]? = some (.int k (z i))

theorem Nums.lt {k : IntKind} {e : TypeId} {w : World} {b n : Nat} {z : Nat → Int} (h : Nums k e w b n z) : b < w.heap.size := by
  obtain ⟨c, hb, _⟩ := h
  exact hb.lt
theorem Nums.cell {k : IntKind} {e : TypeId} {w : World} {b n : Nat} {z : Nat → Int} (h : Nums k e w b n z) (i : Nat) (hi : i < n) : w.cell? ⟨b, i, none⟩ = some (.int k (z i)) := by
  obtain ⟨c, hb, _, hc⟩ := h
  rw [hb.cell, hc i hi]
theorem Nums.frozen {k : IntKind} {e : TypeId} {w : World} {b n : Nat} {z : Nat → Int} (h : Nums k e w b n z) (i : Nat) : w.frozen? ⟨b, i, none⟩ = false := by
  obtain ⟨c, hb, _⟩ := h
  exact hb.frozen i
theorem Nums.set {k : IntKind} {e : TypeId} {w : World} {b n : Nat} {z : Nat → Int} (h : Nums k e w b n z) (i : Nat) (v : Int) :
    Nums k e (w.setCell ⟨b, i, none⟩ (.int k v)) b n (fun j => if j = i then v else z j) := by
  obtain ⟨c, hb, hs, hc⟩ := h
  refine ⟨_, hb.set i _, by simpa using hs, fun j hj => ?_⟩
  rw [Array.getElem?_setIfInBounds]
  by_cases hji : i = j
  · subst hji
    simp [hs, hj]
  · rw [if_neg hji, hc j hj]
    simp only [if_neg (fun h : j = i => hji h.symm)]
theorem Nums.congr {k : IntKind} {e : TypeId} {w : World} {b n : Nat} {z z' : Nat → Int} (h : Nums k e w b n z) (hz : ∀ i, i < n → z i = z' i) : Nums k e w b n z' := by
  obtain ⟨c, hb, hs, hc⟩ := h
  exact ⟨c, hb, hs, fun i hi => by rw [hc i hi, hz i hi]⟩
theorem Nums.set_other {k : IntKind} {e : TypeId} {w : World} {b n : Nat} {z : Nat → Int} (h : Nums k e w b n z) {a : Addr} (ha : b ≠ a.block) (v : Value) : Nums k e (w.setCell a v) b n z := by
  obtain ⟨c, hb, hc⟩ := h
  exact ⟨c, hb.set_other ha v, hc⟩
theorem Nums.kept {w w' : World} {S : Nat → Prop} {k : IntKind} {e : TypeId} {b n : Nat} {z : Nat → Int} (h : Nums k e w b n z) (hk : Kept S w w') (hs : ¬ S b) : Nums k e w' b n z := by
  obtain ⟨c, hb, hc⟩ := h
  exact ⟨c, hb.kept hk hs, hc⟩
theorem Nums.new {k : IntKind} (e : TypeId) (w : World) (n : Nat) : Nums k e (w.alloc (.cells (madeCells #[.int k 0] n) e)) w.heap.size n (fun _ => 0) := by
  refine ⟨_, Blk.new _ _ _, size_madeCells _ _, fun i hi => ?_⟩
  simp [madeCells, hi, Nat.mod_one]

/-- A slice's elements: what the walk asks of a slice of numbers that is only read. -/
def Reads (k : IntKind) (w : World) (a : Option Addr) (n : Nat) (z : Nat → Int) : Prop :=
  n = 0 ∨ ∃ b o, a = some ⟨b, o, none⟩ ∧ ∀ i, i < n → w.cell? ⟨b, o + i, none⟩ = some (.int k (z i))

theorem Reads.mono {k : IntKind} {w : World} {a : Option Addr} {n m : Nat} {z : Nat → Int} (h : Reads k w a n z) (hm : m ≤ n) : Reads k w a m z := by
  rcases h with h | ⟨b, o, e, h⟩
  · exact .inl (by omega)
  · exact .inr ⟨b, o, e, fun i hi => h i (by omega)⟩
theorem Reads.below {k : IntKind} {w w' : World} {a : Option Addr} {n : Nat} {z : Nat → Int} (h : Reads k w a n z) (hb : Below w.heap.size w w') : Reads k w' a n z := by
  rcases h with h | ⟨b, o, e, h⟩
  · exact .inl h
  · exact .inr ⟨b, o, e, fun i hi => by rw [hb.cell (p := ⟨b, o + i, none⟩) (World.block_lt_of_cell? w _ (h i hi))]; exact h i hi⟩
theorem Reads.kept {S : Nat → Prop} {k : IntKind} {w w' : World} {a : Option Addr} {n : Nat} {z : Nat → Int} (h : Reads k w a n z) (hb : Kept S w w') (hs : ∀ b o, a = some ⟨b, o, none⟩ → 0 < n → ¬ S b) : Reads k w' a n z := by
  rcases h with h | ⟨b, o, e, h⟩
  · exact .inl h
  · exact .inr ⟨b, o, e, fun i hi => by rw [hb.cell (p := ⟨b, o + i, none⟩) (World.block_lt_of_cell? w _ (h i hi)) (hs b o e (by omega))]; exact h i hi⟩
theorem Nums.reads {k : IntKind} {e : TypeId} {w : World} {b n : Nat} {z : Nat → Int} (h : Nums k e w b n z) : Reads k w (some ⟨b, 0, none⟩) n z :=
  .inr ⟨b, 0, rfl, fun i hi => by rw [Nat.zero_add]; exact h.cell i hi⟩

/-- 'make([]T, n)': the world written out. -/
theorem wpList_make_exact {P : Program} (w : World) {ops : Array Oper} {rest : List Oper} {o : Oper} {a : Act} {Q : Exit → Act → World → Prop}
    (hg : o.guard = none) (l c : Operand) (t : TypeId) (hop : o.op = Op.makeSlice t l c)
    (e : TypeId) (i : TypeInfo) (z : Value) (size : Nat) (h1 : P.underlying t = some (.slice e)) (h2 : P.info? e = some i) (h3 : i.zero = some z) (h4 : i.size = size)
    (kl kc : IntKind) (L C : Int) (m n : Nat) (hl : a.eval l = .int kl L) (hc : a.eval c = .int kc C) (hL : L = (m : Int)) (hC : C = (n : Int)) (hmn : m ≤ n) (b2 : i.bytes * n ≤ 281474976710656) (b3 : n ≤ maxLen)
    (hK : wpList P ops Q rest (a.put o.dst (.slice (some ⟨w.heap.size, 0, none⟩) m n)) (w.alloc (.cells (madeCells z.cells (n * size)) e))) :
    wpList P ops Q (o :: rest) a w := by
  refine wpList_plain hg fun K hK' => ?_
  subst hL
  subst hC
  subst h4
  have h63' : (n : Int) ≤ 9223372036854775807 := by
    have h := b3
    simp [maxLen] at h
    omega
  have hb' : (i.bytes : Int) * (n : Int) ≤ 281474976710656 := by
    have h : ((i.bytes * n : Nat) : Int) ≤ 281474976710656 := by omega
    rwa [Int.natCast_mul] at h
  have hr := run_make (P := P) w t e i z h1 h2 h3 kl kc m n (by omega) (by omega) hb' h63'
  simp only [Int.toNat_natCast] at hr
  unfold Oper.wp
  simp [execOp, hop, hl, hc, hr, Result.andThen]
  exact hK' _ _ hK

end Go.Proofs.Qxb6601932a
