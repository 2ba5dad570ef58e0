/-
  A trace and its entries in memory.
-/
import Derived.Test.Qxb6600263aHas
namespace Go.Proofs.Qxb6600263a
open Go.RowKit
set_option linter.unusedVariables false

/-- The zero value of an entry, cell by cell. -/
def nodeZ : Array Value := #[.int .u32 0, .int .u8 0, .int .u32 0, .int .u16 0, .int .u16 0, .int .u32 0, .int .u32 0, .int .u32 0, .int .u8 0, .int .u8 0, .int .u8 0, .int .u8 0, .int .u32 0, .int .u32 0, .int .u8 0, .int .u64 0, .int .u32 0, .int .u32 0,
  .int .u8 0, .int .u8 0, .int .u8 0, .int .u8 0, .int .u8 0, .int .u8 0, .int .u8 0, .int .u8 0, .int .u32 0, .int .u32 0, .int .u32 0, .int .u32 0, .int .u32 0, .int .u32 0, .int .u32 0, .int .u32 0, .int .u32 0, .int .u32 0, .int .u32 0, .int .u32 0, .slice none 0 0, .int .i64 0]

theorem Try.info47 : (Try.prog.info? 47).map (fun i => (i.zero, i.size, i.bytes)) = some (some (.agg nodeZ), 40, 160) := by kernel_rfl

/-- n entries lie in block b: their fields, Hop_Lims, wide Hop_Lims, counts. -/
def Nodes (w : World) (b n : Nat) (F H V U : Nat → Int) : Prop :=
  ∃ c, Blk w b c 47 ∧ c.size = n * 40 ∧ ∀ i, i < n → c[i * 40]? = some (.int .u32 (F i)) ∧ c[i * 40 + 1]? = some (.int .u8 (H i)) ∧ c[i * 40 + 14]? = some (.int .u8 (V i)) ∧ c[i * 40 + 39]? = some (.int .i64 (U i))

section
variable {w : World} {b n : Nat} {F H V U : Nat → Int}
theorem Nodes.lt (h : Nodes w b n F H V U) : b < w.heap.size := by
  obtain ⟨c, hb, _⟩ := h
  exact hb.lt
theorem Nodes.cells (h : Nodes w b n F H V U) (i : Nat) (hi : i < n) : w.cell? ⟨b, i * 40, none⟩ = some (.int .u32 (F i)) ∧ w.cell? ⟨b, i * 40 + 1, none⟩ = some (.int .u8 (H i)) ∧
    w.cell? ⟨b, i * 40 + 14, none⟩ = some (.int .u8 (V i)) ∧ w.cell? ⟨b, i * 40 + 39, none⟩ = some (.int .i64 (U i)) := by
  obtain ⟨c, hb, _, hc⟩ := h
  simp only [hb.cell]
  exact hc i hi
theorem Nodes.frozen (h : Nodes w b n F H V U) (o : Nat) : w.frozen? ⟨b, o, none⟩ = false := by
  obtain ⟨c, hb, _⟩ := h
  exact hb.frozen o
theorem Nodes.congr {F' H' V' U' : Nat → Int} (h : Nodes w b n F H V U) (hf : ∀ i, i < n → F i = F' i ∧ H i = H' i ∧ V i = V' i ∧ U i = U' i) : Nodes w b n F' H' V' U' := by
  obtain ⟨c, hb, hs, hc⟩ := h
  refine ⟨c, hb, hs, fun i hi => ?_⟩
  obtain ⟨e1, e2, e3, e4⟩ := hf i hi
  rw [← e1, ← e2, ← e3, ← e4]
  exact hc i hi
theorem Nodes.kept {w' : World} {S : Nat → Prop} (h : Nodes w b n F H V U) (hk : Kept S w w') (hs : ¬ S b) : Nodes w' b n F H V U := by
  obtain ⟨c, hb, hc⟩ := h
  exact ⟨c, hb.kept hk hs, hc⟩
theorem Nodes.set_other (h : Nodes w b n F H V U) {a : Addr} (ha : b ≠ a.block) (v : Value) : Nodes (w.setCell a v) b n F H V U := by
  obtain ⟨c, hb, hc⟩ := h
  exact ⟨c, hb.set_other ha v, hc⟩

theorem upd_at {c : Array Value} {i : Nat} {v : Value} (h : i < c.size) : (c.setIfInBounds i v)[i]? = some v := by
  rw [Array.getElem?_setIfInBounds]; simp [h]
theorem upd_off {c : Array Value} {i j : Nat} {v : Value} (h : i ≠ j) : (c.setIfInBounds i v)[j]? = c[j]? := by
  rw [Array.getElem?_setIfInBounds, if_neg h]

theorem Nodes.setF (h : Nodes w b n F H V U) (i : Nat) (hi : i < n) (v : Int) : Nodes (w.setCell ⟨b, i * 40, none⟩ (.int .u32 v)) b n (fun j => if j = i then v else F j) H V U := by
  obtain ⟨c, hb, hs, hc⟩ := h
  refine ⟨_, hb.set _ _, by simpa using hs, fun j hj => ?_⟩
  obtain ⟨e1, e2, e3, e4⟩ := hc j hj
  refine ⟨?_, (upd_off (by omega)).trans e2, (upd_off (by omega)).trans e3, (upd_off (by omega)).trans e4⟩
  by_cases hji : j = i
  · subst hji; simp only [if_true]; exact upd_at (by omega)
  · simp only [if_neg hji]; exact (upd_off (by omega)).trans e1
theorem Nodes.setH (h : Nodes w b n F H V U) (i : Nat) (hi : i < n) (v : Int) : Nodes (w.setCell ⟨b, i * 40 + 1, none⟩ (.int .u8 v)) b n F (fun j => if j = i then v else H j) V U := by
  obtain ⟨c, hb, hs, hc⟩ := h
  refine ⟨_, hb.set _ _, by simpa using hs, fun j hj => ?_⟩
  obtain ⟨e1, e2, e3, e4⟩ := hc j hj
  refine ⟨(upd_off (by omega)).trans e1, ?_, (upd_off (by omega)).trans e3, (upd_off (by omega)).trans e4⟩
  by_cases hji : j = i
  · subst hji; simp only [if_true]; exact upd_at (by omega)
  · simp only [if_neg hji]; exact (upd_off (by omega)).trans e2
theorem Nodes.setV (h : Nodes w b n F H V U) (i : Nat) (hi : i < n) (v : Int) : Nodes (w.setCell ⟨b, i * 40 + 14, none⟩ (.int .u8 v)) b n F H (fun j => if j = i then v else V j) U := by
  obtain ⟨c, hb, hs, hc⟩ := h
  refine ⟨_, hb.set _ _, by simpa using hs, fun j hj => ?_⟩
  obtain ⟨e1, e2, e3, e4⟩ := hc j hj
  refine ⟨(upd_off (by omega)).trans e1, (upd_off (by omega)).trans e2, ?_, (upd_off (by omega)).trans e4⟩
  by_cases hji : j = i
  · subst hji; simp only [if_true]; exact upd_at (by omega)
  · simp only [if_neg hji]; exact (upd_off (by omega)).trans e3
theorem Nodes.setU (h : Nodes w b n F H V U) (i : Nat) (hi : i < n) (v : Int) : Nodes (w.setCell ⟨b, i * 40 + 39, none⟩ (.int .i64 v)) b n F H V (fun j => if j = i then v else U j) := by
  obtain ⟨c, hb, hs, hc⟩ := h
  refine ⟨_, hb.set _ _, by simpa using hs, fun j hj => ?_⟩
  obtain ⟨e1, e2, e3, e4⟩ := hc j hj
  refine ⟨(upd_off (by omega)).trans e1, (upd_off (by omega)).trans e2, (upd_off (by omega)).trans e3, ?_⟩
  by_cases hji : j = i
  · subst hji; simp only [if_true]; exact upd_at (by omega)
  · simp only [if_neg hji]; exact (upd_off (by omega)).trans e4
end

theorem made_at (z : Array Value) (n j : Nat) (h : j < n) : (madeCells z n)[j]? = some z[j % z.size]! := by
  simp [madeCells, h]

theorem Nodes.new (w : World) (n : Nat) : Nodes (w.alloc (.cells (madeCells nodeZ (n * 40)) 47)) w.heap.size n (fun _ => 0) (fun _ => 0) (fun _ => 0) (fun _ => 0) := by
  have hz : nodeZ.size = 40 := rfl
  refine ⟨_, Blk.new _ _ _, size_madeCells _ _, fun i hi => ?_⟩
  refine ⟨?_, ?_, ?_, ?_⟩
  · rw [made_at _ _ _ (by omega), hz, show i * 40 % 40 = 0 by omega]; rfl
  · rw [made_at _ _ _ (by omega), hz, show (i * 40 + 1) % 40 = 1 by omega]; rfl
  · rw [made_at _ _ _ (by omega), hz, show (i * 40 + 14) % 40 = 14 by omega]; rfl
  · rw [made_at _ _ _ (by omega), hz, show (i * 40 + 39) % 40 = 39 by omega]; rfl

/-- A trace lies in block b: its pointer to the total, its entries' slice. -/
def TraceAt (w : World) (b : Nat) (p s : Value) : Prop := ∃ c, Blk w b c 39 ∧ c.size = 10 ∧ c[8]? = some p ∧ c[9]? = some s

section
variable {w : World} {b : Nat} {p s : Value}
theorem TraceAt.lt (h : TraceAt w b p s) : b < w.heap.size := by
  obtain ⟨c, hb, _⟩ := h
  exact hb.lt
theorem TraceAt.c8 (h : TraceAt w b p s) : w.cell? ⟨b, 8, none⟩ = some p := by
  obtain ⟨c, hb, _, h8, _⟩ := h
  rw [hb.cell, h8]
theorem TraceAt.c9 (h : TraceAt w b p s) : w.cell? ⟨b, 9, none⟩ = some s := by
  obtain ⟨c, hb, _, _, h9⟩ := h
  rw [hb.cell, h9]
theorem TraceAt.frozen (h : TraceAt w b p s) (o : Nat) : w.frozen? ⟨b, o, none⟩ = false := by
  obtain ⟨c, hb, _⟩ := h
  exact hb.frozen o
theorem TraceAt.kept {w' : World} {S : Nat → Prop} (h : TraceAt w b p s) (hk : Kept S w w') (hs : ¬ S b) : TraceAt w' b p s := by
  obtain ⟨c, hb, hc⟩ := h
  exact ⟨c, hb.kept hk hs, hc⟩
theorem TraceAt.set_other (h : TraceAt w b p s) {a : Addr} (ha : b ≠ a.block) (v : Value) : TraceAt (w.setCell a v) b p s := by
  obtain ⟨c, hb, hc⟩ := h
  exact ⟨c, hb.set_other ha v, hc⟩
theorem TraceAt.set8 (h : TraceAt w b p s) (v : Value) : TraceAt (w.setCell ⟨b, 8, none⟩ v) b v s := by
  obtain ⟨c, hb, hs, h8, h9⟩ := h
  exact ⟨_, hb.set _ _, by simpa using hs, upd_at (by omega), (upd_off (by omega)).trans h9⟩
theorem TraceAt.set9 (h : TraceAt w b p s) (v : Value) : TraceAt (w.setCell ⟨b, 9, none⟩ v) b p v := by
  obtain ⟨c, hb, hs, h8, h9⟩ := h
  exact ⟨_, hb.set _ _, by simpa using hs, (upd_off (by omega)).trans h8, upd_at (by omega)⟩
end

end Go.Proofs.Qxb6600263a
