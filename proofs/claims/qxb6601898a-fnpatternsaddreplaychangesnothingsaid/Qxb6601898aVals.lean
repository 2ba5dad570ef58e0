/-
  Rows of values that the call makes and fills; what the law saves.
-/
import Derived.Test.Qxb6601898aFit
namespace Go.Proofs.Qxb6601898a
open Go.RowKit
set_option linter.unusedVariables false

/-- Block b is a row of n values of one cell each. -/
def Vals (e : TypeId) (w : World) (b n : Nat) (f : Nat → Value) : Prop := ∃ c, Blk w b c e ∧ c.size = n ∧ ∀ i, i < n → c[i]? = some (f i)

section
variable {e : TypeId} {w w' : World} {b n : Nat} {f g : Nat → Value} {U : Nat → Prop}
theorem Vals.lt (h : Vals e w b n f) : b < w.heap.size := by obtain ⟨c, hb, _⟩ := h; exact hb.lt
theorem Vals.cell (h : Vals e w b n f) (i : Nat) (hi : i < n) : w.cell? ⟨b, i, none⟩ = some (f i) := by obtain ⟨c, hb, _, hc⟩ := h; rw [hb.cell, hc i hi]
theorem Vals.frozen (h : Vals e w b n f) (i : Nat) : w.frozen? ⟨b, i, none⟩ = false := by obtain ⟨c, hb, _⟩ := h; exact hb.frozen i
theorem Vals.set (h : Vals e w b n f) (i : Nat) (v : Value) : Vals e (w.setCell ⟨b, i, none⟩ v) b n (fun j => if j = i then v else f j) := by
  obtain ⟨c, hb, hs, hc⟩ := h
  refine ⟨_, hb.set i _, by simpa using hs, fun j hj => ?_⟩
  rw [Array.getElem?_setIfInBounds]
  by_cases hji : i = j
  · subst hji
    simp [hs, hj]
  · rw [if_neg hji, hc j hj]
    simp only [if_neg (fun h : j = i => hji h.symm)]
theorem Vals.congr (h : Vals e w b n f) (hf : ∀ i, i < n → f i = g i) : Vals e w b n g := by
  obtain ⟨c, hb, hs, hc⟩ := h
  exact ⟨c, hb, hs, fun i hi => by rw [hc i hi, hf i hi]⟩
theorem Vals.kept (h : Vals e w b n f) (k : Kept U w w') (hs : ¬ U b) : Vals e w' b n f := by
  obtain ⟨c, hb, hc⟩ := h
  exact ⟨c, hb.kept k hs, hc⟩
theorem Vals.set_other (h : Vals e w b n f) {x o : Nat} (hx : b ≠ x) (v : Value) : Vals e (w.setCell ⟨x, o, none⟩ v) b n f := by
  obtain ⟨c, hb, hc⟩ := h
  exact ⟨c, hb.set_other (a := ⟨x, o, none⟩) hx v, hc⟩
theorem Vals.alloc (h : Vals e w b n f) (o : Obj) : Vals e (w.alloc o) b n f := h.kept (U := fun _ => False) ((Kept.refl _ _).alloc o) id
end
theorem Vals.new (e : TypeId) (w : World) (z : Value) (n B : Nat) (hB : w.heap.size = B) : Vals e (w.alloc (.cells (madeCells #[z] n) e)) B n (fun _ => z) := by
  subst hB
  refine ⟨_, Blk.new _ _ _, size_madeCells _ _, fun i hi => ?_⟩
  simp [madeCells, hi, Nat.mod_one]

/-- The first k are as they should be. -/
def firstK (f : Nat → Value) (z : Value) (k : Nat) (i : Nat) : Value := if i < k then f i else z
theorem firstK_zero (f : Nat → Value) (z : Value) (i : Nat) : z = firstK f z 0 i := by simp [firstK]
theorem firstK_succ (f : Nat → Value) (z : Value) (k i : Nat) : (if i = k then f k else firstK f z k i) = firstK f z (k + 1) i := by
  unfold firstK
  by_cases h : i = k
  · subst h; simp
  · by_cases h2 : i < k
    · simp [h, h2, show i < k + 1 by omega]
    · simp [h, h2, show ¬ i < k + 1 by omega]
theorem firstK_full (f : Nat → Value) (z : Value) (k i : Nat) (h : i < k) : firstK f z k i = f i := by simp [firstK, h]

end Go.Proofs.Qxb6601898a
