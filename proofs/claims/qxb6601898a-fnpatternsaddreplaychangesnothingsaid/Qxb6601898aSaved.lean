/-
  What the law saves, and what stays while it does.
-/
import Derived.Test.Qxb6601898aAdd
import Derived.Test.Qxb6601898aVals
namespace Go.Proofs.Qxb6601898a
open Go.RowKit
set_option linter.unusedVariables false

section
variable {T U : Nat → Prop} {w w' : World} {pb : Nat} {S : Pats}
theorem PatAt.drew (h : PatAt T w pb S) : PatAt T w.drew pb S := by obtain ⟨a, b, c, d, h⟩ := h; exact ⟨a, b, c, d, h.drew⟩
theorem PatAt.drewN (h : PatAt T w pb S) (n : Nat) : PatAt T (w.drewN n) pb S := by obtain ⟨a, b, c, d, h⟩ := h; exact ⟨a, b, c, d, h.drewN n⟩
theorem PatAt.kept (h : PatAt T w pb S) (k : Kept U w w') (hT : ∀ b, b < w.heap.size → T b → ¬ U b) : PatAt T w' pb S := by obtain ⟨a, b, c, d, h⟩ := h; exact ⟨a, b, c, d, h.kept k hT⟩
theorem PatAt.re (h : PatAt T w pb S) (hT : ∀ b, b < w.heap.size → T b → U b) : PatAt U w pb S := by obtain ⟨a, b, c, d, h⟩ := h; exact ⟨a, b, c, d, h.re hT⟩
theorem PatAt.lt (h : PatAt T w pb S) : pb < w.heap.size := by obtain ⟨a, b, c, d, h⟩ := h; exact h.blk.lt
theorem PatAt.nil (w : World) (T : Nat → Prop) (hT : T w.heap.size) : PatAt T (w.alloc (.cells #[.slice none 0 0, .slice none 0 0, .map none] 38)) w.heap.size [] := by
  refine ⟨_, _, none, [], ⟨Blk.new w _ 38, hT, .inl ⟨rfl, rfl⟩, ?_, ?_, fun k hk => by simp at hk, fun k k' v v' g hv => by simp at hv, fun g hg => by simp [Value.ownBlock] at hg, fun g hg => by simp [Value.ownBlock] at hg, fun i v g hv => by simp at hv⟩⟩
  · exact World.ownsRow_nil _ _ _ _
  · exact World.ownsRow_nil _ _ _ _
end

theorem VReads.at {T : Nat → Prop} {w w' : World} {a : Option Addr} {n : Nat} {f : Nat → Value} (h : VReads w a n f) (k : Kept T w w') (hT : ∀ b, b < w.heap.size → ¬ T b) (j : Nat) (hj : j < n) {v : Value} (hv : f j = v) :
    ∃ b o, a = some ⟨b, o, none⟩ ∧ b < w.heap.size ∧ w'.cell? ⟨b, o + j, none⟩ = some v := by
  rcases h with h | ⟨b, o, e, h⟩
  · omega
  · have hb := World.block_lt_of_cell? w _ (h j hj)
    exact ⟨b, o, e, hb, by rw [k.cell (p := ⟨b, o + j, none⟩) hb (hT b hb), h j hj, hv]⟩

/-- The owners of the first k patterns, one behind the other. -/
def off (S : Pats) (k : Nat) : List (Int × Bool) := (S.take k).flatMap (·.2)
theorem off_zero (S : Pats) : off S 0 = [] := by simp [off]
theorem off_succ (S : Pats) (k : Nat) (h : k < S.length) : off S (k + 1) = off S k ++ S[k].2 := by
  unfold off
  rw [List.take_succ_eq_append_getElem h, List.flatMap_append]
  simp
theorem off_le (S : Pats) (n : Nat) (hn : ∀ x ∈ S, x.2.length ≤ n) : ∀ k, k ≤ S.length → (off S k).length ≤ k * n := by
  intro k
  induction k with
  | zero => intro _; simp [off]
  | succ k ih =>
    intro h
    rw [off_succ S k (by omega), List.length_append, Nat.succ_mul]
    have := ih (by omega)
    have := hn S[k] (List.getElem_mem _)
    omega
theorem off_split (S : Pats) (k : Nat) : ∀ j, k + j ≤ S.length → ∃ r, off S (k + j) = off S k ++ r := by
  intro j
  induction j with
  | zero => intro _; exact ⟨[], by simp⟩
  | succ j ih =>
    intro h
    obtain ⟨r, hr⟩ := ih (by omega)
    exact ⟨r ++ (S[k + j]'(by omega)).2, by rw [← Nat.add_assoc, off_succ S (k + j) (by omega), hr, List.append_assoc]⟩
theorem off_at (S : Pats) (k i : Nat) (h : k < S.length) (hi : i < S[k].2.length) : (off S S.length)[(off S k).length + i]? = some S[k].2[i] := by
  obtain ⟨r, hr⟩ := off_split S (k + 1) (S.length - (k + 1)) (by omega)
  rw [show k + 1 + (S.length - (k + 1)) = S.length by omega, off_succ S k h, List.append_assoc] at hr
  rw [hr, List.getElem?_append_right (by omega), Nat.add_sub_cancel_left, List.getElem?_append_left hi]
  simp [hi]

theorem Try.info3 : (Try.prog.info? 3).map (fun i => (i.zero, i.size, i.bytes)) = some (some (.int .i64 0), 1, 8) := by kernel_rfl
theorem Try.info4 : (Try.prog.info? 4).map (fun i => (i.zero, i.size, i.bytes)) = some (some (.bool false), 1, 1) := by kernel_rfl

/-- A cell of a row of one-cell values. -/
theorem own_cell {U : Nat → Prop} {w w' : World} {e : TypeId} {a : Option Addr} {n cap : Nat} {xs : List Value} (h : w.ownsRow 0 e 1 (.slice a n cap) n xs) (k : Kept U w w') (hU : ∀ b, b < w.heap.size → a = some ⟨b, 0, none⟩ → ¬ U b) (i : Nat) (hi : i < n) {v : Value} (hv : xs[i]? = some v) :
    ∃ g, a = some ⟨g, 0, none⟩ ∧ g < w.heap.size ∧ w'.cell? ⟨g, i, none⟩ = some v := by
  obtain ⟨g, c, e1, _⟩ := own_at h (by omega)
  cases e1
  have hg := (own_lt h (g := g) rfl).2
  refine ⟨g, rfl, hg, ?_⟩
  rw [k.cell (p := ⟨g, i, none⟩) hg (hU g hg rfl), h.cellAt i (by omega), hv]

/-- The two rows that the law appends to. -/
structure Two (B : Nat) (w : World) (v u : Value) (I : List Int) (J : List Bool) : Prop where
  ids : w.ownsRow 0 3 1 v I.length (I.map (Value.int .i64))
  jss : w.ownsRow 0 4 1 u J.length (J.map Value.bool)
  idB : ∀ g, v.ownBlock = some g → B ≤ g
  jsB : ∀ g, u.ownBlock = some g → B ≤ g
section
variable {B : Nat} {w w' : World} {v u : Value} {I : List Int} {J : List Bool} {U : Nat → Prop}
theorem Two.kept (h : Two B w v u I J) (k : Kept U w w') (hU : ∀ b, b < w.heap.size → B ≤ b → ¬ U b) : Two B w' v u I J :=
  ⟨own_kept h.ids k (fun g hg => hU g (own_lt h.ids hg).2 (h.idB g hg)), own_kept h.jss k (fun g hg => hU g (own_lt h.jss hg).2 (h.jsB g hg)), h.idB, h.jsB⟩
theorem Two.alloc (h : Two B w v u I J) (o : Obj) : Two B (w.alloc o) v u I J := h.kept (U := fun _ => False) ((Kept.refl _ _).alloc o) (fun _ _ _ => id)
theorem Two.drewN (h : Two B w v u I J) (n : Nat) : Two B (w.drewN n) v u I J := ⟨h.ids, h.jss, h.idB, h.jsB⟩
theorem Two.appI (h : Two B w v u I J) (x : Int) {g cap H : Nat} (hg : (w.alloc (.cells #[.int .i64 x] 3)).grownBy w' v.ownBlock) (ho : w'.ownsRow 0 3 1 (.slice (some ⟨g, 0, none⟩) (I.length + 1) cap) (I.length + 1) (I.map (Value.int .i64) ++ [.int .i64 x]))
    (hat : v.ownBlock = some g ∨ g = H) (hH : B ≤ H) : Two B w' (.slice (some ⟨g, 0, none⟩) (I.length + 1) cap) u (I ++ [x]) J ∧ Kept (B ≤ ·) w w' := by
  have h' := h.alloc (.cells #[.int .i64 x] 3)
  refine ⟨⟨by simpa using ho, own_kept h'.jss (Kept.of_grown hg) (fun b hb e => own_ne h'.jss h'.ids (by decide) b hb e.symm), fun b hb => ?_, h.jsB⟩, ((Kept.refl _ _).alloc _).trans ((Kept.of_grown hg).mono (fun b _ e => h.idB b e.symm))⟩
  cases hb
  rcases hat with e | e
  · exact h.idB _ e
  · show B ≤ g; omega
theorem Two.appJ (h : Two B w v u I J) (x : Bool) {g cap H : Nat} (hg : (w.alloc (.cells #[.bool x] 4)).grownBy w' u.ownBlock) (ho : w'.ownsRow 0 4 1 (.slice (some ⟨g, 0, none⟩) (J.length + 1) cap) (J.length + 1) (J.map Value.bool ++ [.bool x]))
    (hat : u.ownBlock = some g ∨ g = H) (hH : B ≤ H) : Two B w' v (.slice (some ⟨g, 0, none⟩) (J.length + 1) cap) I (J ++ [x]) ∧ Kept (B ≤ ·) w w' := by
  have h' := h.alloc (.cells #[.bool x] 4)
  refine ⟨⟨own_kept h'.ids (Kept.of_grown hg) (fun b hb e => own_ne h'.ids h'.jss (by decide) b hb e.symm), by simpa using ho, h.idB, fun b hb => ?_⟩, ((Kept.refl _ _).alloc _).trans ((Kept.of_grown hg).mono (fun b _ e => h.jsB b e.symm))⟩
  cases hb
  rcases hat with e | e
  · exact h.jsB _ e
  · show B ≤ g; omega
theorem Two.new (w : World) (n B : Nat) (hn : n ≤ maxLen) (hB : B = w.heap.size) : Two B ((w.alloc (.cells (madeCells #[.int .i64 0] n) 3)).alloc (.cells (madeCells #[.bool false] n) 4)) (.slice (some ⟨B, 0, none⟩) 0 n) (.slice (some ⟨B + 1, 0, none⟩) 0 n) [] [] := by
  subst hB
  refine ⟨?_, ?_, fun g hg => by cases hg; exact Nat.le_refl _, fun g hg => by cases hg; exact Nat.le_succ _⟩
  · exact own_kept (S := fun _ => False) (World.ownsRow_made w _ n (Nat.zero_le _) hn (by rw [size_madeCells, Nat.mul_one])) ((Kept.refl _ _).alloc _) (fun _ _ => id)
  · have := World.ownsRow_made (base := 0) (e := 4) (size := 1) (w.alloc (.cells (madeCells #[.int .i64 0] n) 3)) (madeCells #[.bool false] n) n (Nat.zero_le _) hn (by rw [size_madeCells, Nat.mul_one])
    simpa using this
end
/-- All that the law saves. -/
structure SavedAt (w : World) (B1 B2 B3 m n : Nat) (nm : Nat → ByteArray) (px : ByteArray → Nat) (pk : ByteArray → Bool) (ps : Nat → ByteArray) (cn : Nat → Nat) (v u : Value) (I : List Int) (J : List Bool) : Prop where
  v0 : Vals 9 w B1 m (fun i => .string (nm i))
  v1 : Vals 3 w (B1 + 1) m (fun i => .int .i64 (px (nm i)))
  v2 : Vals 4 w (B1 + 1 + 1) m (fun i => .bool (pk (nm i)))
  v3 : Vals 3 w B2 n (fun i => .int .i64 (px (ps i)))
  v4 : Vals 4 w (B2 + 1) n (fun i => .bool (pk (ps i)))
  v5 : Vals 3 w B3 m (fun i => .int .i64 (cn i))
  two : Two (B3 + 1) w v u I J
  b12 : B1 ≤ B2
  b23 : B2 ≤ B3
theorem SavedAt.kept {w w' : World} {U : Nat → Prop} {B1 B2 B3 m n : Nat} {nm : Nat → ByteArray} {px : ByteArray → Nat} {pk : ByteArray → Bool} {ps : Nat → ByteArray} {cn : Nat → Nat} {v u : Value} {I : List Int} {J : List Bool} (h : SavedAt w B1 B2 B3 m n nm px pk ps cn v u I J) (k : Kept U w w')
    (hU : ∀ b, b < w.heap.size → B1 ≤ b → ¬ U b) : SavedAt w' B1 B2 B3 m n nm px pk ps cn v u I J := by
  have b1 := h.b12
  have b2 := h.b23
  exact ⟨h.v0.kept k (hU _ h.v0.lt (by omega)), h.v1.kept k (hU _ h.v1.lt (by omega)), h.v2.kept k (hU _ h.v2.lt (by omega)), h.v3.kept k (hU _ h.v3.lt (by omega)), h.v4.kept k (hU _ h.v4.lt (by omega)), h.v5.kept k (hU _ h.v5.lt (by omega)), h.two.kept k (fun b hb hB => hU b hb (by omega)), b1, b2⟩
theorem Vals.drewN {e : TypeId} {w : World} {b n : Nat} {f : Nat → Value} (h : Vals e w b n f) (k : Nat) : Vals e (w.drewN k) b n f := h

end Go.Proofs.Qxb6601898a
