/-
  Plain facts for the two laws.
-/
import Derived.Test.Qxb6601932aTell
import Derived.Test.Qxb6601932aSmall
namespace Go.Proofs.Qxb6601932a
open Go.RowKit
set_option linter.unusedVariables false
set_option linter.unusedSimpArgs false

theorem HeldAt.kept {T U : Nat → Prop} {w w' : World} {hb : Nat} {S : St} (h : HeldAt T w hb S) (k : Kept U w w') (hT : ∀ b, b < w.heap.size → T b → ¬ U b) : HeldAt T w' hb S := by
  obtain ⟨fb, yb, qb, vG, vs, hc, ht⟩ := h
  exact ⟨fb, yb, qb, vG, vs, hc.kept k hT, ht.kept k hT⟩

theorem wide_spec (W : List Nat) (c s N : Nat) (hW : W.length ≤ N + 1) (hc : c ≤ N) : (wide W c s).length ≤ N + 1 := by
  unfold wide
  split
  · rename_i h
    simp
    omega
  · exact hW
theorem setB_mem {W : List Nat} {s : Nat} (h : ∀ x ∈ W, x < 2 ^ 64) : ∀ x ∈ setB W s, x < 2 ^ 64 := by
  unfold setB
  intro x hx
  rcases List.mem_or_eq_of_mem_set hx with hx | hx
  · exact h x hx
  · subst hx
    refine Nat.or_lt_two_pow ?_ (Nat.pow_lt_pow_right (by decide) (Nat.mod_lt _ (by decide)))
    rw [List.getD_eq_getElem?_getD]
    cases hg : W[s / 64]? with
    | none => decide
    | some y => exact h y (List.mem_of_getElem? hg)
theorem recD_fits (f s : Nat) (W : List Nat) (c d N : Nat) (Q : List (Nat × Nat)) (hW : W.length ≤ N + 1) (hc : c ≤ N) (hd : d ≤ N) (hb : ∀ x ∈ W, x < 2 ^ 64) :
    ((recD f s W c d Q).2.1.2.1 ≤ N + 1 ∧ (recD f s W c d Q).2.1.2.2 ≤ N + 1 ∧ (recD f s W c d Q).2.1.1.length ≤ N + 1 + 1) ∧ ∀ x ∈ (recD f s W c d Q).2.1.1, x < 2 ^ 64 := by
  unfold recD
  split
  · refine ⟨⟨?_, by show d ≤ N + 1; omega, by simp [setB]; omega⟩, setB_mem hb⟩
    show (if _ then c else c + 1) ≤ N + 1
    split
    · exact Nat.le_succ_of_le hc
    · exact Nat.succ_le_succ hc
  · split
    · exact ⟨⟨by show c ≤ N + 1; omega, by show d ≤ N + 1; omega, by show W.length ≤ N + 1 + 1; omega⟩, hb⟩
    · exact ⟨⟨by show c + 1 ≤ N + 1; omega, by show d + 1 ≤ N + 1; omega, by show W.length ≤ N + 1 + 1; omega⟩, hb⟩

theorem Fits.step {N : Nat} {S : St} (h : Fits N S) (fund sym : ByteArray) : Fits (N + 1) (S.add fund sym) := by
  obtain ⟨W, c, d, hfl, hGf, hGl, hsl, hcl, hdl, hWl, hWb, hstep, hadd⟩ := step_at (G1 := (S.opened fund sym).G) (F1 := withN S.F fund) (Y1 := withN S.Y sym) (f := placeN S.F fund) (s := placeN S.Y sym) h rfl rfl rfl rfl rfl
  have hr := recD_fits (placeN S.F fund) (placeN S.Y sym) (wide W c (placeN S.Y sym)) c d N S.Q (wide_spec W c _ N hWl hcl) hcl hdl (wide_mem hWb)
  have hmem : ∀ g ∈ (S.opened fund sym).G, (g.2.1 ≤ N ∧ g.2.2 ≤ N ∧ g.1.length ≤ N + 1) ∧ ∀ x ∈ g.1, x < 2 ^ 64 := by
    intro g hg
    have h' : g ∈ S.G ∨ g = ([], 0, 0) := by
      unfold St.opened at hg
      simp only at hg
      split at hg
      · exact .inl hg
      · rcases List.mem_append.1 hg with h | h
        · exact .inl h
        · exact .inr (by simpa using h)
    rcases h' with h' | rfl
    · exact ⟨h.c g h', h.b g h'⟩
    · simp
  rw [hadd]
  have hset : ∀ g ∈ (S.opened fund sym).G.set (placeN S.F fund) (recD (placeN S.F fund) (placeN S.Y sym) (wide W c (placeN S.Y sym)) c d S.Q).2.1, (g.2.1 ≤ N + 1 ∧ g.2.2 ≤ N + 1 ∧ g.1.length ≤ N + 1 + 1) ∧ ∀ x ∈ g.1, x < 2 ^ 64 := by
    intro g hg
    rcases List.mem_or_eq_of_mem_set hg with hg | hg
    · obtain ⟨⟨q1, q2, q3⟩, q4⟩ := hmem g hg
      exact ⟨⟨by omega, by omega, by omega⟩, q4⟩
    · subst hg; exact hr
  refine ⟨?_, ?_, ?_, fun g hg => (hset g hg).1, fun g hg => (hset g hg).2⟩
  · rw [List.length_set]; exact S.opened_len fund sym h.len
  · have := (withN_len S.F fund).2; have := h.f; show (withN S.F fund).length ≤ N + 1; omega
  · have := (withN_len S.Y sym).2; have := h.y; show (withN S.Y sym).length ≤ N + 1; omega
theorem run_fits (sc : Nat → ByteArray × ByteArray) : ∀ i, Fits i (run sc i)
  | 0 => ⟨rfl, Nat.zero_le _, Nat.zero_le _, fun g hg => by simp [run, St.empty] at hg, fun g hg => by simp [run, St.empty] at hg⟩
  | i + 1 => (run_fits sc i).step _ _

theorem add_F (S : St) (fund sym : ByteArray) : (S.add fund sym).F = withN S.F fund ∧ (S.add fund sym).Y = withN S.Y sym := ⟨rfl, rfl⟩

/-- A row just made, of length 0. -/
theorem made_own (w : World) (e : TypeId) (z : Value) (l : Nat) (hz : z.cells = #[z]) (hl : l ≤ 4096) : (w.alloc (.cells (madeCells z.cells (l * 1)) e)).ownsRow 0 e 1 (.slice (some ⟨w.heap.size, 0, none⟩) 0 l) 0 [] := by
  refine ⟨rfl, .inr ⟨w.heap.size, l, _, rfl, Nat.zero_le _, heap_alloc_new w _, Nat.zero_le _, by unfold maxLen; omega, size_madeCells _ _, by simp⟩⟩

/-- What the index is. -/
theorem idx_some {L : List ByteArray} {s : ByteArray} {j : Nat} (h : place L s = some j) : idx L s = (j : Int) ∧ withN L s = L ∧ placeN L s = j := by
  refine ⟨by unfold idx; rw [h], by simp [withN, h], by simp [placeN, h]⟩
theorem idx_none {L : List ByteArray} {s : ByteArray} (h : place L s = none) : idx L s = -1 ∧ withN L s = L ++ [s] ∧ placeN L s = L.length := by
  refine ⟨by unfold idx; rw [h], by simp [withN, h], by simp [placeN, h]⟩

end Go.Proofs.Qxb6601932a
