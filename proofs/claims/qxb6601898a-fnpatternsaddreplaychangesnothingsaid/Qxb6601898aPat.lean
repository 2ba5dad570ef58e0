/-
  A Patterns in memory.
-/
import Derived.Test.Qxb6601898aRows
import Derived.Test.Qxb6601898aPlain
namespace Go.Proofs.Qxb6601898a
open Go.RowKit
set_option linter.unusedVariables false

def flat : List (Int × Bool) → List Value
  | [] => []
  | (i, b) :: r => .int .i64 i :: .bool b :: flat r
theorem flat_len (l : List (Int × Bool)) : (flat l).length = l.length * 2 := by
  induction l with
  | nil => rfl
  | cons x r ih => obtain ⟨i, b⟩ := x; simp [flat, ih]; omega
theorem flat_app (l m : List (Int × Bool)) : flat (l ++ m) = flat l ++ flat m := by
  induction l with
  | nil => rfl
  | cons x r ih => obtain ⟨i, b⟩ := x; simp [flat, ih]
theorem flat_at (l : List (Int × Bool)) : ∀ (i : Nat) (h : i < l.length), (flat l)[i * 2]? = some (.int .i64 l[i].1) ∧ (flat l)[i * 2 + 1]? = some (.bool l[i].2) := by
  induction l with
  | nil => intro i h; simp at h
  | cons x r ih =>
    obtain ⟨a, b⟩ := x
    intro i h
    cases i with
    | zero => simp [flat]
    | succ i =>
      have := ih i (by simpa using h)
      rw [show (i + 1) * 2 = i * 2 + 1 + 1 by omega]
      simpa [flat] using this
theorem flat_set (l : List (Int × Bool)) : ∀ (i : Nat) (h : i < l.length) (b : Bool), (flat l).set (i * 2 + 1) (.bool b) = flat (l.set i (l[i].1, b)) := by
  induction l with
  | nil => intro i h; simp at h
  | cons x r ih =>
    obtain ⟨a, c⟩ := x
    intro i h b
    cases i with
    | zero => simp [flat]
    | succ i =>
      rw [show (i + 1) * 2 + 1 = i * 2 + 1 + 1 + 1 by omega]
      simp only [flat, List.set_cons_succ, List.getElem_cons_succ]
      rw [ih i (by simpa using h) b]

/-- The map's field: nil while nothing is there. -/
def MapAt (w : World) (T : Nat → Prop) (mo : Option Nat) (L : List ByteArray) : Prop := (mo = none ∧ L = []) ∨ ∃ mb, mo = some mb ∧ T mb ∧ w.heap[mb]? = some (.map (mapOf L) L.length)

structure Pat (T : Nat → Prop) (w : World) (pb : Nat) (M L : List ByteArray) (O : List (List (Int × Bool))) (vl vo : Value) (mo : Option Nat) (vs : List Value) : Prop where
  blk : Blk w pb #[vl, vo, .map mo] 38
  pB : T pb
  map : MapAt w T mo M
  list : w.ownsRow 0 9 1 vl L.length (L.map Value.string)
  own : w.ownsRow 0 53 1 vo O.length vs
  row : ∀ (k : Nat) (h : k < O.length), ∃ v, vs[k]? = some v ∧ w.ownsRow 0 55 2 v O[k].length (flat O[k])
  sep : ∀ (k k' : Nat) (v v' : Value) (g : Nat), vs[k]? = some v → vs[k']? = some v' → v.ownBlock = some g → v'.ownBlock = some g → k = k'
  listT : ∀ g, vl.ownBlock = some g → T g
  ownT : ∀ g, vo.ownBlock = some g → T g
  rowT : ∀ (i : Nat) (v : Value) (g : Nat), vs[i]? = some v → v.ownBlock = some g → T g

def PatAt (T : Nat → Prop) (w : World) (pb : Nat) (S : Pats) : Prop := ∃ vl vo mo vs, Pat T w pb (S.map (·.1)) (S.map (·.1)) (S.map (·.2)) vl vo mo vs

section
variable {T U : Nat → Prop} {w w' : World} {pb : Nat} {M L : List ByteArray} {O : List (List (Int × Bool))} {vl vo : Value} {mo : Option Nat} {vs : List Value}

/-- What is not of the Patterns may turn: neither its block, nor the map, nor a row of the three kinds. -/
theorem Pat.turn (h : Pat T w pb M L O vl vo mo vs) (k : Kept U w w') (h1 : ¬ U pb) (h2 : ∀ mb, mo = some mb → ¬ U mb) (h3 : ∀ g, vl.ownBlock = some g → ¬ U g) (h4 : ∀ g, vo.ownBlock = some g → ¬ U g)
    (h5 : ∀ (i : Nat) (v : Value) (g : Nat), vs[i]? = some v → v.ownBlock = some g → ¬ U g) : Pat T w' pb M L O vl vo mo vs := by
  refine ⟨h.blk.kept k h1, h.pB, ?_, own_kept h.list k h3, own_kept h.own k h4, fun i hi => ?_, h.sep, h.listT, h.ownT, h.rowT⟩
  · rcases h.map with h6 | ⟨mb, h6, h7, h8⟩
    · exact .inl h6
    · exact .inr ⟨mb, h6, h7, by rw [k.block mb (Array.getElem?_eq_some_iff.1 h8).1 (h2 mb h6)]; exact h8⟩
  · obtain ⟨v, hv, ho⟩ := h.row i hi
    exact ⟨v, hv, own_kept ho k (fun g hg => h5 i v g hv hg)⟩

/-- A row of vs is a row of owners. -/
theorem Pat.rowOf (h : Pat T w pb M L O vl vo mo vs) {i : Nat} {v : Value} (hv : vs[i]? = some v) : ∃ hi : i < O.length, w.ownsRow 0 55 2 v O[i].length (flat O[i]) := by
  have hl : vs.length = O.length := by have := h.own.1; omega
  have hi : i < O.length := by
    rcases Nat.lt_or_ge i vs.length with h' | h'
    · omega
    · rw [List.getElem?_eq_none h'] at hv; cases hv
  obtain ⟨v', hv', ho⟩ := h.row i hi
  rw [hv] at hv'
  cases hv'
  exact ⟨hi, ho⟩

theorem Pat.kept (h : Pat T w pb M L O vl vo mo vs) (k : Kept U w w') (hT : ∀ b, b < w.heap.size → T b → ¬ U b) : Pat T w' pb M L O vl vo mo vs := by
  refine h.turn k (hT _ h.blk.lt h.pB) (fun mb e => ?_) (fun g hg => hT g (own_lt h.list hg).2 (h.listT g hg)) (fun g hg => hT g (own_lt h.own hg).2 (h.ownT g hg)) (fun i v g hv hg => ?_)
  · rcases h.map with ⟨h6, _⟩ | ⟨mb', h6, h7, h8⟩
    · rw [h6] at e; cases e
    · rw [h6] at e; cases e; exact hT mb (Array.getElem?_eq_some_iff.1 h8).1 h7
  · obtain ⟨hi, ho⟩ := h.rowOf hv
    exact hT g (own_lt ho hg).2 (h.rowT i v g hv hg)

/-- The blocks may be named by another word. -/
theorem Pat.re (h : Pat T w pb M L O vl vo mo vs) (hT : ∀ b, b < w.heap.size → T b → U b) : Pat U w pb M L O vl vo mo vs := by
  refine ⟨h.blk, hT _ h.blk.lt h.pB, ?_, h.list, h.own, h.row, h.sep, fun g hg => hT g (own_lt h.list hg).2 (h.listT g hg), fun g hg => hT g (own_lt h.own hg).2 (h.ownT g hg), fun i v g hv hg => ?_⟩
  · rcases h.map with h6 | ⟨mb', h6, h7, h8⟩
    · exact .inl h6
    · exact .inr ⟨mb', h6, hT mb' (Array.getElem?_eq_some_iff.1 h8).1 h7, h8⟩
  · obtain ⟨hi, ho⟩ := h.rowOf hv
    exact hT g (own_lt ho hg).2 (h.rowT i v g hv hg)

theorem Pat.alloc (h : Pat T w pb M L O vl vo mo vs) (o : Obj) : Pat T (w.alloc o) pb M L O vl vo mo vs :=
  h.kept (U := fun _ => False) ((Kept.refl _ _).alloc o) (fun _ _ _ => id)

theorem Pat.drew (h : Pat T w pb M L O vl vo mo vs) : Pat T w.drew pb M L O vl vo mo vs := ⟨h.blk, h.pB, h.map, h.list, h.own, h.row, h.sep, h.listT, h.ownT, h.rowT⟩
theorem Pat.drewN (h : Pat T w pb M L O vl vo mo vs) (n : Nat) : Pat T (w.drewN n) pb M L O vl vo mo vs := ⟨h.blk, h.pB, h.map, h.list, h.own, h.row, h.sep, h.listT, h.ownT, h.rowT⟩

/-- The field cells. -/
theorem Pat.c0 (h : Pat T w pb M L O vl vo mo vs) : w.cell? ⟨pb, 0, none⟩ = some vl := by rw [h.blk.cell]; rfl
theorem Pat.c1 (h : Pat T w pb M L O vl vo mo vs) : w.cell? ⟨pb, 1, none⟩ = some vo := by rw [h.blk.cell]; rfl
theorem Pat.c2 (h : Pat T w pb M L O vl vo mo vs) : w.cell? ⟨pb, 2, none⟩ = some (.map mo) := by rw [h.blk.cell]; rfl

/-- The blocks are of different kinds. -/
theorem Pat.mapNe (h : Pat T w pb M L O vl vo mo vs) {b : Nat} {es : Array MapEntry} {cl : Nat} (hb : w.heap[b]? = some (.map es cl)) : pb ≠ b ∧ vl.ownBlock ≠ some b ∧ vo.ownBlock ≠ some b ∧ ∀ (i : Nat) (v : Value), vs[i]? = some v → v.ownBlock ≠ some b := by
  refine ⟨fun e => ?_, own_ne_map h.list hb, own_ne_map h.own hb, fun i v hv => ?_⟩
  · subst e; have := h.blk; unfold Blk at this; rw [hb] at this; cases this
  · obtain ⟨hi, ho⟩ := h.rowOf hv; exact own_ne_map ho hb
theorem Pat.rowNe (h : Pat T w pb M L O vl vo mo vs) {e : TypeId} {size n : Nat} {v : Value} {xs : List Value} {bs : Nat} (ho : w.ownsRow bs e size v n xs) {g : Nat} (hg : v.ownBlock = some g) :
    (e ≠ 38 → pb ≠ g) ∧ (∀ mb, mo = some mb → mb ≠ g) ∧ (e ≠ 9 → vl.ownBlock ≠ some g) ∧ (e ≠ 53 → vo.ownBlock ≠ some g) ∧ (e ≠ 55 → ∀ (i : Nat) (v : Value), vs[i]? = some v → v.ownBlock ≠ some g) := by
  refine ⟨fun he e' => ?_, fun mb e' e'' => ?_, fun he => fun e' => own_ne h.list ho (fun q => he q.symm) g e' hg, fun he => fun e' => own_ne h.own ho (fun q => he q.symm) g e' hg, fun he i v' hv e' => ?_⟩
  · subst e'; exact own_ne_blk ho h.blk he hg
  · rcases h.map with ⟨h6, _⟩ | ⟨mb', h6, h7, h8⟩
    · rw [h6] at e'; cases e'
    · rw [h6] at e'; cases e'; subst e''; exact own_ne_map ho h8 hg
  · obtain ⟨hi, ho'⟩ := h.rowOf hv; exact own_ne ho' ho (fun q => he q.symm) g e' hg

/-- The map is made. -/
theorem Pat.made (h : Pat T w pb M L O vl vo none vs) (hB : T w.heap.size) : Pat T ((w.alloc (.map #[] 0)).setCell ⟨pb, 2, none⟩ (.map (some w.heap.size))) pb M L O vl vo (some w.heap.size) vs := by
  have hS : M = [] := by
    rcases h.map with ⟨_, h1⟩ | ⟨mb, h1, _⟩
    · exact h1
    · cases h1
  subst hS
  have h' := h.alloc (.map #[] 0)
  have hl := h.blk.lt
  have k2 : Kept (fun x => x = pb) (w.alloc (.map #[] 0)) ((w.alloc (.map #[] 0)).setCell ⟨pb, 2, none⟩ (.map (some w.heap.size))) := (Kept.refl (fun x => x = pb) _).setCell (p := ⟨pb, 2, none⟩) (.inr rfl) _
  refine ⟨h'.blk.set 2 _, h.pB, .inr ⟨w.heap.size, rfl, hB, ?_⟩, own_kept h'.list k2 (fun g hg e => ?_), own_kept h'.own k2 (fun g hg e => ?_), fun k hk => ?_, h.sep, h.listT, h.ownT, h.rowT⟩
  · rw [k2.block w.heap.size (by simp) (by omega)]
    show (w.heap.push _)[w.heap.size]? = _
    simp [mapOf, entriesFrom]
  · subst e; exact own_ne_blk h'.list h'.blk (by decide) hg
  · subst e; exact own_ne_blk h'.own h'.blk (by decide) hg
  · obtain ⟨v, hv, ho⟩ := h'.row k hk
    exact ⟨v, hv, own_kept ho k2 (fun g hg e => by subst e; exact own_ne_blk ho h'.blk (by decide) hg)⟩

/-- The map is written. -/
theorem Pat.mapped {mb : Nat} {M' : List ByteArray} (h : Pat T w pb M L O vl vo (some mb) vs) (k : Kept (fun x => x = mb) w w') (hm : w'.heap[mb]? = some (.map (mapOf M') M'.length)) : Pat T w' pb M' L O vl vo (some mb) vs := by
  obtain ⟨hB, hmap⟩ : T mb ∧ w.heap[mb]? = some (.map (mapOf M) M.length) := by
    rcases h.map with ⟨h6, _⟩ | ⟨mb', h6, h7, h8⟩
    · cases h6
    · cases h6; exact ⟨h7, h8⟩
  obtain ⟨n1, n2, n3, n4⟩ := h.mapNe hmap
  refine ⟨h.blk.kept k n1, h.pB, .inr ⟨mb, rfl, hB, hm⟩, own_kept h.list k (fun g hg e => by subst e; exact n2 hg), own_kept h.own k (fun g hg e => by subst e; exact n3 hg), fun i hi => ?_, h.sep, h.listT, h.ownT, h.rowT⟩
  obtain ⟨v, hv, ho⟩ := h.row i hi
  exact ⟨v, hv, own_kept ho k (fun g hg e => by subst e; exact n4 i v hv hg)⟩

/-- The list has grown. -/
theorem Pat.listed {L' : List ByteArray} {vl' : Value} (h : Pat T w pb M L O vl vo mo vs) (k : Kept (fun b => some b = vl.ownBlock) w w') (ho : w'.ownsRow 0 9 1 vl' L'.length (L'.map Value.string)) (hT : ∀ g, vl'.ownBlock = some g → T g) :
    Pat T (w'.setCell ⟨pb, 0, none⟩ vl') pb M L' O vl' vo mo vs := by
  have hne : ∀ g, some g = vl.ownBlock → pb ≠ g ∧ (∀ mb, mo = some mb → mb ≠ g) ∧ vo.ownBlock ≠ some g ∧ ∀ (i : Nat) (v : Value), vs[i]? = some v → v.ownBlock ≠ some g := fun g hg => by
    have := h.rowNe h.list hg.symm
    exact ⟨this.1 (by decide), this.2.1, this.2.2.2.1 (by decide), this.2.2.2.2 (by decide)⟩
  have hb : Blk w' pb #[vl, vo, .map mo] 38 := h.blk.kept k (fun e => (hne pb e).1 rfl)
  have k2 : Kept (fun x => x = pb) w' (w'.setCell ⟨pb, 0, none⟩ vl') := (Kept.refl (fun x => x = pb) _).setCell (p := ⟨pb, 0, none⟩) (.inr rfl) _
  refine ⟨hb.set 0 _, h.pB, ?_, own_kept ho k2 (fun g hg e => by subst e; exact own_ne_blk ho hb (by decide) hg), ?_, fun i hi => ?_, h.sep, hT, h.ownT, h.rowT⟩
  · rcases h.map with h6 | ⟨mb, h6, h7, h8⟩
    · exact .inl h6
    · have e1 := k.block mb (Array.getElem?_eq_some_iff.1 h8).1 (fun e => (hne mb e).2.1 mb h6 rfl)
      have hlt : mb < w'.heap.size := (Array.getElem?_eq_some_iff.1 (e1.trans h8)).1
      refine .inr ⟨mb, h6, h7, (k2.block mb hlt (fun e => ?_)).trans (e1.trans h8)⟩
      subst e; unfold Blk at hb; rw [e1, h8] at hb; cases hb
  · have h1 : w'.ownsRow 0 53 1 vo O.length vs := own_kept h.own k (fun g hg e => (hne g e).2.2.1 hg)
    exact own_kept h1 k2 (fun g hg e => by subst e; exact own_ne_blk h1 hb (by decide) hg)
  · obtain ⟨v, hv, hr⟩ := h.row i hi
    have h1 := own_kept hr k (fun g hg e => (hne g e).2.2.2 i v hv hg)
    exact ⟨v, hv, own_kept h1 k2 (fun g hg e => by subst e; exact own_ne_blk h1 hb (by decide) hg)⟩

/-- The owners have grown by a nil row. -/
theorem Pat.owned {vo' : Value} (h : Pat T w pb M L O vl vo mo vs) (k : Kept (fun b => some b = vo.ownBlock) w w') (ho : w'.ownsRow 0 53 1 vo' (O.length + 1) (vs ++ [.slice none 0 0])) (hT : ∀ g, vo'.ownBlock = some g → T g) :
    Pat T (w'.setCell ⟨pb, 1, none⟩ vo') pb M L (O ++ [[]]) vl vo' mo (vs ++ [.slice none 0 0]) := by
  have hl : vs.length = O.length := by have := h.own.1; omega
  have hne : ∀ g, some g = vo.ownBlock → pb ≠ g ∧ (∀ mb, mo = some mb → mb ≠ g) ∧ vl.ownBlock ≠ some g ∧ ∀ (i : Nat) (v : Value), vs[i]? = some v → v.ownBlock ≠ some g := fun g hg => by
    have := h.rowNe h.own hg.symm
    exact ⟨this.1 (by decide), this.2.1, this.2.2.1 (by decide), this.2.2.2.2 (by decide)⟩
  have hb : Blk w' pb #[vl, vo, .map mo] 38 := h.blk.kept k (fun e => (hne pb e).1 rfl)
  have k2 : Kept (fun x => x = pb) w' (w'.setCell ⟨pb, 1, none⟩ vo') := (Kept.refl (fun x => x = pb) _).setCell (p := ⟨pb, 1, none⟩) (.inr rfl) _
  refine ⟨hb.set 1 _, h.pB, ?_, ?_, by simpa using own_kept ho k2 (fun g hg e => by subst e; exact own_ne_blk ho hb (by decide) hg), fun i hi => ?_, fun i j v v' g hv hv' hg hg' => ?_, h.listT, hT, fun i v g hv hg => ?_⟩
  · rcases h.map with h6 | ⟨mb, h6, h7, h8⟩
    · exact .inl h6
    · have e1 := k.block mb (Array.getElem?_eq_some_iff.1 h8).1 (fun e => (hne mb e).2.1 mb h6 rfl)
      have hlt : mb < w'.heap.size := (Array.getElem?_eq_some_iff.1 (e1.trans h8)).1
      refine .inr ⟨mb, h6, h7, (k2.block mb hlt (fun e => ?_)).trans (e1.trans h8)⟩
      subst e; unfold Blk at hb; rw [e1, h8] at hb; cases hb
  · have h1 : w'.ownsRow 0 9 1 vl L.length (L.map Value.string) := own_kept h.list k (fun g hg e => (hne g e).2.2.1 hg)
    exact own_kept h1 k2 (fun g hg e => by subst e; exact own_ne_blk h1 hb (by decide) hg)
  · by_cases hi' : i < O.length
    · obtain ⟨v, hv, hr⟩ := h.row i hi'
      have h1 := own_kept hr k (fun g hg e => (hne g e).2.2.2 i v hv hg)
      have h2 := own_kept h1 k2 (fun g hg e => by subst e; exact own_ne_blk h1 hb (by decide) hg)
      refine ⟨v, by rw [List.getElem?_append_left (by omega)]; exact hv, ?_⟩
      rw [List.getElem_append_left hi']; exact h2
    · have e : i = O.length := by simp at hi; omega
      subst e
      refine ⟨.slice none 0 0, by rw [← hl]; simp, ?_⟩
      simp
      exact World.ownsRow_nil _ _ _ _
  · have hi : ∀ (i : Nat) (v : Value) (g : Nat), (vs ++ [Value.slice none 0 0])[i]? = some v → v.ownBlock = some g → vs[i]? = some v := fun i v g hv hg => by
      by_cases hi : i < vs.length
      · rw [List.getElem?_append_left hi] at hv; exact hv
      · rw [List.getElem?_append_right (by omega)] at hv
        have : i - vs.length = 0 := by
          rcases Nat.eq_zero_or_pos (i - vs.length) with h0 | h0
          · exact h0
          · rw [List.getElem?_eq_none (by simp; omega)] at hv; cases hv
        rw [this] at hv
        simp at hv
        subst hv
        cases hg
    exact h.sep i j v v' g (hi i v g hv hg) (hi j v' g hv' hg') hg hg'
  · by_cases hi : i < vs.length
    · rw [List.getElem?_append_left hi] at hv; exact h.rowT i v g hv hg
    · rw [List.getElem?_append_right (by omega)] at hv
      have : i - vs.length = 0 := by
        rcases Nat.eq_zero_or_pos (i - vs.length) with h0 | h0
        · exact h0
        · rw [List.getElem?_eq_none (by simp; omega)] at hv; cases hv
      rw [this] at hv
      simp at hv
      subst hv
      cases hg

/-- An owner's mark is turned. -/
theorem Pat.rowWrite (h : Pat T w pb M L O vl vo mo vs) {at_ i g cap : Nat} (hat : at_ < O.length) (hi : i < O[at_].length) (hv : vs[at_]? = some (.slice (some ⟨g, 0, none⟩) O[at_].length cap)) (b : Bool) :
    Pat T (w.setCell ⟨g, i * 2 + 1, none⟩ (.bool b)) pb M L (O.set at_ (O[at_].set i (O[at_][i].1, b))) vl vo mo vs := by
  obtain ⟨_, ho⟩ := h.rowOf hv
  have hn := h.rowNe ho (g := g) rfl
  have k2 : Kept (fun x => x = g) w (w.setCell ⟨g, i * 2 + 1, none⟩ (.bool b)) := (Kept.refl (fun x => x = g) _).setCell (p := ⟨g, i * 2 + 1, none⟩) (.inr rfl) _
  refine ⟨h.blk.kept k2 (hn.1 (by decide)), h.pB, ?_, own_kept h.list k2 (fun x hx e => by subst e; exact hn.2.2.1 (by decide) hx), by simpa using own_kept h.own k2 (fun x hx e => by subst e; exact hn.2.2.2.1 (by decide) hx), fun j hj => ?_, h.sep, h.listT, h.ownT, h.rowT⟩
  · rcases h.map with h6 | ⟨mb, h6, h7, h8⟩
    · exact .inl h6
    · exact .inr ⟨mb, h6, h7, (k2.block mb (Array.getElem?_eq_some_iff.1 h8).1 (hn.2.1 mb h6)).trans h8⟩
  · by_cases e : j = at_
    · subst e
      refine ⟨_, hv, ?_⟩
      have := (ho.stored (i * 2 + 1) (.bool b)).1
      rw [flat_set _ _ hi] at this
      simpa using this
    · simp only [List.length_set] at hj
      obtain ⟨v, hv', hr⟩ := h.row j hj
      refine ⟨v, hv', ?_⟩
      rw [List.getElem_set_ne (fun q => e q.symm)]
      exact own_kept hr k2 (fun x hx e' => by subst e'; exact e (h.sep j at_ v _ x hv' hv hx rfl))

/-- An owner comes in behind the others. -/
theorem Pat.rowApp (h : Pat T w pb M L O vl vo mo vs) {at_ go co : Nat} {v v' : Value} {id : Int} {js : Bool} (hat : at_ < O.length) (hv : vs[at_]? = some v) (hvo : vo = .slice (some ⟨go, 0, none⟩) O.length co) (k : Kept (fun b => some b = v.ownBlock) w w')
    (ho : w'.ownsRow 0 55 2 v' (O[at_].length + 1) (flat O[at_] ++ [.int .i64 id, .bool js])) (hg : ∀ g, v'.ownBlock = some g → v.ownBlock = some g ∨ w.heap.size ≤ g) (hT : ∀ g, v'.ownBlock = some g → T g) :
    Pat T (w'.setCell ⟨go, at_, none⟩ v') pb M L (O.set at_ (O[at_] ++ [(id, js)])) vl vo mo (vs.set at_ v') := by
  subst hvo
  obtain ⟨_, hr0⟩ := h.rowOf hv
  have hl : vs.length = O.length := by have := h.own.1; omega
  have hne : ∀ g, some g = v.ownBlock → pb ≠ g ∧ (∀ mb, mo = some mb → mb ≠ g) ∧ vl.ownBlock ≠ some g ∧ go ≠ g := fun g hg => by
    have := h.rowNe hr0 hg.symm
    exact ⟨this.1 (by decide), this.2.1, this.2.2.1 (by decide), fun e => by subst e; exact this.2.2.2.1 (by decide) rfl⟩
  have hb : Blk w' pb #[vl, .slice (some ⟨go, 0, none⟩) O.length co, .map mo] 38 := h.blk.kept k (fun e => (hne pb e).1 rfl)
  have hown : w'.ownsRow 0 53 1 (.slice (some ⟨go, 0, none⟩) O.length co) O.length vs := own_kept h.own k (fun g hg e => by cases hg; exact (hne go e).2.2.2 rfl)
  have k2 : Kept (fun x => x = go) w' (w'.setCell ⟨go, at_, none⟩ v') := (Kept.refl (fun x => x = go) _).setCell (p := ⟨go, at_, none⟩) (.inr rfl) _
  have hother : ∀ (i : Nat) (x : Value), i ≠ at_ → vs[i]? = some x → ∀ g, x.ownBlock = some g → v.ownBlock ≠ some g ∧ g < w.heap.size := fun i x hi hx g hg => by
    obtain ⟨_, hr⟩ := h.rowOf hx
    exact ⟨fun e => hi (h.sep i at_ x v g hx hv hg e), (own_lt hr hg).2⟩
  refine ⟨hb.kept k2 (fun e => by subst e; exact own_ne_blk hown hb (by decide) rfl), h.pB, ?_, ?_, ?_, fun j hj => ?_, fun i j x x' g hx hx' hgx hgx' => ?_, h.listT, h.ownT, fun i x g hx hgx => ?_⟩
  · rcases h.map with h6 | ⟨mb, h6, h7, h8⟩
    · exact .inl h6
    · have e1 := k.block mb (Array.getElem?_eq_some_iff.1 h8).1 (fun e => (hne mb e).2.1 mb h6 rfl)
      have hlt : mb < w'.heap.size := (Array.getElem?_eq_some_iff.1 (e1.trans h8)).1
      exact .inr ⟨mb, h6, h7, (k2.block mb hlt (fun e => by subst e; exact own_ne_map hown (e1.trans h8) rfl)).trans (e1.trans h8)⟩
  · have h1 : w'.ownsRow 0 9 1 vl L.length (L.map Value.string) := own_kept h.list k (fun g hg e => (hne g e).2.2.1 hg)
    exact own_kept h1 k2 (fun g hg e => by subst e; exact own_ne h1 hown (by decide) g hg rfl)
  · have := (hown.stored at_ v').1
    simpa using this
  · simp only [List.length_set] at hj
    by_cases e : j = at_
    · subst e
      refine ⟨v', by rw [List.getElem?_set_self (by omega)], ?_⟩
      rw [List.getElem_set_self]
      have : flat (O[j] ++ [(id, js)]) = flat O[j] ++ [.int .i64 id, .bool js] := by rw [flat_app]; rfl
      rw [this]
      simp only [List.length_append, List.length_cons, List.length_nil]
      exact own_kept ho k2 (fun g hg e => by subst e; exact own_ne hown ho (by decide) g rfl hg)
    · obtain ⟨x, hx, hr⟩ := h.row j hj
      refine ⟨x, by rw [List.getElem?_set_ne (fun q => e q.symm)]; exact hx, ?_⟩
      rw [List.getElem_set_ne (fun q => e q.symm)]
      have h1 := own_kept hr k (fun g hg e' => (hother j x e hx g hg).1 e'.symm)
      exact own_kept h1 k2 (fun g hg e => by subst e; exact own_ne h1 hown (by decide) g hg rfl)
  · have pick : ∀ (i : Nat) (x : Value), (vs.set at_ v')[i]? = some x → (i = at_ ∧ x = v') ∨ (i ≠ at_ ∧ vs[i]? = some x) := fun i x hx => by
      by_cases e : i = at_
      · subst e; rw [List.getElem?_set_self (by omega)] at hx; exact .inl ⟨rfl, (Option.some.inj hx).symm⟩
      · rw [List.getElem?_set_ne (fun q => e q.symm)] at hx; exact .inr ⟨e, hx⟩
    rcases pick i x hx with ⟨rfl, rfl⟩ | ⟨hi, hx1⟩
    · rcases pick j x' hx' with ⟨rfl, rfl⟩ | ⟨hj, hx2⟩
      · rfl
      · have := hother j x' hj hx2 g hgx'
        rcases hg g hgx with h1 | h1
        · exact absurd h1 this.1
        · omega
    · rcases pick j x' hx' with ⟨rfl, rfl⟩ | ⟨hj, hx2⟩
      · have := hother i x hi hx1 g hgx
        rcases hg g hgx' with h1 | h1
        · exact absurd h1 this.1
        · omega
      · exact h.sep i j x x' g hx1 hx2 hgx hgx'
  · by_cases e : i = at_
    · subst e; rw [List.getElem?_set_self (by omega)] at hx; cases hx; exact hT g hgx
    · rw [List.getElem?_set_ne (fun q => e q.symm)] at hx; exact h.rowT i x g hx hgx

theorem Pat.rowWrite' (h : Pat T w pb M L O vl vo mo vs) {at_ i g cap : Nat} {ol : List (Int × Bool)} (hol : O[at_]? = some ol) (hi : i < ol.length) (hv : vs[at_]? = some (.slice (some ⟨g, 0, none⟩) ol.length cap)) (b : Bool) :
    Pat T (w.setCell ⟨g, i * 2 + 1, none⟩ (.bool b)) pb M L (O.set at_ (ol.set i (ol[i].1, b))) vl vo mo vs := by
  obtain ⟨hat, rfl⟩ := List.getElem?_eq_some_iff.1 hol
  exact h.rowWrite hat hi hv b

theorem Pat.rowApp' (h : Pat T w pb M L O vl vo mo vs) {at_ go co : Nat} {v v' : Value} {id : Int} {js : Bool} {ol : List (Int × Bool)} (hol : O[at_]? = some ol) (hv : vs[at_]? = some v) (hvo : vo = .slice (some ⟨go, 0, none⟩) O.length co) (k : Kept (fun b => some b = v.ownBlock) w w')
    (ho : w'.ownsRow 0 55 2 v' (ol.length + 1) (flat ol ++ [.int .i64 id, .bool js])) (hg : ∀ g, v'.ownBlock = some g → v.ownBlock = some g ∨ w.heap.size ≤ g) (hT : ∀ g, v'.ownBlock = some g → T g) :
    Pat T (w'.setCell ⟨go, at_, none⟩ v') pb M L (O.set at_ (ol ++ [(id, js)])) vl vo mo (vs.set at_ v') := by
  obtain ⟨hat, rfl⟩ := List.getElem?_eq_some_iff.1 hol
  exact h.rowApp hat hv hvo k ho hg hT
end

end Go.Proofs.Qxb6601898a
