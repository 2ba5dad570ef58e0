/-
  A held value in memory.
-/
import Derived.Test.Qxb6601932aRows
import Derived.Test.Qxb6601932aPlain
namespace Go.Proofs.Qxb6601932a
open Go.RowKit
set_option linter.unusedVariables false

/-- The cells of the funds' records. -/
def flat3 : List Value → List (List Nat × Nat × Nat) → List Value
  | v :: vs, g :: G => v :: .int .i64 (g.2.1 : Int) :: .int .i64 (g.2.2 : Int) :: flat3 vs G
  | _, _ => []
theorem flat3_len : ∀ (vs : List Value) (G : List (List Nat × Nat × Nat)), vs.length = G.length → (flat3 vs G).length = G.length * 3
  | [], [], _ => rfl
  | [], g :: G, h => by simp at h
  | v :: vs, [], h => by simp at h
  | v :: vs, g :: G, h => by simp only [flat3, List.length_cons]; rw [flat3_len vs G (by simpa using h)]; omega
theorem flat3_app : ∀ (vs : List Value) (G : List (List Nat × Nat × Nat)) (v : Value) (g : List Nat × Nat × Nat), vs.length = G.length → flat3 (vs ++ [v]) (G ++ [g]) = flat3 vs G ++ [v, .int .i64 (g.2.1 : Int), .int .i64 (g.2.2 : Int)]
  | [], [], v, g, _ => rfl
  | [], g :: G, _, _, h => by simp at h
  | v :: vs, [], _, _, h => by simp at h
  | v :: vs, g :: G, v', g', h => by simp only [List.cons_append, flat3, flat3_app vs G v' g' (by simpa using h)]
theorem flat3_at : ∀ (vs : List Value) (G : List (List Nat × Nat × Nat)), vs.length = G.length → ∀ k (h : k < G.length), (flat3 vs G)[k * 3]? = vs[k]? ∧ (flat3 vs G)[k * 3 + 1]? = some (.int .i64 (G[k].2.1 : Int)) ∧ (flat3 vs G)[k * 3 + 2]? = some (.int .i64 (G[k].2.2 : Int))
  | [], [], _, k, h => by simp at h
  | [], g :: G, h, _, _ => by simp at h
  | v :: vs, [], h, _, _ => by simp at h
  | v :: vs, g :: G, h, k, hk => by
    cases k with
    | zero => simp [flat3]
    | succ k =>
      have := flat3_at vs G (by simpa using h) k (by simpa using hk)
      rw [show (k + 1) * 3 = k * 3 + 1 + 1 + 1 by omega]
      simpa [flat3] using this
theorem flat3_set0 : ∀ (vs : List Value) (G : List (List Nat × Nat × Nat)) (v : Value), vs.length = G.length → ∀ k, k < G.length → (flat3 vs G).set (k * 3) v = flat3 (vs.set k v) G
  | [], [], _, _, k, h => by simp at h
  | [], g :: G, _, h, _, _ => by simp at h
  | v :: vs, [], _, h, _, _ => by simp at h
  | v :: vs, g :: G, v', h, k, hk => by
    cases k with
    | zero => simp [flat3]
    | succ k =>
      rw [show (k + 1) * 3 = k * 3 + 1 + 1 + 1 by omega]
      simp only [flat3, List.set_cons_succ]
      rw [flat3_set0 vs G v' (by simpa using h) k (by simpa using hk)]
theorem flat3_set1 : ∀ (vs : List Value) (G : List (List Nat × Nat × Nat)) (c : Nat), vs.length = G.length → ∀ k (h : k < G.length), (flat3 vs G).set (k * 3 + 1) (.int .i64 (c : Int)) = flat3 vs (G.set k (G[k].1, c, G[k].2.2))
  | [], [], _, _, k, h => by simp at h
  | [], g :: G, _, h, _, _ => by simp at h
  | v :: vs, [], _, h, _, _ => by simp at h
  | v :: vs, g :: G, c, h, k, hk => by
    cases k with
    | zero => simp [flat3]
    | succ k =>
      rw [show (k + 1) * 3 + 1 = k * 3 + 1 + 1 + 1 + 1 by omega]
      simp only [flat3, List.set_cons_succ, List.getElem_cons_succ]
      rw [flat3_set1 vs G c (by simpa using h) k (by simpa using hk)]
theorem flat3_set2 : ∀ (vs : List Value) (G : List (List Nat × Nat × Nat)) (d : Nat), vs.length = G.length → ∀ k (h : k < G.length), (flat3 vs G).set (k * 3 + 2) (.int .i64 (d : Int)) = flat3 vs (G.set k (G[k].1, G[k].2.1, d))
  | [], [], _, _, k, h => by simp at h
  | [], g :: G, _, h, _, _ => by simp at h
  | v :: vs, [], _, h, _, _ => by simp at h
  | v :: vs, g :: G, c, h, k, hk => by
    cases k with
    | zero => simp [flat3]
    | succ k =>
      rw [show (k + 1) * 3 + 2 = k * 3 + 2 + 1 + 1 + 1 by omega]
      simp only [flat3, List.set_cons_succ, List.getElem_cons_succ]
      rw [flat3_set2 vs G c (by simpa using h) k (by simpa using hk)]
theorem flat3_words : ∀ (vs : List Value) (G : List (List Nat × Nat × Nat)) (W : List Nat), vs.length = G.length → ∀ k (h : k < G.length), flat3 vs (G.set k (W, G[k].2.1, G[k].2.2)) = flat3 vs G
  | [], [], _, _, k, h => by simp at h
  | [], g :: G, _, h, _, _ => by simp at h
  | v :: vs, [], _, h, _, _ => by simp at h
  | v :: vs, g :: G, W, h, k, hk => by
    cases k with
    | zero => simp [flat3]
    | succ k =>
      simp only [flat3, List.set_cons_succ, List.getElem_cons_succ]
      rw [flat3_words vs G W (by simpa using h) k (by simpa using hk)]

/-- The set of pairs. -/
def pairsFrom (k : Nat) : List (Nat × Nat) → List MapEntry
  | [] => []
  | p :: r => { key := .agg #[.int .i64 (p.1 : Int), .int .i64 (p.2 : Int)], val := .agg #[], born := k } :: pairsFrom (k + 1) r
def pairMap (Q : List (Nat × Nat)) : Array MapEntry := (pairsFrom 0 Q).toArray

def words (W : List Nat) : List Value := W.map fun (x : Nat) => Value.int .u64 (x : Int)

structure Core (T : Nat → Prop) (w : World) (hb fb yb qb : Nat) (G : List (List Nat × Nat × Nat)) (vG : Value) (vs : List Value) : Prop where
  blk : Blk w hb #[.map (some fb), .map (some yb), vG, .map (some qb)] 43
  hT : T hb
  vl : vs.length = G.length
  own : w.ownsRow 0 47 3 vG G.length (flat3 vs G)
  row : ∀ (k : Nat) (h : k < G.length), ∃ v, vs[k]? = some v ∧ w.ownsRow 0 51 1 v G[k].1.length (words G[k].1)
  sep : ∀ (k k' : Nat) (v v' : Value) (g : Nat), vs[k]? = some v → vs[k']? = some v' → v.ownBlock = some g → v'.ownBlock = some g → k = k'
  ownT : ∀ g, vG.ownBlock = some g → T g
  rowT : ∀ (i : Nat) (v : Value) (g : Nat), vs[i]? = some v → v.ownBlock = some g → T g
structure Tabs (T : Nat → Prop) (w : World) (fb yb qb : Nat) (F Y : List ByteArray) (Q : List (Nat × Nat)) : Prop where
  mf : w.heap[fb]? = some (.map (mapOf F) F.length)
  my : w.heap[yb]? = some (.map (mapOf Y) Y.length)
  mq : w.heap[qb]? = some (.map (pairMap Q) Q.length)
  fy : fb ≠ yb
  fq : fb ≠ qb
  yq : yb ≠ qb
  tf : T fb
  ty : T yb
  tq : T qb

section
variable {T U : Nat → Prop} {w w' : World} {hb fb yb qb : Nat} {F Y : List ByteArray} {G : List (List Nat × Nat × Nat)} {Q : List (Nat × Nat)} {vG : Value} {vs : List Value}

theorem Core.rowOf (h : Core T w hb fb yb qb G vG vs) {i : Nat} {v : Value} (hv : vs[i]? = some v) : ∃ hi : i < G.length, w.ownsRow 0 51 1 v G[i].1.length (words G[i].1) := by
  have hi : i < G.length := by
    have := h.vl
    rcases Nat.lt_or_ge i vs.length with h' | h'
    · omega
    · rw [List.getElem?_eq_none h'] at hv; cases hv
  obtain ⟨v', hv', ho⟩ := h.row i hi
  rw [hv] at hv'
  cases hv'
  exact ⟨hi, ho⟩
theorem Core.turn (h : Core T w hb fb yb qb G vG vs) (k : Kept U w w') (h1 : ¬ U hb) (h4 : ∀ g, vG.ownBlock = some g → ¬ U g) (h5 : ∀ (i : Nat) (v : Value) (g : Nat), vs[i]? = some v → v.ownBlock = some g → ¬ U g) : Core T w' hb fb yb qb G vG vs := by
  refine ⟨h.blk.kept k h1, h.hT, h.vl, own_kept h.own k h4, fun i hi => ?_, h.sep, h.ownT, h.rowT⟩
  obtain ⟨v, hv, ho⟩ := h.row i hi
  exact ⟨v, hv, own_kept ho k (fun g hg => h5 i v g hv hg)⟩
theorem Tabs.turn (h : Tabs T w fb yb qb F Y Q) (k : Kept U w w') (h1 : ¬ U fb) (h2 : ¬ U yb) (h3 : ¬ U qb) : Tabs T w' fb yb qb F Y Q :=
  ⟨by rw [k.block fb (Array.getElem?_eq_some_iff.1 h.mf).1 h1]; exact h.mf, by rw [k.block yb (Array.getElem?_eq_some_iff.1 h.my).1 h2]; exact h.my, by rw [k.block qb (Array.getElem?_eq_some_iff.1 h.mq).1 h3]; exact h.mq, h.fy, h.fq, h.yq, h.tf, h.ty, h.tq⟩
theorem Core.kept (h : Core T w hb fb yb qb G vG vs) (k : Kept U w w') (hT : ∀ b, b < w.heap.size → T b → ¬ U b) : Core T w' hb fb yb qb G vG vs :=
  h.turn k (hT _ h.blk.lt h.hT) (fun g hg => hT g (own_lt h.own hg).2 (h.ownT g hg)) (fun i v g hv hg => by
    obtain ⟨hi, ho⟩ := h.rowOf hv
    exact hT g (own_lt ho hg).2 (h.rowT i v g hv hg))
theorem Tabs.kept (h : Tabs T w fb yb qb F Y Q) (k : Kept U w w') (hT : ∀ b, b < w.heap.size → T b → ¬ U b) : Tabs T w' fb yb qb F Y Q :=
  h.turn k (hT _ (Array.getElem?_eq_some_iff.1 h.mf).1 h.tf) (hT _ (Array.getElem?_eq_some_iff.1 h.my).1 h.ty) (hT _ (Array.getElem?_eq_some_iff.1 h.mq).1 h.tq)
theorem Core.alloc (h : Core T w hb fb yb qb G vG vs) (o : Obj) : Core T (w.alloc o) hb fb yb qb G vG vs := h.kept (U := fun _ => False) ((Kept.refl _ _).alloc o) (fun _ _ _ => id)
theorem Tabs.alloc (h : Tabs T w fb yb qb F Y Q) (o : Obj) : Tabs T (w.alloc o) fb yb qb F Y Q := h.kept (U := fun _ => False) ((Kept.refl _ _).alloc o) (fun _ _ _ => id)
theorem Core.drew (h : Core T w hb fb yb qb G vG vs) : Core T w.drew hb fb yb qb G vG vs := ⟨h.blk, h.hT, h.vl, h.own, h.row, h.sep, h.ownT, h.rowT⟩
theorem Tabs.drew (h : Tabs T w fb yb qb F Y Q) : Tabs T w.drew fb yb qb F Y Q := ⟨h.mf, h.my, h.mq, h.fy, h.fq, h.yq, h.tf, h.ty, h.tq⟩
theorem Core.drewN (h : Core T w hb fb yb qb G vG vs) (n : Nat) : Core T (w.drewN n) hb fb yb qb G vG vs := ⟨h.blk, h.hT, h.vl, h.own, h.row, h.sep, h.ownT, h.rowT⟩
theorem Tabs.drewN (h : Tabs T w fb yb qb F Y Q) (n : Nat) : Tabs T (w.drewN n) fb yb qb F Y Q := ⟨h.mf, h.my, h.mq, h.fy, h.fq, h.yq, h.tf, h.ty, h.tq⟩

/-- The four field cells. -/
theorem Core.c0 (h : Core T w hb fb yb qb G vG vs) : w.cell? ⟨hb, 0, none⟩ = some (.map (some fb)) := by rw [h.blk.cell]; rfl
theorem Core.c1 (h : Core T w hb fb yb qb G vG vs) : w.cell? ⟨hb, 1, none⟩ = some (.map (some yb)) := by rw [h.blk.cell]; rfl
theorem Core.c2 (h : Core T w hb fb yb qb G vG vs) : w.cell? ⟨hb, 2, none⟩ = some vG := by rw [h.blk.cell]; rfl
theorem Core.c3 (h : Core T w hb fb yb qb G vG vs) : w.cell? ⟨hb, 3, none⟩ = some (.map (some qb)) := by rw [h.blk.cell]; rfl

/-- Blocks of different kinds. -/
theorem Core.ne_map (h : Core T w hb fb yb qb G vG vs) {b : Nat} {es : Array MapEntry} {cl : Nat} (hm : w.heap[b]? = some (.map es cl)) : hb ≠ b ∧ vG.ownBlock ≠ some b ∧ ∀ (i : Nat) (v : Value), vs[i]? = some v → v.ownBlock ≠ some b := by
  refine ⟨fun e => ?_, own_ne_map h.own hm, fun i v hv => ?_⟩
  · subst e; have := h.blk; unfold Blk at this; rw [hm] at this; cases this
  · obtain ⟨hi, ho⟩ := h.rowOf hv; exact own_ne_map ho hm
/-- A map is written. -/
theorem Core.mapped (h : Core T w hb fb yb qb G vG vs) {b : Nat} {es : Array MapEntry} {cl : Nat} (hm : w.heap[b]? = some (.map es cl)) (k : Kept (fun x => x = b) w w') : Core T w' hb fb yb qb G vG vs := by
  obtain ⟨n1, n2, n3⟩ := h.ne_map hm
  exact h.turn k n1 (fun g hg e => by subst e; exact n2 hg) (fun i v g hv hg e => by subst e; exact n3 i v hv hg)
theorem Tabs.mappedF (h : Tabs T w fb yb qb F Y Q) (k : Kept (fun x => x = fb) w w') {F' : List ByteArray} (hm : w'.heap[fb]? = some (.map (mapOf F') F'.length)) : Tabs T w' fb yb qb F' Y Q :=
  ⟨hm, by rw [k.block yb (Array.getElem?_eq_some_iff.1 h.my).1 (fun e => h.fy e.symm)]; exact h.my, by rw [k.block qb (Array.getElem?_eq_some_iff.1 h.mq).1 (fun e => h.fq e.symm)]; exact h.mq, h.fy, h.fq, h.yq, h.tf, h.ty, h.tq⟩
theorem Tabs.mappedY (h : Tabs T w fb yb qb F Y Q) (k : Kept (fun x => x = yb) w w') {Y' : List ByteArray} (hm : w'.heap[yb]? = some (.map (mapOf Y') Y'.length)) : Tabs T w' fb yb qb F Y' Q :=
  ⟨by rw [k.block fb (Array.getElem?_eq_some_iff.1 h.mf).1 h.fy]; exact h.mf, hm, by rw [k.block qb (Array.getElem?_eq_some_iff.1 h.mq).1 (fun e => h.yq e.symm)]; exact h.mq, h.fy, h.fq, h.yq, h.tf, h.ty, h.tq⟩
theorem Tabs.mappedQ (h : Tabs T w fb yb qb F Y Q) (k : Kept (fun x => x = qb) w w') {Q' : List (Nat × Nat)} (hm : w'.heap[qb]? = some (.map (pairMap Q') Q'.length)) : Tabs T w' fb yb qb F Y Q' :=
  ⟨by rw [k.block fb (Array.getElem?_eq_some_iff.1 h.mf).1 h.fq]; exact h.mf, by rw [k.block yb (Array.getElem?_eq_some_iff.1 h.my).1 h.yq]; exact h.my, hm, h.fy, h.fq, h.yq, h.tf, h.ty, h.tq⟩
theorem Tabs.far (h : Tabs T w fb yb qb F Y Q) (k : Kept U w w') (hU : ∀ b es cl, w.heap[b]? = some (.map es cl) → ¬ U b) : Tabs T w' fb yb qb F Y Q :=
  h.turn k (hU _ _ _ h.mf) (hU _ _ _ h.my) (hU _ _ _ h.mq)

theorem Core.ne_row (h : Core T w hb fb yb qb G vG vs) {i : Nat} {v : Value} (hv : vs[i]? = some v) {g : Nat} (hg : v.ownBlock = some g) : hb ≠ g ∧ vG.ownBlock ≠ some g := by
  obtain ⟨_, ho⟩ := h.rowOf hv
  exact ⟨fun e => by subst e; exact own_ne_blk ho h.blk (by decide) hg, fun e => own_ne h.own ho (by decide) g e hg⟩
theorem Core.ne_own (h : Core T w hb fb yb qb G vG vs) {g : Nat} (hg : vG.ownBlock = some g) : hb ≠ g ∧ ∀ (i : Nat) (v : Value), vs[i]? = some v → v.ownBlock ≠ some g :=
  ⟨fun e => by subst e; exact own_ne_blk h.own h.blk (by decide) hg, fun i v hv e => (h.ne_row hv e).2 hg⟩

/-- A record comes in behind the others. -/
theorem Core.owned {vG' : Value} (h : Core T w hb fb yb qb G vG vs) (k : Kept (fun b => some b = vG.ownBlock) w w') (ho : w'.ownsRow 0 47 3 vG' (G.length + 1) (flat3 vs G ++ [.slice none 0 0, .int .i64 0, .int .i64 0])) (hT : ∀ g, vG'.ownBlock = some g → T g) :
    Core T (w'.setCell ⟨hb, 2, none⟩ vG') hb fb yb qb (G ++ [([], 0, 0)]) vG' (vs ++ [.slice none 0 0]) := by
  have hl := h.vl
  have hbw : Blk w' hb #[.map (some fb), .map (some yb), vG, .map (some qb)] 43 := h.blk.kept k (fun e => (h.ne_own e.symm).1 rfl)
  have k2 : Kept (fun x => x = hb) w' (w'.setCell ⟨hb, 2, none⟩ vG') := (Kept.refl (fun x => x = hb) _).setCell (p := ⟨hb, 2, none⟩) (.inr rfl) _
  have old : ∀ (i : Nat) (v : Value) (g : Nat), (vs ++ [Value.slice none 0 0])[i]? = some v → v.ownBlock = some g → vs[i]? = some v := fun i v g hv hg => by
    by_cases hi : i < vs.length
    · rw [List.getElem?_append_left hi] at hv; exact hv
    · rw [List.getElem?_append_right (by omega)] at hv
      have : i - vs.length = 0 := by
        rcases Nat.eq_zero_or_pos (i - vs.length) with h0 | h0
        · exact h0
        · rw [List.getElem?_eq_none (by simp; omega)] at hv; cases hv
      rw [this] at hv
      simp at hv
      subst hv
      cases hg
  refine ⟨hbw.set 2 _, h.hT, by simp [hl], ?_, fun i hi => ?_, fun i j v v' g hv hv' hg hg' => h.sep i j v v' g (old i v g hv hg) (old j v' g hv' hg') hg hg', hT, fun i v g hv hg => h.rowT i v g (old i v g hv hg) hg⟩
  · have e := own_kept ho k2 (fun g hg e => by subst e; exact own_ne_blk ho hbw (by decide) hg)
    have e2 := flat3_app vs G (.slice none 0 0) ([], 0, 0) hl
    simp only [List.length_append, List.length_cons, List.length_nil]
    rw [e2]
    exact e
  · by_cases hi' : i < G.length
    · obtain ⟨v, hv, hr⟩ := h.row i hi'
      have h1 := own_kept hr k (fun g hg e => (h.ne_own e.symm).2 i v hv hg)
      have h2 := own_kept h1 k2 (fun g hg e => by subst e; exact own_ne_blk h1 hbw (by decide) hg)
      refine ⟨v, by rw [List.getElem?_append_left (by omega)]; exact hv, ?_⟩
      rw [List.getElem_append_left hi']; exact h2
    · have e : i = G.length := by simp at hi; omega
      subst e
      refine ⟨.slice none 0 0, by rw [← hl]; simp, ?_⟩
      simp [words]
      exact World.ownsRow_nil _ _ _ _

/-- A cell of a record is written: the words stay. -/
theorem Core.field {go co : Nat} {f o : Nat} {x : Value} {G' : List (List Nat × Nat × Nat)} (h : Core T w hb fb yb qb G (.slice (some ⟨go, 0, none⟩) G.length co) vs) (hl : G'.length = G.length) (hw : ∀ k (h1 : k < G.length) (h2 : k < G'.length), G'[k].1 = G[k].1)
    (hc : (flat3 vs G).set o x = flat3 vs G') : Core T (w.setCell ⟨go, o, none⟩ x) hb fb yb qb G' (.slice (some ⟨go, 0, none⟩) G.length co) vs := by
  have k2 : Kept (fun y => y = go) w (w.setCell ⟨go, o, none⟩ x) := (Kept.refl (fun y => y = go) _).setCell (p := ⟨go, o, none⟩) (.inr rfl) _
  have hn := h.ne_own (g := go) rfl
  refine ⟨h.blk.kept k2 hn.1, h.hT, by rw [hl]; exact h.vl, ?_, fun i hi => ?_, h.sep, h.ownT, h.rowT⟩
  · have := (h.own.stored o x).1
    rw [hc] at this
    rw [hl]
    exact this
  · obtain ⟨v, hv, hr⟩ := h.row i (by omega)
    refine ⟨v, hv, ?_⟩
    rw [hw i (by omega) hi]
    exact own_kept hr k2 (fun g hg e => by subst e; exact hn.2 i v hv hg)

/-- A word is written. -/
theorem Core.rowWrite (h : Core T w hb fb yb qb G vG vs) {f j g cap : Nat} (hf : f < G.length) (hv : vs[f]? = some (.slice (some ⟨g, 0, none⟩) G[f].1.length cap)) (x : Nat) :
    Core T (w.setCell ⟨g, j, none⟩ (.int .u64 (x : Int))) hb fb yb qb (G.set f (G[f].1.set j x, G[f].2.1, G[f].2.2)) vG vs := by
  obtain ⟨_, ho⟩ := h.rowOf hv
  have hn := h.ne_row hv (g := g) rfl
  have k2 : Kept (fun y => y = g) w (w.setCell ⟨g, j, none⟩ (.int .u64 (x : Int))) := (Kept.refl (fun y => y = g) _).setCell (p := ⟨g, j, none⟩) (.inr rfl) _
  refine ⟨h.blk.kept k2 hn.1, h.hT, by simpa using h.vl, ?_, fun i hi => ?_, h.sep, h.ownT, h.rowT⟩
  · rw [List.length_set, flat3_words vs G _ h.vl f hf]
    exact own_kept h.own k2 (fun y hy e => by subst e; exact hn.2 hy)
  · by_cases e : i = f
    · subst e
      refine ⟨_, hv, ?_⟩
      have := (ho.stored j (.int .u64 (x : Int))).1
      have e2 : (words G[i].1).set j (.int .u64 (x : Int)) = words (G[i].1.set j x) := by simp [words, List.map_set]
      rw [e2] at this
      simpa using this
    · simp only [List.length_set] at hi
      obtain ⟨v, hv', hr⟩ := h.row i hi
      refine ⟨v, hv', ?_⟩
      rw [List.getElem_set_ne (fun q => e q.symm)]
      exact own_kept hr k2 (fun y hy e' => by subst e'; exact e (h.sep i f v _ y hv' hv hy rfl))

/-- A record's words have grown. -/
theorem Core.rowApp {go co : Nat} (h : Core T w hb fb yb qb G (.slice (some ⟨go, 0, none⟩) G.length co) vs) {f : Nat} {v v' : Value} {W : List Nat} (hf : f < G.length) (hv : vs[f]? = some v) (k : Kept (fun b => some b = v.ownBlock) w w')
    (ho : w'.ownsRow 0 51 1 v' W.length (words W)) (hg : ∀ g, v'.ownBlock = some g → v.ownBlock = some g ∨ w.heap.size ≤ g) (hT : ∀ g, v'.ownBlock = some g → T g) :
    Core T (w'.setCell ⟨go, f * 3, none⟩ v') hb fb yb qb (G.set f (W, G[f].2.1, G[f].2.2)) (.slice (some ⟨go, 0, none⟩) G.length co) (vs.set f v') := by
  obtain ⟨_, hr0⟩ := h.rowOf hv
  have hl := h.vl
  have hne : ∀ g, some g = v.ownBlock → hb ≠ g ∧ go ≠ g := fun g hg => by
    have := h.ne_row hv hg.symm
    exact ⟨this.1, fun e => by subst e; exact this.2 rfl⟩
  have hbw : Blk w' hb _ 43 := h.blk.kept k (fun e => (hne hb e).1 rfl)
  have hown : w'.ownsRow 0 47 3 (.slice (some ⟨go, 0, none⟩) G.length co) G.length (flat3 vs G) := own_kept h.own k (fun g hg e => by cases hg; exact (hne go e).2 rfl)
  have k2 : Kept (fun x => x = go) w' (w'.setCell ⟨go, f * 3, none⟩ v') := (Kept.refl (fun x => x = go) _).setCell (p := ⟨go, f * 3, none⟩) (.inr rfl) _
  have hother : ∀ (i : Nat) (x : Value), i ≠ f → vs[i]? = some x → ∀ g, x.ownBlock = some g → v.ownBlock ≠ some g ∧ g < w.heap.size := fun i x hi hx g hg => by
    obtain ⟨_, hr⟩ := h.rowOf hx
    exact ⟨fun e => hi (h.sep i f x v g hx hv hg e), (own_lt hr hg).2⟩
  refine ⟨hbw.kept k2 (fun e => by subst e; exact own_ne_blk hown hbw (by decide) rfl), h.hT, by simp [hl], ?_, fun j hj => ?_, fun i j x x' g hx hx' hgx hgx' => ?_, h.ownT, fun i x g hx hgx => ?_⟩
  · have := (hown.stored (f * 3) v').1
    rw [flat3_set0 vs G v' hl f hf] at this
    rw [List.length_set, flat3_words _ G W (by simpa using hl) f hf]
    exact this
  · simp only [List.length_set] at hj
    by_cases e : j = f
    · subst e
      refine ⟨v', by rw [List.getElem?_set_self (by omega)], ?_⟩
      rw [List.getElem_set_self]
      exact own_kept ho k2 (fun g hg e => by subst e; exact own_ne hown ho (by decide) g rfl hg)
    · obtain ⟨x, hx, hr⟩ := h.row j hj
      refine ⟨x, by rw [List.getElem?_set_ne (fun q => e q.symm)]; exact hx, ?_⟩
      rw [List.getElem_set_ne (fun q => e q.symm)]
      have h1 := own_kept hr k (fun g hg e' => (hother j x e hx g hg).1 e'.symm)
      exact own_kept h1 k2 (fun g hg e => by subst e; exact own_ne h1 hown (by decide) g hg rfl)
  · have pick : ∀ (i : Nat) (x : Value), (vs.set f v')[i]? = some x → (i = f ∧ x = v') ∨ (i ≠ f ∧ vs[i]? = some x) := fun i x hx => by
      by_cases e : i = f
      · subst e; rw [List.getElem?_set_self (by omega)] at hx; exact .inl ⟨rfl, (Option.some.inj hx).symm⟩
      · rw [List.getElem?_set_ne (fun q => e q.symm)] at hx; exact .inr ⟨e, hx⟩
    rcases pick i x hx with ⟨rfl, rfl⟩ | ⟨hi, hx1⟩
    · rcases pick j x' hx' with ⟨rfl, rfl⟩ | ⟨hj, hx2⟩
      · rfl
      · have := hother j x' hj hx2 g hgx'
        rcases hg g hgx with h1 | h1
        · exact absurd h1 this.1
        · omega
    · rcases pick j x' hx' with ⟨rfl, rfl⟩ | ⟨hj, hx2⟩
      · have := hother i x hi hx1 g hgx
        rcases hg g hgx' with h1 | h1
        · exact absurd h1 this.1
        · omega
      · exact h.sep i j x x' g hx1 hx2 hgx hgx'
  · by_cases e : i = f
    · subst e; rw [List.getElem?_set_self (by omega)] at hx; cases hx; exact hT g hgx
    · rw [List.getElem?_set_ne (fun q => e q.symm)] at hx; exact h.rowT i x g hx hgx
end

end Go.Proofs.Qxb6601932a
