/-
  What held.add does, as plain functions on lists; the laws on it. No program in sight.
-/
import Derived.Test.Qxb6601932aMaps
namespace Go.Proofs.Qxb6601932a
set_option linter.unusedVariables false
set_option linter.unusedSimpArgs false

/-! ### Names in order of first appearance -/
def withN (L : List ByteArray) (x : ByteArray) : List ByteArray := if (place L x).isSome then L else L ++ [x]
def placeN (L : List ByteArray) (x : ByteArray) : Nat := (place L x).getD L.length

theorem placeFrom_spec (x : ByteArray) : ∀ (L : List ByteArray) (k j : Nat), placeFrom k x L = some j → k ≤ j ∧ j - k < L.length ∧ L[j - k]? = some x
  | [], k, j, h => by cases h
  | t :: r, k, j, h => by
    unfold placeFrom at h
    by_cases hx : x == t
    · simp [hx] at h
      subst h
      simp [ba_eq hx]
    · simp [hx] at h
      obtain ⟨h1, h2, h3⟩ := placeFrom_spec x r (k + 1) j h
      refine ⟨by omega, by simp; omega, ?_⟩
      rw [show j - k = (j - (k + 1)) + 1 by omega]
      simpa using h3
theorem place_spec {L : List ByteArray} {x : ByteArray} {j : Nat} (h : place L x = some j) : j < L.length ∧ L[j]? = some x := by
  have := placeFrom_spec x L 0 j h
  simpa using this.2
theorem place_inj {L : List ByteArray} {x y : ByteArray} {j : Nat} (h : place L x = some j) (h' : place L y = some j) : x = y := by
  have h1 := (place_spec h).2
  rw [(place_spec h').2] at h1
  exact (Option.some.inj h1).symm
theorem placeFrom_app (x y : ByteArray) : ∀ (L : List ByteArray) (k : Nat), placeFrom k x (L ++ [y]) = match placeFrom k x L with | some j => some j | none => if x == y then some (k + L.length) else none
  | [], k => by simp [placeFrom]
  | t :: r, k => by
    simp only [List.cons_append, placeFrom]
    by_cases hx : x == t
    · simp [hx]
    · simp only [hx, placeFrom_app x y r (k + 1)]
      simp
      rw [show k + 1 + r.length = k + (r.length + 1) by omega]
theorem place_app (L : List ByteArray) (x y : ByteArray) : place (L ++ [y]) x = match place L x with | some j => some j | none => if x == y then some L.length else none := by
  unfold place; rw [placeFrom_app]; simp
theorem place_with (L : List ByteArray) (x : ByteArray) : place (withN L x) x = some (placeN L x) := by
  unfold withN placeN
  cases h : place L x with
  | some j => simp [h]
  | none => simp [place_app, h, ba_refl]
theorem place_with_old (L : List ByteArray) (x y : ByteArray) (j : Nat) (h : place L y = some j) : place (withN L x) y = some j := by
  unfold withN
  split
  · exact h
  · rw [place_app, h]
theorem placeN_lt (L : List ByteArray) (x : ByteArray) : placeN L x < (withN L x).length := (place_spec (place_with L x)).1
theorem withN_len (L : List ByteArray) (x : ByteArray) : L.length ≤ (withN L x).length ∧ (withN L x).length ≤ L.length + 1 := by
  unfold withN; split <;> simp

/-! ### Bits -/
def hasB (W : List Nat) (s : Nat) : Bool := (W.getD (s / 64) 0).testBit (s % 64)
def setB (W : List Nat) (s : Nat) : List Nat := W.set (s / 64) (W.getD (s / 64) 0 ||| 2 ^ (s % 64))
def wide (W : List Nat) (c s : Nat) : List Nat := if W.length ≤ s / 64 ∧ s / 64 ≤ c then W ++ List.replicate (s / 64 + 1 - W.length) 0 else W

theorem hasB_set (W : List Nat) (s t : Nat) (h : s / 64 < W.length) : hasB (setB W s) t = (hasB W t || decide (t = s)) := by
  unfold hasB setB
  rw [List.getD_eq_getElem?_getD, List.getD_eq_getElem?_getD, List.getD_eq_getElem?_getD, List.getElem?_set]
  by_cases e : s / 64 = t / 64
  · rw [if_pos e, e]
    have hm : decide (s % 64 = t % 64) = decide (t = s) := by
      by_cases q : t = s
      · subst q; simp
      · simp [q]; omega
    simp [← e, h, Nat.testBit_or, Nat.testBit_two_pow, hm]
  · have hm : decide (t = s) = false := by simp; omega
    simp [e, hm]
theorem hasB_wide (W : List Nat) (c s t : Nat) : hasB (wide W c s) t = hasB W t := by
  unfold wide
  split
  · unfold hasB
    rw [List.getD_eq_getElem?_getD, List.getD_eq_getElem?_getD, List.getElem?_append]
    by_cases h : t / 64 < W.length
    · simp [h]
    · rw [if_neg h, List.getElem?_eq_none (by omega : W.length ≤ t / 64)]
      rw [List.getElem?_replicate]
      split <;> simp
  · rfl
theorem wide_len (W : List Nat) (c s : Nat) (h : W.length ≤ c + 1) : (wide W c s).length ≤ c + 1 ∧ W.length ≤ (wide W c s).length := by
  unfold wide
  split
  · simp; omega
  · exact ⟨h, Nat.le_refl _⟩
theorem hasB_out (W : List Nat) (s : Nat) (h : ¬ s / 64 < W.length) : hasB W s = false := by
  unfold hasB
  rw [List.getD_eq_getElem?_getD, List.getElem?_eq_none (by omega)]
  simp

/-! ### The state -/
structure St where
  F : List ByteArray
  Y : List ByteArray
  G : List (List Nat × Nat × Nat)
  Q : List (Nat × Nat)

def hasQ (Q : List (Nat × Nat)) (p : Nat × Nat) : Bool := Q.any (fun q => q == p)

/-- One holding into one fund's record. -/
def recD (f s : Nat) (W : List Nat) (c d : Nat) (Q : List (Nat × Nat)) : Bool × (List Nat × Nat × Nat) × List (Nat × Nat) :=
  if s / 64 < W.length then
    (hasB W s || (decide (0 < d) && hasQ Q (f, s)), (setB W s, if hasB W s || (decide (0 < d) && hasQ Q (f, s)) then c else c + 1, d), Q)
  else if hasQ Q (f, s) then (true, (W, c, d), Q)
  else (false, (W, c + 1, d + 1), Q ++ [(f, s)])

def St.opened (S : St) (fund sym : ByteArray) : St := { F := withN S.F fund, Y := withN S.Y sym, G := if (place S.F fund).isSome then S.G else S.G ++ [([], 0, 0)], Q := S.Q }
def St.fr (S : St) (f : Nat) : List Nat × Nat × Nat := S.G.getD f ([], 0, 0)
def St.step (S : St) (fund sym : ByteArray) : Bool × (List Nat × Nat × Nat) × List (Nat × Nat) :=
  let g := (S.opened fund sym).fr (placeN S.F fund)
  recD (placeN S.F fund) (placeN S.Y sym) (wide g.1 g.2.1 (placeN S.Y sym)) g.2.1 g.2.2 S.Q
def St.add (S : St) (fund sym : ByteArray) : St := { S.opened fund sym with G := (S.opened fund sym).G.set (placeN S.F fund) (S.step fund sym).2.1, Q := (S.step fund sym).2.2 }

theorem St.fr_eq (S : St) (f : Nat) (g : List Nat × Nat × Nat) (h : S.G[f]? = some g) : S.fr f = g := by
  unfold St.fr; rw [List.getD_eq_getElem?_getD, h]; rfl
theorem hasQ_app (Q : List (Nat × Nat)) (p q : Nat × Nat) : hasQ (Q ++ [p]) q = (hasQ Q q || decide (q = p)) := by
  unfold hasQ
  rw [List.any_append]
  simp
  by_cases h : q = p
  · subst h; simp
  · have h2 : ¬ p = q := fun e => h e.symm
    simp [h, h2]

/-- What is recorded is what was named. -/
structure Good (sc : Nat → ByteArray × ByteArray) (i : Nat) (S : St) : Prop where
  len : S.G.length = S.F.length
  seen : ∀ f s, f < S.G.length → ((hasB (S.fr f).1 s || hasQ S.Q (f, s)) = true ↔ ∃ j, j < i ∧ place S.F (sc j).1 = some f ∧ place S.Y (sc j).2 = some s)
  qd : ∀ f s, hasQ S.Q (f, s) = true → f < S.G.length ∧ 0 < (S.fr f).2.2
  in1 : ∀ j, j < i → (place S.F (sc j).1).isSome = true
  in2 : ∀ j, j < i → (place S.Y (sc j).2).isSome = true

theorem place_with_iff {L : List ByteArray} {x y : ByteArray} (h : (place L y).isSome = true) (k : Nat) : place (withN L x) y = some k ↔ place L y = some k := by
  obtain ⟨j, hj⟩ := Option.isSome_iff_exists.1 h
  rw [place_with_old L x y j hj, hj]

theorem St.opened_len (S : St) (fund sym : ByteArray) (h : S.G.length = S.F.length) : (S.opened fund sym).G.length = (S.opened fund sym).F.length := by
  unfold St.opened withN
  cases hp : place S.F fund <;> simp [h]
theorem St.opened_fr (S : St) (fund sym : ByteArray) (f : Nat) : (S.opened fund sym).fr f = S.fr f := by
  unfold St.fr St.opened
  simp only
  split
  · rfl
  · rw [List.getD_eq_getElem?_getD, List.getD_eq_getElem?_getD, List.getElem?_append]
    split
    · rfl
    · rename_i h
      rw [List.getElem?_eq_none (by omega : S.G.length ≤ f)]
      cases hk : f - S.G.length with
      | zero => simp
      | succ k => simp

theorem Good.opened {sc : Nat → ByteArray × ByteArray} {i : Nat} {S : St} (h : Good sc i S) (fund sym : ByteArray) : Good sc i (S.opened fund sym) := by
  have e1 : ∀ j, j < i → ∀ k, place (S.opened fund sym).F (sc j).1 = some k ↔ place S.F (sc j).1 = some k := fun j hj k => place_with_iff (h.in1 j hj) k
  have e2 : ∀ j, j < i → ∀ k, place (S.opened fund sym).Y (sc j).2 = some k ↔ place S.Y (sc j).2 = some k := fun j hj k => place_with_iff (h.in2 j hj) k
  have hG : S.G.length ≤ (S.opened fund sym).G.length := by unfold St.opened; simp only; split <;> simp
  refine ⟨S.opened_len fund sym h.len, fun f s hf => ?_, fun f s hq => ?_, fun j hj => ?_, fun j hj => ?_⟩
  · rw [S.opened_fr]
    have hQ : (S.opened fund sym).Q = S.Q := rfl
    rw [hQ]
    have er : (∃ j, j < i ∧ place (S.opened fund sym).F (sc j).1 = some f ∧ place (S.opened fund sym).Y (sc j).2 = some s) ↔ ∃ j, j < i ∧ place S.F (sc j).1 = some f ∧ place S.Y (sc j).2 = some s :=
      exists_congr fun j => and_congr_right fun hj => and_congr (e1 j hj f) (e2 j hj s)
    rw [er]
    by_cases hf' : f < S.G.length
    · exact h.seen f s hf'
    · constructor
      · intro hh
        exfalso
        have hfr : S.fr f = ([], 0, 0) := by unfold St.fr; rw [List.getD_eq_getElem?_getD, List.getElem?_eq_none (by omega)]; rfl
        rw [hfr] at hh
        have : hasB [] s = false := hasB_out [] s (by simp)
        simp only [this, Bool.false_or] at hh
        exact hf' (h.qd f s hh).1
      · rintro ⟨j, hj, h1, _⟩
        exact absurd ((place_spec h1).1) (by rw [← h.len]; exact hf')
  · obtain ⟨h1, h2⟩ := h.qd f s hq
    exact ⟨by omega, by rw [S.opened_fr]; exact h2⟩
  · obtain ⟨k, hk⟩ := Option.isSome_iff_exists.1 (h.in1 j hj)
    rw [(e1 j hj k).2 hk]; rfl
  · obtain ⟨k, hk⟩ := Option.isSome_iff_exists.1 (h.in2 j hj)
    rw [(e2 j hj k).2 hk]; rfl

theorem recD_again (f s : Nat) (W : List Nat) (c d : Nat) (Q : List (Nat × Nat)) (hd : hasQ Q (f, s) = true → 0 < d) : (recD f s W c d Q).1 = (hasB W s || hasQ Q (f, s)) := by
  unfold recD
  split
  · cases hq : hasQ Q (f, s)
    · simp
    · simp [hd hq]
  · rename_i h
    rw [hasB_out W s h]
    cases hq : hasQ Q (f, s) <;> simp
theorem recD_has (f s : Nat) (W : List Nat) (c d : Nat) (Q : List (Nat × Nat)) (t : Nat) : (hasB (recD f s W c d Q).2.1.1 t || hasQ (recD f s W c d Q).2.2 (f, t)) = ((hasB W t || hasQ Q (f, t)) || decide (t = s)) := by
  unfold recD
  split
  · rename_i h
    simp only [hasB_set W s t h]
    cases hasB W t <;> cases hasQ Q (f, t) <;> simp
  · split
    · rename_i h1 h2
      simp only
      by_cases e : t = s
      · subst e; simp [h2]
      · simp [e]
    · simp only [hasQ_app]
      have : decide ((f, t) = (f, s)) = decide (t = s) := by simp
      rw [this, Bool.or_assoc]
theorem recD_far (f s : Nat) (W : List Nat) (c d : Nat) (Q : List (Nat × Nat)) (f' t : Nat) (h : f' ≠ f) : hasQ (recD f s W c d Q).2.2 (f', t) = hasQ Q (f', t) := by
  unfold recD
  split
  · rfl
  · split
    · rfl
    · simp only [hasQ_app]
      have : decide ((f', t) = (f, s)) = false := by simp; intro e; exact absurd e h
      rw [this, Bool.or_false]
theorem recD_d (f s : Nat) (W : List Nat) (c d : Nat) (Q : List (Nat × Nat)) : d ≤ (recD f s W c d Q).2.1.2.2 ∧ (∀ t, hasQ (recD f s W c d Q).2.2 (f, t) = true → hasQ Q (f, t) = true ∨ 0 < (recD f s W c d Q).2.1.2.2) := by
  unfold recD
  split
  · exact ⟨Nat.le_refl _, fun t h => .inl h⟩
  · split
    · exact ⟨Nat.le_refl _, fun t h => .inl h⟩
    · exact ⟨by simp, fun t _ => .inr (by simp)⟩

theorem St.fr_set (S : St) (f f' : Nat) (g : List Nat × Nat × Nat) (h : f < S.G.length) (F' Y' : List ByteArray) (Q' : List (Nat × Nat)) : St.fr { F := F', Y := Y', G := S.G.set f g, Q := Q' } f' = if f' = f then g else S.fr f' := by
  unfold St.fr
  simp only [List.getD_eq_getElem?_getD, List.getElem?_set]
  by_cases e : f' = f
  · subst e; simp [h]
  · have e2 : ¬ f = f' := fun q => e q.symm
    simp [e, e2]

theorem Good.step {sc : Nat → ByteArray × ByteArray} {i : Nat} {S : St} (h : Good sc i S) :
    Good sc (i + 1) (S.add (sc i).1 (sc i).2) ∧ ((S.step (sc i).1 (sc i).2).1 = true ↔ ∃ j, j < i ∧ sc j = sc i) := by
  have o := h.opened (sc i).1 (sc i).2
  obtain ⟨⟨fund, sym⟩, hsc⟩ : ∃ p, sc i = p := ⟨_, rfl⟩
  simp only [hsc] at o ⊢
  have hfl : placeN S.F fund < (S.opened fund sym).G.length := by rw [o.len]; exact placeN_lt S.F fund
  have hpf : place (S.opened fund sym).F fund = some (placeN S.F fund) := place_with S.F fund
  have hps : place (S.opened fund sym).Y sym = some (placeN S.Y sym) := place_with S.Y sym
  obtain ⟨S1, hS1⟩ : ∃ S1, S.opened fund sym = S1 := ⟨_, rfl⟩
  obtain ⟨f, hf⟩ : ∃ f, placeN S.F fund = f := ⟨_, rfl⟩
  obtain ⟨s, hs⟩ : ∃ s, placeN S.Y sym = s := ⟨_, rfl⟩
  obtain ⟨W, c, d, hg⟩ : ∃ W c d, S1.fr f = (W, c, d) := ⟨_, _, _, rfl⟩
  have hstep : S.step fund sym = recD f s (wide W c s) c d S1.Q := by
    unfold St.step
    simp only [hS1, hf, hs, hg]
    rw [← hS1]; rfl
  have hadd : S.add fund sym = { F := S1.F, Y := S1.Y, G := S1.G.set f (recD f s (wide W c s) c d S1.Q).2.1, Q := (recD f s (wide W c s) c d S1.Q).2.2 } := by
    unfold St.add
    rw [hstep, hS1, hf]
  rw [hS1, hf] at hpf hfl
  rw [hS1, hs] at hps
  rw [hS1] at o
  have hqd : hasQ S1.Q (f, s) = true → 0 < d := fun hq => by have := (o.qd f s hq).2; rw [hg] at this; exact this
  rw [hstep, hadd]
  refine ⟨⟨?_, fun f' t hf' => ?_, fun f' t hq => ?_, fun j hj => ?_, fun j hj => ?_⟩, ?_⟩
  · simpa using o.len
  · simp only [List.length_set] at hf'
    rw [S1.fr_set f f' _ hfl]
    have hsplit : (∃ j, j < i + 1 ∧ place S1.F (sc j).1 = some f' ∧ place S1.Y (sc j).2 = some t) ↔ (∃ j, j < i ∧ place S1.F (sc j).1 = some f' ∧ place S1.Y (sc j).2 = some t) ∨ (f' = f ∧ t = s) := by
      constructor
      · rintro ⟨j, hj, h1, h2⟩
        by_cases e : j = i
        · subst e
          rw [hsc] at h1 h2
          rw [hpf] at h1
          rw [hps] at h2
          exact .inr ⟨(Option.some.inj h1).symm, (Option.some.inj h2).symm⟩
        · exact .inl ⟨j, by omega, h1, h2⟩
      · rintro (⟨j, hj, h1, h2⟩ | ⟨rfl, rfl⟩)
        · exact ⟨j, by omega, h1, h2⟩
        · exact ⟨i, by omega, by rw [hsc]; exact hpf, by rw [hsc]; exact hps⟩
    rw [hsplit, ← o.seen f' t hf']
    by_cases e : f' = f
    · subst e
      rw [if_pos rfl, recD_has, hasB_wide, hg]
      simp
    · rw [if_neg e, recD_far _ _ _ _ _ _ _ _ e]
      simp [e]
  · rw [S1.fr_set f f' _ hfl]
    by_cases e : f' = f
    · subst e
      rw [if_pos rfl]
      refine ⟨by simpa using hfl, ?_⟩
      obtain ⟨h1, h2⟩ := recD_d f' s (wide W c s) c d S1.Q
      rcases h2 t hq with h3 | h3
      · have := (o.qd f' t h3).2; rw [hg] at this; exact Nat.lt_of_lt_of_le this h1
      · exact h3
    · rw [if_neg e]
      have hq' : hasQ S1.Q (f', t) = true := by rw [← recD_far f s (wide W c s) c d S1.Q f' t e]; exact hq
      exact ⟨by simpa using (o.qd f' t hq').1, (o.qd f' t hq').2⟩
  · by_cases e : j = i
    · subst e; rw [hsc]; simp only [hpf]; rfl
    · exact o.in1 j (by omega)
  · by_cases e : j = i
    · subst e; rw [hsc]; simp only [hps]; rfl
    · exact o.in2 j (by omega)
  · rw [recD_again _ _ _ _ _ _ hqd, hasB_wide]
    have := o.seen f s hfl
    rw [hg] at this
    rw [this]
    constructor
    · rintro ⟨j, hj, h1, h2⟩
      refine ⟨j, hj, ?_⟩
      rw [Prod.ext_iff]
      exact ⟨place_inj h1 hpf, place_inj h2 hps⟩
    · rintro ⟨j, hj, e⟩
      exact ⟨j, hj, by rw [e]; exact hpf, by rw [e]; exact hps⟩

/-- The first state. -/
def St.empty : St := { F := [], Y := [], G := [], Q := [] }
theorem Good.empty (sc : Nat → ByteArray × ByteArray) : Good sc 0 St.empty :=
  ⟨rfl, fun f s hf => by simp [St.empty] at hf, fun f s hq => by simp [St.empty, hasQ] at hq, fun j hj => by omega, fun j hj => by omega⟩

/-- The counts. -/
structure Cnt (fo : List Nat) (S : St) : Prop where
  len : S.G.length = S.F.length
  cnt : ∀ f, f < S.G.length → (S.fr f).2.1 = fo.count f
  fol : ∀ x ∈ fo, x < S.G.length
  dle : ∀ f, (S.fr f).2.2 ≤ (S.fr f).2.1
  wl : ∀ f, (S.fr f).1.length ≤ (S.fr f).2.1 + 1
  qs : S.Q.length = (S.G.map (·.2.2)).sum

theorem sum_set (G : List (List Nat × Nat × Nat)) (g : List Nat × Nat × Nat) : ∀ (f : Nat) (h : f < G.length), ((G.set f g).map (·.2.2)).sum + (G[f]).2.2 = (G.map (·.2.2)).sum + g.2.2 := by
  induction G with
  | nil => intro f h; simp at h
  | cons x r ih =>
    intro f h
    cases f with
    | zero => simp; omega
    | succ f =>
      simp only [List.set_cons_succ, List.map_cons, List.sum_cons, List.getElem_cons_succ]
      have := ih f (by simpa using h)
      omega

theorem recD_cnt (f s : Nat) (W : List Nat) (c d : Nat) (Q : List (Nat × Nat)) (hW : W.length ≤ c + 1) (hd : d ≤ c) :
    (recD f s W c d Q).2.1.2.1 = (if (recD f s W c d Q).1 then c else c + 1) ∧ (recD f s W c d Q).2.2.length + d = Q.length + (recD f s W c d Q).2.1.2.2 ∧ (recD f s W c d Q).2.1.2.2 ≤ (recD f s W c d Q).2.1.2.1 ∧ (recD f s W c d Q).2.1.1.length ≤ (recD f s W c d Q).2.1.2.1 + 1 := by
  unfold recD
  split
  · refine ⟨rfl, rfl, ?_, ?_⟩
    · simp only; split <;> omega
    · simp only [setB, List.length_set]; split <;> omega
  · split
    · exact ⟨rfl, rfl, hd, hW⟩
    · refine ⟨rfl, by simp; omega, by simp; omega, by simp; omega⟩

theorem Cnt.opened {fo : List Nat} {S : St} (h : Cnt fo S) (fund sym : ByteArray) : Cnt fo (S.opened fund sym) := by
  have hG : S.G.length ≤ (S.opened fund sym).G.length := by unfold St.opened; simp only; split <;> simp
  refine ⟨S.opened_len fund sym h.len, fun f hf => ?_, fun x hx => Nat.lt_of_lt_of_le (h.fol x hx) hG, fun f => by rw [S.opened_fr]; exact h.dle f, fun f => by rw [S.opened_fr]; exact h.wl f, ?_⟩
  · rw [S.opened_fr]
    by_cases hf' : f < S.G.length
    · exact h.cnt f hf'
    · have hfr : S.fr f = ([], 0, 0) := by unfold St.fr; rw [List.getD_eq_getElem?_getD, List.getElem?_eq_none (by omega)]; rfl
      rw [hfr, List.count_eq_zero_of_not_mem (fun hm => hf' (h.fol f hm))]
  · show S.Q.length = _
    rw [h.qs]
    unfold St.opened
    simp only
    split <;> simp

theorem Cnt.step {fo : List Nat} {S : St} (h : Cnt fo S) (fund sym : ByteArray) : Cnt (if (S.step fund sym).1 then fo else fo ++ [placeN S.F fund]) (S.add fund sym) := by
  have o := h.opened fund sym
  have hfl : placeN S.F fund < (S.opened fund sym).G.length := by rw [o.len]; exact placeN_lt S.F fund
  obtain ⟨S1, hS1⟩ : ∃ S1, S.opened fund sym = S1 := ⟨_, rfl⟩
  obtain ⟨f, hf⟩ : ∃ f, placeN S.F fund = f := ⟨_, rfl⟩
  obtain ⟨s, hs⟩ : ∃ s, placeN S.Y sym = s := ⟨_, rfl⟩
  obtain ⟨W, c, d, hg⟩ : ∃ W c d, S1.fr f = (W, c, d) := ⟨_, _, _, rfl⟩
  have hstep : S.step fund sym = recD f s (wide W c s) c d S1.Q := by
    unfold St.step
    simp only [hS1, hf, hs, hg]
    rw [← hS1]; rfl
  have hadd : S.add fund sym = { F := S1.F, Y := S1.Y, G := S1.G.set f (recD f s (wide W c s) c d S1.Q).2.1, Q := (recD f s (wide W c s) c d S1.Q).2.2 } := by
    unfold St.add
    rw [hstep, hS1, hf]
  rw [hS1, hf] at hfl
  rw [hS1] at o
  have hwl := o.wl f
  have hdl := o.dle f
  have hc := o.cnt f hfl
  rw [hg] at hwl hdl hc
  simp only at hwl hdl hc
  obtain ⟨q1, q2, q3, q4⟩ := recD_cnt f s (wide W c s) c d S1.Q (wide_len W c s hwl).1 hdl
  rw [hstep, hadd, hf]
  obtain ⟨r, hr⟩ : ∃ r, recD f s (wide W c s) c d S1.Q = r := ⟨_, rfl⟩
  rw [hr] at q1 q2 q3 q4 ⊢
  have hGf : S1.G[f] = (W, c, d) := by
    have := hg
    unfold St.fr at this
    rw [List.getD_eq_getElem?_getD, List.getElem?_eq_getElem hfl] at this
    exact this
  refine ⟨by simpa using o.len, fun f' hf' => ?_, fun x hx => ?_, fun f' => ?_, fun f' => ?_, ?_⟩
  · simp only [List.length_set] at hf'
    rw [S1.fr_set f f' _ hfl]
    by_cases e : f' = f
    · subst e
      rw [if_pos rfl, q1, hc]
      split
      · rfl
      · rw [List.count_append]; simp
    · rw [if_neg e, o.cnt f' hf']
      split
      · rfl
      · have h0 : List.count f' [f] = 0 := List.count_eq_zero_of_not_mem (by simpa using e)
        rw [List.count_append, h0]; rfl
  · simp only [List.length_set]
    split at hx
    · exact o.fol x hx
    · rcases List.mem_append.1 hx with hx | hx
      · exact o.fol x hx
      · simp at hx; subst hx; exact hfl
  · rw [S1.fr_set f f' _ hfl]
    split
    · exact q3
    · exact o.dle f'
  · rw [S1.fr_set f f' _ hfl]
    split
    · exact q4
    · exact o.wl f'
  · have h1 := sum_set S1.G r.2.1 f hfl
    rw [hGf] at h1
    simp only at h1 ⊢
    have h2 := o.qs
    omega
theorem Cnt.empty : Cnt [] St.empty :=
  ⟨rfl, fun f hf => by simp [St.empty] at hf, fun x hx => by simp at hx, fun f => by simp [St.empty, St.fr], fun f => by simp [St.empty, St.fr], rfl⟩

/-- The state after the first i calls. -/
def run (sc : Nat → ByteArray × ByteArray) : Nat → St
  | 0 => St.empty
  | i + 1 => (run sc i).add (sc i).1 (sc i).2
theorem run_good (sc : Nat → ByteArray × ByteArray) : ∀ i, Good sc i (run sc i)
  | 0 => Good.empty sc
  | i + 1 => (run_good sc i).step.1

end Go.Proofs.Qxb6601932a
