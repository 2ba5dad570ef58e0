/-
  What Add does, as plain functions on lists; a script given twice changes nothing.
-/
import Derived.Test.Qxb6601898aMaps
namespace Go.Proofs.Qxb6601898a
set_option linter.unusedVariables false
set_option linter.unusedSimpArgs false

/-- One owner of one pattern. -/
def ownP (l : List (Int × Bool)) (id : Int) (js : Bool) : List (Int × Bool) :=
  match l with
  | [] => [(id, js)]
  | (i, b) :: r => if i = id then (i, b && js) :: r else (i, b) :: ownP r id js

/-- The state: the patterns in order of first appearance, each with its owners. -/
abbrev Pats := List (ByteArray × List (Int × Bool))

def addP (S : Pats) (p : ByteArray) (id : Int) (js : Bool) : Pats :=
  match S with
  | [] => [(p, [(id, js)])]
  | (q, l) :: r => if p == q then (q, ownP l id js) :: r else (q, l) :: addP r p id js

/-- The pattern is there (with no owner yet, if it was not). -/
def withP (S : Pats) (p : ByteArray) : Pats :=
  match S with
  | [] => [(p, [])]
  | (q, l) :: r => if p == q then (q, l) :: r else (q, l) :: withP r p
def placeP (S : Pats) (p : ByteArray) : Nat :=
  match S with
  | [] => 0
  | (q, l) :: r => if p == q then 0 else placeP r p + 1

theorem withP_lt (S : Pats) (p : ByteArray) : placeP S p < (withP S p).length := by
  induction S with
  | nil => simp [placeP, withP]
  | cons x r ih =>
    obtain ⟨q, l⟩ := x
    unfold placeP withP
    by_cases h : p == q
    · simp [h]
    · simp [h]; exact ih

theorem placeFrom_map (S : Pats) (p : ByteArray) : ∀ k, placeFrom k p (S.map (·.1)) = if placeP S p < S.length then some (k + placeP S p) else none := by
  induction S with
  | nil => intro k; simp [placeFrom, placeP]
  | cons x r ih =>
    obtain ⟨q, l⟩ := x
    intro k
    simp only [List.map_cons, placeFrom, placeP, List.length_cons]
    by_cases h : p == q
    · simp [h]
    · simp only [h, ih (k + 1)]
      by_cases h2 : placeP r p < r.length
      · simp [h2]; omega
      · simp [h2]
theorem place_map (S : Pats) (p : ByteArray) : place (S.map (·.1)) p = if placeP S p < S.length then some (placeP S p) else none := by
  unfold place; rw [placeFrom_map]; simp

theorem withP_old (S : Pats) (p : ByteArray) (h : placeP S p < S.length) : withP S p = S := by
  induction S with
  | nil => simp at h
  | cons x r ih =>
    obtain ⟨q, l⟩ := x
    unfold withP
    unfold placeP at h
    by_cases h2 : p == q
    · simp [h2]
    · simp [h2] at h ⊢; exact ih h
theorem withP_new (S : Pats) (p : ByteArray) (h : ¬ placeP S p < S.length) : withP S p = S ++ [(p, [])] ∧ placeP S p = S.length := by
  induction S with
  | nil => simp [withP, placeP]
  | cons x r ih =>
    obtain ⟨q, l⟩ := x
    unfold withP placeP
    unfold placeP at h
    by_cases h2 : p == q
    · simp [h2] at h
    · simp [h2] at h ⊢
      exact ih (by omega)

/-- Add is: make the pattern be there, then turn its owners. -/
theorem addP_eq (S : Pats) (p : ByteArray) (id : Int) (js : Bool) : addP S p id js = (withP S p).modify (placeP S p) (fun x => (x.1, ownP x.2 id js)) := by
  induction S with
  | nil => simp [addP, withP, placeP, ownP]
  | cons x r ih =>
    obtain ⟨q, l⟩ := x
    unfold addP withP placeP
    by_cases h2 : p == q
    · simp [h2]
    · simp [h2, ih]

theorem ownP_hit (l : List (Int × Bool)) (id : Int) (js : Bool) : ∀ (i : Nat) (h : i < l.length), (∀ j (hj : j < i), (l[j]'(by omega)).1 ≠ id) → l[i].1 = id → ownP l id js = l.set i (l[i].1, l[i].2 && js) := by
  induction l with
  | nil => intro i h; simp at h
  | cons x r ih =>
    obtain ⟨a, b⟩ := x
    intro i h hne he
    unfold ownP
    cases i with
    | zero => simp at he; simp [he]
    | succ i =>
      have h0 := hne 0 (by omega)
      simp at h0
      rw [if_neg h0]
      simp only [List.length_cons] at h
      have := ih i (by omega) (fun j hj => by have := hne (j + 1) (by omega); simpa using this) (by simpa using he)
      simp [this]
theorem ownP_miss (l : List (Int × Bool)) (id : Int) (js : Bool) (h : ∀ j (hj : j < l.length), l[j].1 ≠ id) : ownP l id js = l ++ [(id, js)] := by
  induction l with
  | nil => rfl
  | cons x r ih =>
    obtain ⟨a, b⟩ := x
    have h0 := h 0 (by simp)
    simp at h0
    unfold ownP
    rw [if_neg h0, ih (fun j hj => by have := h (j + 1) (by simp; omega); simpa using this)]
    rfl

theorem ownP_len (l : List (Int × Bool)) (id : Int) (js : Bool) : l.length ≤ (ownP l id js).length ∧ (ownP l id js).length ≤ l.length + 1 := by
  induction l with
  | nil => simp [ownP]
  | cons x r ih =>
    obtain ⟨a, b⟩ := x
    unfold ownP
    split
    · simp
    · simp; omega

/-- Once taken in, an owner's add changes nothing; and stays so behind whatever other add. -/
theorem ownP_twice (l : List (Int × Bool)) (id : Int) (js : Bool) : ownP (ownP l id js) id js = ownP l id js := by
  induction l with
  | nil => simp [ownP]
  | cons x r ih =>
    obtain ⟨a, b⟩ := x
    unfold ownP
    by_cases h : a = id
    · simp [h, ownP]
    · simp [h, ownP, ih]
theorem ownP_still (l : List (Int × Bool)) (id id' : Int) (js js' : Bool) (h : ownP l id js = l) : ownP (ownP l id' js') id js = ownP l id' js' := by
  induction l with
  | nil => simp [ownP] at h
  | cons x r ih =>
    obtain ⟨a, b⟩ := x
    unfold ownP at h
    by_cases h1 : a = id
    · simp [h1] at h
      by_cases h2 : a = id'
      · unfold ownP
        simp [h2, ownP]
        by_cases h3 : id' = id
        · simp [h3]
          cases b <;> cases js <;> cases js' <;> simp_all
        · simp [h3]; exact absurd (h2 ▸ h1) h3
      · unfold ownP
        simp [h2, ownP, h1]
        cases b <;> cases js <;> simp_all
    · simp [h1] at h
      by_cases h2 : a = id'
      · unfold ownP
        simp [h2, ownP]
        by_cases h3 : id' = id
        · exact absurd (h2.trans h3) h1
        · simp [h3, h]
      · unfold ownP
        simp [h2, ownP, h1]
        exact ih h

theorem addP_twice (S : Pats) (p : ByteArray) (id : Int) (js : Bool) : addP (addP S p id js) p id js = addP S p id js := by
  induction S with
  | nil => simp [addP, ownP, ba_refl]
  | cons x r ih =>
    obtain ⟨q, l⟩ := x
    unfold addP
    by_cases h : p == q
    · simp [h, addP, ownP_twice]
    · simp [h, addP, ih]
theorem addP_still (S : Pats) (p p' : ByteArray) (id id' : Int) (js js' : Bool) (h : addP S p id js = S) : addP (addP S p' id' js') p id js = addP S p' id' js' := by
  induction S with
  | nil => simp [addP] at h
  | cons x r ih =>
    obtain ⟨q, l⟩ := x
    unfold addP at h
    by_cases h1 : p == q
    · simp [h1] at h
      unfold addP
      by_cases h2 : p' == q
      · simp [h2, addP, h1]
        exact ownP_still l id id' js js' h
      · simp [h2, addP, h1, h]
    · simp [h1] at h
      unfold addP
      by_cases h2 : p' == q
      · simp [h2, addP, h1, h]
      · simp [h2, addP, h1]
        exact ih h

/-- A script: the state after its first j adds. -/
def script (ps : Nat → ByteArray) (is : Nat → Int) (bs : Nat → Bool) : Nat → Pats
  | 0 => []
  | j + 1 => addP (script ps is bs j) (ps j) (is j) (bs j)

theorem script_still (ps : Nat → ByteArray) (is : Nat → Int) (bs : Nat → Bool) (n : Nat) : ∀ j, j < n → addP (script ps is bs n) (ps j) (is j) (bs j) = script ps is bs n := by
  induction n with
  | zero => intro j hj; omega
  | succ n ih =>
    intro j hj
    by_cases h : j = n
    · subst h; exact addP_twice _ _ _ _
    · exact addP_still _ _ _ _ _ _ _ (ih j (by omega))

theorem addP_len (S : Pats) (p : ByteArray) (id : Int) (js : Bool) : (addP S p id js).length ≤ S.length + 1 := by
  induction S with
  | nil => simp [addP]
  | cons x r ih =>
    obtain ⟨q, l⟩ := x
    unfold addP
    split
    · simp
    · simp; omega
theorem addP_own (S : Pats) (p : ByteArray) (id : Int) (js : Bool) (m : Nat) (h : ∀ x ∈ S, x.2.length ≤ m) : ∀ x ∈ addP S p id js, x.2.length ≤ m + 1 := by
  induction S with
  | nil => intro x hx; simp [addP] at hx; subst hx; simp
  | cons y r ih =>
    obtain ⟨q, l⟩ := y
    intro x hx
    unfold addP at hx
    have hl := h (q, l) (by simp)
    split at hx
    · rcases List.mem_cons.1 hx with rfl | hx
      · have := (ownP_len l id js).2; simp at hl ⊢; omega
      · have := h x (by simp [hx]); omega
    · rcases List.mem_cons.1 hx with rfl | hx
      · simp at hl ⊢; omega
      · exact ih (fun x hx => h x (by simp [hx])) x hx
theorem script_len (ps : Nat → ByteArray) (is : Nat → Int) (bs : Nat → Bool) (n : Nat) : (script ps is bs n).length ≤ n := by
  induction n with
  | zero => simp [script]
  | succ n ih => simp only [script]; have := addP_len (script ps is bs n) (ps n) (is n) (bs n); omega
theorem script_own (ps : Nat → ByteArray) (is : Nat → Int) (bs : Nat → Bool) (n : Nat) : ∀ x ∈ script ps is bs n, x.2.length ≤ n := by
  induction n with
  | zero => intro x hx; simp [script] at hx
  | succ n ih => exact addP_own _ _ _ _ n ih

end Go.Proofs.Qxb6601898a
