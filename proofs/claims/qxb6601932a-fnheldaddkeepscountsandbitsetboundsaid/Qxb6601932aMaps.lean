/-
  Maps from strings to their places of first appearance; rows that are appended to. Over whatever program.
-/
import Derived.Test.Qxb6601932aBase
import Derived.WalkSpells
import Derived.Deep.DeepCutAuto
import Derived.Deep.AppendLies
namespace Go.Proofs.Qxb6601932a
open Go.RowKit
set_option linter.unusedVariables false

theorem Kept.of_grown {w w' : World} {row : Option Nat} (h : w.grownBy w' row) : Kept (fun b => some b = row) w w' :=
  ⟨h.os, h.tape, h.output, h.size, fun k hk hs => h.block k hk hs⟩
theorem Kept.grown {S : Nat → Prop} {w w' : World} (h : Kept S w w') (row : Option Nat) (hs : ∀ k, k < w.heap.size → S k → some k = row) : w.grownBy w' row :=
  ⟨h.os, h.tape, h.output, h.size, fun k hk hr => h.block k hk (fun s => hr (hs k hk s))⟩

theorem setCell_alloc_swap (w : World) (b o : Nat) (v : Value) (ob : Obj) (hb : b < w.heap.size) : (w.alloc ob).setCell ⟨b, o, none⟩ v = (w.setCell ⟨b, o, none⟩ v).alloc ob := by
  simp only [World.setCell, World.alloc]
  congr 1
  apply Array.ext_getElem?
  intro k
  rw [Array.getElem?_modify, Array.getElem?_push, Array.getElem?_push, Array.getElem?_modify]
  by_cases h1 : k = w.heap.size
  · subst h1
    simp [show ¬ b = w.heap.size by omega]
  · simp [h1]

/-- A guard: the next operation is this one. -/
theorem at_op {P : Program} {ops : Array Oper} {rest : List Oper} {o : Oper} {a : Act} {w : World} {Q : Exit → Act → World → Prop} (q : Op) (h : o.op = q) (hK : wpList P ops Q (o :: rest) a w) : wpList P ops Q (o :: rest) a w := hK

/-- A row that is the call's own, while other blocks turn. -/
theorem own_kept {w w' : World} {S : Nat → Prop} {base : Nat} {e : TypeId} {size : Nat} {v : Value} {n : Nat} {xs : List Value} (h : w.ownsRow base e size v n xs) (k : Kept S w w') (hs : ∀ g, v.ownBlock = some g → ¬ S g) : w'.ownsRow base e size v n xs := by
  obtain ⟨h1, h2⟩ := h
  refine ⟨h1, ?_⟩
  rcases h2 with h2 | ⟨g, cap, cur, rfl, hg, hh, r⟩
  · exact .inl h2
  · have hlt : g < w.heap.size := (Array.getElem?_eq_some_iff.1 hh).1
    exact .inr ⟨g, cap, cur, rfl, hg, by rw [k.block g hlt (hs g rfl)]; exact hh, r⟩

/-- Where the row lies. -/
theorem own_at {w : World} {base : Nat} {e : TypeId} {size : Nat} {v : Value} {n : Nat} {xs : List Value} (h : w.ownsRow base e size v n xs) (hn : 0 < n) :
    ∃ g cap, v = .slice (some ⟨g, 0, none⟩) n cap ∧ base ≤ g ∧ g < w.heap.size ∧ n ≤ cap := by
  obtain ⟨_, h2⟩ := h
  rcases h2 with ⟨_, h2⟩ | ⟨g, cap, cur, rfl, hg, hh, hc, _⟩
  · omega
  · exact ⟨g, cap, rfl, hg, (Array.getElem?_eq_some_iff.1 hh).1, hc⟩
theorem own_form {w : World} {base : Nat} {e : TypeId} {size : Nat} {v : Value} {n : Nat} {xs : List Value} (h : w.ownsRow base e size v n xs) : ∃ a cap, v = .slice a n cap := by
  obtain ⟨_, h2⟩ := h
  rcases h2 with ⟨rfl, rfl⟩ | ⟨g, cap, cur, rfl, _⟩
  · exact ⟨none, 0, rfl⟩
  · exact ⟨_, cap, rfl⟩
/-- Two rows of different element types lie in different blocks; so does a block known whole. -/
theorem own_ne {w : World} {base base' : Nat} {e e' : TypeId} {size size' : Nat} {v v' : Value} {n n' : Nat} {xs xs' : List Value} (h : w.ownsRow base e size v n xs) (h' : w.ownsRow base' e' size' v' n' xs') (hne : e ≠ e') :
    ∀ g, v.ownBlock = some g → v'.ownBlock ≠ some g := by
  intro g hg hg'
  rcases h.2 with ⟨rfl, _⟩ | ⟨x, cap, cur, rfl, _, hh, _⟩
  · cases hg
  rcases h'.2 with ⟨rfl, _⟩ | ⟨x', cap', cur', rfl, _, hh', _⟩
  · cases hg'
  cases hg; cases hg'
  rw [hh] at hh'
  simp only [Option.some.injEq, Obj.cells.injEq] at hh'
  exact hne hh'.2.1
theorem own_ne_blk {w : World} {base : Nat} {e e' : TypeId} {size : Nat} {v : Value} {n : Nat} {xs : List Value} {b : Nat} {c : Array Value} (h : w.ownsRow base e size v n xs) (h' : Blk w b c e') (hne : e ≠ e') : v.ownBlock ≠ some b := by
  intro hg
  rcases h.2 with ⟨rfl, _⟩ | ⟨x, cap, cur, rfl, _, hh, _⟩
  · cases hg
  cases hg
  unfold Blk at h'
  rw [hh] at h'
  simp only [Option.some.injEq, Obj.cells.injEq] at h'
  exact hne h'.2.1
theorem own_ne_map {w : World} {base : Nat} {e : TypeId} {size : Nat} {v : Value} {n : Nat} {xs : List Value} {b : Nat} {es : Array MapEntry} {cl : Nat} (h : w.ownsRow base e size v n xs) (h' : w.heap[b]? = some (.map es cl)) : v.ownBlock ≠ some b := by
  intro hg
  rcases h.2 with ⟨rfl, _⟩ | ⟨x, cap, cur, rfl, _, hh, _⟩
  · cases hg
  cases hg
  rw [hh] at h'
  simp at h'
theorem own_lt {w : World} {base : Nat} {e : TypeId} {size : Nat} {v : Value} {n : Nat} {xs : List Value} (h : w.ownsRow base e size v n xs) {g : Nat} (hg : v.ownBlock = some g) : base ≤ g ∧ g < w.heap.size := h.lt g hg
theorem own_set_other {w : World} {base : Nat} {e : TypeId} {size : Nat} {v : Value} {n : Nat} {xs : List Value} (h : w.ownsRow base e size v n xs) {b o : Nat} (hb : v.ownBlock ≠ some b) (u : Value) : (w.setCell ⟨b, o, none⟩ u).ownsRow base e size v n xs :=
  own_kept h ((Kept.refl (fun x => x = b) w).setCell (p := ⟨b, o, none⟩) (.inr rfl) u) (fun g hg e => by subst e; exact hb hg)

theorem ba_refl (p : ByteArray) : (p == p) = true := by
  cases p with | mk d => show (d == d) = true; simp
theorem ba_eq {p q : ByteArray} (h : (p == q) = true) : p = q := by
  cases p with | mk d =>
  cases q with | mk d' =>
  have : (d == d') = true := h
  simp at this
  rw [this]

/-! ### A map from strings to numbers: each string's place of first appearance -/
def entriesFrom (k : Nat) : List ByteArray → List MapEntry
  | [] => []
  | s :: r => { key := .string s, val := .int .i64 (k : Int), born := k } :: entriesFrom (k + 1) r
def mapOf (L : List ByteArray) : Array MapEntry := (entriesFrom 0 L).toArray

/-- The place of s in L, if it is there. -/
def placeFrom (k : Nat) (s : ByteArray) : List ByteArray → Option Nat
  | [] => none
  | t :: r => if s == t then some k else placeFrom (k + 1) s r
def place (L : List ByteArray) (s : ByteArray) : Option Nat := placeFrom 0 s L

theorem length_entriesFrom (L : List ByteArray) : ∀ k, (entriesFrom k L).length = L.length := by
  induction L with
  | nil => intro k; rfl
  | cons s r ih => intro k; simp [entriesFrom, ih]
theorem size_mapOf (L : List ByteArray) : (mapOf L).size = L.length := by simp [mapOf, length_entriesFrom]
theorem entriesFrom_snoc (s : ByteArray) : ∀ (L : List ByteArray) (k : Nat), entriesFrom k (L ++ [s]) = entriesFrom k L ++ [{ key := .string s, val := .int .i64 ((k + L.length : Nat) : Int), born := k + L.length }]
  | [], k => by simp [entriesFrom]
  | t :: r, k => by
    simp only [List.cons_append, entriesFrom, entriesFrom_snoc s r (k + 1), List.length_cons]
    rw [show k + 1 + r.length = k + (r.length + 1) by omega]
theorem mapOf_snoc (L : List ByteArray) (s : ByteArray) : mapOf (L ++ [s]) = (mapOf L).push { key := .string s, val := .int .i64 (L.length : Int), born := L.length } := by
  simp [mapOf, entriesFrom_snoc]

theorem findNow_entries (s : ByteArray) : ∀ (L : List ByteArray) (k i : Nat), Instr.findNow .string (.string s) (entriesFrom k L) i = some ((placeFrom k s L).map fun j => (i + (j - k), Value.int .i64 (j : Int)))
  | [], k, i => rfl
  | t :: r, k, i => by
    simp only [entriesFrom, Instr.findNow, Instr.sameNow, placeFrom]
    by_cases h : s == t
    · simp [h]
    · have ih := findNow_entries s r (k + 1) (i + 1)
      simp only [h, ih]
      have hge : ∀ (r : List ByteArray) (m j : Nat), placeFrom m s r = some j → m ≤ j := by
        intro r
        induction r with
        | nil => intro m j h; cases h
        | cons t r ih => intro m j h; unfold placeFrom at h; split at h; · cases h; exact Nat.le_refl _
                         · have := ih _ _ h; omega
      cases hp : placeFrom (k + 1) s r with
      | none => simp
      | some j =>
        have := hge r (k + 1) j hp
        simp
        omega

section
variable {P : Program} {w : World} {t k e : TypeId} {b : Nat} {L : List ByteArray}

theorem run_checkKey_string (em : Bool) (d : Nat) (hk : P.underlying k = some .string) (s : ByteArray) : (Instr.checkKey em (d + 1) k (.string s)).run P w = .ok () w := by
  simp [Instr.checkKey, run_underlying hk]

/-- 'v, ok := m[s]' -/
theorem run_lookup_place (ht : P.underlying t = some (.map k e)) (hk : P.underlying k = some .string) (hz : (zeroValue e).run P w = .ok (.int .i64 0) w) {cl : Nat} (hb : w.heap[b]? = some (.map (mapOf L) cl)) (s : ByteArray) :
    (Instr.lookup t (.map (some b)) (.string s) true).run P w = .ok (.tuple #[.int .i64 (((place L s).getD 0 : Nat) : Int), .bool (place L s).isSome]) w := by
  have hf := findNow_entries s L 0 0
  have hc := run_checkKey_string (P := P) (w := w) (mapOf L).isEmpty 9999 hk s
  have hl : (mapOf L).toList = entriesFrom 0 L := by simp [mapOf]
  cases hp : placeFrom 0 s L with
  | none =>
    rw [hp] at hf
    simp [Instr.lookup, run_underlying ht, run_underlying hk, getObj, Sem.run, hb, hc, Instr.findKey, hl, hf, hz, place, hp]
  | some j =>
    rw [hp] at hf
    simp [Instr.lookup, run_underlying ht, run_underlying hk, getObj, Sem.run, hb, hc, Instr.findKey, hl, hf, place, hp]

/-- 'm[s] = len', s not there yet. -/
theorem run_update_place (ht : P.underlying t = some (.map k e)) (hk : P.underlying k = some .string) (hb : w.heap[b]? = some (.map (mapOf L) L.length)) (s : ByteArray) (hs : place L s = none) :
    (Instr.mapUpdate t (.map (some b)) (.string s) (.int .i64 (L.length : Int))).run P w = .ok () { w with heap := w.heap.setIfInBounds b (.map (mapOf (L ++ [s])) (L.length + 1)) } := by
  have hf := findNow_entries s L 0 0
  have hc := run_checkKey_string (P := P) (w := w) false 9999 hk s
  have hl : (mapOf L).toList = entriesFrom 0 L := by simp [mapOf]
  have hp : placeFrom 0 s L = none := hs
  rw [hp] at hf
  simp [Instr.mapUpdate, run_underlying ht, run_underlying hk, getObj, setObj, Sem.run, hb, hc, Instr.findKey, hl, hf, mapOf_snoc]
end

end Go.Proofs.Qxb6601932a
