import Derived.Test.Qxb6600263aSmall
namespace Go.Proofs.Qxb6600263a
open Go.RowKit
set_option linter.unusedVariables false

/-! Plain laws on the counts. -/
theorem gap_shift {L L' : Nat → Int} {n : Nat} {k : Int} (h : ∀ i, i < n → L' i = L i + k) (i : Nat) (hi : i + 1 < n) : gap L' i = gap L i := by
  unfold gap
  rw [h i (by omega), h (i + 1) hi]
  omega
theorem tot_shift {L L' : Nat → Int} {n : Nat} {k : Int} (h : ∀ i, i < n → L' i = L i + k) (m : Nat) (hm : m + 1 ≤ n) : tot L' m = tot L m := by
  induction m with
  | zero => rfl
  | succ m ih => simp only [tot]; rw [ih (by omega), gap_shift h m (by omega)]
theorem cnt_shift {L L' U : Nat → Int} {n : Nat} {k : Int} (h : ∀ i, i < n → L' i = L i + k) (m i : Nat) (hm : m + 1 ≤ n) : cnt L' U m i = cnt L U m i := by
  unfold cnt
  by_cases h1 : 0 < i ∧ i ≤ m
  · rw [gap_shift h (i - 1) (by omega)]
  · rw [if_neg (fun h2 => h1 ⟨h2.1, h2.2.1⟩), if_neg (fun h2 => h1 ⟨h2.1, h2.2.1⟩)]
theorem cnt_idem (L U : Nat → Int) (m i : Nat) : cnt L (cnt L U m) m i = cnt L U m i := by
  unfold cnt
  split <;> rfl
theorem hl_shift {f h v k : Int} (hk : hok f = true) : hl f (h + k) (v + k) = hl f h v + k := by
  unfold hok at hk
  unfold hl
  cases h0 : has0 f
  · cases h8 : has8 f
    · simp [h0, h8] at hk
    · simp
  · simp
theorem hl_bd {f h v : Int} (h1 : 0 ≤ h ∧ h ≤ 255) (h2 : 0 ≤ v ∧ v ≤ 255) : 0 ≤ hl f h v ∧ hl f h v ≤ 255 := by
  unfold hl
  split
  · exact h1
  · split
    · exact h2
    · omega

theorem Nums.new' {k : IntKind} (e : TypeId) (w : World) (n B : Nat) (hB : w.heap.size = B) : Nums k e (w.alloc (.cells (madeCells #[.int k 0] n) e)) B n (fun _ => 0) := by
  subst hB
  exact Nums.new e w n
theorem Nums.alloc {k : IntKind} {e : TypeId} {w : World} {b n : Nat} {z : Nat → Int} (h : Nums k e w b n z) (o : Obj) : Nums k e (w.alloc o) b n z :=
  h.kept (S := fun _ => False) ((Kept.refl _ _).alloc o) id
theorem Kept.own {w w' : World} (h : Kept (fun _ => False) w w') (S : Nat → Prop) : Kept S w w' := h.mono (fun _ _ h => h.elim)

theorem drewN2 (w : World) (a b : Nat) : (w.drewN a).drewN b = w.drewN (a + b) := by simp [World.drewN, Nat.add_assoc]

/-- Is there a count? -/
def Yes (n : Nat) (F : Nat → Int) : Prop := 0 < n ∧ hok (F 0) = true
/-- What the pointer to the total is behind the call. -/
def Told (w w' : World) (n : Nat) (F L : Nat → Int) (p p' : Value) : Prop :=
  (¬ Yes n F ∧ p' = p) ∨ (Yes n F ∧ ∃ b, w.heap.size ≤ b ∧ p' = .pointer (some ⟨b, 0, none⟩) ∧ Blk w' b #[.int .i64 (tot L (n - 1))] 3)

theorem zzcount_any (tb nb n : Nat) (p : Value) (F H V U L : Nat → Int) (w : World) (ht : TraceAt w tb p (.slice (some ⟨nb, 0, none⟩) n n)) (hn : Nodes w nb n F H V U) (hs : n ≤ 65536)
    (hne : tb ≠ nb) (hL : ∀ i, i < n → L i = hl (F i) (H i) (V i)) (hb : ∀ i, i < n → 0 ≤ L i ∧ L i ≤ 255) :
    Calls Try.prog 12 #[.pointer (some ⟨tb, 0, none⟩)] w fun e w' => e = .returned (.tuple #[]) ∧ ∃ p' U',
      TraceAt w' tb p' (.slice (some ⟨nb, 0, none⟩) n n) ∧ Nodes w' nb n F H V U' ∧ Kept (fun b => b = tb ∨ b = nb) w w' ∧ Told w w' n F L p p' ∧ (¬ Yes n F → ∀ i, U' i = U i) ∧ (Yes n F → ∀ i, U' i = cnt L U (n - 1) i) := by
  by_cases hy : Yes n F
  · refine (zzcount_some tb nb n p F H V U L w ht hn hs hy.1 hy.2 hne hL hb).mono ?_
    rintro e w' ⟨rfl, h1, h2, h3, h4, h5⟩
    exact ⟨rfl, _, _, h1, h2, h5, .inr ⟨hy, _, Nat.le_refl _, rfl, h3⟩, fun h => absurd hy h, fun _ _ => rfl⟩
  · refine (zzcount_none tb nb n p F H V U w ht hn hs ?_).mono ?_
    · by_cases h0 : n = 0
      · exact .inl h0
      · refine .inr ?_
        cases h : hok (F 0)
        · rfl
        · exact absurd ⟨by omega, h⟩ hy
    · rintro e w' ⟨rfl, rfl⟩
      exact ⟨rfl, _, _, ht, hn, Kept.refl _ _, .inl ⟨hy, rfl⟩, fun _ _ => rfl, fun h => absurd h hy⟩

/-- What the shell's 'IsRow' says, in the words of 'Reads'. -/
theorem Reads.of_cells {k : IntKind} {w : World} {x : Addr} {n : Nat} {zs : List Int} (hn : n ≤ zs.length) (h : ∀ i, i < zs.length → w.cell? (x.add i) = some (.int k (zs.getD i 0))) : Reads k w (some x) n (fun i => zs.getD i 0) := by
  by_cases h0 : n = 0
  · exact .inl h0
  · obtain ⟨b, o, spot⟩ := x
    have hspot : spot = none := by simpa [Addr.add] using World.cell?_spot (h 0 (by omega))
    subst hspot
    exact .inr ⟨b, o, rfl, fun i hi => by have := h i (by omega); rwa [Addr.add_lit] at this⟩
end Go.Proofs.Qxb6600263a
