/-
  Laws for the walk of held.add.
-/
import Derived.Test.Qxb6601932aZeros
import Derived.Deep.DeepCutAuto
import Derived.Deep.RegionHeld3
import Derived.Deep.RegionLaw
namespace Go.Proofs.Qxb6601932a
open Go.RowKit
set_option linter.unusedVariables false
set_option linter.unusedSimpArgs false

/-- A held value at hb. -/
def HeldAt (T : Nat → Prop) (w : World) (hb : Nat) (S : St) : Prop := ∃ fb yb qb vG vs, Core T w hb fb yb qb S.G vG vs ∧ Tabs T w fb yb qb S.F S.Y S.Q

/-- It is small, and its words are words. -/
structure Fits (N : Nat) (S : St) : Prop where
  len : S.G.length = S.F.length
  f : S.F.length ≤ N
  y : S.Y.length ≤ N
  c : ∀ g ∈ S.G, g.2.1 ≤ N ∧ g.2.2 ≤ N ∧ g.1.length ≤ N + 1
  b : ∀ g ∈ S.G, ∀ x ∈ g.1, x < 2 ^ 64

theorem Try.info47 : (Try.prog.info? 47).map (fun i => (i.zero, i.size, i.bytes)) = some (some (.agg #[.slice none 0 0, .int .i64 0, .int .i64 0]), 3, 40) := by kernel_rfl
theorem Try.info51 : (Try.prog.info? 51).map (fun i => (i.zero, i.size, i.bytes)) = some (some (.int .u64 0), 1, 8) := by kernel_rfl
theorem zero3 (w : World) : (zeroValue 3).run Try.prog w = .ok (.int .i64 0) w := by kernel_rfl

/-- 'len(m)' at the operation. -/
theorem wpList_len_map {P : Program} {ops : Array Oper} {rest : List Oper} {o : Oper} {a : Act} {w : World} {Q : Exit → Act → World → Prop} (hg : o.guard = none) (x : Operand) (t k e : TypeId) (hop : o.op = .call { callee := .builtin .len, args := #[x], argTypes := #[t] })
    (ht : P.underlying t = some (.map k e)) (b cl : Nat) (es : Array MapEntry) (hx : a.eval x = .map (some b)) (hb : w.heap[b]? = some (.map es cl)) (h : wpList P ops Q rest (a.put o.dst (.int .i64 es.size)) w) : wpList P ops Q (o :: rest) a w := by
  refine wpList_plain hg fun K hK => ?_
  have hr : ∀ ty, (Builtin.len_ #[t] ty #[.map (some b)]).run P w = .ok (.int .i64 es.size) w := fun ty => by
    simp [Builtin.len_, run_underlying ht, getObj, Sem.run, hb, goInt]
  unfold Oper.wp
  simp [execOp, hop, resolve, invoke, builtin, hx, hr, Result.andThen]
  exact hK _ _ h

theorem upd_place {P : Program} {w : World} {t k e : TypeId} {b : Nat} {L : List ByteArray} (ht : P.underlying t = some (.map k e)) (hk : P.underlying k = some .string) (hb : w.heap[b]? = some (.map (mapOf L) L.length)) (s : ByteArray) (hs : place L s = none) :
    ∃ wu, (Instr.mapUpdate t (.map (some b)) (.string s) (.int .i64 (L.length : Int))).run P w = .ok () wu ∧ wu.heap[b]? = some (.map (mapOf (L ++ [s])) (L ++ [s]).length) ∧ Kept (fun y => y = b) w wu ∧ wu.heap.size = w.heap.size := by
  have hlt : b < w.heap.size := (Array.getElem?_eq_some_iff.1 hb).1
  refine ⟨_, run_update_place ht hk hb s hs, ?_, ⟨rfl, rfl, rfl, by simp, fun i hi hne => ?_⟩, by simp⟩
  · simp [hlt]
  · show (w.heap.setIfInBounds b _)[i]? = _
    rw [Array.getElem?_setIfInBounds, if_neg (fun e => hne e.symm)]

/-- 'append(x, make([]T, k)...)' as one step of a region that draws. -/
theorem step_append_zeros {P : Program} {ops : Array Oper} {o : Oper} {a : Act} {w : World} {K : Act → World → Prop} {Q : Exit → Act → World → Prop} {E : Prop} (hgd : o.guard = none) (s x : Operand) (t tn : TypeId)
    (ho : o.op = .call { callee := .builtin .append, args := #[s, x], argTypes := #[t, tn] })
    (e : TypeId) (i : TypeInfo) (z : Value) (bytes : Nat) (kn : IntKind) (ht : P.underlying t = some (.slice e)) (htn : P.underlying tn = some (.int kn)) (hi : P.info? e = some i) (hz : i.zero = some z) (hs1 : i.size = 1) (hby : i.bytes = bytes) (hzc : z.cells = #[z]) (h1 : z.oneCell' = true)
    (v : Value) (n k : Nat) (xs : List Value) (hs : a.eval s = v) (hx : a.eval x = .int .i64 (k : Int)) (hown : w.ownsRow 0 e 1 v n xs) (hk : 0 < k) (h63 : n + k ≤ maxLen) (hbytes : (n + k) * bytes ≤ 140737488355328)
    (h : ∀ g cap w', w'.ownsRow 0 e 1 (.slice (some ⟨g, 0, none⟩) (n + k) cap) (n + k) (xs ++ List.replicate k z) → w.grownBy w' v.ownBlock → (v.ownBlock = some g ∨ g = w.heap.size) → g < w'.heap.size → K (a.put o.dst (.slice (some ⟨g, 0, none⟩) (n + k) cap)) w') :
    if Region.wanted o (yielded ops a.tmps) = true then Oper.wp P o a w K Q else E := by
  have hw : Region.wanted o (yielded ops a.tmps) = true := by simp [Region.wanted, hgd]
  rw [if_pos hw]
  subst hby
  obtain ⟨g, cap, w', hrun, r1, r2, r3, r4⟩ := run_append_zeros (P := P) w t tn o.type e i z kn ht htn hi hz hs1 hzc h1 v n k xs hown hk h63 hbytes
  unfold Oper.wp
  simp [execOp, ho, resolve, invoke, builtin, hs, hx, hrun, Result.andThen]
  exact h _ _ _ r1 r2 r3 r4

theorem wrap_bit (s : Nat) : IntKind.u64.wrap (2 ^ (s % 64)) = ((2 ^ (s % 64) : Nat) : Int) := by
  have h : (2 ^ (s % 64) : Nat) < 2 ^ 64 := Nat.pow_lt_pow_right (by decide) (Nat.mod_lt _ (by decide))
  have e : ((2 : Int) ^ (s % 64)) = ((2 ^ (s % 64) : Nat) : Int) := by simp
  rw [e]
  generalize 2 ^ (s % 64) = x at h ⊢
  have : IntKind.u64.wrap (x : Int) = (x : Int) % 18446744073709551616 := by simp [IntKind.wrap, IntKind.bits, IntKind.signed]
  rw [this]
  omega
theorem count_wrap (q n : Nat) (h : n ≤ q) (hq : q ≤ 128) : IntKind.i64.wrap (IntKind.i64.wrap ((q : Int) + 1) - (n : Int)) = ((q + 1 - n : Nat) : Int) := by
  rw [IntKind.wrap_i64, IntKind.wrap_i64]
  omega
theorem wide_yes {W : List Nat} {c s q : Nat} (hq : s / 64 = q) (h : W.length ≤ q ∧ q ≤ c) : wide W c s = W ++ List.replicate (q + 1 - W.length) 0 := by
  subst hq; unfold wide; rw [if_pos h]
theorem wide_no {W : List Nat} {c s q : Nat} (hq : s / 64 = q) (h : ¬ (W.length ≤ q ∧ q ≤ c)) : wide W c s = W := by
  subst hq; unfold wide; rw [if_neg h]
theorem set_same {G : List (List Nat × Nat × Nat)} {f : Nat} {g : List Nat × Nat × Nat} (hf : f < G.length) (h : G[f] = g) : G.set f g = G := by
  subst h; exact List.set_getElem_self hf
theorem set_at {G G2 : List (List Nat × Nat × Nat)} {f : Nat} {g : List Nat × Nat × Nat} (h : G.set f g = G2) (hf : f < G2.length) : G2[f] = g := by
  subst h; simp
theorem bits_and_nat (a b : Nat) (ha : a < 18446744073709551616) (hb : b < 18446744073709551616) : bits .and .u64 (a : Int) (b : Int) = ((a &&& b : Nat) : Int) := by
  have hx : a &&& b < 2 ^ 64 := Nat.and_lt_two_pow _ (by omega)
  have h1 : (BitVec.ofInt 64 (a : Int)).toNat = a := by
    rw [BitVec.ofInt_natCast, BitVec.toNat_ofNat]; exact Nat.mod_eq_of_lt (by omega)
  have h2 : (BitVec.ofInt 64 (b : Int)).toNat = b := by
    rw [BitVec.ofInt_natCast, BitVec.toNat_ofNat]; exact Nat.mod_eq_of_lt (by omega)
  have hw : ∀ n : Int, IntKind.u64.wrap n = n % 18446744073709551616 := fun n => by simp [IntKind.wrap, IntKind.bits, IntKind.signed]
  show IntKind.u64.wrap ((BitVec.ofInt 64 (a : Int) &&& BitVec.ofInt 64 (b : Int)).toNat : Int) = _
  rw [BitVec.toNat_and, h1, h2, hw]
  omega
theorem bits_or_nat (a b : Nat) (ha : a < 18446744073709551616) (hb : b < 18446744073709551616) : bits .or .u64 (a : Int) (b : Int) = ((a ||| b : Nat) : Int) := by
  have hx : a ||| b < 2 ^ 64 := Nat.or_lt_two_pow (by omega) (by omega)
  have h1 : (BitVec.ofInt 64 (a : Int)).toNat = a := by
    rw [BitVec.ofInt_natCast, BitVec.toNat_ofNat]; exact Nat.mod_eq_of_lt (by omega)
  have h2 : (BitVec.ofInt 64 (b : Int)).toNat = b := by
    rw [BitVec.ofInt_natCast, BitVec.toNat_ofNat]; exact Nat.mod_eq_of_lt (by omega)
  have hw : ∀ n : Int, IntKind.u64.wrap n = n % 18446744073709551616 := fun n => by simp [IntKind.wrap, IntKind.bits, IntKind.signed]
  show IntKind.u64.wrap ((BitVec.ofInt 64 (a : Int) ||| BitVec.ofInt 64 (b : Int)).toNat : Int) = _
  rw [BitVec.toNat_or, h1, h2, hw]
  omega
theorem ne_zero_int (n : Nat) : (((n : Nat) : Int) != 0) = !decide (n = 0) := by
  by_cases h : n = 0
  · subst h; rfl
  · rw [decide_eq_false h, Bool.not_false, bne_iff_ne]; omega
theorem and_bit (x k : Nat) : decide (x &&& 2 ^ k = 0) = !x.testBit k := by
  cases h : x.testBit k
  · have e : x &&& 2 ^ k = 0 := by
      apply Nat.eq_of_testBit_eq
      intro i
      rw [Nat.testBit_and, Nat.testBit_two_pow, Nat.zero_testBit]
      by_cases hi : k = i
      · subst hi; simp [h]
      · simp [hi]
    simp [e]
  · have e : ¬ x &&& 2 ^ k = 0 := fun h0 => by
      have := congrArg (fun n => n.testBit k) h0
      simp [Nat.testBit_and, Nat.testBit_two_pow, h] at this
    simp [e]

theorem recD_c (f s : Nat) (W : List Nat) (c d : Nat) (Q : List (Nat × Nat)) : (recD f s W c d Q).2.1 = ((recD f s W c d Q).2.1.1, (if (recD f s W c d Q).1 then c else c + 1), (recD f s W c d Q).2.1.2.2) := by
  unfold recD
  split
  · rfl
  · split <;> rfl
theorem wide_mem {W : List Nat} {c s : Nat} (h : ∀ x ∈ W, x < 2 ^ 64) : ∀ x ∈ wide W c s, x < 2 ^ 64 := by
  unfold wide
  split
  · intro x hx
    rcases List.mem_append.1 hx with hx | hx
    · exact h x hx
    · rw [List.eq_of_mem_replicate hx]; decide
  · exact h
theorem upd_pair {w : World} {b : Nat} {Q : List (Nat × Nat)} (hb : w.heap[b]? = some (.map (pairMap Q) Q.length)) (f s : Nat) (hs : hasQ Q (f, s) = false) :
    ∃ wu, (Instr.mapUpdate 40 (.map (some b)) (.agg #[.int .i64 (f : Int), .int .i64 (s : Int)]) (.agg #[])).run Try.prog w = .ok () wu ∧ wu.heap[b]? = some (.map (pairMap (Q ++ [(f, s)])) (Q ++ [(f, s)]).length) ∧ Kept (fun y => y = b) w wu ∧ wu.heap.size = w.heap.size := by
  have hlt : b < w.heap.size := (Array.getElem?_eq_some_iff.1 hb).1
  refine ⟨_, run_update_pair hb f s hs, ?_, ⟨rfl, rfl, rfl, by simp, fun i hi hne => ?_⟩, by simp⟩
  · simp [hlt]
  · show (w.heap.setIfInBounds b _)[i]? = _
    rw [Array.getElem?_setIfInBounds, if_neg (fun e => hne e.symm)]

theorem build_pair (x y : Int) (w : World) : (Instr.build 55 #[(0, .int .i64 x), (1, .int .i64 y)]).run Try.prog w = .ok (.agg #[.int .i64 x, .int .i64 y]) w := by kernel_rfl
theorem wpList_build_pair {ops : Array Oper} {rest : List Oper} {o : Oper} {a : Act} {w : World} {Q : Exit → Act → World → Prop} (hg : o.guard = none) (x y : Operand) (hop : o.op = .build 55 #[(0, x), (1, y)]) (p q : Int) (hx : a.eval x = .int .i64 p) (hy : a.eval y = .int .i64 q)
    (h : wpList Try.prog ops Q rest (a.put o.dst (.agg #[.int .i64 p, .int .i64 q])) w) : wpList Try.prog ops Q (o :: rest) a w := by
  refine wpList_plain hg fun K hK => ?_
  unfold Oper.wp
  simp [execOp, hop, hx, hy, build_pair, Result.andThen]
  exact hK _ _ h

/-- The step, told by the record at hand. -/
theorem step_at {N : Nat} {S : St} {fund sym : ByteArray} {G1 : List (List Nat × Nat × Nat)} {F1 Y1 : List ByteArray} {f s : Nat} (hF : Fits N S) (hG1 : (S.opened fund sym).G = G1) (hF1 : withN S.F fund = F1) (hf : placeN S.F fund = f) (hY1 : withN S.Y sym = Y1) (hs : placeN S.Y sym = s) :
    ∃ W c d, ∃ hfl : f < G1.length, G1[f] = (W, c, d) ∧ G1.length ≤ N + 1 ∧ s ≤ N ∧ c ≤ N ∧ d ≤ N ∧ W.length ≤ N + 1 ∧ (∀ x ∈ W, x < 2 ^ 64) ∧ S.step fund sym = recD f s (wide W c s) c d S.Q ∧
      S.add fund sym = { F := F1, Y := Y1, G := G1.set f (recD f s (wide W c s) c d S.Q).2.1, Q := (recD f s (wide W c s) c d S.Q).2.2 } := by
  have hlen := S.opened_len fund sym hF.len
  have hfl : f < G1.length := by rw [← hG1, ← hf, hlen]; exact placeN_lt S.F fund
  have hmem : ∀ g ∈ G1, (g.2.1 ≤ N ∧ g.2.2 ≤ N ∧ g.1.length ≤ N + 1) ∧ ∀ x ∈ g.1, x < 2 ^ 64 := by
    intro g hg
    rw [← hG1] at hg
    have h' : g ∈ S.G ∨ g = ([], 0, 0) := by
      unfold St.opened at hg
      simp only at hg
      split at hg
      · exact .inl hg
      · rcases List.mem_append.1 hg with h | h
        · exact .inl h
        · exact .inr (by simpa using h)
    rcases h' with h' | rfl
    · exact ⟨hF.c g h', hF.b g h'⟩
    · simp
  obtain ⟨⟨W, c, d⟩, hg⟩ : ∃ g, G1[f] = g := ⟨_, rfl⟩
  have hm := hmem (W, c, d) (by rw [← hg]; exact List.getElem_mem hfl)
  have hGl : G1.length ≤ N + 1 := by
    rw [← hG1, hlen]
    have := (withN_len S.F fund).2
    have := hF.f
    show (withN S.F fund).length ≤ N + 1
    omega
  have hsl : s ≤ N := by
    rw [← hs]
    have := hF.y
    unfold placeN
    cases h : place S.Y sym with
    | none => simpa using this
    | some j => have := (place_spec h).1; simp; omega
  have hfr : (S.opened fund sym).fr f = (W, c, d) := St.fr_eq _ _ _ (by rw [hG1, List.getElem?_eq_getElem hfl, hg])
  have hstep : S.step fund sym = recD f s (wide W c s) c d S.Q := by
    unfold St.step
    simp only [hf, hs, hfr]
  refine ⟨W, c, d, hfl, hg, hGl, hsl, hm.1.1, hm.1.2.1, hm.1.2.2, hm.2, hstep, ?_⟩
  unfold St.add
  rw [hstep, hG1, hf]
  show St.mk _ _ _ _ = St.mk _ _ _ _
  rw [St.mk.injEq]
  exact ⟨hF1, hY1, rfl, rfl⟩


section
variable {T : Nat → Prop} {w w' : World} {hb fb yb qb : Nat} {F Y : List ByteArray} {G : List (List Nat × Nat × Nat)} {Q : List (Nat × Nat)} {vG : Value} {vs : List Value} {f s q c d : Nat} {W : List Nat}

/-- The record at f, opened. -/
theorem rec_open (hc : Core T w hb fb yb qb G vG vs) (hf : f < G.length) (hG : G[f] = (W, c, d)) : ∃ go co a cap, vG = .slice (some ⟨go, 0, none⟩) G.length co ∧ vs[f]? = some (.slice a W.length cap) := by
  obtain ⟨go, co, hvG, _, _, _⟩ := own_at hc.own (by omega)
  obtain ⟨v, hv, hrow⟩ := hc.row f hf
  rw [hG] at hrow
  obtain ⟨a, cap, hva⟩ := own_form hrow
  subst hva
  exact ⟨go, co, a, cap, hvG, hv⟩
theorem rec_cells {go co : Nat} {v : Value} (hc : Core T w hb fb yb qb G (.slice (some ⟨go, 0, none⟩) G.length co) vs) (hf : f < G.length) (hG : G[f] = (W, c, d)) (hv : vs[f]? = some v) :
    w.cell? ⟨hb, 2, none⟩ = some (.slice (some ⟨go, 0, none⟩) G.length co) ∧ w.cell? ⟨hb, 3, none⟩ = some (.map (some qb)) ∧ w.cell? ⟨go, f * 3, none⟩ = some v ∧ w.cell? ⟨go, f * 3 + 1, none⟩ = some (.int .i64 (c : Int)) ∧ w.cell? ⟨go, f * 3 + 2, none⟩ = some (.int .i64 (d : Int)) ∧ w.frozen? ⟨go, f * 3, none⟩ = false ∧ w.frozen? ⟨go, f * 3 + 1, none⟩ = false ∧ w.frozen? ⟨go, f * 3 + 2, none⟩ = false := by
  have hfa := flat3_at vs G hc.vl f hf
  refine ⟨hc.c2, hc.c3, ?_, ?_, ?_, hc.own.frozenAt _, hc.own.frozenAt _, hc.own.frozenAt _⟩
  · rw [hc.own.cellAt (f * 3) (by omega), hfa.1]; exact hv
  · rw [hc.own.cellAt (f * 3 + 1) (by omega), hfa.2.1, hG]
  · rw [hc.own.cellAt (f * 3 + 2) (by omega), hfa.2.2, hG]
theorem rec_row {v : Value} (hc : Core T w hb fb yb qb G vG vs) (hf : f < G.length) (hG : G[f] = (W, c, d)) (hv : vs[f]? = some v) : w.ownsRow 0 51 1 v W.length (words W) := by
  obtain ⟨_, h⟩ := hc.rowOf hv
  rw [hG] at h
  exact h
theorem div64 (h : s / 64 = q) : (s : Int) / 64 = (q : Int) := by omega
theorem q128 {N : Nat} (h : s / 64 = q) (hs : s ≤ N) (hN : N ≤ 8192) : q ≤ 128 := by omega

/-- The words widened, and stored. -/
theorem widened {go co cap g2 cap2 : Nat} {a : Option Addr} {w0 w4 : World} (hc : Core T w hb fb yb qb G (.slice (some ⟨go, 0, none⟩) G.length co) vs) (ht : Tabs T w fb yb qb F Y Q) (k : Kept T w0 w) (hTT : ∀ b, w0.heap.size ≤ b → T b) (hf : f < G.length) (hG : G[f] = (W, c, d)) (hv : vs[f]? = some (.slice a W.length cap)) (hq : s / 64 = q) (hA : W.length ≤ q ∧ q ≤ c)
    (h1 : w4.ownsRow 0 51 1 (.slice (some ⟨g2, 0, none⟩) (W.length + (q + 1 - W.length)) cap2) (W.length + (q + 1 - W.length)) (words W ++ List.replicate (q + 1 - W.length) (.int .u64 0))) (h2 : w.drew.grownBy w4 (Value.slice a W.length cap).ownBlock)
    (h3 : (Value.slice a W.length cap).ownBlock = some g2 ∨ g2 = w.drew.heap.size) :
    ∃ a cap vs2, Core T (w4.setCell ⟨go, f * 3, none⟩ (.slice (some ⟨g2, 0, none⟩) (W.length + (q + 1 - W.length)) cap2)) hb fb yb qb (G.set f (wide W c s, c, d)) (.slice (some ⟨go, 0, none⟩) G.length co) vs2 ∧ vs2[f]? = some (.slice a (wide W c s).length cap) ∧ Tabs T (w4.setCell ⟨go, f * 3, none⟩ (.slice (some ⟨g2, 0, none⟩) (W.length + (q + 1 - W.length)) cap2)) fb yb qb F Y Q ∧ Kept T w0 (w4.setCell ⟨go, f * 3, none⟩ (.slice (some ⟨g2, 0, none⟩) (W.length + (q + 1 - W.length)) cap2)) := by
  obtain ⟨W1, hW1⟩ : ∃ W1, wide W c s = W1 := ⟨_, rfl⟩
  rw [hW1]
  have hW1e : W1 = W ++ List.replicate (q + 1 - W.length) 0 := by rw [← hW1]; exact wide_yes hq hA
  have hl1 : W1.length = W.length + (q + 1 - W.length) := by rw [hW1e]; simp
  have hwords : words W1 = words W ++ List.replicate (q + 1 - W.length) (.int .u64 0) := by rw [hW1e]; simp [words]
  have ao : (Value.slice a W.length cap).ownBlock ≠ some go := (hc.ne_own (g := go) rfl).2 f _ hv
  have lgo : go < w.heap.size := (own_lt hc.own rfl).2
  rw [← hl1, ← hwords] at h1
  have hq1 := hc.drew.rowApp (W := W1) hf hv (Kept.of_grown h2) h1 (fun g hg => by
    cases hg
    rcases h3 with h3 | h3
    · exact .inl h3
    · exact .inr (by rw [h3]; exact Nat.le_refl _)) (fun g hg => by
    cases hg
    rcases h3 with h3 | h3
    · exact hc.rowT f _ _ hv h3
    · exact hTT g2 (by rw [h3]; exact k.size))
  rw [hG] at hq1
  have hvl : f < vs.length := by rw [hc.vl]; exact hf
  refine ⟨some ⟨g2, 0, none⟩, cap2, vs.set f (.slice (some ⟨g2, 0, none⟩) W1.length cap2), by rw [← hl1]; exact hq1, by simp [hvl], ?_, ?_⟩
  · have t1 := ht.drew.far (Kept.of_grown h2) (fun b es cl hm e => (hc.ne_map hm).2.2 f _ hv e.symm)
    exact t1.far (U := fun x => x = go) ((Kept.refl (fun x => x = go) w4).setCell (p := ⟨go, f * 3, none⟩) (.inr rfl) _) (fun b es cl hm e => by
      subst e
      have hlt := h2.block b (by simpa using lgo) (Ne.symm ao)
      rw [hlt] at hm
      exact (hc.ne_map hm).2.1 rfl)
  · exact ((k.drew).trans ((Kept.of_grown h2).mono (fun b _ e => hc.rowT f _ b hv e.symm))).setCell (p := ⟨go, f * 3, none⟩) (.inr (hc.ownT _ rfl)) _

/-- The word at q. -/
theorem word_at {a : Option Addr} {cap B : Nat} (hc : Core T w hb fb yb qb G vG vs) (hf : f < G.length) (hG : G[f] = (W, c, d)) (hv : vs[f]? = some (.slice a W.length cap)) (hw : ∀ x ∈ W, x < 2 ^ 64) (hq : s / 64 = q) (hB : 2 ^ (s % 64) = B) (hq1 : q < W.length) :
    ∃ g x, a = some ⟨g, 0, none⟩ ∧ W[q]? = some x ∧ w.cell? ⟨g, q, none⟩ = some (.int .u64 (x : Int)) ∧ w.frozen? ⟨g, q, none⟩ = false ∧ bits .and .u64 (x : Int) (B : Int) = ((x &&& B : Nat) : Int) ∧ bits .or .u64 (x : Int) (B : Int) = ((x ||| B : Nat) : Int) ∧ (((x &&& B : Nat) : Int) != 0) = hasB W s ∧ setB W s = W.set q (x ||| B) := by
  have hrow := rec_row hc hf hG hv
  obtain ⟨g, cp, hge, _, _, _⟩ := own_at hrow (by omega)
  cases hge
  obtain ⟨x, hx⟩ : ∃ x, W[q]? = some x := ⟨W[q], List.getElem?_eq_getElem hq1⟩
  have hxb : x < 18446744073709551616 := hw x (List.mem_of_getElem? hx)
  have hBb : B < 18446744073709551616 := by rw [← hB]; exact Nat.pow_lt_pow_right (by decide) (Nat.mod_lt _ (by decide))
  refine ⟨g, x, rfl, hx, by rw [hrow.cellAt q (by omega)]; simp [words, hx], hrow.frozenAt q, bits_and_nat x B hxb hBb, bits_or_nat x B hxb hBb, ?_, ?_⟩
  · rw [ne_zero_int, ← hB, and_bit, Bool.not_not]
    unfold hasB
    rw [hq, List.getD_eq_getElem?_getD, hx]
    rfl
  · unfold setB
    rw [hq, hB, List.getD_eq_getElem?_getD, hx]
    rfl

/-- What the middle part leaves. -/
def Mid (T : Nat → Prop) (w0 w : World) (hb fb yb qb go co f c : Nat) (F Y : List ByteArray) (G : List (List Nat × Nat × Nat)) (R : Bool × (List Nat × Nat × Nat) × List (Nat × Nat)) : Prop :=
  ∃ vs3, Core T w hb fb yb qb (G.set f (R.2.1.1, c, R.2.1.2.2)) (.slice (some ⟨go, 0, none⟩) G.length co) vs3 ∧ Tabs T w fb yb qb F Y R.2.2 ∧ Kept T w0 w

theorem mid_bit {go co cap g x B : Nat} {w0 : World} (hc : Core T w hb fb yb qb G (.slice (some ⟨go, 0, none⟩) G.length co) vs) (ht : Tabs T w fb yb qb F Y Q) (k : Kept T w0 w) (hf : f < G.length) (hG : G[f] = (W, c, d)) (hv : vs[f]? = some (.slice (some ⟨g, 0, none⟩) W.length cap)) (hq : s / 64 = q) (hq1 : q < W.length) (hsb : setB W s = W.set q (x ||| B)) :
    (recD f s W c d Q).1 = (hasB W s || (decide (0 < d) && hasQ Q (f, s))) ∧ Mid T w0 (w.setCell ⟨g, q, none⟩ (.int .u64 ((x ||| B : Nat) : Int))) hb fb yb qb go co f c F Y G (recD f s W c d Q) := by
  have hR : recD f s W c d Q = (hasB W s || (decide (0 < d) && hasQ Q (f, s)), (setB W s, (if hasB W s || (decide (0 < d) && hasQ Q (f, s)) then c else c + 1), d), Q) := by
    unfold recD
    rw [hq, if_pos hq1]
  rw [hR]
  refine ⟨rfl, vs, ?_, ?_, ?_⟩
  · have hcw := hc.rowWrite (j := q) hf (cap := cap) (g := g) (by rw [hG]; exact hv) (x ||| B)
    rw [hG] at hcw
    rw [hsb]
    exact hcw
  · exact ht.far (U := fun y => y = g) ((Kept.refl (fun y => y = g) w).setCell (p := ⟨g, q, none⟩) (.inr rfl) _) (fun b es cl hm e => by subst e; exact (hc.ne_map hm).2.2 f _ hv rfl)
  · exact k.setCell (p := ⟨g, q, none⟩) (.inr (hc.rowT f _ g hv rfl)) _

theorem mid_old {go co : Nat} {w0 : World} (hc : Core T w hb fb yb qb G (.slice (some ⟨go, 0, none⟩) G.length co) vs) (ht : Tabs T w fb yb qb F Y Q) (k : Kept T w0 w) (hf : f < G.length) (hG : G[f] = (W, c, d)) (hq : s / 64 = q) (hq1 : ¬ q < W.length) (hQ : hasQ Q (f, s) = true) :
    (recD f s W c d Q).1 = true ∧ Mid T w0 w hb fb yb qb go co f c F Y G (recD f s W c d Q) := by
  have hR : recD f s W c d Q = (true, (W, c, d), Q) := by
    unfold recD
    rw [hq, if_neg hq1, if_pos hQ]
  rw [hR]
  refine ⟨rfl, vs, ?_, ht, k⟩
  show Core T w hb fb yb qb (G.set f (W, c, d)) _ vs
  rw [set_same hf hG]
  exact hc

/-- The pair is laid into the map. -/
theorem pair_laid {go co : Nat} {w0 : World} {v : Value} (hc : Core T w hb fb yb qb G (.slice (some ⟨go, 0, none⟩) G.length co) vs) (ht : Tabs T w fb yb qb F Y Q) (k : Kept T w0 w) (hf : f < G.length) (hG : G[f] = (W, c, d)) (hv : vs[f]? = some v) (hq : s / 64 = q) (hq1 : ¬ q < W.length) (hQ : hasQ Q (f, s) = false) :
    ∃ wu, (Instr.mapUpdate 40 (.map (some qb)) (.agg #[.int .i64 (f : Int), .int .i64 (s : Int)]) (.agg #[])).run Try.prog w.drew = .ok () wu ∧ wu.cell? ⟨go, f * 3 + 2, none⟩ = some (.int .i64 (d : Int)) ∧ wu.frozen? ⟨go, f * 3 + 2, none⟩ = false ∧
      (recD f s W c d Q).1 = false ∧ Mid T w0 (wu.setCell ⟨go, f * 3 + 2, none⟩ (.int .i64 ((d : Int) + 1))) hb fb yb qb go co f c F Y G (recD f s W c d Q) := by
  obtain ⟨wu, hup, hmu, ku, hsu⟩ := upd_pair (w := w.drew) ht.mq f s hQ
  have hcu := hc.drew.mapped ht.drew.mq ku
  have htu := ht.drew.mappedQ ku hmu
  obtain ⟨_, _, _, _, r5, _, _, r8⟩ := rec_cells hcu hf hG hv
  have hR : recD f s W c d Q = (false, (W, c + 1, d + 1), Q ++ [(f, s)]) := by
    unfold recD
    rw [hq, if_neg hq1, if_neg (by rw [hQ]; decide)]
  refine ⟨wu, hup, r5, r8, by rw [hR], ?_⟩
  rw [hR]
  refine ⟨vs, ?_, htu.far (U := fun x => x = go) ((Kept.refl (fun x => x = go) wu).setCell (p := ⟨go, f * 3 + 2, none⟩) (.inr rfl) _) (fun b es cl hm e => by subst e; exact (hcu.ne_map hm).2.1 rfl), (k.drew.trans (ku.mono (T := T) (fun b _ e => by subst e; exact ht.tq))).setCell (p := ⟨go, f * 3 + 2, none⟩) (.inr (hc.ownT _ rfl)) _⟩
  refine hcu.field (f := f) (by simp) (fun k h1 h2 => ?_) ?_
  · by_cases e : k = f
    · subst e; simp [hG]
    · rw [List.getElem_set_ne (fun q => e q.symm)]
  · have := flat3_set2 vs G (d + 1) hcu.vl f hf
    rw [hG] at this
    exact this

/-- The last part. -/
theorem mid_cells {go co : Nat} {w0 : World} {R : Bool × (List Nat × Nat × Nat) × List (Nat × Nat)} (h : Mid T w0 w hb fb yb qb go co f c F Y G R) (hf : f < G.length) : w.cell? ⟨go, f * 3 + 1, none⟩ = some (.int .i64 (c : Int)) ∧ w.frozen? ⟨go, f * 3 + 1, none⟩ = false := by
  obtain ⟨vs3, hc, _, _⟩ := h
  have hl : (G.set f (R.2.1.1, c, R.2.1.2.2)).length = G.length := by simp
  rw [← hl] at hc
  have hf' : f < (G.set f (R.2.1.1, c, R.2.1.2.2)).length := by rw [hl]; exact hf
  obtain ⟨v, hv, _⟩ := hc.row f hf'
  obtain ⟨_, _, _, r4, _, _, r7, _⟩ := rec_cells (W := R.2.1.1) (c := c) (d := R.2.1.2.2) hc hf' (by simp) hv
  exact ⟨r4, r7⟩
theorem mid_true {go co : Nat} {w0 : World} {W1 : List Nat} {Q0 : List (Nat × Nat)} (h : Mid T w0 w hb fb yb qb go co f c F Y G (recD f s W1 c d Q0)) (hf : f < G.length) (hR : (recD f s W1 c d Q0).1 = true) :
    HeldAt T w hb { F := F, Y := Y, G := G.set f (recD f s W1 c d Q0).2.1, Q := (recD f s W1 c d Q0).2.2 } ∧ Kept T w0 w := by
  obtain ⟨vs3, hc, ht, k⟩ := h
  have hX : Core T w hb fb yb qb (G.set f (recD f s W1 c d Q0).2.1) (.slice (some ⟨go, 0, none⟩) G.length co) vs3 := by
    have hrc := recD_c f s W1 c d Q0
    rw [hR, if_pos rfl] at hrc
    rw [hrc]
    exact hc
  exact ⟨⟨fb, yb, qb, _, vs3, hX, ht⟩, k⟩
theorem mid_false {go co : Nat} {w0 : World} {W1 : List Nat} {Q0 : List (Nat × Nat)} (h : Mid T w0 w hb fb yb qb go co f c F Y G (recD f s W1 c d Q0)) (hf : f < G.length) (hR : (recD f s W1 c d Q0).1 = false) :
    HeldAt T (w.setCell ⟨go, f * 3 + 1, none⟩ (.int .i64 ((c : Int) + 1))) hb { F := F, Y := Y, G := G.set f (recD f s W1 c d Q0).2.1, Q := (recD f s W1 c d Q0).2.2 } ∧ Kept T w0 (w.setCell ⟨go, f * 3 + 1, none⟩ (.int .i64 ((c : Int) + 1))) := by
  obtain ⟨vs3, hc, ht, k⟩ := h
  have hrc := recD_c f s W1 c d Q0
  rw [hR] at hrc
  obtain ⟨R, hRe⟩ : ∃ R, recD f s W1 c d Q0 = R := ⟨_, rfl⟩
  rw [hRe] at hc ht hrc ⊢
  obtain ⟨G3, hG3⟩ : ∃ G3, G.set f (R.2.1.1, c, R.2.1.2.2) = G3 := ⟨_, rfl⟩
  rw [hG3] at hc
  have hl : G3.length = G.length := by rw [← hG3]; simp
  rw [← hl] at hc
  have hf3 : f < G3.length := by omega
  have hG3f : G3[f] = (R.2.1.1, c, R.2.1.2.2) := by subst hG3; simp
  have e : G.set f R.2.1 = G3.set f (R.2.1.1, c + 1, R.2.1.2.2) := by rw [← hG3, hrc]; simp
  have hX : Core T (w.setCell ⟨go, f * 3 + 1, none⟩ (.int .i64 ((c : Int) + 1))) hb fb yb qb (G.set f R.2.1) (.slice (some ⟨go, 0, none⟩) G3.length co) vs3 := by
    rw [e]
    refine hc.field (f := f) (by simp) (fun k h1 h2 => ?_) ?_
    · by_cases e : k = f
      · subst e; simp [hG3f]
      · rw [List.getElem_set_ne (fun q => e q.symm)]
    · have := flat3_set1 vs3 G3 (c + 1) hc.vl f hf3
      rw [hG3f] at this
      exact this
  exact ⟨⟨fb, yb, qb, _, vs3, hX, ht.far (U := fun x => x = go) ((Kept.refl (fun x => x = go) w).setCell (p := ⟨go, f * 3 + 1, none⟩) (.inr rfl) _) (fun b es cl hm e => by subst e; exact (hc.ne_map hm).2.1 rfl)⟩, k.setCell (p := ⟨go, f * 3 + 1, none⟩) (.inr (hc.ownT _ rfl)) _⟩
end

end Go.Proofs.Qxb6601932a
