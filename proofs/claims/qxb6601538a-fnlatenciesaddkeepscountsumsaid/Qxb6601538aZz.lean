import Derived.Test.Qxb6601538aAdd
import Derived.Deep.RegionHeld3
namespace Go.Proofs.Qxb6601538a
open Go.RowKit
set_option linter.unusedVariables false
set_option linter.unusedSimpArgs false

def z55 : Array Value := nil54.push (.int .u64 0)
theorem Try.info50 : (Try.prog.info? 50).map (fun i => (i.zero, i.size, i.bytes)) = some (some (.agg z55), 55, 440) := by kernel_rfl
theorem Try.size22 : (Try.prog.info? 22).map (·.size) = some 1 := by kernel_rfl

theorem splice_size (l : List Value) : ∀ (k : Nat) (acc : Array Value), ((l.zipIdx k).foldl (fun cs x => cs.setIfInBounds x.snd x.fst) acc).size = acc.size := by
  induction l with
  | nil => intro k acc; rfl
  | cons v r ih => intro k acc; rw [List.zipIdx_cons, List.foldl_cons, ih]; simp
theorem splice_get (l : List Value) : ∀ (k : Nat) (acc : Array Value) (i : Nat), k + l.length ≤ acc.size →
    ((l.zipIdx k).foldl (fun cs x => cs.setIfInBounds x.snd x.fst) acc)[i]? = if k ≤ i ∧ i < k + l.length then l[i - k]? else acc[i]? := by
  induction l with
  | nil => intro k acc i h; simp; omega
  | cons v r ih =>
    intro k acc i h
    rw [List.zipIdx_cons, List.foldl_cons, ih (k + 1) _ i (by simp at h ⊢; omega)]
    simp only [List.length_cons] at h ⊢
    by_cases h1 : k + 1 ≤ i ∧ i < k + 1 + r.length
    · rw [if_pos h1, if_pos (by omega)]
      have e : i - k = (i - (k + 1)) + 1 := by omega
      rw [e, List.getElem?_cons_succ]
    · rw [if_neg h1, Array.getElem?_setIfInBounds]
      by_cases h2 : k = i
      · subst h2
        rw [if_pos rfl, if_pos (by omega), if_pos (by omega)]
        simp
      · rw [if_neg h2, if_neg (by omega)]

theorem splice54 (cs : Array Value) (n : Value) (hs : cs.size = 54) : (Array.foldl (fun cs x => cs.setIfInBounds x.snd x.fst) z55 cs.zipIdx 0 54).setIfInBounds 54 n = cs.push n ∧
    (Array.foldl (fun cs x => cs.setIfInBounds x.snd x.fst) z55 cs.zipIdx 0 54).size = 55 := by
  have hl : Array.foldl (fun (cs : Array Value) (x : Value × Nat) => cs.setIfInBounds x.snd x.fst) z55 cs.zipIdx 0 54 = (cs.toList.zipIdx 0).foldl (fun cs x => cs.setIfInBounds x.snd x.fst) z55 := by
    have e : (54 : Nat) = cs.zipIdx.size := by simp [hs]
    rw [e, ← Array.foldl_toList, Array.toList_zipIdx]
  have hz : z55.size = 55 := rfl
  rw [hl]
  refine ⟨?_, by rw [splice_size]; rfl⟩
  apply Array.ext_getElem?
  intro i
  rw [Array.getElem?_setIfInBounds, splice_size, splice_get _ _ _ _ (by simp [hs, hz]), Array.getElem?_push]
  simp only [Array.length_toList, hs, Nat.zero_le, true_and, Nat.zero_add, Nat.sub_zero, Array.getElem?_toList, hz]
  by_cases h1 : i = 54
  · subst h1; simp
  · rw [if_neg (fun e => h1 e.symm), if_neg h1]
    by_cases h2 : i < 54
    · rw [if_pos h2]
    · rw [if_neg h2, Array.getElem?_eq_none (by rw [hz]; omega), Array.getElem?_eq_none (by rw [hs]; omega)]

theorem run_build50 (cs : Array Value) (n : Int) (w : World) (hs : cs.size = 54) : (Instr.build 50 #[(0, .agg cs), (1, .int .u64 n)]).run Try.prog w = .ok (.agg (cs.push (.int .u64 n))) w := by
  obtain ⟨i50, hi50, hz50, hs50, _⟩ := info_parts Try.info50
  obtain ⟨i35, hi35, hs35⟩ := Option.map_eq_some_iff.1 Try.size35
  obtain ⟨i22, hi22, hs22⟩ := Option.map_eq_some_iff.1 Try.size22
  simp [Instr.build, zeroValue, typeInfo, hi50, hz50, run_underlying Try.underlying50, sizeOf, hi35, hi22, hs35, hs22, Instr.fill, Value.cells, hs]
  obtain ⟨h1, h2⟩ := splice54 cs (.int .u64 n) hs
  rw [h1, h2, if_neg (by simp [show z55.size = 55 from rfl]), if_neg (by simp)]
  rfl

theorem wpList_build50 {ops : Array Oper} {rest : List Oper} {o : Oper} {a : Act} {w : World} {Q : Exit → Act → World → Prop} (hg : o.guard = none) (x y : Operand) (ho : o.op = .build 50 #[(0, x), (1, y)]) (cs : Array Value) (n : Int)
    (hx : a.eval x = .agg cs) (hy : a.eval y = .int .u64 n) (hs : cs.size = 54) (h : wpList Try.prog ops Q rest (a.put o.dst (.agg (cs.push (.int .u64 n)))) w) : wpList Try.prog ops Q (o :: rest) a w := by
  refine wpList_plain hg fun K hK' => ?_
  have hb := run_build50 cs n w hs
  unfold Oper.wp
  simp only [execOp, ho]
  have e : (#[(0, x), (1, y)].map fun q : Nat × Operand => (q.1, a.eval q.2)) = #[(0, Value.agg cs), (1, Value.int .u64 n)] := by simp [hx, hy]
  rw [show (Instr.build 50 (#[(0, x), (1, y)].map fun (i, x) => (i, a.eval x))) = Instr.build 50 #[(0, Value.agg cs), (1, Value.int .u64 n)] from congrArg _ e]
  simp [hb]
  exact hK' _ _ h

theorem push_own {S : Nat → Prop} {w : World} {cs : Array Value} {E : Nat → Nat → Int} (h : OwnRows S w cs E) (hs : cs.size = 54) (v : Value) : OwnRows S w (cs.push v) E :=
  h.cells (fun r hr => by rw [Array.getElem?_push, if_neg (by omega)])
theorem push_one {S : Nat → Prop} {w : World} {cs : Array Value} {E : Nat → Nat → Int} (h : OwnRows S w cs E) (hs : cs.size = 54) (n : Int) : (cs.push (.int .u64 n)).all (·.oneCell') = true := by
  have := h.oneCell hs
  rw [Array.all_eq_true_iff_forall_mem] at this ⊢
  intro v hv
  rcases Array.mem_push.1 hv with h | h
  · exact this v h
  · subst h; rfl

theorem Kept.setCells {S : Nat → Prop} {a : World} (b : Nat) : ∀ (vs : List Value) (o : Nat) (w : World), Kept S a w → (a.heap.size ≤ b ∨ S b) → Kept S a (w.setCells b o vs)
  | [], _, _, h, _ => h
  | v :: r, o, w, h, hb => by
    rw [World.setCells]
    exact Kept.setCells b r (o + 1) _ (h.setCell (p := ⟨b, o, none⟩) hb v) hb

theorem cell_setCells_ne {w : World} {x : Addr} {v : Value} {b o : Nat} {vs : List Value} (h : w.cell? x = some v) (hne : x.block ≠ b) : (w.setCells b o vs).cell? x = some v := by
  rw [World.cell?_setCells_out b vs o w x (fun hb _ => absurd hb hne)]
  exact h

theorem results_zz {P : Program} {fn : Func} {p u p' u' : Tmp} {ty : TypeId} (h : fn.results = #[.cell p ty, .tmp u, .cell p' ty, .tmp u']) (tmps : Array Value) (w : World) (g g' : Nat) (A C : List Value) (d : TypeDesc)
    (hp : tmps.getD p undef = .pointer (some ⟨g, 0, none⟩)) (hp' : tmps.getD p' undef = .pointer (some ⟨g', 0, none⟩)) (hA : w.rangeAt g 0 A) (hC : w.rangeAt g' 0 C)
    (hu : P.underlying ty = some d) (hd : d.isRow = true) (hiA : (P.info? ty).map (·.size) = some A.length) (hiC : (P.info? ty).map (·.size) = some C.length) :
    (results fn tmps).run P w = .ok (.tuple #[.agg A.toArray, tmps.getD u undef, .agg C.toArray, tmps.getD u' undef]) w := by
  have e1 := run_loadVar_mid (P := P) w g 0 ty A d hA hu hd hiA
  have e2 := run_loadVar_mid (P := P) w g' 0 ty C d hC hu hd hiC
  have q1 : tmps[p]?.getD undef = .pointer (some ⟨g, 0, none⟩) := by simpa using hp
  have q2 : tmps[p']?.getD undef = .pointer (some ⟨g', 0, none⟩) := by simpa using hp'
  simp [results, h, q1, q2, asAddr, e1, e2]

set_option maxHeartbeats 1000000 in
theorem zz_any (Sl So : Nat → Prop) (csl cso : Array Value) (lc oc : Int) (E Eo : Nat → Nat → Int) (w : World) (hl : csl.size = 54) (ho : cso.size = 54) (ol : OwnRows Sl w csl E) (oo : OwnRows So w cso Eo)
    (hdis : ∀ b, b < w.heap.size → Sl b → ¬ So b) (hE : ∀ r c, r < 54 → c < 1024 → M (E r c) = E r c) :
    Calls Try.prog 16 #[.agg csl, .int .u64 lc, .agg cso, .int .u64 oc] w fun e w' => ∃ csg cso', e = .returned (.tuple #[.agg csg, .int .u64 (M (lc + oc)), .agg cso', .int .u64 oc]) ∧ csg.size = 54 ∧ cso'.size = 54 ∧
      csg.all (·.oneCell') = true ∧ cso'.all (·.oneCell') = true ∧ RowsAt w' csg (fun r c => M (E r c + Eo r c)) ∧ Kept Sl w w' := by
  have OL := hid ol
  have OO := hid oo
  have HL := hid hl
  have HO := hid ho
  obtain ⟨i50, hi50, hz50, _, _⟩ := info_parts Try.info50
  clear ol oo hl ho
  go_enter Try.func16, Try.ntmps16
  go_upto_region 0 with fail
  go_cut [4, 6, 8, 9, 10, 11] (fun s4 s6 s8 s9 s10 s11 wc => s4 = .pointer (some ⟨w.heap.size, 0, none⟩) ∧ s6 = .pointer (some ⟨w.heap.size + 1, 0, none⟩) ∧ s8 = .pointer (some ⟨w.heap.size + 2, 0, none⟩) ∧ s9 = .int .u64 0 ∧
    s10 = .pointer (some ⟨w.heap.size + 3, 0, none⟩) ∧ s11 = .int .u64 0 ∧ Blk wc w.heap.size csl 35 ∧ Blk wc (w.heap.size + 1) cso 35 ∧ Blk wc (w.heap.size + 2) nil54 35 ∧ Blk wc (w.heap.size + 3) nil54 35 ∧
    Kept (fun _ => False) w wc ∧ wc.heap.size = w.heap.size + 4)
  case first =>
    go_wp2_with fail
    go_meet
    case rel =>
      refine ⟨rfl, rfl, rfl, rfl, rfl, rfl, ?_, ?_, ?_, ?_, ((((Kept.refl _ _).alloc _).alloc _).alloc _).alloc _, by simp⟩
      · exact (((Blk.newAt w csl 35 _ rfl).alloc _).alloc _).alloc _
      · exact ((Blk.newAt (w.alloc (.cells csl 35)) cso 35 _ (by simp)).alloc _).alloc _
      · exact (Blk.newAt ((w.alloc (.cells csl 35)).alloc (.cells cso 35)) nil54 35 _ (by simp)).alloc _
      · exact Blk.newAt (((w.alloc (.cells csl 35)).alloc (.cells cso 35)).alloc (.cells nil54 35)) nil54 35 _ (by simp)
  case rest =>
    obtain ⟨rfl, rfl, rfl, rfl, rfl, rfl, B0, B1, B2, B3, k0, sz0⟩ := hcut
    obtain ⟨w0, hw0⟩ : ∃ w0, w0 = wc := ⟨_, rfl⟩
    subst hw0
    have SZ0 := hid sz0
    clear sz0
    go_upto_region 1 with fail
    go_cut [12] (fun s wc => s = .pointer (some ⟨w0.heap.size, 0, none⟩) ∧ Blk wc w0.heap.size (csl.push (.int .u64 lc)) 50 ∧ Kept (fun _ => False) w0 wc ∧ wc.heap.size = w0.heap.size + 1)
    case first =>
      go_wp2_with (first
        | ((with_reducible (refine at_op (.load 35 (.tmp 4)) rfl ?_)); refine wpList_load_row rfl 35 (.tmp 4) rfl w.heap.size rfl 35 csl (0, 0) _ B0 Try.underlying35 rfl (by rw [HL.out]; exact Try.size35) ?_)
        | ((with_reducible (refine at_op (.build 50 #[(0, .tmp 14), (1, .tmp 15)]) rfl ?_)); refine wpList_build50 rfl (.tmp 14) (.tmp 15) rfl csl lc rfl rfl HL.out ?_)
        | (with_reducible (refine wpList_alloc_agg 50 z55 rfl rfl i50 hi50 hz50 ?_))
        | ((with_reducible (refine at_op (.store 50 (.tmp 12) (.tmp 16)) rfl ?_)); refine wpList_store_row rfl 50 (.tmp 12) (.tmp 16) rfl w0.heap.size (csl.push (.int .u64 lc)) rfl rfl 50 z55 (Blk.new w0 z55 50) (by rw [Array.size_push, HL.out]; exact Try.size50) (by rw [Array.size_push, HL.out]; rfl) (push_one OL.out HL.out lc) ?_))
      go_meet
      case rel => exact ⟨rfl, (Blk.new w0 z55 50).setRow _, ((Kept.refl _ _).alloc _).setRow _ _ (.inl (Nat.le_refl _)), by simp⟩
    case rest =>
      obtain ⟨rfl, B4, k1, sz1⟩ := hcut
      obtain ⟨w1, hw1⟩ : ∃ w1, w1 = wc := ⟨_, rfl⟩
      subst hw1
      have SZ1 := hid sz1
      have B1' := B1.kept k1 id
      clear sz1
      go_upto_region 2 with fail
      go_cut [13] (fun s wc => s = .pointer (some ⟨w1.heap.size, 0, none⟩) ∧ Blk wc w1.heap.size (cso.push (.int .u64 oc)) 50 ∧ Kept (fun _ => False) w1 wc ∧ wc.heap.size = w1.heap.size + 1)
      case first =>
        go_wp2_with (first
          | ((with_reducible (refine at_op (.load 35 (.tmp 6)) rfl ?_)); refine wpList_load_row rfl 35 (.tmp 6) rfl (w.heap.size + 1) rfl 35 cso (0, 0) _ B1' Try.underlying35 rfl (by rw [HO.out]; exact Try.size35) ?_)
          | ((with_reducible (refine at_op (.build 50 #[(0, .tmp 17), (1, .tmp 18)]) rfl ?_)); refine wpList_build50 rfl (.tmp 17) (.tmp 18) rfl cso oc rfl rfl HO.out ?_)
          | (with_reducible (refine wpList_alloc_agg 50 z55 rfl rfl i50 hi50 hz50 ?_))
          | ((with_reducible (refine at_op (.store 50 (.tmp 13) (.tmp 19)) rfl ?_)); refine wpList_store_row rfl 50 (.tmp 13) (.tmp 19) rfl w1.heap.size (cso.push (.int .u64 oc)) rfl rfl 50 z55 (Blk.new w1 z55 50) (by rw [Array.size_push, HO.out]; exact Try.size50) (by rw [Array.size_push, HO.out]; rfl) (push_one OO.out HO.out oc) ?_))
        go_meet
        case rel => exact ⟨rfl, (Blk.new w1 z55 50).setRow _, ((Kept.refl _ _).alloc _).setRow _ _ (.inl (Nat.le_refl _)), by simp⟩
      case rest =>
        obtain ⟨rfl, B5, k2, sz2⟩ := hcut
        obtain ⟨w2, hw2⟩ : ∃ w2, w2 = wc := ⟨_, rfl⟩
        subst hw2
        have k02 := (k0.trans k1).trans k2
        have hz : w0.heap.size = w.heap.size + 4 ∧ w1.heap.size = w.heap.size + 5 ∧ w2.heap.size = w.heap.size + 6 := by
          have := SZ0.out
          have := SZ1.out
          omega
        have ad : Adding (fun b => (b < w.heap.size ∧ Sl b) ∨ w2.heap.size ≤ b) (fun b => b < w.heap.size ∧ So b) w0.heap.size w1.heap.size (csl.push (.int .u64 lc)) (cso.push (.int .u64 oc)) lc oc E Eo w2 := by
          refine ⟨B4.kept k2 id, by rw [Array.size_push, HL.out], ?_, B5, by rw [Array.size_push, HO.out], ?_, ?_, ?_⟩
          · rw [Array.getElem?_push, if_pos HL.out.symm]
          · rw [Array.getElem?_push, if_pos HO.out.symm]
          · exact push_own ((OL.out.mono (fun b h1 h2 => .inl ⟨h1, h2⟩)).kept k02 (fun _ _ => id)) HL.out _
          · exact push_own ((OO.out.mono (fun b h1 h2 => ⟨h1, h2⟩)).kept k02 (fun _ _ => id)) HO.out _
        have ap : Apart (fun b => (b < w.heap.size ∧ Sl b) ∨ w2.heap.size ≤ b) (fun b => b < w.heap.size ∧ So b) w0.heap.size w1.heap.size w2.heap.size :=
          ⟨by omega, by omega, by omega, by omega, by omega, fun b h1 h2 => by
            rcases h1 with h1 | h1
            · exact hdis b h1.1 h1.2 h2.2
            · omega, fun b hb => .inr hb⟩
        have AD := hid ad
        have K02 := hid k02
        have B2' := (B2.kept k1 id).kept k2 id
        have B3' := (B3.kept k1 id).kept k2 id
        have HZ := hid hz
        clear ad k02 k0 k1 k2 sz2 B0 B1 B1' B2 B3 B4 B5 hz OL OO hi50 hz50
        go_wp2_with fail
        refine (add_any _ _ _ _ _ _ _ _ _ _ _ AD.out ap hE).mono ?_
        rintro e w3 ⟨rfl, cl', ad, k3⟩
        have hz := HZ.out
        have Blb := ad.bl
        have Bob := ad.bo
        have B2 := B2'.kept k3 (by omega)
        have B3 := B3'.kept k3 (by omega)
        have g1 : w.heap.size + 3 < w0.heap.size := by omega
        have g2 : w0.heap.size < w1.heap.size := by omega
        obtain ⟨A, hA⟩ : ∃ A, (cl'.extract 0 54).toList = A := ⟨_, rfl⟩
        obtain ⟨C, hC⟩ : ∃ C, ((cso.push (.int .u64 oc)).extract 0 54).toList = C := ⟨_, rfl⟩
        have rA : w3.rangeAt w0.heap.size 0 A := by have := World.rangeAt_of_block Blb 0 54; rw [Nat.zero_add, hA] at this; exact this
        have rC : w3.rangeAt w1.heap.size 0 C := by have := World.rangeAt_of_block Bob 0 54; rw [Nat.zero_add, hC] at this; exact this
        have lA : A.length = 54 := by rw [← hA]; simp [ad.sl]
        have lC : C.length = 54 := by rw [← hC]; simp [HO.out]
        have oA : ∀ v ∈ A, v.oneCell' = true := by
          have := (ad.ownl.cells (cs' := cl'.extract 0 54) (fun r hr => by rw [Array.getElem?_extract]; simp [ad.sl]; omega)).oneCell (by simp [ad.sl])
          rw [Array.all_eq_true_iff_forall_mem] at this
          intro v hv
          exact this v (by rw [← Array.mem_toList_iff, hA]; exact hv)
        have oC : ∀ v ∈ C, v.oneCell' = true := by
          have := (ad.owno.cells (cs' := (cso.push (.int .u64 oc)).extract 0 54) (fun r hr => by rw [Array.getElem?_extract]; simp [HO.out]; omega)).oneCell (by simp [HO.out])
          rw [Array.all_eq_true_iff_forall_mem] at this
          intro v hv
          exact this v (by rw [← Array.mem_toList_iff, hC]; exact hv)
        have tA : w3.there (w.heap.size + 2) 0 54 := fun j hj => ⟨by rw [B2.cell, Nat.zero_add, nil54_at j hj]; rfl, B2.frozen _⟩
        have tC : w3.there (w.heap.size + 3) 0 54 := fun j hj => ⟨by rw [B3.cell, Nat.zero_add, nil54_at j hj]; rfl, B3.frozen _⟩
        have cA : w3.cell? ⟨w0.heap.size, 54, none⟩ = some (.int .u64 (M (lc + oc))) := by rw [ad.bl.cell]; exact ad.cl54
        have cC : w3.cell? ⟨w1.heap.size, 54, none⟩ = some (.int .u64 oc) := by rw [ad.bo.cell]; exact ad.co54
        have hu := Try.underlying35
        have hiA : (Try.prog.info? 35).map (·.size) = some A.length := by rw [lA]; exact Try.size35
        have hiC : (Try.prog.info? 35).map (·.size) = some C.length := by rw [lC]; exact Try.size35
        have ADD := hid ad
        have K3 := hid k3
        have HA := hid hA
        clear B2' B3' AD hz Blb Bob B2 B3 ad k3 hA hC ap
        go_upto_region 4 with fail
        refine wp_region_held_drew (S := fun w' => w'.rangeAt w0.heap.size 0 A ∧ w'.rangeAt w1.heap.size 0 C ∧ w'.cell? ⟨w0.heap.size, 54, none⟩ = some (.int .u64 (M (lc + oc))) ∧ w'.cell? ⟨w1.heap.size, 54, none⟩ = some (.int .u64 oc) ∧ w'.there (w.heap.size + 2) 0 54 ∧ w'.there (w.heap.size + 3) 0 54) (by kernel_rfl)
          ⟨by simpa using rA, by simpa using rC, by simpa using cA, by simpa using cC, by simpa using tA, by simpa using tC⟩ (fun hHeld => ?_)
        refine wpAnyH_take (i := 0) (oi := { dst := some 21, op := .fieldAddr 50 (.tmp 12) 0, type := 0, pos := _, after := _, guard := none }) (v := .pointer (some ⟨w0.heap.size, 0, none⟩)) rfl (by kernel_rfl) (by kernel_rfl) (by kernel_rfl) (fun _ _ _ h => h) (Or.inl ⟨by rfl, fun wx hS => by obtain ⟨_, _, h1, h2, _⟩ := hS; go_simp⟩) hHeld ?_
        simp only [Act.put, List.setIfInBounds_toArray, List.set_cons_zero, List.set_cons_succ]
        refine wpAnyH_take (i := 1) (oi := { dst := some 22, op := .load 35 (.tmp 21), type := 35, pos := _, after := _, guard := none }) (v := .agg A.toArray) rfl (by kernel_rfl) (by kernel_rfl) (by kernel_rfl) (fun _ _ _ h => h) (yieldsIf_load_mid (by rfl) _ _ rfl w0.heap.size 0 rfl A _ (fun _ h => h.1) Try.underlying35 rfl hiA) hHeld ?_
        simp only [Act.put, List.setIfInBounds_toArray, List.set_cons_zero, List.set_cons_succ]
        refine wpAnyH_take (i := 2) (oi := { dst := some 23, op := .fieldAddr 50 (.tmp 12) 1, type := 0, pos := _, after := _, guard := none }) (v := .pointer (some ⟨w0.heap.size, 54, none⟩)) rfl (by kernel_rfl) (by kernel_rfl) (by kernel_rfl) (fun _ _ _ h => h) (Or.inl ⟨by rfl, fun wx hS => by obtain ⟨_, _, h1, h2, _⟩ := hS; go_simp⟩) hHeld ?_
        simp only [Act.put, List.setIfInBounds_toArray, List.set_cons_zero, List.set_cons_succ]
        refine wpAnyH_take (i := 3) (oi := { dst := some 24, op := .load 22 (.tmp 23), type := 22, pos := _, after := _, guard := none }) (v := .int .u64 (M (lc + oc))) rfl (by kernel_rfl) (by kernel_rfl) (by kernel_rfl) (fun _ _ _ h => h) (Or.inl ⟨by rfl, fun wx hS => by obtain ⟨_, _, h1, h2, _⟩ := hS; go_simp⟩) hHeld ?_
        simp only [Act.put, List.setIfInBounds_toArray, List.set_cons_zero, List.set_cons_succ]
        refine wpAnyH_take (i := 4) (oi := { dst := some 25, op := .fieldAddr 50 (.tmp 13) 0, type := 0, pos := _, after := _, guard := none }) (v := .pointer (some ⟨w1.heap.size, 0, none⟩)) rfl (by kernel_rfl) (by kernel_rfl) (by kernel_rfl) (fun _ _ _ h => h) (Or.inl ⟨by rfl, fun wx hS => by obtain ⟨_, _, h1, h2, _⟩ := hS; go_simp⟩) hHeld ?_
        simp only [Act.put, List.setIfInBounds_toArray, List.set_cons_zero, List.set_cons_succ]
        refine wpAnyH_take (i := 5) (oi := { dst := some 26, op := .load 35 (.tmp 25), type := 35, pos := _, after := _, guard := none }) (v := .agg C.toArray) rfl (by kernel_rfl) (by kernel_rfl) (by kernel_rfl) (fun _ _ _ h => h) (yieldsIf_load_mid (by rfl) _ _ rfl w1.heap.size 0 rfl C _ (fun _ h => h.2.1) Try.underlying35 rfl hiC) hHeld ?_
        simp only [Act.put, List.setIfInBounds_toArray, List.set_cons_zero, List.set_cons_succ]
        refine wpAnyH_take (i := 6) (oi := { dst := some 27, op := .fieldAddr 50 (.tmp 13) 1, type := 0, pos := _, after := _, guard := none }) (v := .pointer (some ⟨w1.heap.size, 54, none⟩)) rfl (by kernel_rfl) (by kernel_rfl) (by kernel_rfl) (fun _ _ _ h => h) (Or.inl ⟨by rfl, fun wx hS => by obtain ⟨_, _, h1, h2, _⟩ := hS; go_simp⟩) hHeld ?_
        simp only [Act.put, List.setIfInBounds_toArray, List.set_cons_zero, List.set_cons_succ]
        refine wpAnyH_take (i := 7) (oi := { dst := some 28, op := .load 22 (.tmp 27), type := 22, pos := _, after := _, guard := none }) (v := .int .u64 oc) rfl (by kernel_rfl) (by kernel_rfl) (by kernel_rfl) (fun _ _ _ h => h) (Or.inl ⟨by rfl, fun wx hS => by obtain ⟨_, _, h1, h2, _⟩ := hS; go_simp⟩) hHeld ?_
        simp only [Act.put, List.setIfInBounds_toArray, List.set_cons_zero, List.set_cons_succ]
        refine wpAnyH_ready (rs := [8]) (by kernel_rfl) (by simp) ?_
        refine AllReadyH.cons (o := { dst := none, op := .store 35 (.tmp 8) (.tmp 22), type := 0, pos := _, after := _, guard := none }) rfl (fun K hK => ?_) AllReadyH.nil
        rw [if_pos (by rfl)]
        refine wp_store_mid 35 (.tmp 8) (.tmp 22) (by rfl) (w.heap.size + 2) 0 A.toArray (by rfl) (by rfl) (by obtain ⟨_, _, _, _, h5, h6⟩ := hHeld; rw [show A.toArray.size = 54 from by simpa using lA]; first | exact h5 | exact h6) (by rw [show A.toArray.size = A.length from by simp]; exact hiA) (all_oneCell_toArray oA) ?_
        refine hK.out _ _ (by
          obtain ⟨s1, s2, s3, s4, s5, s6⟩ := hHeld
          exact ⟨World.rangeAt_setCells_apart s1 _ _ _ (by omega), World.rangeAt_setCells_apart s2 _ _ _ (by omega), cell_setCells_ne s3 (by simp; omega), cell_setCells_ne s4 (by simp; omega), World.there_setCells s5 _ _ _, World.there_setCells s6 _ _ _⟩) (fun hHeld => ?_)
        clear hK K
        simp only [Act.put, List.setIfInBounds_toArray, List.set_cons_zero, List.set_cons_succ]
        refine wpAnyH_take (i := 9) (oi := { dst := some 9, op := .assign (.tmp 24), type := 22, pos := _, after := _, guard := none }) (v := .int .u64 (M (lc + oc))) rfl (by kernel_rfl) (by kernel_rfl) (by kernel_rfl) (fun _ _ _ h => h) (Or.inl ⟨by rfl, fun wx hS => by clear hS; go_simp⟩) hHeld ?_
        simp only [Act.put, List.setIfInBounds_toArray, List.set_cons_zero, List.set_cons_succ]
        refine wpAnyH_ready (rs := [10]) (by kernel_rfl) (by simp) ?_
        refine AllReadyH.cons (o := { dst := none, op := .store 35 (.tmp 10) (.tmp 26), type := 0, pos := _, after := _, guard := none }) rfl (fun K hK => ?_) AllReadyH.nil
        rw [if_pos (by rfl)]
        refine wp_store_mid 35 (.tmp 10) (.tmp 26) (by rfl) (w.heap.size + 3) 0 C.toArray (by rfl) (by rfl) (by obtain ⟨_, _, _, _, h5, h6⟩ := hHeld; rw [show C.toArray.size = 54 from by simpa using lC]; first | exact h5 | exact h6) (by rw [show C.toArray.size = C.length from by simp]; exact hiC) (all_oneCell_toArray oC) ?_
        refine hK.out _ _ (by
          obtain ⟨s1, s2, s3, s4, s5, s6⟩ := hHeld
          exact ⟨World.rangeAt_setCells_apart s1 _ _ _ (by omega), World.rangeAt_setCells_apart s2 _ _ _ (by omega), cell_setCells_ne s3 (by simp; omega), cell_setCells_ne s4 (by simp; omega), World.there_setCells s5 _ _ _, World.there_setCells s6 _ _ _⟩) (fun hHeld => ?_)
        clear hK K
        simp only [Act.put, List.setIfInBounds_toArray, List.set_cons_zero, List.set_cons_succ]
        refine wpAnyH_take (i := 11) (oi := { dst := some 11, op := .assign (.tmp 28), type := 22, pos := _, after := _, guard := none }) (v := .int .u64 oc) rfl (by kernel_rfl) (by kernel_rfl) (by kernel_rfl) (fun _ _ _ h => h) (Or.inl ⟨by rfl, fun wx hS => by clear hS; go_simp⟩) hHeld ?_
        simp only [Act.put, List.setIfInBounds_toArray, List.set_cons_zero, List.set_cons_succ]
        refine wpAnyH_done (by kernel_rfl) ?_ _
        go_wp2_with fail
        have hz := HZ.out
        refine bodyPost_ret (results_zz rfl _ _ (w.heap.size + 2) (w.heap.size + 3) A C _ rfl rfl ?_ ?_ Try.underlying35 rfl hiA hiC) rfl ?_
        · exact World.rangeAt_setCells_apart (World.rangeAt_setCells_same _ _ _ _ (by rw [lA]; simpa using tA)) _ _ _ (by omega)
        · exact World.rangeAt_setCells_same _ _ _ _ (by rw [lC]; exact World.there_setCells (by simpa using tC) _ _ _)
        · have kF : Kept (fun b => b = w.heap.size + 2 ∨ b = w.heap.size + 3) w3 ((w3.drew.setCells (w.heap.size + 2) 0 A).setCells (w.heap.size + 3) 0 C) :=
            Kept.setCells _ _ _ _ (Kept.setCells _ _ _ _ (Kept.refl _ w3).drew (.inr (.inl rfl))) (.inr (.inr rfl))
          refine ⟨A.toArray, C.toArray, rfl, by simpa using lA, by simpa using lC, Array.all_eq_true.1 (all_oneCell_toArray oA), Array.all_eq_true.1 (all_oneCell_toArray oC), ?_, ?_⟩
          · refine ((ADD.out.ownl.cells (cs' := A.toArray) (fun r hr => ?_)).kept kF (fun b hb => by omega)).rowsAt
            rw [← HA.out, Array.toArray_toList, Array.getElem?_extract]; simp [ADD.out.sl]; omega
          · have q1 : Kept (fun b => w.heap.size ≤ b ∨ Sl b) w w2 := K02.out.mono (fun b _ h => h.elim)
            have q2 : Kept (fun b => w.heap.size ≤ b ∨ Sl b) w2 w3 := K3.out.mono (fun b _ h => by
              rcases h with h | h | h
              · exact .inl (by omega)
              · exact .inr h.2
              · exact .inl (by omega))
            have q3 := kF.mono (T := fun b => w.heap.size ≤ b ∨ Sl b) (fun b _ h => .inl (by omega))
            exact ((q1.trans q2).trans q3).mono (fun b hb h => h.resolve_left (by omega))

end Go.Proofs.Qxb6601538a
