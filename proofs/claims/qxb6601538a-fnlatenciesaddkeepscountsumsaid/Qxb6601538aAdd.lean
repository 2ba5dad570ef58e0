import Derived.Test.Qxb6601538aClone
import Derived.Deep.MidRow
namespace Go.Proofs.Qxb6601538a
open Go.RowKit
set_option linter.unusedVariables false

theorem Kept.cell1 (w : World) (b o : Nat) (v : Value) : Kept (fun x => x = b) w (w.setCell ⟨b, o, none⟩ v) := (Kept.refl (fun x => x = b) w).setCell (p := ⟨b, o, none⟩) (.inr rfl) v

/-- Two latencies in memory, while the second is added to the first. -/
structure Adding (Sl So : Nat → Prop) (lb ob : Nat) (cl co : Array Value) (lc oc : Int) (E Eo : Nat → Nat → Int) (w : World) : Prop where
  bl : Blk w lb cl 50
  sl : cl.size = 55
  cl54 : cl[54]? = some (.int .u64 lc)
  bo : Blk w ob co 50
  so : co.size = 55
  co54 : co[54]? = some (.int .u64 oc)
  ownl : OwnRows Sl w cl E
  owno : OwnRows So w co Eo

/-- What lies apart. -/
structure Apart (Sl So : Nat → Prop) (lb ob B : Nat) : Prop where
  ne : lb ≠ ob
  l1 : ¬ Sl lb
  l2 : ¬ Sl ob
  o1 : ¬ So lb
  o2 : ¬ So ob
  lo : ∀ b, Sl b → ¬ So b
  up : ∀ b, B ≤ b → Sl b

theorem Adding.drew {Sl So : Nat → Prop} {lb ob : Nat} {cl co : Array Value} {lc oc : Int} {E Eo : Nat → Nat → Int} {w : World} (h : Adding Sl So lb ob cl co lc oc E Eo w) : Adding Sl So lb ob cl co lc oc E Eo w.drew :=
  ⟨h.bl, h.sl, h.cl54, h.bo, h.so, h.co54, h.ownl, h.owno⟩

theorem Adding.congr {Sl So : Nat → Prop} {lb ob : Nat} {cl co : Array Value} {lc oc : Int} {E E' Eo : Nat → Nat → Int} {w : World} (h : Adding Sl So lb ob cl co lc oc E Eo w) (he : ∀ r c, r < 54 → c < 1024 → E r c = E' r c) : Adding Sl So lb ob cl co lc oc E' Eo w :=
  ⟨h.bl, h.sl, h.cl54, h.bo, h.so, h.co54, h.ownl.congr he, h.owno⟩

theorem setCell_alloc_swap (w : World) (b o : Nat) (v : Value) (ob : Obj) (hb : b < w.heap.size) : (w.alloc ob).setCell ⟨b, o, none⟩ v = (w.setCell ⟨b, o, none⟩ v).alloc ob := by
  simp only [World.setCell, World.alloc]
  congr 1
  apply Array.ext_getElem?
  intro k
  rw [Array.getElem?_modify, Array.getElem?_push, Array.getElem?_push, Array.getElem?_modify]
  by_cases h1 : k = w.heap.size
  · subst h1
    simp [show ¬ b = w.heap.size by omega]
  · simp [h1]

theorem Adding.put {Sl So : Nat → Prop} {lb ob : Nat} {cl co : Array Value} {lc oc : Int} {E Eo : Nat → Nat → Int} {w : World} (h : Adding Sl So lb ob cl co lc oc E Eo w) {B : Nat} (ap : Apart Sl So lb ob B) (hB : B ≤ w.heap.size) {k : Nat} (hk : k < 54) (hE : ∀ c, c < 1024 → E k c = 0) :
    Adding Sl So lb ob (cl.setIfInBounds k (.pointer (some ⟨w.heap.size, 0, none⟩))) co lc oc E Eo ((w.setCell ⟨lb, k, none⟩ (.pointer (some ⟨w.heap.size, 0, none⟩))).alloc (.cells z48 48)) := by
  rw [← setCell_alloc_swap w lb k _ _ h.bl.lt]
  have k1 : Kept (fun _ => False) w (w.alloc (.cells z48 48)) := (Kept.refl _ _).alloc _
  have k2 : Kept (fun b => b = lb) (w.alloc (.cells z48 48)) ((w.alloc (.cells z48 48)).setCell ⟨lb, k, none⟩ (.pointer (some ⟨w.heap.size, 0, none⟩))) := Kept.cell1 _ _ _ _
  refine ⟨(h.bl.kept k1 id).set k _, by simpa using h.sl, ?_, (h.bo.kept k1 id).kept k2 (fun e => ap.ne e.symm), h.so, h.co54, ?_, (h.owno.kept k1 (fun _ _ => id)).kept k2 (fun b hb e => by subst e; exact ap.o1 hb)⟩
  · rw [Array.getElem?_setIfInBounds, if_neg (by omega)]; exact h.cl54
  · exact ((h.ownl.put hk (ap.up _ hB) (Nat.le_refl _) k1 (Nums.new48 w _ rfl)).kept k2 (fun b hb e => by subst e; exact ap.l1 hb)).congr (fun r c _ hc => by
      by_cases e : r = k
      · subst e; simp [hE c hc]
      · simp [e])

theorem Adding.write {Sl So : Nat → Prop} {lb ob : Nat} {cl co : Array Value} {lc oc : Int} {E Eo : Nat → Nat → Int} {w : World} (h : Adding Sl So lb ob cl co lc oc E Eo w) {B : Nat} (ap : Apart Sl So lb ob B) {k b c : Nat} (hk : k < 54) (hc : c < 1024)
    (hp : cl[k]? = some (.pointer (some ⟨b, 0, none⟩))) (hb : Sl b) (v : Int) :
    Adding Sl So lb ob cl co lc oc (fun r d => if r = k ∧ d = c then v else E r d) Eo (w.setCell ⟨b, c, none⟩ (.int .u64 v)) := by
  have k2 : Kept (fun x => x = b) w (w.setCell ⟨b, c, none⟩ (.int .u64 v)) := Kept.cell1 _ _ _ _
  exact ⟨h.bl.kept k2 (fun e => by subst e; exact ap.l1 hb), h.sl, h.cl54, h.bo.kept k2 (fun e => by subst e; exact ap.l2 hb), h.so, h.co54, h.ownl.write hk hc hp v, h.owno.kept k2 (fun x hx e => by subst e; exact ap.lo _ hb hx)⟩

theorem Adding.count {Sl So : Nat → Prop} {lb ob : Nat} {cl co : Array Value} {lc oc : Int} {E Eo : Nat → Nat → Int} {w : World} (h : Adding Sl So lb ob cl co lc oc E Eo w) {B : Nat} (ap : Apart Sl So lb ob B) (v : Int) :
    Adding Sl So lb ob (cl.setIfInBounds 54 (.int .u64 v)) co v oc E Eo (w.setCell ⟨lb, 54, none⟩ (.int .u64 v)) := by
  have k2 : Kept (fun x => x = lb) w (w.setCell ⟨lb, 54, none⟩ (.int .u64 v)) := Kept.cell1 _ _ _ _
  refine ⟨h.bl.set 54 _, by simpa using h.sl, ?_, h.bo.kept k2 (fun e => ap.ne e.symm), h.so, h.co54, (h.ownl.kept k2 (fun b hb e => by subst e; exact ap.l1 hb)).cells (fun r hr => ?_), h.owno.kept k2 (fun b hb e => by subst e; exact ap.o1 hb)⟩
  · rw [Array.getElem?_setIfInBounds]; simp [h.sl]
  · rw [Array.getElem?_setIfInBounds, if_neg (by omega)]

/-- The first part of a block, as an array. -/
theorem wpList_load_part {P : Program} {ops : Array Oper} {rest : List Oper} {op : Oper} {a : Act} {w : World} {Q : Exit → Act → World → Prop} (hgd : op.guard = none) (ty : TypeId) (x : Operand) (ho : op.op = .load ty x)
    (b n : Nat) (hx : a.eval x = .pointer (some ⟨b, 0, none⟩)) (c : Array Value) (e : TypeId) (hb : Blk w b c e) (hn : n ≤ c.size) (d : TypeDesc)
    (hu : P.underlying ty = some d) (hd : d.isRow = true) (hi : (P.info? ty).map (·.size) = some n)
    (h : wpList P ops Q rest (a.put op.dst (.agg (c.extract 0 n))) w) : wpList P ops Q (op :: rest) a w := by
  have hr := World.rangeAt_of_block hb 0 n
  rw [Nat.zero_add] at hr
  refine wpList_load_mid hgd ty x ho b 0 hx (c.extract 0 n).toList d hr hu hd (by rw [hi]; simp; omega) ?_
  rw [Array.toArray_toList]
  exact h

theorem Try.size34 : (Try.prog.info? 34).map (·.size) = some 1 := by kernel_rfl
theorem run_index35 (ro : Array Value) (k : Nat) (v : Value) (w : World) (hk : k < 54) (h : ro[k]? = some v) : (Instr.index 35 (.agg ro) (.int .i64 k)).run Try.prog w = .ok v w := by
  obtain ⟨i, hi, hs⟩ : ∃ i, Try.prog.info? 34 = some i ∧ i.size = 1 := by
    have := Try.size34
    obtain ⟨i, hi, hs⟩ := Option.map_eq_some_iff.1 this
    exact ⟨i, hi, hs⟩
  simp [Instr.index, asIntOf, run_underlying Try.underlying35, run_underlying Try.underlying34, part, isAgg, sizeOf, typeInfo, hi, hs, h]
  omega

def mix (E Eo : Nat → Nat → Int) (k r c : Nat) : Int := if r < k then M (E r c + Eo r c) else E r c

def mix2 (E Eo : Nat → Nat → Int) (k j r c : Nat) : Int := if r = k then (if c < j then M (E r c + Eo r c) else E r c) else mix E Eo k r c
theorem mix2_zero (E Eo : Nat → Nat → Int) (k r c : Nat) : mix E Eo k r c = mix2 E Eo k 0 r c := by
  unfold mix2 mix
  by_cases h : r = k
  · subst h; simp
  · rw [if_neg h]
theorem mix2_succ (E Eo : Nat → Nat → Int) (k j r c : Nat) : (if r = k ∧ c = j then M (E k j + Eo k j) else mix2 E Eo k j r c) = mix2 E Eo k (j + 1) r c := by
  unfold mix2
  by_cases h : r = k
  · subst h
    by_cases h2 : c = j
    · subst h2; simp
    · by_cases h3 : c < j
      · simp [h2, h3, show c < j + 1 by omega]
      · simp [h2, h3, show ¬ c < j + 1 by omega]
  · simp [h]
/-- Behind the row's last cell: only the first 1024 columns count. -/
theorem mix2_full (E Eo : Nat → Nat → Int) (k r c : Nat) (hc : c < 1024) : mix2 E Eo k 1024 r c = mix E Eo (k + 1) r c := by
  unfold mix2 mix
  by_cases h : r = k
  · subst h; simp [hc]
  · by_cases h2 : r < k
    · simp [h, h2, show r < k + 1 by omega]
    · simp [h, h2, show ¬ r < k + 1 by omega]
theorem wrapM' (x y : Int) : IntKind.u64.wrap (x + y) = M (x + y) := IntKind.wrap_u64 _
theorem upd_at' {c : Array Value} {i : Nat} {v : Value} (h : i < c.size) : (c.setIfInBounds i v)[i]? = some v := by
  rw [Array.getElem?_setIfInBounds]; simp [h]

theorem mix_nil (E Eo : Nat → Nat → Int) (k r c : Nat) (hr : r < 54) (hE : ∀ r c, r < 54 → c < 1024 → M (E r c) = E r c) (hc : c < 1024) (hz : ∀ c, c < 1024 → Eo k c = 0) : mix E Eo k r c = mix E Eo (k + 1) r c := by
  unfold mix
  by_cases h : r < k
  · rw [if_pos h, if_pos (by omega)]
  · by_cases h2 : r = k
    · subst h2; rw [if_neg h, if_pos (by omega), hz c hc, Int.add_zero, hE r c hr hc]
    · rw [if_neg h, if_neg (by omega)]

set_option maxHeartbeats 1000000 in
theorem add_any (Sl So : Nat → Prop) (lb ob : Nat) (cl co : Array Value) (lc oc : Int) (E Eo : Nat → Nat → Int) (w : World) (h : Adding Sl So lb ob cl co lc oc E Eo w) (ap : Apart Sl So lb ob w.heap.size) (hE : ∀ r c, r < 54 → c < 1024 → M (E r c) = E r c) :
    Calls Try.prog 23 #[.pointer (some ⟨lb, 0, none⟩), .pointer (some ⟨ob, 0, none⟩)] w fun e w' => e = .returned (.tuple #[]) ∧ ∃ cl', Adding Sl So lb ob cl' co (M (lc + oc)) oc (fun r c => M (E r c + Eo r c)) Eo w' ∧
      Kept (fun b => b = lb ∨ Sl b) w w' := by
  obtain ⟨i48, hi48, hz48, _, _⟩ := info_parts Try.info48
  obtain ⟨ro, hro⟩ : ∃ ro, co.extract 0 54 = ro := ⟨_, rfl⟩
  have hros : ro.size = 54 := by rw [← hro]; simp; have := h.so; omega
  have hrc : ∀ r, r < 54 → ro[r]? = co[r]? := fun r hr => by
    rw [← hro, Array.getElem?_extract]; simp; have := h.so; intros; omega
  have HRO := hid hro
  have HRS := hid hros
  have HRC := hid hrc
  have HA := hid h
  clear hro hros hrc h
  go_enter Try.func23, Try.ntmps23
  go_wp2_with ((with_reducible (refine at_op (.load 35 (.tmp 10)) rfl ?_)); refine wpList_load_part rfl 35 (.tmp 10) rfl ob 54 rfl co 50 HA.out.bo (by rw [HA.out.so]; omega) _ Try.underlying35 rfl Try.size35 ?_; rw [HRO.out])
  go_loopw [12] (fun i wr => ∃ k : Nat, k ≤ 54 ∧ i = .int .i64 k ∧ ∃ cl', Adding Sl So lb ob cl' co lc oc (mix E Eo k) Eo wr ∧ Kept (fun b => b = lb ∨ Sl b) w wr) (fun i _ => 54 - (intOf i).toNat)
  case atStart => exact ⟨0, Nat.zero_le _, rfl, cl, HA.out.congr (fun r c _ _ => by simp [mix]), Kept.refl _ _⟩
  case round =>
    obtain ⟨k, hk, rfl, cl', ad, kp⟩ := hrel
    have AD := hid ad
    by_cases hlt : k < 54
    · have hi : (k : Int) < 54 := by omega
      have hr1 := HRC.out k hlt
      rcases ad.owno.at k hlt with ⟨hp, hz⟩ | ⟨b, hp, hSb, hnm⟩
      · rw [hp] at hr1
        have hix := run_index35 ro k _ wr hlt hr1
        clear hp ad hr1
        go_wp2_with fail
        go_roundw
        case rel => exact ⟨k + 1, by omega, by go_num, cl', AD.out.congr (fun r c hr hc => mix_nil E Eo k r c hr hE hc hz), kp⟩
        case measure => simp [intOf]; omega
      · rw [hp] at hr1
        have HPB := hid hp
        have c54 := HA.out.so
        have y0 : ∃ (nl : Bool) (v : Value), wr.cell? ⟨lb, k, none⟩ = some v ∧ ((nl = true ∧ v = .pointer none ∧ ∀ c, c < 1024 → mix E Eo k k c = 0) ∨ (nl = false ∧ ∃ bl, v = .pointer (some ⟨bl, 0, none⟩) ∧ Sl bl ∧ cl'[k]? = some v)) := by
          rw [ad.bl.cell]
          rcases ad.ownl.at k hlt with ⟨h1, h2⟩ | ⟨bl, h1, h2, _⟩
          · exact ⟨true, _, h1, .inl ⟨rfl, rfl, h2⟩⟩
          · exact ⟨false, _, h1, .inr ⟨rfl, bl, rfl, h2, h1⟩⟩
        have y3 := ad.bl.frozen k
        have hix := run_index35 ro k _ wr hlt hr1
        obtain ⟨nl, vl, y1, hnl⟩ := y0
        have HNL := hid hnl
        have hkp := kp.size
        clear hnm ad c54 hp hr1 hnl
        go_upto_region 4 with fail
        go_cut [24] (fun s wc => s = .bool nl ∧ wc = wr)
        case first =>
          rcases HNL.out with ⟨rfl, rfl, _⟩ | ⟨rfl, bl, rfl, _⟩
          all_goals
            go_wp2_with fail
            go_meet
            case rel => exact ⟨rfl, rfl⟩
        case rest =>
          obtain ⟨rfl, hw⟩ := hcut
          subst wc
          go_upto_if 24 with fail
          go_cut [] (fun wc => ∃ cl2 bl, Adding Sl So lb ob cl2 co lc oc (mix E Eo k) Eo wc ∧ cl2[k]? = some (.pointer (some ⟨bl, 0, none⟩)) ∧ Sl bl ∧ Kept (fun b => b = lb ∨ Sl b) w wc)
          case first =>
            rcases HNL.out with ⟨rfl, rfl, hz⟩ | ⟨rfl, bl, rfl, hS, hp⟩
            · have lbl := AD.out.bl.lt
              go_wp2_with (with_reducible (refine wpList_alloc_agg 48 z48 rfl rfl i48 hi48 hz48 ?_))
              go_meet
              case rel =>
                refine ⟨_, _, AD.out.put ap hkp hlt hz, upd_at' (by rw [AD.out.sl]; omega), ap.up _ hkp, ?_⟩
                exact (kp.setCell (p := ⟨lb, k, none⟩) (.inr (.inl rfl)) _).alloc _
            · go_wp2_with fail
              go_meet
              case rel => exact ⟨cl', bl, AD.out, hp, hS, kp⟩
          case rest =>
            obtain ⟨cl2, bl, ad2, hp2, hSl, kp2⟩ := hcut
            have hpo := AD.out.owno
            clear AD HNL hkp y1 y3 kp hix
            go_wp2_with fail
            go_loopw [32] (fun i wr => ∃ j : Nat, j ≤ 1024 ∧ i = .int .i64 j ∧ Adding Sl So lb ob cl2 co lc oc (mix2 E Eo k j) Eo wr ∧ Kept (fun b => b = lb ∨ Sl b) w wr) (fun i _ => 1024 - (intOf i).toNat)
            case atStart => exact ⟨0, Nat.zero_le _, rfl, ad2.congr (fun r c _ _ => mix2_zero E Eo k r c), kp2⟩
            case round =>
              obtain ⟨j, hj, rfl, ad3, kp3⟩ := hrel
              by_cases hjt : j < 1024
              · have hji : (j : Int) < 1024 := by omega
                have hj0 : (0 : Int) ≤ j := by omega
                have x1 := (ad3.owno.row hlt HPB.out).2.cell j hjt
                have x2 : wr.cell? ⟨lb, k, none⟩ = some (.pointer (some ⟨bl, 0, none⟩)) := by rw [ad3.bl.cell]; exact hp2
                have q := (ad3.ownl.row hlt hp2).2
                have x3 := q.cell j hjt
                have x4 := q.frozen j
                have x5 : mix2 E Eo k j k j = E k j := by simp [mix2]
                rw [x5] at x3
                have AD3 := hid (ad3.write ap hlt hjt hp2 hSl (M (E k j + Eo k j)))
                have KP3 := hid (kp3.setCell (p := ⟨bl, j, none⟩) (.inr (.inr hSl)) (.int .u64 (M (E k j + Eo k j))))
                clear ad3 kp3 q x5 ad2 kp2 hp2 hpo
                go_wp2_with fail
                go_quiet (fail)
                go_wp2_with fail
                go_region
                all_goals go_wp2_with fail
                go_roundw
                case rel =>
                  rw [wrapM']
                  refine ⟨j + 1, by omega, by go_num, ?_, ?_⟩
                  · have := AD3.out.congr (fun r c _ _ => mix2_succ E Eo k j r c)
                    exact ⟨this.bl, this.sl, this.cl54, this.bo, this.so, this.co54, this.ownl, this.owno⟩
                  · have := KP3.out
                    exact ⟨this.os, this.tape, this.output, this.size, this.block⟩
                case measure => simp [intOf]; omega
              · obtain rfl : j = 1024 := by omega
                go_wp2_with fail
                go_roundw
                case rel => exact ⟨k + 1, by omega, by go_num, cl2, ad3.congr (fun r c hr hc => mix2_full E Eo k r c hc), kp3⟩
                case measure => simp [intOf]; omega
    · obtain rfl : k = 54 := by omega
      have x1 : wr.cell? ⟨lb, 54, none⟩ = some (.int .u64 lc) := by rw [ad.bl.cell]; exact ad.cl54
      have x2 := ad.bl.frozen 54
      have x3 : wr.cell? ⟨ob, 54, none⟩ = some (.int .u64 oc) := by rw [ad.bo.cell]; exact ad.co54
      have AD3 := hid (ad.count ap (M (lc + oc)))
      have KP3 := hid (kp.setCell (p := ⟨lb, 54, none⟩) (.inr (.inl rfl)) (.int .u64 (M (lc + oc))))
      clear ad kp AD
      go_wp2_with fail
      go_region
      all_goals go_wp2_with fail
      refine bodyPost_end (results_none rfl _ _ _) rfl ?_
      rw [wrapM']
      refine ⟨rfl, _, (AD3.out.congr (fun r c hr _ => by simp [mix, hr])).drew, KP3.out.drew⟩

end Go.Proofs.Qxb6601538a
