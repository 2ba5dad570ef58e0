import Derived.Test.Qxb6601538aZz
namespace Go.Proofs.Qxb6601538a
open Go.RowKit
set_option linter.unusedVariables false
set_option linter.unusedSimpArgs false

theorem M_add (x y : Int) : M (M x + M y) = M (x + y) := by unfold M; omega
theorem M_addl (x y : Int) : M (M x + y) = M (x + y) := by unfold M; omega
theorem M_addr (x y : Int) : M (x + M y) = M (x + y) := by unfold M; omega
theorem rowSum_M (f g : Nat → Int) (m : Nat) : M (rowSum (fun c => M (f c + g c)) m) = M (rowSum f m + rowSum g m) := by
  induction m with
  | zero => rfl
  | succ m ih =>
    simp only [rowSum]
    rw [M_addr, ← M_addl, ih, M_addl]
    exact congrArg M (by omega)
theorem allSum_M (E F : Nat → Nat → Int) (n : Nat) : M (allSum (fun r c => M (E r c + F r c)) n) = M (allSum E n + allSum F n) := by
  induction n with
  | zero => rfl
  | succ n ih =>
    simp only [allSum]
    rw [← M_add, ih, rowSum_M, M_add]
    generalize rowSum (E n) 1024 = a
    generalize rowSum (F n) 1024 = b
    exact congrArg M (by omega)
theorem fin_sum (E F : Nat → Nat → Int) : M (allSum (fun r c => M (E r c + F r c)) 54) = M (M (allSum E 54) + M (allSum F 54)) := by rw [allSum_M, M_add]

theorem RowsAt.kept {w w' : World} {cs : Array Value} {E : Nat → Nat → Int} (h : RowsAt w cs E) (k : Kept (fun _ => False) w w') : RowsAt w' cs E := by
  intro r hr
  rcases h r hr with h1 | ⟨b, o, h1, h2⟩
  · exact .inl h1
  · refine .inr ⟨b, o, h1, fun c hc => ?_⟩
    rw [k.cell (p := ⟨b, o + c, none⟩) (World.block_lt_of_cell? w _ (h2 c hc)) id]
    exact h2 c hc

theorem RowsAt.keptOld {w w' : World} {cs : Array Value} {E : Nat → Nat → Int} (h : RowsAt w cs E) (k : Kept (fun b => w.heap.size ≤ b) w w') : RowsAt w' cs E :=
  h.kept (k.mono (fun b hb h => by omega))

/-- An operation whose guard lets it run. -/
theorem wpList_wanted {P : Program} {ops : Array Oper} {rest : List Oper} {o : Oper} {a : Act} {w : World} {Q : Exit → Act → World → Prop} (q : Op) (hq : o.op = q) (hw : Region.wanted o (yielded ops a.tmps) = true)
    (h : o.wp P a w (wpList P ops Q rest) Q) : wpList P ops Q (o :: rest) a w := by
  rw [wpList, if_pos hw]
  exact .inl h

theorem RowsAt.oneCell {w : World} {cs : Array Value} {E : Nat → Nat → Int} (h : RowsAt w cs E) (hs : cs.size = 54) : cs.all (·.oneCell') = true := by
  rw [Array.all_eq_true]
  intro i hi
  rcases h i (by omega) with ⟨h1, _⟩ | ⟨b, o, h1, _⟩
  · rw [Array.getElem?_eq_getElem hi] at h1
    rw [Option.some.inj h1]; rfl
  · rw [Array.getElem?_eq_getElem hi] at h1
    rw [Option.some.inj h1]; rfl

set_option maxRecDepth 100000 in
set_option maxHeartbeats 1000000 in
theorem keeps_any (csl cso : Array Value) (lc oc : Int) (E Eo : Nat → Nat → Int) (w : World) (hl : csl.size = 54) (ho : cso.size = 54) (rl : RowsAt w csl E) (ro : RowsAt w cso Eo)
    (hE : ∀ r c, r < 54 → c < 1024 → M (E r c) = E r c) :
    Calls Try.prog 8 #[.agg csl, .int .u64 lc, .agg cso, .int .u64 oc] w fun e w' => e = .returned (.bool true) ∧ Below w.heap.size w w' := by
  have RL := hid rl
  have RO := hid ro
  have HL := hid hl
  have HO := hid ho
  obtain ⟨sl, hsl⟩ : ∃ s, M (allSum E 54) = s := ⟨_, rfl⟩
  obtain ⟨so, hso⟩ : ∃ s, M (allSum Eo 54) = s := ⟨_, rfl⟩
  have HSL := hid hsl
  have HSO := hid hso
  have HE := hid hE
  clear rl ro hl ho hsl hso
  go_enter Try.func8, Try.ntmps8
  go_upto_region 0 with fail
  go_cut [4, 6, 8] (fun s4 s6 s8 wc => s4 = .pointer (some ⟨w.heap.size, 0, none⟩) ∧ s6 = .pointer (some ⟨w.heap.size + 1, 0, none⟩) ∧ s8 = .bool false ∧ Blk wc w.heap.size csl 35 ∧ Blk wc (w.heap.size + 1) cso 35 ∧ Kept (fun _ => False) w wc)
  case first =>
    go_wp2_with fail
    go_meet
    case rel =>
      refine ⟨rfl, rfl, rfl, ?_, ?_, ((Kept.refl _ _).alloc _).alloc _⟩
      · exact (Blk.newAt w csl 35 _ rfl).alloc _
      · exact Blk.newAt (w.alloc (.cells csl 35)) cso 35 _ (by simp)
  case rest =>
    obtain ⟨rfl, rfl, rfl, B0, B1, k0⟩ := hcut
    obtain ⟨w0, hw0⟩ : ∃ w0, w0 = wc := ⟨_, rfl⟩
    subst hw0
    by_cases h1 : sl = lc
    · have h1' : (sl != lc) = false := by simpa using h1
      go_upto_region 1 with fail
      go_cut [22] (fun s wc => s = .bool (so != oc) ∧ Kept (fun _ => False) w0 wc)
      case first =>
        go_wp2_with ((with_reducible (refine at_op (.load 35 (.tmp 4)) rfl ?_)); refine wpList_load_row rfl 35 (.tmp 4) rfl w.heap.size rfl 35 csl (0, 0) _ B0 Try.underlying35 rfl (by rw [HL.out]; exact Try.size35) ?_)
        refine (sum_any csl E _ (RL.out.kept k0)).mono ?_
        rintro e w1 ⟨rfl, b1⟩
        rw [HSL.out]
        have k1 : Kept (fun _ => False) w0 w1 := Kept.of_below b1
        have B1' := B1.kept k1 id
        go_wp2_with ((with_reducible (refine at_op (.load 35 (.tmp 6)) rfl ?_)); refine wpList_wanted (.load 35 (.tmp 6)) (by rfl) (by rfl) ?_; refine wp_load_row 35 (.tmp 6) (by rfl) (w.heap.size + 1) (by rfl) 35 cso (0, 0) _ B1' Try.underlying35 rfl (by rw [HO.out]; exact Try.size35) ?_)
        refine (sum_any cso Eo _ ((RO.out.kept k0).kept k1)).mono ?_
        rintro e w2 ⟨rfl, b2⟩
        rw [HSO.out]
        have k2 : Kept (fun _ => False) w1 w2 := Kept.of_below b2
        go_wp2_with fail
        go_meet
        case rel => exact ⟨by simp, k1.trans k2⟩
      case rest =>
        obtain ⟨rfl, k1⟩ := hcut
        by_cases h2 : so = oc
        · have h2' : (so != oc) = false := by simpa using h2
          have H1 := hid h1
          have H2 := hid h2
          have k01 := k0.trans k1
          have B0' := B0.kept k1 id
          have B1' := B1.kept k1 id
          clear h1 h1' h2 B0 B1 k1
          obtain ⟨w1, hw1⟩ : ∃ w1, w1 = wc := ⟨_, rfl⟩
          subst hw1
          go_upto_region 3 with fail
          go_cut [] (fun wc => ∃ cs', Blk wc w.heap.size cs' 35 ∧ cs'.size = 54 ∧ Blk wc (w.heap.size + 1) cso 35 ∧ OwnRows (fun b => w1.heap.size ≤ b ∧ b < wc.heap.size) wc cs' E ∧ Kept (fun b => b = w.heap.size) w1 wc)
          case first =>
            go_wp2_with ((with_reducible (refine at_op (.load 35 (.tmp 4)) rfl ?_)); refine wpList_load_row rfl 35 (.tmp 4) (by rfl) w.heap.size (by rfl) 35 csl (0, 0) _ B0' Try.underlying35 rfl (by rw [HL.out]; exact Try.size35) ?_)
            refine (clone_any csl E _ (RL.out.kept k01)).mono ?_
            rintro e w2 ⟨cs', rfl, sz', own, k2⟩
            have B0'' := B0'.kept k2 id
            have B1'' := B1'.kept k2 id
            have SZ := hid sz'
            have OW := hid own
            have l1 := B0'.lt
            clear sz' own
            go_wp2_with ((with_reducible (refine at_op (.store 35 (.tmp 4) (.tmp 24)) rfl ?_)); refine wpList_store_row rfl 35 (.tmp 4) (.tmp 24) (by rfl) w.heap.size cs' (by rfl) (by rfl) 35 csl B0'' (by rw [SZ.out]; exact Try.size35) (by rw [SZ.out, HL.out]) (OW.out.oneCell SZ.out) ?_)
            go_meet
            case rel =>
              refine ⟨cs', B0''.setRow cs', SZ.out, ?_, ?_, ?_⟩
              · exact B1''.kept (S := fun b => b = w.heap.size) ((Kept.refl _ _).setRow _ _ (.inr rfl)) (by omega)
              · exact (OW.out.kept (T := fun b => b = w.heap.size) ((Kept.refl _ _).setRow _ _ (.inr rfl)) (fun b hb => by omega)).mono (fun b h1 h2 => ⟨h2.1, by simpa using h1⟩)
              · exact (k2.mono (fun _ _ h => h.elim)).setRow _ _ (.inr rfl)
          case rest =>
            obtain ⟨cs1, C0, z1, C1, own1, k2⟩ := hcut
            obtain ⟨w2, hw2⟩ : ∃ w2, w2 = wc := ⟨_, rfl⟩
            subst hw2
            have l0 := B0'.lt
            have l1 := B1'.lt
            have l2 := k2.size
            have kA : Kept (fun b => w.heap.size ≤ b) w w2 := (k01.mono (fun _ _ h => h.elim)).trans (k2.mono (fun b _ h => by omega))
            have ro2 : RowsAt w2 cso Eo := RO.out.keptOld kA
            have Z1 := hid z1
            have OW1 := hid own1
            clear z1 own1 B0' B1' k2 h2'
            go_upto_region 4 with fail
            go_cut [] (fun wc => ∃ cs', Blk wc (w.heap.size + 1) cs' 35 ∧ cs'.size = 54 ∧ Blk wc w.heap.size cs1 35 ∧ OwnRows (fun b => w2.heap.size ≤ b ∧ b < wc.heap.size) wc cs' Eo ∧ Kept (fun b => b = w.heap.size + 1) w2 wc)
            case first =>
              go_wp2_with ((with_reducible (refine at_op (.load 35 (.tmp 6)) rfl ?_)); refine wpList_load_row rfl 35 (.tmp 6) (by rfl) (w.heap.size + 1) (by rfl) 35 cso (0, 0) _ C1 Try.underlying35 rfl (by rw [HO.out]; exact Try.size35) ?_)
              refine (clone_any cso Eo _ ro2).mono ?_
              rintro e w3 ⟨cs', rfl, sz', own, k3⟩
              have C0' := C0.kept k3 id
              have C1' := C1.kept k3 id
              have SZ := hid sz'
              have OW := hid own
              clear sz' own
              go_wp2_with ((with_reducible (refine at_op (.store 35 (.tmp 6) (.tmp 26)) rfl ?_)); refine wpList_store_row rfl 35 (.tmp 6) (.tmp 26) (by rfl) (w.heap.size + 1) cs' (by rfl) (by rfl) 35 cso C1' (by rw [SZ.out]; exact Try.size35) (by rw [SZ.out, HO.out]) (OW.out.oneCell SZ.out) ?_)
              go_meet
              case rel =>
                refine ⟨cs', C1'.setRow cs', SZ.out, ?_, ?_, ?_⟩
                · exact C0'.kept (S := fun b => b = w.heap.size + 1) ((Kept.refl _ _).setRow _ _ (.inr rfl)) (by omega)
                · exact (OW.out.kept (T := fun b => b = w.heap.size + 1) ((Kept.refl _ _).setRow _ _ (.inr rfl)) (fun b hb => by omega)).mono (fun b h1 h2 => ⟨h2.1, by simpa using h1⟩)
                · exact (k3.mono (fun _ _ h => h.elim)).setRow _ _ (.inr rfl)
            case rest =>
              obtain ⟨cs2, D1, z2, D0, own2, k3⟩ := hcut
              obtain ⟨w3, hw3⟩ : ∃ w3, w3 = wc := ⟨_, rfl⟩
              subst hw3
              have Z2 := hid z2
              have OW2 := hid own2
              have OW1' := hid (OW1.out.kept k3 (fun b hb => by omega))
              have l3 := k3.size
              have kB : Kept (fun b => w.heap.size ≤ b) w w3 := kA.trans (k3.mono (fun b _ h => by omega))
              clear z2 own2 C0 C1 OW1 ro2 kA k3
              go_upto_region 5 with fail
              go_cut [9, 10] (fun s9 s10 wc => ∃ csg, s9 = .pointer (some ⟨wc.heap.size - 2, 0, none⟩) ∧ s10 = .int .u64 (M (lc + oc)) ∧ csg.size = 54 ∧ Blk wc (wc.heap.size - 2) csg 35 ∧ RowsAt wc csg (fun r c => M (E r c + Eo r c)) ∧ Kept (fun b => w.heap.size ≤ b) w wc)
              case first =>
                go_wp2_with (first
                  | ((with_reducible (refine at_op (.load 35 (.tmp 4)) rfl ?_)); refine wpList_load_row rfl 35 (.tmp 4) (by rfl) w.heap.size (by rfl) 35 cs1 (0, 0) _ D0 Try.underlying35 rfl (by rw [Z1.out]; exact Try.size35) ?_)
                  | ((with_reducible (refine at_op (.load 35 (.tmp 6)) rfl ?_)); refine wpList_load_row rfl 35 (.tmp 6) (by rfl) (w.heap.size + 1) (by rfl) 35 cs2 (0, 0) _ D1 Try.underlying35 rfl (by rw [Z2.out]; exact Try.size35) ?_))
                refine (zz_any _ _ cs1 cs2 lc oc E Eo _ Z1.out Z2.out OW1'.out OW2.out (fun b _ h1 h2 => by omega) HE.out).mono ?_
                rintro e w4 ⟨csg, cso', rfl, zg, zo, og, oo, rg, k4⟩
                have ZG := hid zg
                have ZO := hid zo
                have OG := hid og
                have O2 := hid oo
                clear zg zo og oo
                go_wp2_with (first
                  | ((with_reducible (refine at_op (.store 35 (.tmp 9) (.tmp 33)) rfl ?_)); refine wpList_store_row rfl 35 (.tmp 9) (.tmp 33) (by rfl) w4.heap.size csg (by rfl) (by rfl) 35 nil54 ((Blk.newAt w4 nil54 35 _ rfl).alloc (.cells nil54 35)) (by rw [ZG.out]; exact Try.size35) (by rw [ZG.out]; rfl) OG.out ?_)
                  | ((with_reducible (refine at_op (.store 35 (.tmp 11) (.tmp 35)) rfl ?_)); refine wpList_store_row rfl 35 (.tmp 11) (.tmp 35) (by rfl) (w4.heap.size + 1) cso' (by rfl) (by rfl) 35 nil54 ((Blk.newAt (w4.alloc (.cells nil54 35)) nil54 35 _ (by simp)).kept (S := fun b => b = w4.heap.size) ((Kept.refl _ _).setRow _ csg (.inr rfl)) (by omega)) (by rw [ZO.out]; exact Try.size35) (by rw [ZO.out]; rfl) O2.out ?_))
                go_meet
                case rel =>
                  have kF : Kept (fun _ => False) w4 ((((w4.alloc (.cells nil54 35)).alloc (.cells nil54 35)).setRow w4.heap.size csg).setRow (w4.heap.size + 1) cso') :=
                    ((((Kept.refl _ w4).alloc _).alloc _).setRow _ _ (.inl (Nat.le_refl _))).setRow _ _ (.inl (by omega))
                  have e : ((((w4.alloc (.cells nil54 35)).alloc (.cells nil54 35)).setRow w4.heap.size csg).setRow (w4.heap.size + 1) cso').heap.size - 2 = w4.heap.size := by simp
                  refine ⟨csg, ?_, rfl, ZG.out, ?_, rg.kept kF, ?_⟩
                  · exact congrArg (fun n => Value.pointer (some ⟨n, 0, none⟩)) e.symm
                  · refine e.symm ▸ ?_
                    exact (((Blk.newAt w4 nil54 35 _ rfl).alloc (.cells nil54 35)).setRow csg).kept (S := fun b => b = w4.heap.size + 1) ((Kept.refl _ _).setRow _ _ (.inr rfl)) (by omega)
                  · exact (kB.trans (k4.mono (fun b _ h => by omega))).trans (kF.mono (fun _ _ h => h.elim))
              case rest =>
                obtain ⟨csg, rfl, rfl, zg, BG, rg, kC⟩ := hcut
                have ZG := hid zg
                have HF := hid (show M (allSum (fun r c => M (E r c + Eo r c)) 54) = M (lc + oc) by rw [fin_sum, HSL.out, HSO.out, H1.out, H2.out])
                clear zg
                go_wp2_with ((with_reducible (refine at_op (.load 35 (.tmp 9)) rfl ?_)); refine wpList_load_row rfl 35 (.tmp 9) (by rfl) (wc.heap.size - 2) (by rfl) 35 csg (0, 0) _ BG Try.underlying35 rfl (by rw [ZG.out]; exact Try.size35) ?_)
                refine (sum_any csg _ _ rg).mono ?_
                rintro e w5 ⟨rfl, b5⟩
                rw [HF.out]
                go_wp2_with fail
                go_ret
                exact ⟨by simp, (kC.below (Nat.le_refl _) (fun b hb h => by omega)).trans (b5.mono kC.size)⟩
        · have h2' : (so != oc) = true := by simpa using h2
          go_wp2_with fail
          go_ret
          exact ⟨rfl, ((k0.trans k1).below (Nat.le_refl _) (fun _ _ => id))⟩
    · have h1' : (sl != lc) = true := by simpa using h1
      go_wp2_with ((with_reducible (refine at_op (.load 35 (.tmp 4)) rfl ?_)); refine wpList_load_row rfl 35 (.tmp 4) rfl w.heap.size rfl 35 csl (0, 0) _ B0 Try.underlying35 rfl (by rw [HL.out]; exact Try.size35) ?_)
      refine (sum_any csl E _ (RL.out.kept k0)).mono ?_
      rintro e w1 ⟨rfl, b1⟩
      rw [HSL.out]
      go_wp2_with fail
      go_ret
      exact ⟨rfl, (k0.below (Nat.le_refl _) (fun _ _ => id)).trans (b1.mono k0.size)⟩

end Go.Proofs.Qxb6601538a
