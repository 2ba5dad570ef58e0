/-
  held.add walked.
-/
import Derived.Test.Qxb6601932aAddP
import Derived.Deep.Light
namespace Go.Proofs.Qxb6601932a
open Go.RowKit
set_option linter.unusedVariables false
set_option linter.unusedSimpArgs false

set_option maxRecDepth 100000 in
set_option maxHeartbeats 16000000 in
theorem add15 (T : Nat → Prop) (hb N : Nat) (S : St) (fund sym : ByteArray) (w : World) (h : HeldAt T w hb S) (hT : ∀ b, w.heap.size ≤ b → T b) (hF : Fits N S) (hN : N ≤ 8192) (z1 : fund.size ≤ 281474976710656) (z2 : sym.size ≤ 281474976710656) :
    Calls Try.prog 15 #[.pointer (some ⟨hb, 0, none⟩), .string fund, .string sym] w fun e w' => e = .returned (.tuple #[.int .i64 (placeN S.F fund : Nat), .int .i64 (placeN S.Y sym : Nat), .bool (S.step fund sym).1]) ∧ HeldAt T w' hb (S.add fund sym) ∧ Kept T w w' := by
  obtain ⟨fb, yb, qb, vG, vs, hc, ht⟩ := h
  have hlk := run_lookup_place (P := Try.prog) (w := w) Try.underlying39 Try.underlying9 (zero3 w) ht.mf fund
  obtain ⟨pl, hpl⟩ : ∃ pl, place S.F fund = pl := ⟨_, rfl⟩
  rw [hpl] at hlk
  obtain ⟨G1, hG1⟩ : ∃ G1, (S.opened fund sym).G = G1 := ⟨_, rfl⟩
  obtain ⟨F1, hF1⟩ : ∃ F1, withN S.F fund = F1 := ⟨_, rfl⟩
  obtain ⟨f, hf⟩ : ∃ f, placeN S.F fund = f := ⟨_, rfl⟩
  have HPL := hid (And.intro hpl (And.intro hG1 (And.intro hF1 hf)))
  have c0 := hc.c0
  have HC := hid hc
  have HT := hid ht
  have HTT := hid hT
  clear hpl hG1 hF1 hc ht hT
  obtain ⟨s, hs⟩ : ∃ s, placeN S.Y sym = s := ⟨_, rfl⟩
  have HS := hid hs
  rw [hf, hs]
  clear hf hs
  go_enter Try.func15, Try.ntmps15
  go_upto_if 24 with fail
  go_cut [6] (fun s6 wc => ∃ vG vs, s6 = .int .i64 f ∧ Core T wc hb fb yb qb G1 vG vs ∧ Tabs T wc fb yb qb F1 S.Y S.Q ∧ Kept T w wc)
  case first =>
    --F1
    as_aux_lemma =>
    cases pl with
    | some j =>
      go_wp2_with fail
      go_meet
      case rel =>
        go_light
        obtain ⟨q1, q2, q3, q4⟩ := HPL.out
        have e1 : G1 = S.G := by rw [← q2]; simp [St.opened, q1]
        have e2 : F1 = S.F := by rw [← q3]; simp [withN, q1]
        have e3 : f = j := by rw [← q4]; simp [placeN, q1]
        subst e1 e2 e3
        exact ⟨vG, vs, rfl, HC.out, HT.out, Kept.refl _ _⟩
    | none =>
      obtain ⟨F, hFF⟩ : ∃ F, S.F = F := ⟨_, rfl⟩
      obtain ⟨q1, q2, q3, q4⟩ := HPL.out
      have HMF := hid (show w.heap[fb]? = some (.map (mapOf F) F.length) by rw [← hFF]; exact HT.out.mf)
      have hms : (mapOf F).size = F.length := size_mapOf F
      have HQ := hid (show place F fund = none ∧ G1 = S.G ++ [([], 0, 0)] ∧ F1 = F ++ [fund] ∧ f = F.length by
        refine ⟨by rw [← hFF]; exact q1, by rw [← q2]; simp [St.opened, q1], by rw [← q3, ← hFF]; simp [withN, q1], by rw [← q4, ← hFF]; simp [placeN, q1]⟩)
      clear q1 q2 q3 q4
      have hlt : hb < w.heap.size := HC.out.blk.lt
      have hne := (HC.out.ne_map HT.out.mf).1
      go_wp2_with ((with_reducible (refine at_op (.call { callee := .builtin .len, args := #[.tmp 28], argTypes := #[39] }) rfl ?_)); refine wpList_len_map rfl (.tmp 28) 39 9 3 (by rfl) Try.underlying39 fb F.length (mapOf F) (by rfl) HMF.out ?_; rw [hms])
      go_region_held3 (fun w' => w'.cell? ⟨hb, 0, none⟩ = some (.map (some fb))) (go_keep) (first | (go_at_call 16; refine (clone16 fund _ z1).mono ?_; rintro e wz ⟨rfl, hbz⟩; have kz : Kept (fun _ => False) w wz := (Kept.refl _ _).drew.trans (Kept.of_below hbz); have y0 := (kz.cell (p := ⟨hb, 0, none⟩) hlt id).trans c0; obtain ⟨wu, hup, hmu, ku, hsu⟩ := upd_place (P := Try.prog) (w := wz) Try.underlying39 Try.underlying9 ((kz.block fb (Array.getElem?_eq_some_iff.1 HMF.out).1 id).trans HMF.out) fund HQ.out.1; have y1 := (ku.cell (p := ⟨hb, 0, none⟩) (Nat.lt_of_lt_of_le hlt kz.size) hne).trans y0; have HMU := hid hmu; have KU := hid ku; have KZ := hid kz; clear hbz kz ku hmu))
      have hcz := HC.out.kept KZ.out (fun _ _ _ => id)
      have htz := HT.out.kept KZ.out (fun _ _ _ => id)
      have hcu := hcz.mapped htz.mf KU.out
      have htu := htz.mappedF KU.out HMU.out
      have KWU := hid ((KZ.out.mono (T := T) (fun _ _ h => h.elim)).trans (KU.out.mono (T := T) (fun b _ e => by subst e; exact HT.out.tf)))
      obtain ⟨G, hG⟩ : ∃ G, S.G = G := ⟨_, rfl⟩
      rw [hG] at hcu
      obtain ⟨aG, cG, rfl⟩ := own_form hcu.own
      have HCU := hid hcu
      have HTU := hid htu
      have x2 := hcu.c2
      have f2 := hcu.blk.frozen 2
      have hGl : G.length ≤ 8192 := by rw [← hG, hF.len]; exact Nat.le_trans hF.f hN
      have hTu := hid (show ∀ b, wu.heap.size ≤ b → T b from fun b hb => HTT.out b (Nat.le_trans KWU.out.size hb))
      have HGG := hid hG
      obtain ⟨i47, hi47, hz470, hz471, hz472⟩ := info_parts Try.info47
      clear hcz htz hcu htu KZ KU HMU hG y0 y1 hup hsu c0 hlk hms hlt hne
      go_wp2_with (at_builtin; refine wpList_append_lies _ rfl (.tmp 41) (.tmp 43) 41 rfl 0 47 i47 (.agg #[.slice none 0 0, .int .i64 0, .int .i64 0]) 3 40 Try.underlying41 hi47 hz470 hz471 hz472 (by rfl) (by decide) (.slice aG G.length cG) G.length (flat3 vs G) (by rfl) ((HCU.out.alloc _).own) ⟨wu.heap.size, 0, none⟩ 1 1 [.slice none 0 0, .int .i64 0, .int .i64 0] (by rfl) rfl (World.news_of_block (cs := #[.slice none 0 0, .int .i64 0, .int .i64 0]) (t := 47) (fr := (0, 0)) (heap_alloc_new wu _)) (by simp [Value.oneCell']) (by decide) (by unfold maxLen; omega) (by omega) (Nat.zero_le _) (wu.heap.size + 1) (by simp) ?_)
      intro g1 cap1 w2 hown2 hgrow2 hat2 hlt2
      have hq := (HCU.out.alloc (.cells #[.slice none 0 0, .int .i64 0, .int .i64 0] 47)).owned (Kept.of_grown hgrow2) hown2 (fun g hg => by
        cases hg
        rcases hat2 with h | h
        · exact HCU.out.ownT _ h
        · exact hTu.out g1 (by omega))
      have kk2 : Kept (fun b => some b = (Value.slice aG G.length cG).ownBlock) wu w2 := ((Kept.refl _ wu).alloc _).trans (Kept.of_grown hgrow2)
      have hb2 : Blk w2 hb #[.map (some fb), .map (some yb), .slice aG G.length cG, .map (some qb)] 43 := HCU.out.blk.kept kk2 (fun e => (HCU.out.ne_own e.symm).1 rfl)
      have x3 : w2.cell? ⟨hb, 2, none⟩ = some (.slice aG G.length cG) := by rw [hb2.cell]; rfl
      have f3 := hb2.frozen 2
      have ht2 := HTU.out.far kk2 (fun b es cl hm e => (HCU.out.ne_map hm).2.1 e.symm)
      have ht3 := ht2.far (U := fun x => x = hb) ((Kept.refl (fun x => x = hb) w2).setCell (p := ⟨hb, 2, none⟩) (.inr rfl) (.slice (some ⟨g1, 0, none⟩) (G.length + 1) cap1)) (fun b es cl hm e => by subst e; unfold Blk at hb2; rw [hm] at hb2; cases hb2)
      have KF := hid ((KWU.out.trans (kk2.mono (T := T) (fun b _ e => HCU.out.ownT b e.symm))).setCell (p := ⟨hb, 2, none⟩) (.inr HC.out.hT) (.slice (some ⟨g1, 0, none⟩) (G.length + 1) cap1))
      have HQF := hid hq
      have HTF := hid ht3
      clear hq kk2 hb2 ht2 ht3 hown2 hgrow2 hat2 hlt2 x2 f2
      go_wp2_with fail
      go_meet
      case rel =>
        go_light
        obtain ⟨_, rfl, rfl, rfl⟩ := HQ.out
        rw [HGG.out]
        exact ⟨_, _, rfl, HQF.out, HTF.out, KF.out⟩
    --/F1
  case rest =>
    obtain ⟨vG1, vs1, rfl, hc1, ht1, k1⟩ := hcut
    obtain ⟨w1, hw1⟩ : ∃ w1, w1 = wc := ⟨_, rfl⟩
    subst hw1
    have hlk2 := run_lookup_place (P := Try.prog) (w := w1) Try.underlying39 Try.underlying9 (zero3 w1) ht1.my sym
    obtain ⟨pl2, hpl2⟩ : ∃ pl, place S.Y sym = pl := ⟨_, rfl⟩
    rw [hpl2] at hlk2
    obtain ⟨Y1, hY1⟩ : ∃ Y1, withN S.Y sym = Y1 := ⟨_, rfl⟩
    have HPS := hid (And.intro hpl2 (And.intro hY1 HS.out))
    have c1 := hc1.c1
    have HC1 := hid hc1
    have HT1 := hid ht1
    have K1 := hid k1
    clear hpl2 hY1 hc1 ht1 k1 hlk c0 HC HT
    go_upto_if 57 with fail
    go_cut [7] (fun s7 wc => s7 = .int .i64 s ∧ Core T wc hb fb yb qb G1 vG1 vs1 ∧ Tabs T wc fb yb qb F1 Y1 S.Q ∧ Kept T w wc)
    case first =>
      --F2
      as_aux_lemma =>
      cases pl2 with
      | some j =>
        go_wp2_with fail
        go_meet
        case rel =>
          go_light
          obtain ⟨q1, q2, q3⟩ := HPS.out
          have e2 : Y1 = S.Y := by rw [← q2]; simp [withN, q1]
          have e3 : s = j := by rw [← q3]; simp [placeN, q1]
          subst e2 e3
          exact ⟨rfl, HC1.out, HT1.out, K1.out⟩
      | none =>
        obtain ⟨Y, hYY⟩ : ∃ Y, S.Y = Y := ⟨_, rfl⟩
        obtain ⟨q1, q2, q3⟩ := HPS.out
        have HMY := hid (show w1.heap[yb]? = some (.map (mapOf Y) Y.length) by rw [← hYY]; exact HT1.out.my)
        have hms : (mapOf Y).size = Y.length := size_mapOf Y
        have HQ := hid (show place Y sym = none ∧ Y1 = Y ++ [sym] ∧ s = Y.length by
          refine ⟨by rw [← hYY]; exact q1, by rw [← q2, ← hYY]; simp [withN, q1], by rw [← q3, ← hYY]; simp [placeN, q1]⟩)
        clear q1 q2 q3
        have hlt : hb < w1.heap.size := HC1.out.blk.lt
        have hne := (HC1.out.ne_map HT1.out.my).1
        go_wp2_with ((with_reducible (refine at_op (.call { callee := .builtin .len, args := #[.tmp 61], argTypes := #[39] }) rfl ?_)); refine wpList_len_map rfl (.tmp 61) 39 9 3 (by rfl) Try.underlying39 yb Y.length (mapOf Y) (by rfl) HMY.out ?_; rw [hms])
        go_region_held3 (fun w' => w'.cell? ⟨hb, 1, none⟩ = some (.map (some yb))) (go_keep) (first | (go_at_call 16; refine (clone16 sym _ z2).mono ?_; rintro e wz ⟨rfl, hbz⟩; have kz : Kept (fun _ => False) w1 wz := (Kept.refl _ _).drew.trans (Kept.of_below hbz); have y0 := (kz.cell (p := ⟨hb, 1, none⟩) hlt id).trans c1; obtain ⟨wu, hup, hmu, ku, hsu⟩ := upd_place (P := Try.prog) (w := wz) Try.underlying39 Try.underlying9 ((kz.block yb (Array.getElem?_eq_some_iff.1 HMY.out).1 id).trans HMY.out) sym HQ.out.1; have y1 := (ku.cell (p := ⟨hb, 1, none⟩) (Nat.lt_of_lt_of_le hlt kz.size) hne).trans y0; have HMU := hid hmu; have KU := hid ku; have KZ := hid kz; clear hbz kz ku hmu))
        go_wp2_with fail
        go_meet
        case rel =>
          go_light
          have hcz := HC1.out.kept KZ.out (fun _ _ _ => id)
          have htz := HT1.out.kept KZ.out (fun _ _ _ => id)
          have hcu := hcz.mapped htz.my KU.out
          have htu := htz.mappedY KU.out HMU.out
          obtain ⟨_, rfl, rfl⟩ := HQ.out
          exact ⟨rfl, hcu, htu, K1.out.trans ((KZ.out.mono (T := T) (fun _ _ h => h.elim)).trans (KU.out.mono (T := T) (fun b _ e => by subst e; exact HT1.out.ty)))⟩
      --/F2
    case rest =>
      obtain ⟨rfl, hc2, ht2, k2⟩ := hcut
      obtain ⟨w2, hw2⟩ : ∃ w2, w2 = wc := ⟨_, rfl⟩
      subst hw2
      obtain ⟨W, c, d, hfl, hGf, hGl, hsl, hcl, hdl, hWl, hWb, hstep, hadd⟩ := step_at hF HPL.out.2.1 HPL.out.2.2.1 HPL.out.2.2.2 HPS.out.2.1 HS.out
      obtain ⟨go, co, a, cap, hvG, hv⟩ := rec_open hc2 hfl hGf
      subst hvG
      obtain ⟨x2, x3, g0, g1, g2, _, _, _⟩ := rec_cells hc2 hfl hGf hv
      have hltf : (f : Int) < G1.length := Int.ofNat_lt.2 hfl
      have hf0 : (0 : Int) ≤ f := Int.natCast_nonneg f
      have hs0 : (0 : Int) ≤ s := Int.natCast_nonneg s
      have HC2 := hid hc2
      have HT2 := hid ht2
      have K2 := hid k2
      have HV := hid hv
      have HGF := hid hGf
      have HWB := hid hWb
      have HSTEP := hid hstep
      have HADD := hid hadd
      clear hc2 ht2 k2 hv hGf hWb hstep hadd hlk2 c1 HC1 HT1 K1 HPL HPS HS g1 g2
      go_wp2_with fail
      go_quiet (fail)
      obtain ⟨w3, hw3⟩ : ∃ w3, w3 = w2.drewN nq := ⟨_, rfl⟩
      rw [← hw3]
      have HC3 := hid (show Core T w3 hb fb yb qb G1 (.slice (some ⟨go, 0, none⟩) G1.length co) vs1 by rw [hw3]; exact HC2.out.drewN nq)
      have HT3 := hid (show Tabs T w3 fb yb qb F1 Y1 S.Q by rw [hw3]; exact HT2.out.drewN nq)
      have K3 := hid (show Kept T w w3 by rw [hw3]; exact K2.out.drewN nq)
      obtain ⟨z2, z3, k0, k1, k2, fk0, _, _⟩ := rec_cells HC3.out hfl HGF.out HV.out
      obtain ⟨q, hq⟩ : ∃ q, s / 64 = q := ⟨_, rfl⟩
      have hq' : (s : Int) / 64 = (q : Int) := div64 hq
      obtain ⟨B, hB⟩ : ∃ B, 2 ^ (s % 64) = B := ⟨_, rfl⟩
      have hB' : IntKind.u64.wrap (2 ^ (s % 64)) = (B : Int) := by rw [← hB]; exact wrap_bit s
      simp only [hq', hB']
      have HB := hid hB
      have HQ := hid hq
      have hq128 : q ≤ 128 := q128 hq hsl hN
      clear hw3 x2 x3 g0 HC2 HT2 K2 hB hB' hq hq'
      go_upto_region 12 with fail
      go_cut [95] (fun s95 wc => s95 = .bool (decide (W.length ≤ q ∧ q ≤ c)) ∧ wc = w3)
      case first =>
        --F3
        as_aux_lemma =>
        by_cases h1 : W.length ≤ q
        · by_cases h2 : q ≤ c
          · go_wp2_with fail
            go_meet
            case rel => go_light; exact ⟨by simp [h1, h2], rfl⟩
          · go_wp2_with fail
            go_meet
            case rel => go_light; exact ⟨by simp [h1, h2], rfl⟩
        · go_wp2_with fail
          go_meet
          case rel => go_light; exact ⟨by simp [h1], rfl⟩
        --/F3
      case rest =>
        obtain ⟨rfl, hwc⟩ := hcut
        subst hwc
        obtain ⟨w3, hw3⟩ : ∃ w3, w3 = wc := ⟨_, rfl⟩
        subst hw3
        obtain ⟨i51, hi51, hz510, hz511, hz512⟩ := info_parts Try.info51
        obtain ⟨W1, hW1⟩ : ∃ W1, wide W c s = W1 := ⟨_, rfl⟩
        have HW1 := hid hW1
        clear hW1
        go_upto_if 95 with fail
        go_cut [] (fun wc => ∃ a cap vs2, Core T wc hb fb yb qb (G1.set f (W1, c, d)) (.slice (some ⟨go, 0, none⟩) G1.length co) vs2 ∧ vs2[f]? = some (.slice a W1.length cap) ∧ Tabs T wc fb yb qb F1 Y1 S.Q ∧ Kept T w wc)
        case first =>
          --F4
          by_cases hA : W.length ≤ q ∧ q ≤ c
          · have hd : decide (W.length ≤ q ∧ q ≤ c) = true := decide_eq_true hA
            have HCW := hid (count_wrap q W.length hA.1 hq128)
            have HROW3 := hid (rec_row HC3.out hfl HGF.out HV.out)
            have ao : (Value.slice a W.length cap).ownBlock ≠ some go := (HC3.out.ne_own (g := go) rfl).2 f _ HV.out
            have lgo : go < w3.heap.size := (own_lt HC3.out.own rfl).2
            have hk1 : 0 < q + 1 - W.length := Nat.sub_pos_of_lt (Nat.lt_succ_of_le hA.1)
            have hk2 : W.length + (q + 1 - W.length) ≤ 129 := by rw [Nat.add_sub_cancel' (Nat.le_succ_of_le hA.1)]; exact Nat.succ_le_succ hq128
            have hk3 : (W.length + (q + 1 - W.length)) * 8 ≤ 140737488355328 := Nat.le_trans (Nat.mul_le_mul_right 8 hk2) (by decide)
            have hk4 : W.length + (q + 1 - W.length) ≤ maxLen := Nat.le_trans hk2 (by decide)
            rw [hd]
            have HA := hid hA
            clear hd hA
            go_wp2_with fail
            go_region_law (refine step_append_zeros (by rfl) (.tmp 100) (.tmp 108) 45 3 (by rfl) 51 i51 (.int .u64 0) 8 .i64 Try.underlying45 Try.underlying3 hi51 hz510 hz511 hz512 rfl rfl (.slice a W.length cap) W.length (q + 1 - W.length) (words W) (by simp [Act.eval, Act.put]) (by simp [Act.eval, Act.put]; exact HCW.out) HROW3.out.drew hk1 hk4 hk3 ?_; intro g2 cap2 w4 hown2 hgrow hat2 hlt2; have y1 : w4.cell? ⟨go, f * 3, none⟩ = some (.slice a W.length cap) := (hgrow.cell_far ⟨go, f * 3, none⟩ lgo (Ne.symm ao)).trans k0; have y2 : w4.frozen? ⟨go, f * 3, none⟩ = false := (hgrow.frozen_far ⟨go, f * 3, none⟩ lgo (Ne.symm ao)).trans fk0; have HR := hid (widened (s := s) HC3.out HT3.out K3.out HTT.out hfl HGF.out HV.out HQ.out HA.out hown2 hgrow hat2); clear hown2 hgrow hat2)
            all_goals
              go_wp2_with fail
              go_meet
              case rel =>
                go_light
                have hr := HR.out
                rw [HW1.out] at hr
                exact hr
          · have hd : decide (W.length ≤ q ∧ q ≤ c) = false := decide_eq_false hA
            rw [hd]
            go_wp2_with fail
            go_meet
            case rel =>
              go_light
              have e : W1 = W := by rw [← HW1.out]; exact wide_no HQ.out hA
              rw [e]
              exact ⟨a, cap, vs1, by rw [set_same hfl HGF.out]; exact HC3.out, HV.out, HT3.out, K3.out⟩
          --/F4
        case rest =>
          obtain ⟨a1, cap1, vs2, hc4, hv4, ht4, kk4⟩ := hcut
          obtain ⟨w4, hw4⟩ : ∃ w4, w4 = wc := ⟨_, rfl⟩
          subst hw4
          obtain ⟨G2, hG2⟩ : ∃ G2, G1.set f (W1, c, d) = G2 := ⟨_, rfl⟩
          rw [hG2] at hc4
          have hG2l : G2.length = G1.length := by rw [← hG2]; exact List.length_set
          have hfl2 : f < G2.length := by rw [hG2l]; exact hfl
          have hG2f : G2[f] = (W1, c, d) := set_at hG2 hfl2
          rw [← hG2l] at hc4
          obtain ⟨Q, hQ⟩ : ∃ Q, S.Q = Q := ⟨_, rfl⟩
          rw [hQ] at ht4
          obtain ⟨z2, z3, k0, _, k2, _, _, _⟩ := rec_cells hc4 hfl2 hG2f hv4
          have HWB1 := hid (show ∀ x ∈ W1, x < 2 ^ 64 by rw [← HW1.out]; exact wide_mem HWB.out)
          obtain ⟨r, hr⟩ : ∃ r, (recD f s W1 c d Q).1 = r := ⟨_, rfl⟩
          have HST := hid (show (S.step fund sym).1 = r ∧ S.add fund sym = { F := F1, Y := Y1, G := G2.set f (recD f s W1 c d Q).2.1, Q := (recD f s W1 c d Q).2.2 } from
            ⟨by rw [HSTEP.out, HW1.out, hQ, hr], by rw [HADD.out, HW1.out, hQ, ← hG2, List.set_set]⟩)
          have HR := hid hr
          have HC4 := hid hc4
          have HV4 := hid hv4
          have HT4 := hid ht4
          have K4 := hid kk4
          have HG2F := hid hG2f
          clear hc4 hv4 ht4 kk4 hG2 hG2f HSTEP HADD k1 HC3 HT3 K3 HV HGF hltf hQ hr HWB
          go_upto_if 118 with fail
          go_cut [8] (fun s8 wc => s8 = .bool r ∧ Mid T w wc hb fb yb qb go co f c F1 Y1 G2 (recD f s W1 c d Q))
          case first =>
            by_cases hq1 : q < W1.length
            · --F5
              as_aux_lemma =>
              obtain ⟨g, x, ha1, hx, hgq, hfq, hand, hor, hz, hsb⟩ := word_at HC4.out hfl2 HG2F.out HV4.out HWB1.out HQ.out HB.out hq1
              rw [ha1] at k0
              have hmid := mid_bit HC4.out HT4.out K4.out hfl2 HG2F.out (by rw [← ha1]; exact HV4.out) HQ.out hq1 hsb
              have hlk4 := run_lookup_pair (HT4.out.mq) f s
              obtain ⟨b1, hb1⟩ : ∃ b1, hasB W1 s = b1 := ⟨_, rfl⟩
              obtain ⟨b2, hb2⟩ : ∃ b2, hasQ Q (f, s) = b2 := ⟨_, rfl⟩
              rw [hb1, hb2, HR.out] at hmid
              rw [hb1] at hz
              rw [hb2] at hlk4
              have HM := hid hmid
              have hqi : (q : Int) < W1.length := Int.ofNat_lt.2 hq1
              have hq0 : (0 : Int) ≤ q := Int.natCast_nonneg q
              clear hx hb1 hb2 ha1 hmid hsb HWB1 z2 HV4 HC4 HT4 K4
              cases b1 with
              | true =>
                go_wp2_with fail
                go_meet
                case rel => go_light; exact ⟨by rw [HM.out.1]; rfl, HM.out.2⟩
              | false =>
                by_cases hd0 : 0 < d
                · have hd1 : (0 : Int) < d := Int.ofNat_lt.2 hd0
                  have HDD := hid (decide_eq_true hd0)
                  go_wp2_with ((with_reducible (refine at_op (.build 55 #[(0, .tmp 143), (1, .tmp 144)]) rfl ?_)); refine wpList_build_pair rfl (.tmp 143) (.tmp 144) (by rfl) f s (by rfl) (by rfl) ?_)
                  go_meet
                  case rel => go_light; exact ⟨by rw [HM.out.1, HDD.out]; simp, HM.out.2⟩
                · have hd1 : ¬ (0 : Int) < d := fun h => hd0 (Int.ofNat_lt.1 h)
                  have HDD := hid (decide_eq_false hd0)
                  go_wp2_with fail
                  go_meet
                  case rel => go_light; exact ⟨by rw [HM.out.1, HDD.out]; rfl, HM.out.2⟩
              --/F5
            · --F6
              as_aux_lemma =>
              have hqi : ¬ (q : Int) < W1.length := fun h => hq1 (Int.ofNat_lt.1 h)
              clear k0 z2 k2
              go_wp2_with ((with_reducible (refine at_op (.build 55 #[(0, .tmp 159), (1, .tmp 160)]) rfl ?_)); refine wpList_build_pair rfl (.tmp 159) (.tmp 160) (by rfl) f s (by rfl) (by rfl) ?_)
              obtain ⟨w5, hw5⟩ : ∃ w5, w5 = w4.alloc (.cells #[.int .i64 (f : Int), .int .i64 (s : Int)] 55) := ⟨_, rfl⟩
              rw [← hw5]
              have hbn := Blk.new w4 #[.int .i64 (f : Int), .int .i64 (s : Int)] 55
              rw [← hw5] at hbn
              obtain ⟨pb, hpb⟩ : ∃ pb, pb = w4.heap.size := ⟨_, rfl⟩
              rw [← hpb] at hbn
              rw [← hpb]
              have HC5 := hid (show Core T w5 hb fb yb qb G2 (.slice (some ⟨go, 0, none⟩) G2.length co) vs2 by rw [hw5]; exact HC4.out.alloc _)
              have HT5 := hid (show Tabs T w5 fb yb qb F1 Y1 Q by rw [hw5]; exact HT4.out.alloc _)
              have K5 := hid (show Kept T w w5 by rw [hw5]; exact K4.out.alloc _)
              have hp0 : w5.cell? ⟨pb, 0, none⟩ = some (.int .i64 (f : Int)) := by rw [hbn.cell]; rfl
              have hp1 : w5.cell? ⟨pb, 1, none⟩ = some (.int .i64 (s : Int)) := by rw [hbn.cell]; rfl
              have y3 := HC5.out.c3
              obtain ⟨b2, hb2⟩ : ∃ b2, hasQ Q (f, s) = b2 := ⟨_, rfl⟩
              have hlk5 : ∀ n, (Instr.lookup 40 (.map (some qb)) (.agg #[.int .i64 (f : Int), .int .i64 (s : Int)]) true).run Try.prog (w5.drewN n) = .ok (.tuple #[.agg #[], .bool b2]) (w5.drewN n) := fun n => by
                rw [run_lookup_pair (HT5.out.drewN n).mq f s, hb2]
              have HB2 := hid hb2
              clear hb2 hw5 hbn hpb HC4 HT4 K4 z3
              go_quiet (fail)
              obtain ⟨w6, hw6⟩ : ∃ w6, w6 = w5.drewN nq := ⟨_, rfl⟩
              rw [← hw6]
              have HC6 := hid (show Core T w6 hb fb yb qb G2 (.slice (some ⟨go, 0, none⟩) G2.length co) vs2 by rw [hw6]; exact HC5.out.drewN nq)
              have HT6 := hid (show Tabs T w6 fb yb qb F1 Y1 Q by rw [hw6]; exact HT5.out.drewN nq)
              have K6 := hid (show Kept T w w6 by rw [hw6]; exact K5.out.drewN nq)
              have hp0' : w6.cell? ⟨pb, 0, none⟩ = some (.int .i64 (f : Int)) := by rw [hw6]; exact hp0
              have hp1' : w6.cell? ⟨pb, 1, none⟩ = some (.int .i64 (s : Int)) := by rw [hw6]; exact hp1
              have y3' := HC6.out.c3
              clear hp0 hp1 y3 hlk5 HC5 HT5 K5 hw6
              cases b2 with
              | true =>
                go_wp2_with fail
                go_meet
                case rel =>
                  go_light
                  obtain ⟨e1, e2⟩ := mid_old HC6.out HT6.out K6.out hfl2 HG2F.out HQ.out hq1 HB2.out
                  rw [HR.out] at e1
                  exact ⟨by rw [e1], e2⟩
              | false =>
                obtain ⟨wu, hup, k2, fr2, hrr, hmid⟩ := pair_laid HC6.out HT6.out K6.out hfl2 HG2F.out HV4.out HQ.out hq1 HB2.out
                have HM := hid (And.intro hrr hmid)
                clear hrr hmid
                go_wp2_with fail
                go_region
                all_goals
                  go_wp2_with fail
                  go_meet
                  case rel =>
                    go_light
                    obtain ⟨e1, e2⟩ := HM.out
                    rw [HR.out] at e1
                    exact ⟨by rw [e1], e2⟩
              --/F6
          case rest =>
            --F7
            as_aux_lemma =>
            obtain ⟨rfl, hmid⟩ := hcut
            obtain ⟨w5, hw5⟩ : ∃ w5, w5 = wc := ⟨_, rfl⟩
            subst hw5
            obtain ⟨k1, fr1⟩ := mid_cells hmid hfl2
            have HM := hid hmid
            clear hmid k0 k2 z2 z3 HC4 HT4 K4 HV4
            cases r with
            | true =>
              go_wp2_with fail
              refine bodyPost_ret (v := .tuple #[.int .i64 f, .int .i64 s, .bool true]) (by simp [results, Try.results15, go_sem]) rfl ?_
              go_light
              obtain ⟨e1, e2⟩ := HST.out
              rw [e1, e2]
              exact ⟨rfl, mid_true HM.out hfl2 HR.out⟩
            | false =>
              go_wp2_with fail
              refine bodyPost_ret (v := .tuple #[.int .i64 f, .int .i64 s, .bool false]) (by simp [results, Try.results15, go_sem]) rfl ?_
              go_light
              obtain ⟨e1, e2⟩ := HST.out
              rw [e1, e2]
              exact ⟨rfl, mid_false HM.out hfl2 HR.out⟩
            --/F7

end Go.Proofs.Qxb6601932a
