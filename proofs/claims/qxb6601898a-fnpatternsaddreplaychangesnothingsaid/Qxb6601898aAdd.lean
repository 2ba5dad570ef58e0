import Derived.Test.Qxb6601898aPat
import Derived.Deep.RegionLaw
namespace Go.Proofs.Qxb6601898a
open Go.RowKit
set_option linter.unusedVariables false
set_option linter.unusedSimpArgs false

theorem Try.info9 : (Try.prog.info? 9).map (fun i => (i.zero, i.size, i.bytes)) = some (some (.string ByteArray.empty), 1, 16) := by kernel_rfl
theorem Try.info53 : (Try.prog.info? 53).map (fun i => (i.zero, i.size, i.bytes)) = some (some (.slice none 0 0), 1, 24) := by kernel_rfl
theorem Try.info55 : (Try.prog.info? 55).map (fun i => (i.zero, i.size, i.bytes)) = some (some (.agg #[.int .i64 0, .bool false]), 2, 16) := by kernel_rfl
theorem Try.zero3 (w : World) : (zeroValue 3).run Try.prog w = .ok (.int .i64 0) w := by kernel_rfl
theorem Try.q36 (w : World) (r : Option Nat) : (binOp .eql 36 (.map r) (.map none)).run Try.prog w = .ok (.bool r.isNone) w := run_eql_map_nil w _ _ _ r Try.underlying36

/-- 'm[s] = len(list)', s not there yet, at the operation. -/
theorem wpList_update_place {P : Program} {ops : Array Oper} {rest : List Oper} {o : Oper} {a : Act} {w : World} {Q : Exit → Act → World → Prop} (hg : o.guard = none) (m x v : Operand) (t : TypeId) (hop : o.op = Op.mapUpdate t m x v)
    (k e : TypeId) (ht : P.underlying t = some (.map k e)) (hk : P.underlying k = some .string) (b : Nat) (L : List ByteArray) (s : ByteArray) (hm : a.eval m = .map (some b)) (hx : a.eval x = .string s) (hv : a.eval v = .int .i64 (L.length : Int))
    (hb : w.heap[b]? = some (.map (mapOf L) L.length)) (hs : place L s = none)
    (hK : ∀ w', w'.heap[b]? = some (.map (mapOf (L ++ [s])) (L ++ [s]).length) → Kept (fun y => y = b) w w' → w'.heap.size = w.heap.size → wpList P ops Q rest (a.put o.dst undef) w') : wpList P ops Q (o :: rest) a w := by
  refine wpList_plain hg fun K hK' => ?_
  have hr := run_update_place (P := P) (t := t) (k := k) (e := e) ht hk hb s hs
  have hlt : b < w.heap.size := (Array.getElem?_eq_some_iff.1 hb).1
  unfold Oper.wp
  simp only [execOp, hop, hm, hx, hv, Sem.run_bind, hr, Result.andThen, Sem.run_pure]
  refine hK' _ _ (hK _ ?_ ⟨rfl, rfl, rfl, by simp, fun i hi hne => ?_⟩ (by simp))
  · simp [hlt]
  · show (w.heap.setIfInBounds b _)[i]? = _
    rw [Array.getElem?_setIfInBounds, if_neg (fun e => hne e.symm)]

theorem cell_one_new' (w : World) (v : Value) (t : TypeId) (B : Nat) (hB : w.heap.size = B) : ∀ (j : Nat) (u : Value), [v][j]? = some u → (w.alloc (.cells #[v] t)).cell? ((⟨B, 0, none⟩ : Addr).add j) = some u := by
  subst hB
  exact cell_one_new w v t

theorem modify_map (T : Pats) (a : Nat) (h : a < T.length) (id : Int) (js : Bool) : (T.modify a fun x => (x.1, ownP x.2 id js)).map (·.1) = T.map (·.1) ∧ (T.modify a fun x => (x.1, ownP x.2 id js)).map (·.2) = (T.map (·.2)).set a (ownP T[a].2 id js) := by
  constructor
  · apply List.ext_getElem?
    intro i
    simp only [List.getElem?_map, List.getElem?_modify]
    cases T[i]? with
    | none => simp
    | some x => by_cases e : a = i <;> simp [e]
  · apply List.ext_getElem?
    intro i
    simp only [List.getElem?_map, List.getElem?_modify, List.getElem?_set, List.length_map]
    by_cases e : a = i
    · subst e; simp [h]
    · simp [e]

set_option maxRecDepth 100000 in
set_option maxHeartbeats 2000000 in
theorem add_any (T : Nat → Prop) (pb : Nat) (S : Pats) (p : ByteArray) (id : Int) (js : Bool) (w : World) (h : PatAt T w pb S) (hT : ∀ b, w.heap.size ≤ b → T b) (hS : S.length ≤ 8192) (hO : ∀ x ∈ S, x.2.length ≤ 8192) :
    Calls Try.prog 14 #[.pointer (some ⟨pb, 0, none⟩), .string p, .int .i64 id, .bool js] w fun e w' => e = .returned (.tuple #[]) ∧ PatAt T w' pb (addP S p id js) ∧ Kept T w w' := by
  obtain ⟨vl, vo, mo, vs, hp⟩ := h
  have HP := hid hp
  have c2 := hp.c2
  have f2 := hp.blk.frozen 2
  have lpb := hp.blk.lt
  have pB := hp.pB
  have hq := Try.q36
  have hmm := @run_makeMap Try.prog
  clear hp
  go_enter Try.func14, Try.ntmps14
  go_upto_if 16 with fail
  go_cut [] (fun wc => ∃ mb, Pat T wc pb (S.map (·.1)) (S.map (·.1)) (S.map (·.2)) vl vo (some mb) vs ∧ Kept T w wc)
  case first =>
    cases mo with
    | none =>
      go_wp2_with fail
      go_meet
      case rel =>
        refine ⟨w.heap.size, ?_, ?_⟩
        · rw [← setCell_alloc_swap w pb 2 _ _ HP.out.blk.lt]; exact HP.out.made (hT _ (Nat.le_refl _))
        · exact ((Kept.refl _ _).setCell (p := ⟨pb, 2, none⟩) (.inr pB) _).alloc _
    | some mb =>
      go_wp2_with fail
      go_meet
      case rel => exact ⟨mb, HP.out, Kept.refl _ _⟩
  case rest =>
    obtain ⟨mb, hp, k0⟩ := hcut
    obtain ⟨w0, hw0⟩ : ∃ w0, w0 = wc := ⟨_, rfl⟩
    subst hw0
    obtain ⟨hmB, hmap⟩ : T mb ∧ w0.heap[mb]? = some (.map (mapOf (S.map (·.1))) (S.map (·.1)).length) := by
      rcases hp.map with ⟨h6, _⟩ | ⟨mb', h6, h7, h8⟩
      · cases h6
      · cases h6; exact ⟨h7, h8⟩
    have hlk := run_lookup_place (P := Try.prog) (w := w0) Try.underlying36 Try.underlying9 (Try.zero3 w0) hmap p
    obtain ⟨pl, hpl⟩ : ∃ pl, place (S.map (·.1)) p = pl := ⟨_, rfl⟩
    rw [hpl] at hlk
    have HPL := hid hpl
    have HMAP := hid hmap
    have c2 := hp.c2
    have HP := hid hp
    have hT0 := hid (show ∀ b, w0.heap.size ≤ b → T b from fun b hb => hT b (Nat.le_trans k0.size hb))
    clear hq hmm hp hpl hmap f2 lpb
    have HT := hid hT
    clear hT
    go_upto_if 31 with fail
    go_cut [8] (fun s wc => ∃ vl vo vs, s = .int .i64 (placeP S p : Nat) ∧ Pat T wc pb ((withP S p).map (·.1)) ((withP S p).map (·.1)) ((withP S p).map (·.2)) vl vo (some mb) vs ∧ Kept T w wc)
    case first =>
      by_cases hin : placeP S p < S.length
      · have e : pl = some (placeP S p) := by rw [← HPL.out, place_map, if_pos hin]
        subst e
        go_wp2_with fail
        go_meet
        case rel => exact ⟨vl, vo, vs, by simp, by rw [withP_old S p hin]; exact HP.out, k0⟩
      · have e : pl = none := by rw [← HPL.out, place_map, if_neg hin]
        subst e
        obtain ⟨e1, e2⟩ := withP_new S p hin
        have E1 := hid e1
        have E2 := hid e2
        obtain ⟨L, hL⟩ : ∃ L, S.map (·.1) = L := ⟨_, rfl⟩
        obtain ⟨O, hO2⟩ : ∃ O, S.map (·.2) = O := ⟨_, rfl⟩
        have HE1 := hid (show (withP S p).map (·.1) = L ++ [p] by rw [E1.out, ← hL]; simp)
        have HE2 := hid (show (withP S p).map (·.2) = O ++ [[]] by rw [E1.out, ← hO2]; simp)
        have hlen : L.length = S.length := by rw [← hL]; simp
        have hlen2 : O.length = S.length := by rw [← hO2]; simp
        have HE3 := hid (show placeP S p = L.length by rw [E2.out, hlen])
        have hplace : place L p = none := by rw [← hL]; exact HPL.out
        have HP2 := HP.out
        have HM2 := HMAP.out
        rw [hL, hO2] at HP2
        rw [hL] at HM2
        clear HP HMAP HPL
        have HP := hid HP2
        have HMAP := hid HM2
        clear HP2 HM2 hL hO2 E1 E2
        obtain ⟨al, cl, hvl⟩ := own_form HP.out.list
        obtain ⟨ao, co, hvo⟩ := own_form HP.out.own
        subst hvl hvo
        obtain ⟨i9, hi9, hz90, hz91, hz92⟩ := info_parts Try.info9
        obtain ⟨i53, hi53, hz530, hz531, hz532⟩ := info_parts Try.info53
        have c0 := HP.out.c0
        have HPN := hid hplace
        have HL1 := hid hlen
        have HL2 := hid hlen2
        have nb : L.length + 1 ≤ 8193 := by omega
        have nb2 : O.length + 1 ≤ 8193 := by omega
        clear hlen hlen2 hplace hO
        go_wp2_with ((with_reducible (refine at_op (.mapUpdate 36 (.tmp 40) (.tmp 41) (.tmp 42)) rfl ?_)); refine wpList_update_place rfl (.tmp 40) (.tmp 41) (.tmp 42) 36 (by rfl) 9 3 Try.underlying36 Try.underlying9 mb L p (by rfl) (by rfl) (by rfl) HMAP.out HPN.out ?_)
        intro w1 hm1 k1 sz1
        have hp1 := HP.out.mapped (M' := L ++ [p]) k1 (by simpa using hm1)
        have hT1 := hid (show ∀ b, w1.heap.size ≤ b → T b from fun b hb => hT0.out b (by omega))
        have k01 := k0.trans (k1.mono (T := T) (fun b _ e => by subst e; exact hmB))
        have d0 := hp1.c0
        have HP1 := hid hp1
        clear HP HMAP hp1 c0 c2 hlk sz1 hm1 k1
        go_wp2_with (at_builtin; refine wpList_append_lies _ rfl (.tmp 47) (.tmp 49) 28 rfl 0 9 i9 (.string ByteArray.empty) 1 16 Try.underlying28 hi9 hz90 hz91 hz92 (by rfl) (by decide) (.slice al L.length cl) L.length (L.map Value.string) (by rfl) ((HP1.out.alloc _).list) ⟨w1.heap.size, 0, none⟩ 1 1 [.string p] (by rfl) rfl (cell_one_new _ _ _) (by intro u hu; simp at hu; subst hu; rfl) (by decide) (by unfold maxLen; omega) (by omega) (Nat.zero_le _) (w1.heap.size + 1) (by simp) ?_)
        intro g1 cap1 w2 hown2 hgrow2 hat2 hlt2
        have hq2 := (HP1.out.alloc (.cells #[.string p] 9)).listed (L' := L ++ [p]) (Kept.of_grown hgrow2) (by simpa using hown2) (fun g hg => by
          cases hg
          rcases hat2 with h | h
          · exact HP1.out.listT _ h
          · exact hT1.out g1 (by omega))
        have kk2 : Kept T w1 w2 := ((Kept.refl T w1).alloc (.cells #[.string p] 9)).trans ((Kept.of_grown hgrow2).mono (fun b _ e => HP1.out.listT b e.symm))
        have b2 := hq2.blk
        have lb2 : Blk w2 pb #[.slice al L.length cl, .slice ao O.length co, .map (some mb)] 38 := (HP1.out.alloc (.cells #[.string p] 9)).blk.kept (Kept.of_grown hgrow2) (fun e => own_ne_blk (HP1.out.alloc (.cells #[.string p] 9)).list (HP1.out.alloc (.cells #[.string p] 9)).blk (by decide) e.symm)
        have x0 : w2.cell? ⟨pb, 0, none⟩ = some (.slice al L.length cl) := by rw [lb2.cell]; rfl
        have x1 : w2.cell? ⟨pb, 1, none⟩ = some (.slice ao O.length co) := by rw [lb2.cell]; rfl
        have y0 := lb2.frozen 0
        have HQ2 := hid hq2
        have k02 := k01.trans (kk2.trans ((Kept.refl T w2).setCell (p := ⟨pb, 0, none⟩) (.inr pB) (.slice (some ⟨g1, 0, none⟩) (L.length + 1) cap1)))
        have hT2 := hid (show ∀ b, w2.heap.size ≤ b → T b from fun b hb => hT1.out b (Nat.le_trans kk2.size hb))
        clear hq2 hown2 hgrow2 hat2 b2 lb2 HP1 d0 kk2 k01
        go_wp2_with (at_builtin; refine wpList_append_lies _ rfl (.tmp 57) (.tmp 58) 35 rfl 0 53 i53 (.slice none 0 0) 1 24 Try.underlying35 hi53 hz530 hz531 hz532 (by rfl) (by decide) (.slice ao O.length co) O.length vs (by rfl) ((HQ2.out.alloc _).own) ⟨w2.heap.size, 0, none⟩ 1 1 [.slice none 0 0] (by rfl) rfl (cell_one_new' _ _ _ _ (by simp)) (by intro u hu; simp at hu; subst hu; rfl) (by decide) (by unfold maxLen; omega) (by omega) (Nat.zero_le _) (w2.heap.size + 1) (by simp) ?_)
        intro g2 cap2 w3 hown3 hgrow3 hat3 hlt3
        have hq3 := (HQ2.out.alloc (.cells #[.slice none 0 0] 53)).owned (Kept.of_grown hgrow3) hown3 (fun g hg => by
          cases hg
          rcases hat3 with h | h
          · exact HQ2.out.ownT _ h
          · exact hT2.out g2 (by omega))
        have lb3 : Blk w3 pb _ 38 := (HQ2.out.alloc (.cells #[.slice none 0 0] 53)).blk.kept (Kept.of_grown hgrow3) (fun e => own_ne_blk (HQ2.out.alloc (.cells #[.slice none 0 0] 53)).own (HQ2.out.alloc (.cells #[.slice none 0 0] 53)).blk (by decide) e.symm)
        have z1 : w3.cell? ⟨pb, 1, none⟩ = some (.slice ao O.length co) := by rw [lb3.cell]; rfl
        have u1 := lb3.frozen 1
        have HQ3 := hid hq3
        have k03 := (k02.alloc (.cells #[.slice none 0 0] 53)).trans (((Kept.of_grown hgrow3).mono (T := T) (fun b _ e => HQ2.out.ownT b e.symm)).setCell (p := ⟨pb, 1, none⟩) (.inr pB) (.slice (some ⟨g2, 0, none⟩) (O.length + 1) cap2))
        clear hq3 hown3 hgrow3 hat3 lb3 HQ2 x0 x1 y0 k02
        go_wp2_with fail
        go_meet
        case rel =>
          have e := HQ3.out
          rw [← HE1.out, ← HE2.out] at e
          exact ⟨_, _, _, by rw [HE3.out], e, k03⟩
    case rest =>
      obtain ⟨vl1, vo1, vs1, rfl, hp1, k1⟩ := hcut
      have hlt1 := withP_lt S p
      have hadd := addP_eq S p id js
      have hO1 : ∀ x ∈ withP S p, x.2.length ≤ 8192 := by
        by_cases hin : placeP S p < S.length
        · rw [withP_old S p hin]; exact hO
        · rw [(withP_new S p hin).1]
          intro x hx
          rcases List.mem_append.1 hx with hx | hx
          · exact hO x hx
          · simp at hx; subst hx; simp
      obtain ⟨at_, hat⟩ : ∃ a, placeP S p = a := ⟨_, rfl⟩
      obtain ⟨S1, hS1⟩ : ∃ T, withP S p = T := ⟨_, rfl⟩
      rw [hat, hS1] at hlt1 hadd
      rw [hS1] at hp1 hO1
      rw [hat]
      obtain ⟨w1, hw1⟩ : ∃ w1, w1 = wc := ⟨_, rfl⟩
      subst hw1
      have hOl : at_ < (S1.map (·.2)).length := by simpa using hlt1
      obtain ⟨va, hva, hrow⟩ := hp1.row at_ hOl
      have hSO : (S1.map (·.2))[at_] = S1[at_].2 := by simp
      have hlen : S1[at_].2.length ≤ 8192 := hO1 _ (List.getElem_mem hlt1)
      have hlS : S1.length ≤ 8193 := by
        rw [← hS1]
        by_cases hin : placeP S p < S.length
        · rw [withP_old S p hin]; omega
        · rw [(withP_new S p hin).1]; simp; omega
      have hrow' : w1.ownsRow 0 55 2 va S1[at_].2.length (flat S1[at_].2) := by rw [← hSO]; exact hrow
      obtain ⟨go, co, hvo, _, hgol, _⟩ := own_at hp1.own (by omega)
      obtain ⟨aa, ca, hvaf⟩ := own_form hrow'
      subst hvo hvaf
      have c1 := hp1.c1
      have ca1 : w1.cell? ⟨go, at_, none⟩ = some (.slice aa S1[at_].2.length ca) := by rw [hp1.own.cellAt at_ (by omega)]; exact hva
      have hlti : (at_ : Int) < (S1.map (·.2)).length := by omega
      have HADD := hid hadd
      have HVA := hid hva
      have HP1 := hid hp1
      have HROW := hid hrow'
      clear hadd hO hO1 hva hp1 hrow hrow' hSO hat hS1 c2 hlk HPL HMAP HP
      obtain ⟨ol, hol⟩ : ∃ ol, S1[at_].2 = ol := ⟨_, rfl⟩
      have HM := hid (show (addP S p id js).map (·.1) = S1.map (·.1) ∧ (addP S p id js).map (·.2) = (S1.map (·.2)).set at_ (ownP ol id js) by rw [HADD.out, ← hol]; exact modify_map S1 at_ hlt1 id js)
      have HOL := hid (show (S1.map (·.2))[at_]? = some ol by rw [← hol]; simp [hlt1])
      rw [hol] at hlen ca1
      have HVA' := HVA.out
      have HROW' := HROW.out
      rw [hol] at HVA' HROW'
      clear HVA HROW
      have HVA := hid HVA'
      have HROW := hid HROW'
      clear HVA' HROW' hol HADD
      go_wp2_with fail
      go_loopw [70] (fun s wr => ∃ i : Nat, i ≤ ol.length ∧ s = .int .i64 i ∧ (∀ j (hj : j < ol.length), j < i → ol[j].1 ≠ id) ∧ Pat T wr pb (S1.map (·.1)) (S1.map (·.1)) (S1.map (·.2)) vl1 (.slice (some ⟨go, 0, none⟩) (S1.map (·.2)).length co) (some mb) vs1 ∧ Kept T w wr)
        (fun s _ => ol.length - (intOf s).toNat)
      case atStart => exact ⟨0, Nat.zero_le _, rfl, fun j _ h => by omega, HP1.out, k1⟩
      case round =>
        obtain ⟨i, hi, rfl, hne, hpr, kr⟩ := hrel
        clear HP1 HROW c1 ca1
        have HNE := hid hne
        have HPR := hid hpr
        have lpb := hpr.blk.lt
        have lgo := (own_lt hpr.own rfl).2
        have hTr := hid (show ∀ b, wr.heap.size ≤ b → T b from fun b hb => HT.out b (Nat.le_trans kr.size hb))
        have c1 := hpr.c1
        obtain ⟨hat', hrow⟩ := hpr.rowOf HVA.out
        have hoe : (S1.map (·.2))[at_] = ol := by have := HOL.out; rw [List.getElem?_eq_getElem hat'] at this; exact Option.some.inj this
        rw [hoe] at hrow
        have ca1 : wr.cell? ⟨go, at_, none⟩ = some (.slice aa ol.length ca) := by rw [hpr.own.cellAt at_ (by omega)]; exact HVA.out
        clear hne hpr
        by_cases hlt : i < ol.length
        · obtain ⟨g, ca', hge, _, hgl, _⟩ := own_at hrow (by omega)
          cases hge
          have hgB : T g := HPR.out.rowT at_ _ g HVA.out rfl
          obtain ⟨ve, vb, he⟩ : ∃ a b, ol[i] = (a, b) := ⟨_, _, rfl⟩
          have e0 : wr.cell? ⟨g, i * 2, none⟩ = some (.int .i64 ve) := by rw [hrow.cellAt (i * 2) (by omega), (flat_at ol i hlt).1, he]
          have e1 : wr.cell? ⟨g, i * 2 + 1, none⟩ = some (.bool vb) := by rw [hrow.cellAt (i * 2 + 1) (by omega), (flat_at ol i hlt).2, he]
          have hii : (i : Int) < ol.length := by omega
          have hi0 : (0 : Int) ≤ i := by omega
          have ha0 : (0 : Int) ≤ at_ := by omega
          by_cases hid' : ve = id
          · have hb1 : (ve == id) = true := by simpa using hid'
            have f1 := hrow.frozenAt (i * 2 + 1)
            have HID := hid hid'
            have HE := hid he
            clear hid' he
            have HW := hid (HPR.out.rowWrite' HOL.out (i := i) hlt HVA.out (vb && js))
            have HF := hid (show ownP ol id js = ol.set i (ol[i].1, vb && js) by
              rw [ownP_hit ol id js i hlt (fun j hj => HNE.out j (by omega) hj) (by rw [HE.out]; exact HID.out), HE.out])
            have HOE := hid hoe
            clear hoe
            cases vb
            all_goals
              go_wp2_with fail
              go_region
              all_goals go_wp2_with fail
              all_goals refine bodyPost_ret (results_none rfl _ _ _) rfl ?_
              all_goals
                refine ⟨rfl, ⟨vl1, .slice (some ⟨go, 0, none⟩) (S1.map (·.2)).length co, some mb, vs1, ?_⟩, ?_⟩
                · rw [HM.out.1, HM.out.2, HF.out]
                  exact (HW.out.alloc _).drew
                · exact ((kr.setCell (p := ⟨g, i * 2 + 1, none⟩) (.inr hgB) _).alloc _).drew
          · have hb1 : (ve == id) = false := by simpa using hid'
            go_wp2_with fail
            go_roundw
            case rel => exact ⟨i + 1, by omega, by go_num, fun j hj hji => by
              by_cases e : j = i
              · subst e; rw [he]; exact hid'
              · exact HNE.out j hj (by omega), HPR.out.alloc _, kr.alloc _⟩
            case measure => simp [intOf]; omega
        · obtain rfl : i = ol.length := by omega
          obtain ⟨i55, hi55, hz550, hz551, hz552⟩ := info_parts Try.info55
          have ag : (Value.slice aa ol.length ca).ownBlock ≠ some pb := own_ne_blk hrow HPR.out.blk (by decide)
          have ao : (Value.slice aa ol.length ca).ownBlock ≠ some go := fun e => own_ne hrow HPR.out.own (by decide) go e rfl
          have fgo := HPR.out.own.frozenAt at_
          have ha0 : (0 : Int) ≤ at_ := by omega
          have HROWr := hid hrow
          have HOE := hid hoe
          have HFIN : Hid (∀ (g2 cap2 : Nat) (w2 : World), w2.ownsRow 0 55 2 (.slice (some ⟨g2, 0, none⟩) (ol.length + 1) cap2) (ol.length + 1) (flat ol ++ [.int .i64 id, .bool js]) → (wr.alloc (.cells #[.int .i64 id, .bool js] 55)).drew.grownBy w2 (Value.slice aa ol.length ca).ownBlock →
              ((Value.slice aa ol.length ca).ownBlock = some g2 ∨ g2 = wr.heap.size + 1) → PatAt T (w2.setCell ⟨go, at_, none⟩ (.slice (some ⟨g2, 0, none⟩) (ol.length + 1) cap2)) pb (addP S p id js) ∧ Kept T w (w2.setCell ⟨go, at_, none⟩ (.slice (some ⟨g2, 0, none⟩) (ol.length + 1) cap2))) := by
            intro g2 cap2 w2 h1 h2 h3
            have q1 := ((HPR.out.alloc (.cells #[.int .i64 id, .bool js] 55)).drew).rowApp' HOL.out HVA.out rfl (Kept.of_grown h2) h1 (fun g hg => by
              cases hg
              rcases h3 with h3 | h3
              · exact .inl h3
              · exact .inr (by simp; omega)) (fun g hg => by
              cases hg
              rcases h3 with h3 | h3
              · exact HPR.out.rowT at_ _ _ HVA.out h3
              · exact hTr.out g2 (by omega))
            refine ⟨⟨vl1, .slice (some ⟨go, 0, none⟩) (S1.map (·.2)).length co, some mb, vs1.set at_ (.slice (some ⟨g2, 0, none⟩) (ol.length + 1) cap2), ?_⟩, ?_⟩
            · rw [HM.out.1, HM.out.2, ownP_miss ol id js (fun j hj => HNE.out j hj hj)]
              exact q1
            · exact ((kr.alloc _).drew.trans ((Kept.of_grown h2).mono (fun b _ e => HPR.out.rowT at_ _ b HVA.out e.symm))).setCell (p := ⟨go, at_, none⟩) (.inr (HPR.out.ownT _ rfl)) _
          clear hrow hoe hlt hi
          go_wp2_with fail
          go_region_law ((refine step_append_lies _ (by rfl) (.tmp 106) (.tmp 110) 53 (by rfl) 0 55 i55 (.agg #[.int .i64 0, .bool false]) 2 16 Try.underlying53 hi55 hz550 hz551 hz552 rfl (by omega) (.slice aa ol.length ca) ol.length (flat ol) (by simp [Act.eval, Act.put]) ((HROWr.out.alloc _).drew) ⟨wr.heap.size, 0, none⟩ 1 1 [.int .i64 id, .bool js] (by simp [Act.eval, Act.put]) (by rfl) (World.news_of_block (cs := #[.int .i64 id, .bool js]) (t := 55) (fr := (0, 0)) (heap_alloc_new wr _)) (by simp [Value.oneCell']) (by omega) (by unfold maxLen; omega) (by omega) (Nat.zero_le _) (wr.heap.size + 1) (by simp) ?_; intro g2 cap2 w2 hown2 hgrow hat2 hlt2; have z1 := hid (hgrow.cell_far ⟨pb, 1, none⟩ (by simp; omega) (Ne.symm ag)); have z2 : w2.cell? ⟨go, at_, none⟩ = some (.slice aa ol.length ca) := (hgrow.cell_far ⟨go, at_, none⟩ (by simp; omega) (Ne.symm ao)).trans ((World.cell?_alloc_lt wr _ ⟨go, at_, none⟩ lgo).trans ca1); have z3 : w2.frozen? ⟨go, at_, none⟩ = false := (hgrow.frozen_far ⟨go, at_, none⟩ (by simp; omega) (Ne.symm ao)).trans ((World.frozen?_alloc_old wr _ ⟨go, at_, none⟩ (Nat.ne_of_lt lgo)).trans fgo); have z4 : w2.cell? ⟨pb, 1, none⟩ = some (.slice (some ⟨go, 0, none⟩) (S1.map (·.2)).length co) := (hgrow.cell_far ⟨pb, 1, none⟩ (by simp; omega) (Ne.symm ag)).trans ((World.cell?_alloc_lt wr _ ⟨pb, 1, none⟩ lpb).trans c1)))
          all_goals
            refine bodyPost_end (results_none rfl _ _ _) rfl ?_
            exact ⟨rfl, HFIN.out g2 cap2 w2 hown2 hgrow hat2⟩

end Go.Proofs.Qxb6601898a
