/-
  The first law walked.
-/
import Derived.Test.Qxb6601932aWrap
import Derived.Deep.DeepCutAuto
import Derived.Deep.Light
import Derived.OwnWalk
namespace Go.Proofs.Qxb6601932a
open Go.RowKit
set_option linter.unusedVariables false
set_option linter.unusedSimpArgs false

theorem Try.info9 : (Try.prog.info? 9).map (fun i => (i.zero, i.size, i.bytes)) = some (some (.string ByteArray.empty), 1, 16) := by kernel_rfl

/-- What stands ahead of each round. -/
structure Inv1 (T : Nat → Prop) (w1 wr : World) (hb B l : Nat) (S : St) (s4 s5 : Value) : Prop where
  e4 : s4 = .slice (some ⟨B + 4, 0, none⟩) S.F.length l
  e5 : s5 = .slice (some ⟨B + 4 + 1, 0, none⟩) S.Y.length l
  o4 : wr.ownsRow 0 9 1 (.slice (some ⟨B + 4, 0, none⟩) S.F.length l) S.F.length (S.F.map Value.string)
  o5 : wr.ownsRow 0 9 1 (.slice (some ⟨B + 4 + 1, 0, none⟩) S.Y.length l) S.Y.length (S.Y.map Value.string)
  held : HeldAt T wr hb S
  k : Kept (fun b => B ≤ b) w1 wr
  sz : B + 4 + 2 ≤ wr.heap.size

theorem inv1_start (T : Nat → Prop) (w1 w2 : World) (B l : Nat) (hT : ∀ b, T b → b ≠ B + 4 ∧ b ≠ B + 4 + 1) (hl : l ≤ 4096) (hB : w1.heap.size = B) (hh : HeldAt T w2 (B + 3) St.empty) (hk : Kept (fun _ => False) w1 w2) (hs : w2.heap.size = B + 4) :
    Inv1 T w1 ((w2.alloc (.cells (madeCells #[.string ByteArray.empty] l) 9)).alloc (.cells (madeCells #[.string ByteArray.empty] l) 9)) (B + 3) B l St.empty (.slice (some ⟨B + 4, 0, none⟩) 0 l) (.slice (some ⟨B + 4 + 1, 0, none⟩) 0 l) := by
  have m4 := made_own w2 9 (.string ByteArray.empty) l rfl hl
  have m5 := made_own (w2.alloc (.cells (madeCells #[.string ByteArray.empty] l) 9)) 9 (.string ByteArray.empty) l rfl hl
  rw [Nat.mul_one] at m4 m5
  refine ⟨rfl, rfl, ?_, ?_, hh.kept (((Kept.refl (fun _ => False) w2).alloc _).alloc _) (fun _ _ _ => id), ((hk.mono (fun _ _ h => h.elim)).alloc _).alloc _, by simp; omega⟩
  · rw [← hs]; exact m4.alloc _
  · have e : (w2.alloc (.cells (madeCells #[.string ByteArray.empty] l) 9)).heap.size = B + 4 + 1 := by simp [hs]
    rw [e] at m5
    exact m5

set_option maxRecDepth 100000 in
set_option maxHeartbeats 4000000 in
theorem law3 (a : Option Addr) (l c : Nat) (sc : Nat → ByteArray × ByteArray) (w : World) (hl : l ≤ maxLen) (hr : Holds w a l sc) (hs : ∀ i, i < l → (sc i).1.size ≤ maxLen ∧ (sc i).2.size ≤ maxLen) :
    Calls Try.prog 3 #[.slice a l c] w fun e w' => e = .returned (.bool true) ∧ Below w.heap.size w w' := by
  have HR := hid hr
  have HS := hid hs
  have HL := hid hl
  have hm0 : l ≤ 2 ^ 63 - 1 := hl
  clear hr hs hl
  go_enter Try.func3, Try.ntmps3
  go_wp2_with fail
  refine (bytes5 a l c sc w HL.out HR.out HS.out).mono ?_
  rintro e wz ⟨⟨b, rfl⟩, hw⟩
  subst wz
  cases b with
  | false =>
    go_wp2_with fail
    go_ret
    exact ⟨rfl, Below.refl _ _⟩
  | true =>
  by_cases h1 : 4096 < l
  · go_wp2_with fail
    go_ret
    exact ⟨rfl, Below.refl _ _⟩
  go_wp2_with fail
  refine (fits6 a l c sc w HL.out HR.out HS.out).mono ?_
  rintro e wz ⟨⟨b, rfl, hsz⟩, hw⟩
  subst wz
  cases b with
  | false =>
    go_wp2_with fail
    go_ret
    exact ⟨rfl, Below.refl _ _⟩
  | true =>
  have HSZ := hid (hsz rfl)
  have hl4 : l ≤ 4096 := by omega
  clear hsz hm0 h1
  go_wp2_with fail
  refine (copy7 a l c sc w hl4 HR.out).mono ?_
  rintro e w1 ⟨a1, c1, rfl, hh1, hk1, hb1⟩
  have HH1 := hid hh1
  have HK1 := hid hk1
  have HB1 := hid hb1
  clear hh1 hk1 hb1 HR HS HL
  obtain ⟨B, hB⟩ : ∃ B, w1.heap.size = B := ⟨_, rfl⟩
  obtain ⟨T, hTd⟩ : ∃ T : Nat → Prop, T = fun b => B ≤ b ∧ b ≠ B + 4 ∧ b ≠ B + 4 + 1 := ⟨_, rfl⟩
  have HTD := hid hTd
  have HBB := hid hB
  have HNEW := hid (new8 T w1 (fun b h1 h2 => by rw [hTd]; omega))
  clear hB hTd
  go_wp2_with fail
  refine HNEW.out.mono ?_
  rintro e w2 ⟨rfl, hh2, hk2, hs2⟩
  rw [HBB.out] at hh2 hs2
  rw [HBB.out]
  have HH2 := hid hh2
  have HK2 := hid hk2
  have HS2 := hid hs2
  clear hh2 hk2 hs2 HNEW
  obtain ⟨i9, hi9, hz90, hz91, hz92⟩ := info_parts Try.info9
  go_wp2_with (first | ((with_reducible (refine at_op (.makeSlice 27 (.const (.int .i64 0)) (.tmp 28)) rfl ?_)); refine wpList_make_exact _ rfl (.const (.int .i64 0)) (.tmp 28) 27 rfl 9 i9 (.string ByteArray.empty) 1 Try.underlying27 hi9 hz90 hz91 .i64 .i64 0 l 0 l rfl rfl rfl rfl (Nat.zero_le _) (by rw [hz92]; omega) (by unfold maxLen; omega) ?_) | ((with_reducible (refine at_op (.makeSlice 27 (.const (.int .i64 0)) (.tmp 31)) rfl ?_)); refine wpList_make_exact _ rfl (.const (.int .i64 0)) (.tmp 31) 27 rfl 9 i9 (.string ByteArray.empty) 1 Try.underlying27 hi9 hz90 hz91 .i64 .i64 0 l 0 l rfl rfl rfl rfl (Nat.zero_le _) (by rw [hz92]; omega) (by unfold maxLen; omega) ?_))
  have hdec : decide (4096 < (l : Int)) = false := by simp; omega
  simp only [hdec]
  rw [HS2.out]
  have HT1 := hid (show ∀ b, T b → b ≠ B + 4 ∧ b ≠ B + 4 + 1 by intro b hb; rw [HTD.out] at hb; exact hb.2)
  have HT2 := hid (show ∀ b, B + 4 + 2 ≤ b → T b by intro b hb; rw [HTD.out]; omega)
  have HT3 := hid (show ∀ b, T b → B ≤ b by intro b hb; rw [HTD.out] at hb; exact hb.1)
  have HI0 := hid (inv1_start T w1 w2 B l HT1.out hl4 HBB.out HH2.out HK2.out HS2.out)
  clear hdec HH2 HK2 HS2 HTD
  go_loopw [4, 5, 6] (fun s4 s5 s6 wr => ∃ i : Nat, i ≤ l ∧ s6 = .int .i64 i ∧ Inv1 T w1 wr (B + 3) B l (run sc i) s4 s5) (fun _ _ s6 _ => l - (intOf s6).toNat)
  case atStart => exact ⟨0, Nat.zero_le _, rfl, HI0.out⟩
  case round =>
    obtain ⟨i, hi, rfl, hI⟩ := hrel
    clear HI0
    by_cases hlt : i < l
    · obtain ⟨S, hS⟩ : ∃ S, run sc i = S := ⟨_, rfl⟩
      obtain ⟨fund, sym, hsc⟩ : ∃ x y, sc i = (x, y) := ⟨_, _, rfl⟩
      have HRUN := hid (show run sc (i + 1) = S.add fund sym by show (run sc i).add (sc i).1 (sc i).2 = _; rw [hS, hsc])
      have HGOOD := hid (show (S.step fund sym).1 = true ↔ ∃ j, j < i ∧ sc j = sc i by have := (run_good sc i).step.2; rw [hS, hsc] at this; rw [hsc]; exact this)
      have HFIT := hid (show Fits i S by rw [← hS]; exact run_fits sc i)
      rw [hS] at hI
      obtain ⟨rfl, rfl, o4, o5, held, kk, sz⟩ := hI
      have hhold := HH1.out.kept kk (fun b o e _ h => by have := (HB1.out b o e).2; rw [HBB.out] at this; exact absurd h (by omega))
      obtain ⟨b, o, ha1, hq⟩ := hhold.resolve_left (by omega)
      have HHOLD := hid hhold
      obtain ⟨p1, p2⟩ := hq i hlt
      rw [hsc] at p1 p2
      have hFl := HFIT.out.f
      have hYl := HFIT.out.y
      have zz := HSZ.out i hlt
      rw [hsc] at zz
      have ZZ := hid (show fund.size ≤ 281474976710656 ∧ sym.size ≤ 281474976710656 from ⟨by have := zz.1; simp only at this; omega, by have := zz.2; simp only at this; omega⟩)
      obtain ⟨F, hF⟩ : ∃ F, S.F = F := ⟨_, rfl⟩
      obtain ⟨Y, hY⟩ : ∃ Y, S.Y = Y := ⟨_, rfl⟩
      rw [hF] at o4 hFl ⊢
      rw [hY] at o5 hYl ⊢
      have HFY := hid (And.intro hF hY)
      have HO4 := hid o4
      have HO5 := hid o5
      have HHE := hid held
      have HKK := hid kk
      have HSC := hid hsc
      have hil : (i : Int) < l := by omega
      have hi0 : (0 : Int) ≤ i := by omega
      clear hS hF hY o4 o5 held kk hsc hhold hq zz
      subst ha1
      go_wp2_with fail
      refine (index9 _ F fund wr (by omega) HO4.out).mono ?_
      rintro e wz ⟨rfl, hw⟩
      subst wz
      obtain ⟨pl, hpl⟩ : ∃ pl, place F fund = pl := ⟨_, rfl⟩
      obtain ⟨f, hf⟩ : ∃ f, placeN F fund = f := ⟨_, rfl⟩
      obtain ⟨F1, hF1⟩ : ∃ F1, withN F fund = F1 := ⟨_, rfl⟩
      obtain ⟨x, hx⟩ : ∃ x, idx F fund = x := ⟨_, rfl⟩
      have HPF := hid (And.intro hpl (And.intro hf (And.intro hF1 hx)))
      rw [hx]
      have hF1l := (withN_len F fund)
      rw [hF1] at hF1l
      clear hpl hf hF1 hx
      go_upto_if 53 with fail
      go_cut [4, 9] (fun s4 s9 wc => s9 = .int .i64 (f : Int) ∧ s4 = .slice (some ⟨B + 4, 0, none⟩) F1.length l ∧ wc.ownsRow 0 9 1 (.slice (some ⟨B + 4, 0, none⟩) F1.length l) F1.length (F1.map Value.string) ∧ Kept (fun b => b = B + 4) wr wc)
      case first =>
        cases pl with
        | some j =>
          obtain ⟨q1, q2, q3, q4⟩ := HPF.out
          obtain ⟨e1, e2, e3⟩ := idx_some q1
          obtain rfl : x = (j : Int) := by rw [← q4]; exact e1
          have HE := hid (show f = j ∧ F1 = F from ⟨by rw [← q2]; exact e3, by rw [← q3]; exact e2⟩)
          clear q1 q2 q3 q4 e1 e2 e3
          have hj0 : ¬ (j : Int) < 0 := by omega
          go_wp2_with fail
          go_meet
          case rel =>
            go_light
            obtain ⟨rfl, rfl⟩ := HE.out
            exact ⟨rfl, rfl, HO4.out, Kept.refl _ _⟩
        | none =>
          obtain ⟨q1, q2, q3, q4⟩ := HPF.out
          obtain ⟨e1, e2, e3⟩ := idx_none q1
          obtain rfl : x = -1 := by rw [← q4]; exact e1
          have HE := hid (show f = F.length ∧ F1 = F ++ [fund] from ⟨by rw [← q2]; exact e3, by rw [← q3]; exact e2⟩)
          clear q1 q2 q3 q4 e1 e2 e3
          go_wp2_with (at_builtin; refine wpList_append_fits _ rfl (.tmp 56) (.tmp 58) 27 rfl 0 9 i9 1 Try.underlying27 hi9 hz91 (B + 4) F.length l (F.map Value.string) (by rfl) (HO4.out.alloc _) ⟨wr.heap.size, 0, none⟩ 1 1 [.string fund] (by rfl) rfl (World.news_of_block (cs := #[.string fund]) (t := 9) (fr := (0, 0)) (heap_alloc_new wr _)) (by intro u hu; simp at hu; subst hu; rfl) (by omega) ?_)
          intro w4 hown hgrow
          have HOW := hid hown
          have HGR := hid (((Kept.refl (fun b => b = B + 4) wr).alloc (.cells #[.string fund] 9)).trans ((Kept.of_grown hgrow).mono (fun b _ e => Option.some.inj e)))
          clear hown hgrow
          go_wp2_with fail
          go_meet
          case rel =>
            go_light
            obtain ⟨rfl, rfl⟩ := HE.out
            refine ⟨rfl, by simp, ?_, HGR.out⟩
            have := HOW.out
            simpa using this
      case rest =>
        obtain ⟨rfl, rfl, o4, k4⟩ := hcut
        obtain ⟨w3, hw3⟩ : ∃ w3, w3 = wc := ⟨_, rfl⟩
        subst hw3
        have HP4 := hid o4
        have HK4 := hid k4
        have HP5 := hid (own_kept HO5.out k4 (fun g hg e => by cases hg; have e' : B + 4 + 1 = B + 4 := e; omega))
        have HHO3 := hid (HHOLD.out.kept k4 (fun b' o' e _ h => by cases e; have := (HB1.out b o rfl).2; rw [HBB.out] at this; omega))
        have HHE3 := hid (HHE.out.kept k4 (fun b' _ hb e => (HT1.out b' hb).1 e))
        have HKK3 := hid (HKK.out.trans (k4.mono (fun b' _ e => by show B ≤ b'; omega)))
        have hsz3 : B + 4 + 2 ≤ w3.heap.size := Nat.le_trans sz k4.size
        clear o4 k4 HO4 HO5 HHOLD HHE HKK p1 p2 sz
        go_wp2_with fail
        refine (index9 _ Y sym w3 (by omega) HP5.out).mono ?_
        rintro e wz ⟨rfl, hw⟩
        subst wz
        obtain ⟨pl2, hpl⟩ : ∃ pl, place Y sym = pl := ⟨_, rfl⟩
        obtain ⟨s, hf⟩ : ∃ f, placeN Y sym = f := ⟨_, rfl⟩
        obtain ⟨Y1, hF1⟩ : ∃ F1, withN Y sym = F1 := ⟨_, rfl⟩
        obtain ⟨y, hx⟩ : ∃ x, idx Y sym = x := ⟨_, rfl⟩
        have HPY := hid (And.intro hpl (And.intro hf (And.intro hF1 hx)))
        rw [hx]
        clear hpl hf hF1 hx
        go_upto_if 64 with fail
        go_cut [5, 10] (fun s5 s10 wc => s10 = .int .i64 (s : Int) ∧ s5 = .slice (some ⟨B + 4 + 1, 0, none⟩) Y1.length l ∧ wc.ownsRow 0 9 1 (.slice (some ⟨B + 4 + 1, 0, none⟩) Y1.length l) Y1.length (Y1.map Value.string) ∧ Kept (fun b => b = B + 4 + 1) w3 wc)
        case first =>
          cases pl2 with
          | some j =>
            obtain ⟨q1, q2, q3, q4⟩ := HPY.out
            obtain ⟨e1, e2, e3⟩ := idx_some q1
            obtain rfl : y = (j : Int) := by rw [← q4]; exact e1
            have HE := hid (show s = j ∧ Y1 = Y from ⟨by rw [← q2]; exact e3, by rw [← q3]; exact e2⟩)
            clear q1 q2 q3 q4 e1 e2 e3
            have hj0 : ¬ (j : Int) < 0 := by omega
            go_wp2_with fail
            go_meet
            case rel =>
              go_light
              obtain ⟨rfl, rfl⟩ := HE.out
              exact ⟨rfl, rfl, HP5.out, Kept.refl _ _⟩
          | none =>
            obtain ⟨q1, q2, q3, q4⟩ := HPY.out
            obtain ⟨e1, e2, e3⟩ := idx_none q1
            obtain rfl : y = -1 := by rw [← q4]; exact e1
            have HE := hid (show s = Y.length ∧ Y1 = Y ++ [sym] from ⟨by rw [← q2]; exact e3, by rw [← q3]; exact e2⟩)
            clear q1 q2 q3 q4 e1 e2 e3
            go_wp2_with (at_builtin; refine wpList_append_fits _ rfl (.tmp 67) (.tmp 69) 27 rfl 0 9 i9 1 Try.underlying27 hi9 hz91 (B + 4 + 1) Y.length l (Y.map Value.string) (by rfl) (HP5.out.alloc _) ⟨w3.heap.size, 0, none⟩ 1 1 [.string sym] (by rfl) rfl (World.news_of_block (cs := #[.string sym]) (t := 9) (fr := (0, 0)) (heap_alloc_new w3 _)) (by intro u hu; simp at hu; subst hu; rfl) (by omega) ?_)
            intro w4 hown hgrow
            have HOW := hid hown
            have HGR := hid (((Kept.refl (fun b => b = B + 4 + 1) w3).alloc (.cells #[.string sym] 9)).trans ((Kept.of_grown hgrow).mono (fun b _ e => Option.some.inj e)))
            clear hown hgrow
            go_wp2_with fail
            go_meet
            case rel =>
              go_light
              obtain ⟨rfl, rfl⟩ := HE.out
              refine ⟨rfl, by simp, ?_, HGR.out⟩
              have := HOW.out
              simpa using this
        case rest =>
          obtain ⟨rfl, rfl, o5, k5⟩ := hcut
          obtain ⟨w4, hw4⟩ : ∃ w4, w4 = wc := ⟨_, rfl⟩
          subst hw4
          have HQ5 := hid o5
          have HQ4 := hid (own_kept HP4.out k5 (fun g hg e => by cases hg; have e' : B + 4 = B + 4 + 1 := e; omega))
          have HHO4 := hid (HHO3.out.kept k5 (fun b' o' e _ h => by cases e; have := (HB1.out b o rfl).2; rw [HBB.out] at this; omega))
          have HHE4 := hid (HHE3.out.kept k5 (fun b' _ hb e => (HT1.out b' hb).2 e))
          have HKK4 := hid (HKK3.out.trans (k5.mono (fun b' _ e => by show B ≤ b'; omega)))
          have hsz4 : B + 4 + 2 ≤ w4.heap.size := Nat.le_trans hsz3 k5.size
          clear o5 k5 HP4 HP5 HHO3 HHE3 HKK3 HK4 hsz3
          go_wp2_with fail
          refine (seen10 _ l c1 i sc w4 hl4 hlt HHO4.out).mono ?_
          rintro e w5 ⟨⟨r, rfl, hr⟩, k6⟩
          have HR := hid hr
          have HR4 := hid (own_kept HQ4.out k6 (fun g hg => id))
          have HR5 := hid (own_kept HQ5.out k6 (fun g hg => id))
          have HHE5 := hid (HHE4.out.kept k6 (fun _ _ _ => id))
          have HKK5 := hid (HKK4.out.trans (k6.mono (fun b' _ e => e.elim)))
          have hsz5 : B + 4 + 2 ≤ w5.heap.size := Nat.le_trans hsz4 k6.size
          have HADD := hid (add11 T (B + 3) i S fund sym w5 HHE5.out (fun b' hb => HT2.out b' (Nat.le_trans hsz5 hb)) HFIT.out (by omega) ZZ.out.1 ZZ.out.2)
          clear hr k6 HQ4 HQ5 HHO4 HHE4 HKK4 hsz4
          go_wp2_with fail
          refine HADD.out.mono ?_
          rintro e w6 ⟨rfl, hh, k7⟩
          obtain ⟨st, hst⟩ : ∃ st, (S.step fund sym).1 = st := ⟨_, rfl⟩
          have hrs : r = st := by
            have h1 := HGOOD.out
            have h2 := HR.out
            rw [hst] at h1
            rw [Bool.eq_iff_iff, h1, h2]
          rw [hst, HFY.out.1, HFY.out.2, HPF.out.2.1, HPY.out.2.1]
          subst hrs
          have HI := hid (show Inv1 T w1 w6 (B + 3) B l (run sc (i + 1)) (.slice (some ⟨B + 4, 0, none⟩) F1.length l) (.slice (some ⟨B + 4 + 1, 0, none⟩) Y1.length l) by
            have e1 : (S.add fund sym).F = F1 := by rw [(add_F S fund sym).1, HFY.out.1, HPF.out.2.2.1]
            have e2 : (S.add fund sym).Y = Y1 := by rw [(add_F S fund sym).2, HFY.out.2, HPY.out.2.2.1]
            rw [HRUN.out]
            refine ⟨by rw [e1], by rw [e2], ?_, ?_, hh, HKK5.out.trans (k7.mono (fun b' _ hb => HT3.out b' hb)), Nat.le_trans hsz5 k7.size⟩
            · rw [e1]; exact own_kept HR4.out k7 (fun g hg hb => by cases hg; exact (HT1.out _ hb).1 rfl)
            · rw [e2]; exact own_kept HR5.out k7 (fun g hg hb => by cases hg; exact (HT1.out _ hb).2 rfl))
          clear hh k7 HADD HR4 HR5 HHE5 HKK5 hst
          go_wp2_with fail
          go_roundw
          case rel => exact ⟨i + 1, by omega, by go_num, HI.out⟩
          case measure => simp [intOf]; omega
    · obtain rfl : i = l := by omega
      have HK := hid hI.k
      clear hI
      go_wp2_with fail
      go_ret
      exact ⟨rfl, ((HK1.out.mono (T := fun b => w.heap.size ≤ b) (fun _ _ h => h.elim)).trans (HK.out.mono (fun b hb h => by have := HBB.out; omega))).below (Nat.le_refl _) (fun k hk => by omega)⟩


end Go.Proofs.Qxb6601932a
