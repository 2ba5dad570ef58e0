/-
  The second law walked.
-/
import Derived.Test.Qxb6601932aWrap
import Derived.Test.Qxb6601932aCount
import Derived.Deep.DeepCutAuto
import Derived.Deep.Light
import Derived.OwnWalk
namespace Go.Proofs.Qxb6601932a
open Go.RowKit
set_option linter.unusedVariables false
set_option linter.unusedSimpArgs false

theorem Try.info9' : (Try.prog.info? 9).map (fun i => (i.zero, i.size, i.bytes)) = some (some (.string ByteArray.empty), 1, 16) := by kernel_rfl
theorem Try.info3' : (Try.prog.info? 3).map (fun i => (i.zero, i.size, i.bytes)) = some (some (.int .i64 0), 1, 8) := by kernel_rfl

/-- What stands ahead of each round. -/
structure Inv2 (T : Nat → Prop) (w1 wr : World) (hb B l : Nat) (S : St) (fo : List Nat) (s4 s5 s6 : Value) : Prop where
  e4 : s4 = .slice (some ⟨B + 4, 0, none⟩) S.F.length l
  e5 : s5 = .slice (some ⟨B + 4 + 1, 0, none⟩) S.Y.length l
  e6 : s6 = .slice (some ⟨B + 4 + 1 + 1, 0, none⟩) fo.length l
  o4 : wr.ownsRow 0 9 1 (.slice (some ⟨B + 4, 0, none⟩) S.F.length l) S.F.length (S.F.map Value.string)
  o5 : wr.ownsRow 0 9 1 (.slice (some ⟨B + 4 + 1, 0, none⟩) S.Y.length l) S.Y.length (S.Y.map Value.string)
  o6 : wr.ownsRow 0 3 1 (.slice (some ⟨B + 4 + 1 + 1, 0, none⟩) fo.length l) fo.length (ints fo)
  held : HeldAt T wr hb S
  k : Kept (fun b => B ≤ b) w1 wr
  sz : B + 4 + 3 ≤ wr.heap.size

theorem inv2_start (T : Nat → Prop) (w1 w2 : World) (B l : Nat) (hl : l ≤ 4096) (hh : HeldAt T w2 (B + 3) St.empty) (hk : Kept (fun _ => False) w1 w2) (hs : w2.heap.size = B + 4) :
    Inv2 T w1 (((w2.alloc (.cells (madeCells #[.string ByteArray.empty] l) 9)).alloc (.cells (madeCells #[.string ByteArray.empty] l) 9)).alloc (.cells (madeCells #[.int .i64 0] l) 3)) (B + 3) B l St.empty [] (.slice (some ⟨B + 4, 0, none⟩) 0 l) (.slice (some ⟨B + 4 + 1, 0, none⟩) 0 l) (.slice (some ⟨B + 4 + 1 + 1, 0, none⟩) 0 l) := by
  have m4 := made_own w2 9 (.string ByteArray.empty) l rfl hl
  have m5 := made_own (w2.alloc (.cells (madeCells #[.string ByteArray.empty] l) 9)) 9 (.string ByteArray.empty) l rfl hl
  have m6 := made_own ((w2.alloc (.cells (madeCells #[.string ByteArray.empty] l) 9)).alloc (.cells (madeCells #[.string ByteArray.empty] l) 9)) 3 (.int .i64 0) l rfl hl
  rw [Nat.mul_one] at m4 m5 m6
  refine ⟨rfl, rfl, rfl, ?_, ?_, ?_, hh.kept ((((Kept.refl (fun _ => False) w2).alloc _).alloc _).alloc _) (fun _ _ _ => id), (((hk.mono (fun _ _ h => h.elim)).alloc _).alloc _).alloc _, by simp; omega⟩
  · rw [← hs]; exact (m4.alloc _).alloc _
  · have e : (w2.alloc (.cells (madeCells #[.string ByteArray.empty] l) 9)).heap.size = B + 4 + 1 := by simp [hs]
    rw [e] at m5
    exact m5.alloc _
  · have e : ((w2.alloc (.cells (madeCells #[.string ByteArray.empty] l) 9)).alloc (.cells (madeCells #[.string ByteArray.empty] l) 9)).heap.size = B + 4 + 1 + 1 := by simp [hs]
    rw [e] at m6
    exact m6

set_option maxRecDepth 100000 in
set_option maxHeartbeats 8000000 in
theorem law4 (a : Option Addr) (l c : Nat) (sc : Nat → ByteArray × ByteArray) (w : World) (hl : l ≤ maxLen) (hr : Holds w a l sc) (hs : ∀ i, i < l → (sc i).1.size ≤ maxLen ∧ (sc i).2.size ≤ maxLen) :
    Calls Try.prog 4 #[.slice a l c] w fun e w' => e = .returned (.bool true) ∧ Below w.heap.size w w' := by
  have HR := hid hr
  have HS := hid hs
  have HL := hid hl
  have hm0 : l ≤ 2 ^ 63 - 1 := hl
  clear hr hs hl
  go_enter Try.func4, Try.ntmps4
  go_wp2_with fail
  refine (bytes12 a l c sc w HL.out HR.out HS.out).mono ?_
  rintro e wz ⟨⟨b, rfl⟩, hw⟩
  subst wz
  cases b with
  | false =>
    go_wp2_with fail
    go_ret
    exact ⟨rfl, Below.refl _ _⟩
  | true =>
  by_cases h1 : 4096 < l
  · go_wp2_with fail
    go_ret
    exact ⟨rfl, Below.refl _ _⟩
  go_wp2_with fail
  refine (fits6 a l c sc w HL.out HR.out HS.out).mono ?_
  rintro e wz ⟨⟨b, rfl, hsz⟩, hw⟩
  subst wz
  cases b with
  | false =>
    go_wp2_with fail
    go_ret
    exact ⟨rfl, Below.refl _ _⟩
  | true =>
  have HSZ := hid (hsz rfl)
  have hl4 : l ≤ 4096 := by omega
  clear hsz hm0 h1
  go_wp2_with fail
  refine (copy7 a l c sc w hl4 HR.out).mono ?_
  rintro e w1 ⟨a1, c1, rfl, hh1, hk1, hb1⟩
  have HH1 := hid hh1
  have HK1 := hid hk1
  have HB1 := hid hb1
  clear hh1 hk1 hb1 HR HS HL
  obtain ⟨B, hB⟩ : ∃ B, w1.heap.size = B := ⟨_, rfl⟩
  obtain ⟨T, hTd⟩ : ∃ T : Nat → Prop, T = fun b => B ≤ b ∧ b ≠ B + 4 ∧ b ≠ B + 4 + 1 ∧ b ≠ B + 4 + 1 + 1 := ⟨_, rfl⟩
  have HTD := hid hTd
  have HBB := hid hB
  have HNEW := hid (new8 T w1 (fun b h1 h2 => by rw [hTd]; omega))
  clear hB hTd
  go_wp2_with fail
  refine HNEW.out.mono ?_
  rintro e w2 ⟨rfl, hh2, hk2, hs2⟩
  rw [HBB.out] at hh2 hs2
  rw [HBB.out]
  have HH2 := hid hh2
  have HK2 := hid hk2
  have HS2 := hid hs2
  clear hh2 hk2 hs2 HNEW
  obtain ⟨i9, hi9, hz90, hz91, hz92⟩ := info_parts Try.info9'
  obtain ⟨i3, hi3, hz30, hz31, hz32⟩ := info_parts Try.info3'
  go_wp2_with (first | ((with_reducible (refine at_op (.makeSlice 27 (.const (.int .i64 0)) (.tmp 35)) rfl ?_)); refine wpList_make_exact _ rfl (.const (.int .i64 0)) (.tmp 35) 27 rfl 9 i9 (.string ByteArray.empty) 1 Try.underlying27 hi9 hz90 hz91 .i64 .i64 0 l 0 l rfl rfl rfl rfl (Nat.zero_le _) (by rw [hz92]; omega) (by unfold maxLen; omega) ?_) | ((with_reducible (refine at_op (.makeSlice 27 (.const (.int .i64 0)) (.tmp 38)) rfl ?_)); refine wpList_make_exact _ rfl (.const (.int .i64 0)) (.tmp 38) 27 rfl 9 i9 (.string ByteArray.empty) 1 Try.underlying27 hi9 hz90 hz91 .i64 .i64 0 l 0 l rfl rfl rfl rfl (Nat.zero_le _) (by rw [hz92]; omega) (by unfold maxLen; omega) ?_) | ((with_reducible (refine at_op (.makeSlice 34 (.const (.int .i64 0)) (.tmp 41)) rfl ?_)); refine wpList_make_exact _ rfl (.const (.int .i64 0)) (.tmp 41) 34 rfl 3 i3 (.int .i64 0) 1 Try.underlying34 hi3 hz30 hz31 .i64 .i64 0 l 0 l rfl rfl rfl rfl (Nat.zero_le _) (by rw [hz32]; omega) (by unfold maxLen; omega) ?_))
  have hdec : decide (4096 < (l : Int)) = false := by simp; omega
  simp only [hdec]
  rw [HS2.out]
  have HT1 := hid (show ∀ b, T b → b ≠ B + 4 ∧ b ≠ B + 4 + 1 ∧ b ≠ B + 4 + 1 + 1 by intro b hb; rw [HTD.out] at hb; exact hb.2)
  have HT2 := hid (show ∀ b, B + 4 + 3 ≤ b → T b by intro b hb; rw [HTD.out]; omega)
  have HT3 := hid (show ∀ b, T b → B ≤ b by intro b hb; rw [HTD.out] at hb; exact hb.1)
  have HI0 := hid (inv2_start T w1 w2 B l hl4 HH2.out HK2.out HS2.out)
  clear hdec HH2 HK2 HS2 HTD
  go_loopw [4, 5, 6, 7] (fun s4 s5 s6 s7 wr => ∃ i : Nat, i ≤ l ∧ s7 = .int .i64 i ∧ Inv2 T w1 wr (B + 3) B l (run sc i) (runFo sc i) s4 s5 s6) (fun _ _ _ s7 _ => l - (intOf s7).toNat)
  case atStart => exact ⟨0, Nat.zero_le _, rfl, HI0.out⟩
  case round =>
    obtain ⟨i, hi, rfl, hI⟩ := hrel
    clear HI0
    by_cases hlt : i < l
    · --F1
      obtain ⟨S, hS⟩ : ∃ S, run sc i = S := ⟨_, rfl⟩
      obtain ⟨fo, hfo⟩ : ∃ fo, runFo sc i = fo := ⟨_, rfl⟩
      obtain ⟨fund, sym, hsc⟩ : ∃ x y, sc i = (x, y) := ⟨_, _, rfl⟩
      have HRUN := hid (show run sc (i + 1) = S.add fund sym by show (run sc i).add (sc i).1 (sc i).2 = _; rw [hS, hsc])
      have HRFO := hid (show runFo sc (i + 1) = if (S.step fund sym).1 then fo else fo ++ [placeN S.F fund] by show (if ((run sc i).step (sc i).1 (sc i).2).1 then runFo sc i else runFo sc i ++ [placeN (run sc i).F (sc i).1]) = _; rw [hS, hsc, hfo])
      have HGOOD := hid (show (S.step fund sym).1 = true ↔ ∃ j, j < i ∧ sc j = sc i by have := (run_good sc i).step.2; rw [hS, hsc] at this; rw [hsc]; exact this)
      have HFIT := hid (show Fits i S by rw [← hS]; exact run_fits sc i)
      have hfol : fo.length ≤ i := by rw [← hfo]; exact runFo_len sc i
      rw [hS, hfo] at hI
      obtain ⟨rfl, rfl, rfl, o4, o5, o6, held, kk, sz⟩ := hI
      have hhold := HH1.out.kept kk (fun b o e _ h => by have := (HB1.out b o e).2; rw [HBB.out] at this; exact absurd h (by omega))
      obtain ⟨b, o, ha1, hq⟩ := hhold.resolve_left (by omega)
      have HHOLD := hid hhold
      obtain ⟨p1, p2⟩ := hq i hlt
      rw [hsc] at p1 p2
      have hFl := HFIT.out.f
      have hYl := HFIT.out.y
      have zz := HSZ.out i hlt
      rw [hsc] at zz
      have HADD := hid (add11 T (B + 3) i S fund sym wr held (fun b' hb => HT2.out b' (Nat.le_trans sz hb)) HFIT.out (by omega) (by have := zz.1; simp only at this; omega) (by have := zz.2; simp only at this; omega))
      obtain ⟨F, hF⟩ : ∃ F, S.F = F := ⟨_, rfl⟩
      obtain ⟨Y, hY⟩ : ∃ Y, S.Y = Y := ⟨_, rfl⟩
      rw [hF] at o4 hFl ⊢
      rw [hY] at o5 hYl ⊢
      have HFY := hid (And.intro hF hY)
      have HO4 := hid o4
      have HO5 := hid o5
      have HO6 := hid o6
      have HKK := hid kk
      have hil : (i : Int) < l := by omega
      have hi0 : (0 : Int) ≤ i := by omega
      clear hS hfo hF hY o4 o5 o6 held kk hsc hhold hq zz
      subst ha1
      go_wp2_with fail
      refine HADD.out.mono ?_
      rintro e w3 ⟨rfl, hh, k3⟩
      have HHE3 := hid hh
      have HP4 := hid (own_kept HO4.out k3 (fun g hg hb => by cases hg; exact (HT1.out _ hb).1 rfl))
      have HP5 := hid (own_kept HO5.out k3 (fun g hg hb => by cases hg; exact (HT1.out _ hb).2.1 rfl))
      have HP6 := hid (own_kept HO6.out k3 (fun g hg hb => by cases hg; exact (HT1.out _ hb).2.2 rfl))
      have HKK3 := hid (HKK.out.trans (k3.mono (fun b' _ hb => HT3.out b' hb)))
      have HHO3 := hid (HHOLD.out.kept k3 (fun b' o' e _ h => by cases e; have h1 := (HB1.out b o rfl).2; have h2 := HT3.out _ h; rw [HBB.out] at h1; omega))
      have hsz3 : B + 4 + 3 ≤ w3.heap.size := Nat.le_trans sz k3.size
      clear hh k3 HO4 HO5 HO6 HHOLD HKK p1 p2 sz HADD
      go_wp2_with fail
      refine (index9 _ F fund w3 (by omega) HP4.out).mono ?_
      rintro e wz ⟨rfl, hw⟩
      subst wz
      obtain ⟨pl, hpl⟩ : ∃ pl, place F fund = pl := ⟨_, rfl⟩
      obtain ⟨f, hf⟩ : ∃ f, placeN F fund = f := ⟨_, rfl⟩
      obtain ⟨F1, hF1⟩ : ∃ F1, withN F fund = F1 := ⟨_, rfl⟩
      obtain ⟨x, hx⟩ : ∃ x, idx F fund = x := ⟨_, rfl⟩
      have HPF := hid (And.intro hpl (And.intro hf (And.intro hF1 hx)))
      rw [hx]
      clear hpl hf hF1 hx
      go_upto_if 67 with fail
      go_cut [4, 10] (fun s4 s9 wc => s9 = .int .i64 (f : Int) ∧ s4 = .slice (some ⟨B + 4, 0, none⟩) F1.length l ∧ wc.ownsRow 0 9 1 (.slice (some ⟨B + 4, 0, none⟩) F1.length l) F1.length (F1.map Value.string) ∧ Kept (fun b => b = B + 4) w3 wc)
      case first =>
        cases pl with
        | some j =>
          obtain ⟨q1, q2, q3, q4⟩ := HPF.out
          obtain ⟨e1, e2, e3⟩ := idx_some q1
          obtain rfl : x = (j : Int) := by rw [← q4]; exact e1
          have HE := hid (show f = j ∧ F1 = F from ⟨by rw [← q2]; exact e3, by rw [← q3]; exact e2⟩)
          clear q1 q2 q3 q4 e1 e2 e3
          have hj0 : ¬ (j : Int) < 0 := by omega
          go_wp2_with fail
          go_meet
          case rel =>
            go_light
            obtain ⟨rfl, rfl⟩ := HE.out
            exact ⟨rfl, rfl, HP4.out, Kept.refl _ _⟩
        | none =>
          obtain ⟨q1, q2, q3, q4⟩ := HPF.out
          obtain ⟨e1, e2, e3⟩ := idx_none q1
          obtain rfl : x = -1 := by rw [← q4]; exact e1
          have HE := hid (show f = F.length ∧ F1 = F ++ [fund] from ⟨by rw [← q2]; exact e3, by rw [← q3]; exact e2⟩)
          clear q1 q2 q3 q4 e1 e2 e3
          go_wp2_with (at_builtin; refine wpList_append_fits _ rfl (.tmp 70) (.tmp 72) 27 rfl 0 9 i9 1 Try.underlying27 hi9 hz91 (B + 4) F.length l (F.map Value.string) (by rfl) (HP4.out.alloc _) ⟨w3.heap.size, 0, none⟩ 1 1 [.string fund] (by rfl) rfl (World.news_of_block (cs := #[.string fund]) (t := 9) (fr := (0, 0)) (heap_alloc_new w3 _)) (by intro u hu; simp at hu; subst hu; rfl) (by omega) ?_)
          intro w4 hown hgrow
          have HOW := hid hown
          have HGR := hid (((Kept.refl (fun b => b = B + 4) w3).alloc (.cells #[.string fund] 9)).trans ((Kept.of_grown hgrow).mono (fun b _ e => Option.some.inj e)))
          clear hown hgrow
          go_wp2_with fail
          go_meet
          case rel =>
            go_light
            obtain ⟨rfl, rfl⟩ := HE.out
            refine ⟨rfl, by simp, ?_, HGR.out⟩
            have := HOW.out
            simpa using this
      case rest =>
        obtain ⟨rfl, rfl, o4, k4⟩ := hcut
        obtain ⟨w4, hw4⟩ : ∃ w4, w4 = wc := ⟨_, rfl⟩
        subst hw4
        have HQ4 := hid o4
        have HQ5 := hid (own_kept HP5.out k4 (fun g hg e => by cases hg; have e' : B + 4 + 1 = B + 4 := e; omega))
        have HQ6 := hid (own_kept HP6.out k4 (fun g hg e => by cases hg; have e' : B + 4 + 1 + 1 = B + 4 := e; omega))
        have HHO4 := hid (HHO3.out.kept k4 (fun b' o' e _ h => by cases e; have := (HB1.out b o rfl).2; rw [HBB.out] at this; omega))
        have HHE4 := hid (HHE3.out.kept k4 (fun b' _ hb e => (HT1.out b' hb).1 e))
        have HKK4 := hid (HKK3.out.trans (k4.mono (fun b' _ e => by show B ≤ b'; omega)))
        have hsz4 : B + 4 + 3 ≤ w4.heap.size := Nat.le_trans hsz3 k4.size
        clear o4 k4 HP4 HP5 HP6 HHO3 HHE3 HKK3 hsz3
        go_wp2_with fail
        refine (index9 _ Y sym w4 (by omega) HQ5.out).mono ?_
        rintro e wz ⟨rfl, hw⟩
        subst wz
        obtain ⟨pl2, hpl⟩ : ∃ pl, place Y sym = pl := ⟨_, rfl⟩
        obtain ⟨Y1, hF1⟩ : ∃ F1, withN Y sym = F1 := ⟨_, rfl⟩
        obtain ⟨y, hx⟩ : ∃ x, idx Y sym = x := ⟨_, rfl⟩
        have HPY := hid (And.intro hpl (And.intro hF1 hx))
        rw [hx]
        clear hpl hF1 hx
        go_upto_if 77 with fail
        go_cut [5] (fun s5 wc => s5 = .slice (some ⟨B + 4 + 1, 0, none⟩) Y1.length l ∧ wc.ownsRow 0 9 1 (.slice (some ⟨B + 4 + 1, 0, none⟩) Y1.length l) Y1.length (Y1.map Value.string) ∧ Kept (fun b => b = B + 4 + 1) w4 wc)
        case first =>
          cases pl2 with
          | some j =>
            obtain ⟨q1, q3, q4⟩ := HPY.out
            obtain ⟨e1, e2, e3⟩ := idx_some q1
            obtain rfl : y = (j : Int) := by rw [← q4]; exact e1
            have HE := hid (show Y1 = Y by rw [← q3]; exact e2)
            clear q1 q3 q4 e1 e2 e3
            have hj0 : ¬ (j : Int) < 0 := by omega
            go_wp2_with fail
            go_meet
            case rel =>
              go_light
              obtain rfl := HE.out
              exact ⟨rfl, HQ5.out, Kept.refl _ _⟩
          | none =>
            obtain ⟨q1, q3, q4⟩ := HPY.out
            obtain ⟨e1, e2, e3⟩ := idx_none q1
            obtain rfl : y = -1 := by rw [← q4]; exact e1
            have HE := hid (show Y1 = Y ++ [sym] by rw [← q3]; exact e2)
            clear q1 q3 q4 e1 e2 e3
            go_wp2_with (at_builtin; refine wpList_append_fits _ rfl (.tmp 78) (.tmp 80) 27 rfl 0 9 i9 1 Try.underlying27 hi9 hz91 (B + 4 + 1) Y.length l (Y.map Value.string) (by rfl) (HQ5.out.alloc _) ⟨w4.heap.size, 0, none⟩ 1 1 [.string sym] (by rfl) rfl (World.news_of_block (cs := #[.string sym]) (t := 9) (fr := (0, 0)) (heap_alloc_new w4 _)) (by intro u hu; simp at hu; subst hu; rfl) (by omega) ?_)
            intro w5 hown hgrow
            have HOW := hid hown
            have HGR := hid (((Kept.refl (fun b => b = B + 4 + 1) w4).alloc (.cells #[.string sym] 9)).trans ((Kept.of_grown hgrow).mono (fun b _ e => Option.some.inj e)))
            clear hown hgrow
            go_wp2_with fail
            go_meet
            case rel =>
              go_light
              obtain rfl := HE.out
              refine ⟨by simp, ?_, HGR.out⟩
              have := HOW.out
              simpa using this
        case rest =>
          obtain ⟨rfl, o5, k5⟩ := hcut
          obtain ⟨w5, hw5⟩ : ∃ w5, w5 = wc := ⟨_, rfl⟩
          subst hw5
          have HR5 := hid o5
          have HR4 := hid (own_kept HQ4.out k5 (fun g hg e => by cases hg; have e' : B + 4 = B + 4 + 1 := e; omega))
          have HR6 := hid (own_kept HQ6.out k5 (fun g hg e => by cases hg; have e' : B + 4 + 1 + 1 = B + 4 + 1 := e; omega))
          have HHO5 := hid (HHO4.out.kept k5 (fun b' o' e _ h => by cases e; have := (HB1.out b o rfl).2; rw [HBB.out] at this; omega))
          have HHE5 := hid (HHE4.out.kept k5 (fun b' _ hb e => (HT1.out b' hb).2.1 e))
          have HKK5 := hid (HKK4.out.trans (k5.mono (fun b' _ e => by show B ≤ b'; omega)))
          have hsz5 : B + 4 + 3 ≤ w5.heap.size := Nat.le_trans hsz4 k5.size
          clear o5 k5 HQ4 HQ5 HQ6 HHO4 HHE4 HKK4 hsz4
          go_wp2_with fail
          refine (seen10 _ l c1 i sc w5 hl4 hlt HHO5.out).mono ?_
          rintro e w6 ⟨⟨r, rfl, hr⟩, k6⟩
          have HS6 := hid (own_kept HR6.out k6 (fun g hg => id))
          have HPRE := hid (show Inv2 T w1 w6 (B + 3) B l (S.add fund sym) fo (.slice (some ⟨B + 4, 0, none⟩) F1.length l) (.slice (some ⟨B + 4 + 1, 0, none⟩) Y1.length l) (.slice (some ⟨B + 4 + 1 + 1, 0, none⟩) fo.length l) by
            have e1 : (S.add fund sym).F = F1 := by rw [(add_F S fund sym).1, HFY.out.1, HPF.out.2.2.1]
            have e2 : (S.add fund sym).Y = Y1 := by rw [(add_F S fund sym).2, HFY.out.2, HPY.out.2.1]
            refine ⟨by rw [e1], by rw [e2], rfl, ?_, ?_, own_kept HR6.out k6 (fun g hg => id), HHE5.out.kept k6 (fun _ _ _ => id), HKK5.out.trans (k6.mono (fun b' _ e => e.elim)), Nat.le_trans hsz5 k6.size⟩
            · rw [e1]; exact own_kept HR4.out k6 (fun g hg => id)
            · rw [e2]; exact own_kept HR5.out k6 (fun g hg => id))
          have hrs : (S.step fund sym).1 = r := by
            have h1 := HGOOD.out
            rw [Bool.eq_iff_iff, h1, hr]
          have HRF := hid (show runFo sc (i + 1) = if r = true then fo else fo ++ [f] by rw [HRFO.out, hrs, HFY.out.1, HPF.out.2.1])
          clear hr k6 hrs HR4 HR5 HR6 HHO5 HHE5 HKK5 hsz5 HRFO
          cases r with
          | true =>
            go_wp2_with fail
            go_roundw
            case rel =>
              go_light
              refine ⟨i + 1, by omega, by go_num, ?_⟩
              rw [HRUN.out, HRF.out]
              exact HPRE.out
            case measure => simp [intOf]; omega
          | false =>
            go_wp2_with (at_builtin; refine wpList_append_fits _ rfl (.tmp 86) (.tmp 88) 34 rfl 0 3 i3 1 Try.underlying34 hi3 hz31 (B + 4 + 1 + 1) fo.length l (ints fo) (by rfl) (HS6.out.alloc _) ⟨w6.heap.size, 0, none⟩ 1 1 [.int .i64 (f : Int)] (by rfl) rfl (World.news_of_block (cs := #[.int .i64 (f : Int)]) (t := 3) (fr := (0, 0)) (heap_alloc_new w6 _)) (by intro u hu; simp at hu; subst hu; rfl) (by omega) ?_)
            intro w7 hown hgrow
            have k7 := ((Kept.refl (fun b => b = B + 4 + 1 + 1) w6).alloc (.cells #[.int .i64 (f : Int)] 3)).trans ((Kept.of_grown hgrow).mono (fun b _ e => Option.some.inj e))
            have HI := hid (show Inv2 T w1 w7 (B + 3) B l (S.add fund sym) (fo ++ [f]) (.slice (some ⟨B + 4, 0, none⟩) F1.length l) (.slice (some ⟨B + 4 + 1, 0, none⟩) Y1.length l) (.slice (some ⟨B + 4 + 1 + 1, 0, none⟩) (fo.length + 1) l) by
              obtain ⟨e4, e5, e6, o4, o5, o6, held, kk, sz⟩ := HPRE.out
              refine ⟨e4, e5, by simp, own_kept o4 k7 (fun g hg e => by cases hg; have e' : B + 4 = B + 4 + 1 + 1 := e; omega), own_kept o5 k7 (fun g hg e => by cases hg; have e' : B + 4 + 1 = B + 4 + 1 + 1 := e; omega), ?_, held.kept k7 (fun b' _ hb e => (HT1.out b' hb).2.2 e), kk.trans (k7.mono (fun b' _ e => by show B ≤ b'; omega)), Nat.le_trans sz k7.size⟩
              have e : ints (fo ++ [f]) = ints fo ++ [.int .i64 (f : Int)] := by simp [ints]
              rw [e]
              simpa using hown)
            clear hown hgrow k7
            go_wp2_with fail
            go_roundw
            case rel =>
              go_light
              refine ⟨i + 1, by omega, by go_num, ?_⟩
              rw [HRUN.out, HRF.out]
              exact HI.out
            case measure => simp [intOf]; omega
      --/F1
    · have hil : i = l := by omega
      rw [hil] at hI
      --F2
      have HCNT := hid (run_cnt sc l)
      have HFIT := hid (run_fits sc l)
      have hfol := runFo_len sc l
      obtain ⟨S, hS⟩ : ∃ S, run sc l = S := ⟨_, rfl⟩
      obtain ⟨fo, hfo⟩ : ∃ fo, runFo sc l = fo := ⟨_, rfl⟩
      have hcnt := HCNT.out
      have hfit := HFIT.out
      rw [hS, hfo] at hI hcnt
      rw [hS] at hfit
      rw [hfo] at hfol
      clear HCNT HFIT hS hfo
      obtain ⟨rfl, rfl, rfl, o4, o5, o6, held, kk, sz⟩ := hI
      have HSZS := hid (sizes13 T (B + 3) S wr held)
      obtain ⟨nF, hnF⟩ : ∃ n, S.F.length = n := ⟨_, rfl⟩
      obtain ⟨nY, hnY⟩ : ∃ n, S.Y.length = n := ⟨_, rfl⟩
      obtain ⟨nQ, hnQ⟩ : ∃ n, S.Q.length = n := ⟨_, rfl⟩
      have hGF : S.G.length = nF := by rw [hcnt.len]; exact hnF
      have hFl : nF ≤ l := by rw [← hnF]; exact hfit.f
      have HSUM := hid (show sumD S.G nF = nQ by rw [← hGF, sumD_all, ← hcnt.qs]; exact hnQ)
      have HSLE := hid (show ∀ k, k ≤ nF → sumD S.G k ≤ k * 4096 by rw [← hGF]; exact sumD_le S.G 4096 (fun g hg => Nat.le_trans (hfit.c g hg).2.1 hl4))
      have HLEN := hid (And.intro hnF (And.intro hnY (And.intro hnQ hGF)))
      have HCNT := hid hcnt
      have HFIT := hid hfit
      have HO6 := hid o6
      have HHE := hid held
      have HKK := hid kk
      rw [hnF, hnY]
      clear hcnt hfit o4 o5 o6 held kk sz hnF hnY hnQ hGF hi
      go_wp2_with fail
      refine HSZS.out.mono ?_
      rintro e wz ⟨rfl, n, hw⟩
      rw [HLEN.out.1, HLEN.out.2.1, HLEN.out.2.2.1, HLEN.out.2.2.2]
      have HHE1 := hid (show HeldAt T wz (B + 3) S by rw [hw]; exact HHE.out.kept (U := fun _ => False) ((Kept.refl _ _).drewN n) (fun _ _ _ => id))
      have HO61 := hid (show wz.ownsRow 0 3 1 (.slice (some ⟨B + 4 + 1 + 1, 0, none⟩) fo.length l) fo.length (ints fo) by rw [hw]; exact own_kept (S := fun _ => False) HO6.out ((Kept.refl _ _).drewN n) (fun _ _ => id))
      have HKK1 := hid (show Kept (fun b => B ≤ b) w1 wz by rw [hw]; exact HKK.out.drewN n)
      clear hw HHE HO6 HKK HSZS
      go_wp2_with fail
      go_loopw [15, 16] (fun s15 s16 wx => ∃ f : Nat, f ≤ nF ∧ s16 = .int .i64 f ∧ s15 = .int .i64 (sumD S.G f : Nat) ∧ HeldAt T wx (B + 3) S ∧ wx.ownsRow 0 3 1 (.slice (some ⟨B + 4 + 1 + 1, 0, none⟩) fo.length l) fo.length (ints fo) ∧ Kept (fun b => B ≤ b) w1 wx) (fun _ s16 _ => nF - (intOf s16).toNat)
      case atStart => exact ⟨0, Nat.zero_le _, rfl, rfl, HHE1.out, HO61.out, HKK1.out⟩
      case round =>
        obtain ⟨f, hf, rfl, rfl, hhe, ho6, hkk⟩ := hrel
        clear HHE1 HO61 HKK1
        by_cases hltf : f < nF
        · have hfG : f < S.G.length := by rw [HLEN.out.2.2.2]; exact hltf
          obtain ⟨⟨W, c, d⟩, hg⟩ : ∃ g, S.G[f] = g := ⟨_, rfl⟩
          have hfr : S.fr f = (W, c, d) := St.fr_eq S f _ (by rw [List.getElem?_eq_getElem hfG, hg])
          have q1 := HCNT.out.cnt f hfG
          have q2 := HCNT.out.dle f
          have q3 := HCNT.out.wl f
          rw [hfr] at q1 q2 q3
          simp only at q1 q2 q3
          have q4 := (HFIT.out.c S.G[f] (List.getElem_mem hfG)).1
          rw [hg] at q4
          simp only at q4
          have HC := hid q1
          have HSU := hid (show sumD S.G (f + 1) = sumD S.G f + d by rw [sumD_succ S.G f hfG, hg])
          have HFU := hid (fund14 T (B + 3) S wr f W c d hhe hfG hg (by rw [HLEN.out.2.2.2]; omega))
          have hsle := HSLE.out f hf
          obtain ⟨sd, hsd⟩ : ∃ sd, sumD S.G f = sd := ⟨_, rfl⟩
          rw [hsd] at hsle ⊢
          have HSU2 := hid (show sumD S.G (f + 1) = sd + d by rw [HSU.out, hsd])
          have HO := hid ho6
          have HK := hid hkk
          have HH := hid hhe
          have hfi : (f : Int) < nF := by omega
          have hf0 : (0 : Int) ≤ f := by omega
          clear hhe ho6 hkk hg hfr q1 HSU hsd hfG
          go_wp2_with fail
          go_loopw [17, 18] (fun s17 s18 wx => ∃ k : Nat, k ≤ fo.length ∧ s18 = .int .i64 k ∧ s17 = .int .i64 ((fo.take k).count f : Nat) ∧ wx = wr) (fun _ s18 _ => fo.length - (intOf s18).toNat)
          case atStart => exact ⟨0, Nat.zero_le _, rfl, by simp, rfl⟩
          case round =>
            obtain ⟨k, hk, rfl, rfl, hwx⟩ := hrel
            subst hwx
            by_cases hltk : k < fo.length
            · obtain ⟨y, hy⟩ : ∃ y, fo[k] = y := ⟨_, rfl⟩
              have hc : wr.cell? ⟨B + 4 + 1 + 1, k, none⟩ = some (.int .i64 (y : Int)) := by rw [HO.out.cellAt k (by omega)]; simp [ints, hltk, hy]
              have hct := count_take fo f k hltk
              have hmk : (fo.take k).count f ≤ k := Nat.le_trans List.count_le_length (by simp; omega)
              obtain ⟨m, hm⟩ : ∃ m, (fo.take k).count f = m := ⟨_, rfl⟩
              rw [hy, hm] at hct
              rw [hm] at hmk ⊢
              have HCT := hid hct
              have hki : (k : Int) < fo.length := by omega
              have hk0 : (0 : Int) ≤ k := by omega
              clear hct hy hm
              by_cases he : y = f
              · have hb : ((y : Int) == (f : Int)) = true := by simp [he]
                go_wp2_with fail
                go_roundw
                case rel =>
                  go_light
                  refine ⟨k + 1, by omega, by go_num, ?_, trivial⟩
                  rw [HCT.out, if_pos he]
                  go_num
                case measure => simp [intOf]; omega
              · have hb : ((y : Int) == (f : Int)) = false := by simp; omega
                go_wp2_with fail
                go_roundw
                case rel =>
                  go_light
                  refine ⟨k + 1, by omega, by go_num, ?_, trivial⟩
                  rw [HCT.out, if_neg he]
                  go_num
                case measure => simp [intOf]; omega
            · have hkl : k = fo.length := by omega
              have e17 : (fo.take k).count f = c := by rw [hkl, List.take_length]; exact HC.out.symm
              rw [e17]
              have hd0 : ¬ (d : Int) < 0 := by omega
              have hdc : ¬ (c : Int) < d := by omega
              have hwc : ¬ (c : Int) + 1 < W.length := by omega
              obtain ⟨nW, hnW⟩ : ∃ n, W.length = n := ⟨_, rfl⟩
              have hfu := HFU.out
              rw [hnW] at hwc q3 hfu
              have HFU2 := hid hfu
              have hc1 : c ≤ 4096 := by omega
              have hd1 : d ≤ 4096 := by omega
              have hsd1 : sd ≤ 16777216 := by omega
              clear hfu HFU hnW e17
              go_wp2_with fail
              refine HFU2.out.mono ?_
              rintro e wy ⟨rfl, ky⟩
              have HR := hid (show HeldAt T wy (B + 3) S ∧ wy.ownsRow 0 3 1 (.slice (some ⟨B + 4 + 1 + 1, 0, none⟩) fo.length l) fo.length (ints fo) ∧ Kept (fun b => B ≤ b) w1 wy from ⟨HH.out.kept ky (fun _ _ _ => id), own_kept HO.out ky (fun _ _ => id), HK.out.trans (ky.mono (fun _ _ h => h.elim))⟩)
              clear ky HFU2
              go_wp2_with fail
              go_roundw
              case rel =>
                go_light
                refine ⟨f + 1, by omega, by go_num, ?_, HR.out⟩
                rw [HSU2.out]
                go_num
              case measure => simp [intOf]; omega
        · have hfn : f = nF := by omega
          rw [hfn, HSUM.out]
          have HK := hid hkk
          clear hkk hhe ho6
          go_wp2_with fail
          go_ret
          exact ⟨rfl, ((HK1.out.mono (T := fun b => w.heap.size ≤ b) (fun _ _ h => h.elim)).trans (HK.out.mono (fun b hb h => by have := HBB.out; omega))).below (Nat.le_refl _) (fun k hk => by omega)⟩
      --/F2

end Go.Proofs.Qxb6601932a
