/-
  The law: a script given twice changes nothing.
-/
import Derived.Test.Qxb6601898aSaved
import Derived.Deep.CutBlock
import Derived.Deep.DeepCutAuto
import Derived.Deep.RegionHeld3
namespace Go.Proofs.Qxb6601898a
open Go.RowKit
set_option linter.unusedVariables false
set_option linter.unusedSimpArgs false

set_option maxRecDepth 100000 in
set_option maxHeartbeats 4000000 in
theorem replay_any (a0 a1 a2 : Option Addr) (l0 c0 l1 c1 l2 c2 : Nat) (ps : Nat → ByteArray) (is : Nat → Int) (bs : Nat → Bool) (w : World) (hl0 : l0 ≤ maxLen) (hl1 : l1 ≤ maxLen) (hl2 : l2 ≤ maxLen)
    (r0 : VReads w a0 l0 (fun i => .string (ps i))) (r1 : VReads w a1 l1 (fun i => .int .i64 (is i))) (r2 : VReads w a2 l2 (fun i => .bool (bs i))) (hs : ∀ i, i < l0 → (ps i).size ≤ maxLen) :
    Calls Try.prog 6 #[.slice a0 l0 c0, .slice a1 l1 c1, .slice a2 l2 c2] w fun e w' => e = .returned (.bool true) ∧ Below w.heap.size w w' := by
  have R0 := hid r0
  have R1 := hid r1
  have R2 := hid r2
  have HS := hid hs
  have HL0 := hid hl0
  have HL1 := hid hl1
  have HL2 := hid hl2
  have hm0 : l0 ≤ 2 ^ 63 - 1 := hl0
  have hm1 : l1 ≤ 2 ^ 63 - 1 := hl1
  have hm2 : l2 ≤ 2 ^ 63 - 1 := hl2
  clear r0 r1 r2 hs hl0 hl1 hl2
  obtain ⟨n, hn⟩ : ∃ n, min l0 (min l1 l2) = n := ⟨_, rfl⟩
  have HN := hid hn
  have L := length13 a0 a1 a2 l0 c0 l1 c1 l2 c2 w
  rw [hn] at L
  have HLE := hid L
  clear hn L
  go_enter Try.func6, Try.ntmps6
  go_wp2_with fail
  refine (bytes16 a0 a1 a2 l0 c0 l1 c1 l2 c2 ps w HL0.out HL1.out HL2.out R0.out HS.out).mono ?_
  rintro e wz ⟨⟨b, rfl⟩, hw⟩
  subst wz
  cases b with
  | false =>
    go_wp2_with fail
    go_ret
    exact ⟨rfl, Below.refl _ _⟩
  | true =>
  by_cases h1 : 32768 < l1
  · go_wp2_with fail
    go_ret
    exact ⟨rfl, Below.refl _ _⟩
  by_cases h2 : 65536 < l2
  · go_wp2_with fail
    go_ret
    exact ⟨rfl, Below.refl _ _⟩
  go_wp2_with fail
  refine (fit12 a0 l0 c0 ps w HL0.out R0.out HS.out).mono ?_
  rintro e wz ⟨⟨b, rfl⟩, hw⟩
  subst wz
  cases b with
  | false =>
    go_wp2_with fail
    go_ret
    exact ⟨rfl, Below.refl _ _⟩
  | true =>
  go_wp2_with fail
  refine HLE.out.mono ?_
  rintro e wz ⟨rfl, hw⟩
  subst wz
  by_cases h3 : 4096 < n
  · go_wp2_with fail
    go_ret
    exact ⟨rfl, Below.refl _ _⟩
  go_upto_block 0 with fail
  have hn0 : n ≤ l0 := by have := HN.out; omega
  have hn1 : n ≤ l1 := by have := HN.out; omega
  have hn2 : n ≤ l2 := by have := HN.out; omega
  go_cut [9] (fun s9 wc => PatAt (w.heap.size ≤ ·) wc w.heap.size (script ps is bs n) ∧ Kept (w.heap.size ≤ ·) w wc)
  case first =>
    --F1
    go_wp2_with fail
    go_loopw [9] (fun s wr => ∃ j : Nat, j ≤ n ∧ s = .int .i64 j ∧ PatAt (w.heap.size ≤ ·) wr w.heap.size (script ps is bs j) ∧ Kept (w.heap.size ≤ ·) w wr) (fun s _ => n - (intOf s).toNat)
    case atStart => exact ⟨0, Nat.zero_le _, rfl, PatAt.nil w _ (Nat.le_refl _), (Kept.refl _ _).alloc _⟩
    case round =>
      obtain ⟨j, hj, rfl, hp, hk⟩ := hrel
      by_cases hlt : j < n
      · have hji : (j : Int) < n := by omega
        have hj0 : (j : Int) < l0 := by omega
        have hj1 : (j : Int) < l1 := by omega
        have hj2 : (j : Int) < l2 := by omega
        have hjz : (0 : Int) ≤ j := by omega
        obtain ⟨p, hp1⟩ : ∃ p, ps j = p := ⟨_, rfl⟩
        obtain ⟨i, hi1⟩ : ∃ i, is j = i := ⟨_, rfl⟩
        obtain ⟨b, hb1⟩ : ∃ b, bs j = b := ⟨_, rfl⟩
        have HPI := hid (And.intro hp1 (And.intro hi1 hb1))
        obtain ⟨b0, o0, e0, d0, y0⟩ := R0.out.at hk (fun b hb => Nat.not_le.2 hb) j (by omega) (congrArg Value.string hp1)
        obtain ⟨b1, o1, e1, d1, y1⟩ := R1.out.at hk (fun b hb => Nat.not_le.2 hb) j (by omega) (congrArg (Value.int .i64) hi1)
        obtain ⟨b2, o2, e2, d2, y2⟩ := R2.out.at hk (fun b hb => Nat.not_le.2 hb) j (by omega) (congrArg Value.bool hb1)
        subst e0 e1 e2
        have hsz := hk.size
        have hl := script_len ps is bs j
        have ho := script_own ps is bs j
        have HP := hid hp
        have HK := hid hk
        have HO := hid (fun x hx => Nat.le_trans (ho x hx) (by omega) : ∀ x ∈ script ps is bs j, x.2.length ≤ 8192)
        clear hp hk ho hp1 hi1 hb1
        go_wp2_with fail
        go_region_held3 (fun w' => w'.cell? ⟨b0, o0 + j, none⟩ = some (.string p) ∧ w'.cell? ⟨b1, o1 + j, none⟩ = some (.int .i64 i) ∧ w'.cell? ⟨b2, o2 + j, none⟩ = some (.bool b)) (go_keep) (first | (go_at_call 14; refine (add_any (w.heap.size ≤ ·) w.heap.size (script ps is bs j) p i b _ HP.out.drew (fun b hb => Nat.le_trans hsz hb) (by omega) HO.out).mono ?_; rintro e wz ⟨rfl, hp2, hk2⟩; have y0' := (hk2.cell (p := ⟨b0, o0 + j, none⟩) (Nat.lt_of_lt_of_le d0 hsz) (Nat.not_le.2 d0)).trans y0; have y1' := (hk2.cell (p := ⟨b1, o1 + j, none⟩) (Nat.lt_of_lt_of_le d1 hsz) (Nat.not_le.2 d1)).trans y1; have y2' := (hk2.cell (p := ⟨b2, o2 + j, none⟩) (Nat.lt_of_lt_of_le d2 hsz) (Nat.not_le.2 d2)).trans y2; have HP2 := hid hp2; have HK2 := hid hk2; clear hp2 hk2))
        all_goals go_wp2_with fail
        go_roundw
        case rel =>
          obtain ⟨rfl, rfl, rfl⟩ := HPI.out
          exact ⟨j + 1, by omega, by go_num, HP2.out, HK.out.drew.trans HK2.out⟩
        case measure => simp [intOf]; omega
      · obtain rfl : j = n := by omega
        go_wp2_with fail
        go_meet
        case rel => exact ⟨hp, hk⟩
    --/F1
  case rest =>
    obtain ⟨hp, hk⟩ := hcut
    obtain ⟨w1, hw1⟩ : ∃ w1, w1 = wc := ⟨_, rfl⟩
    subst hw1
    obtain ⟨S, hS⟩ : ∃ S, script ps is bs n = S := ⟨_, rfl⟩
    have hlS := script_len ps is bs n
    have hoS := script_own ps is bs n
    have hst := script_still ps is bs n
    rw [hS] at hp hlS hoS hst
    obtain ⟨m, hm⟩ : ∃ m, S.length = m := ⟨_, rfl⟩
    obtain ⟨nm, hnm⟩ : ∃ nm : Nat → ByteArray, ∀ (k : Nat) (h : k < S.length), S[k].1 = nm k := ⟨fun k => if h : k < S.length then S[k].1 else ByteArray.empty, fun k h => by simp [h]⟩
    obtain ⟨px, hpx⟩ : ∃ px : ByteArray → Nat, ∀ x, (place (S.map (·.1)) x).getD 0 = px x := ⟨_, fun _ => rfl⟩
    obtain ⟨pk, hpk⟩ : ∃ pk : ByteArray → Bool, ∀ x, (place (S.map (·.1)) x).isSome = pk x := ⟨_, fun _ => rfl⟩
    have hid' : ∀ T wr x, PatAt T wr w.heap.size S → Calls Try.prog 20 #[.pointer (some ⟨w.heap.size, 0, none⟩), .string x] wr fun e w' => e = .returned (.tuple #[.int .i64 (px x : Nat), .bool (pk x)]) ∧ w' = wr := fun T wr x h => by
      have := id20 T w.heap.size S x wr h
      rw [hpx, hpk] at this
      exact this
    have c17 := list17 _ _ _ _ hp
    have c18 := owners18 _ _ _ _ hp
    have c19 := ids19 _ _ _ _ hp
    rw [hm] at c17 c18 c19 hlS
    have HM := hid hm
    have HP := hid hp
    have HK := hid hk
    have HOS := hid hoS
    have HST := hid hst
    have HNM := hid hnm
    have HID := hid hid'
    have C17 := hid c17
    have C18 := hid c18
    have C19 := hid c19
    have hkz := hk.size
    clear hm hp hk hoS hst hnm hid' c17 c18 c19 hpx hpk hS
    go_wp2_with fail
    refine C17.out.mono ?_
    rintro e wz ⟨aL, cL, rfl, hw, hown⟩
    subst wz
    have HOWN := hid hown
    clear hown C17
    have hmn : (m : Int) ≤ n := by omega
    go_wp2_with fail
    refine C18.out.mono ?_
    rintro e wz ⟨rfl, hw⟩
    subst wz
    clear C18
    go_wp2_with fail
    refine C19.out.mono ?_
    rintro e wz ⟨rfl, hw⟩
    subst wz
    clear C19
    obtain ⟨i9, hi9, hz90, hz91, hz92⟩ := info_parts Try.info9
    obtain ⟨i3, hi3, hz30, hz31, hz32⟩ := info_parts Try.info3
    obtain ⟨i4, hi4, hz40, hz41, hz42⟩ := info_parts Try.info4
    have HI9 := hid (And.intro hi9 (And.intro hz90 (And.intro hz91 hz92)))
    have HI3 := hid (And.intro hi3 (And.intro hz30 (And.intro hz31 hz32)))
    have HI4 := hid (And.intro hi4 (And.intro hz40 (And.intro hz41 hz42)))
    clear hi9 hz90 hz91 hz92 hi3 hz30 hz31 hz32 hi4 hz40 hz41 hz42
    go_upto_block 2 with (first | ((with_reducible (refine at_op (.makeSlice 28 (.tmp 98) (.tmp 98)) rfl ?_)); refine wpList_make_exact _ rfl (.tmp 98) (.tmp 98) 28 rfl 9 i9 (.string ByteArray.empty) 1 Try.underlying28 HI9.out.1 HI9.out.2.1 HI9.out.2.2.1 .i64 .i64 m m m m rfl rfl rfl rfl (Nat.le_refl _) (by rw [HI9.out.2.2.2]; omega) (by unfold maxLen; omega) ?_) | ((with_reducible (refine at_op (.makeSlice 29 (.tmp 100) (.tmp 100)) rfl ?_)); refine wpList_make_exact _ rfl (.tmp 100) (.tmp 100) 29 rfl 3 i3 (.int .i64 0) 1 Try.underlying29 HI3.out.1 HI3.out.2.1 HI3.out.2.2.1 .i64 .i64 m m m m rfl rfl rfl rfl (Nat.le_refl _) (by rw [HI3.out.2.2.2]; omega) (by unfold maxLen; omega) ?_) | ((with_reducible (refine at_op (.makeSlice 30 (.tmp 102) (.tmp 102)) rfl ?_)); refine wpList_make_exact _ rfl (.tmp 102) (.tmp 102) 30 rfl 4 i4 (.bool false) 1 Try.underlying30 HI4.out.1 HI4.out.2.1 HI4.out.2.2.1 .i64 .i64 m m m m rfl rfl rfl rfl (Nat.le_refl _) (by rw [HI4.out.2.2.2]; omega) (by unfold maxLen; omega) ?_))
    go_cut [16] (fun s16 wc => Vals 9 wc w1.heap.size m (fun i => .string (nm i)) ∧ Vals 3 wc (w1.heap.size + 1) m (fun i => .int .i64 (px (nm i))) ∧ Vals 4 wc (w1.heap.size + 1 + 1) m (fun i => .bool (pk (nm i))) ∧ Kept (w1.heap.size ≤ ·) w1 wc)
    case first =>
      --F2
      go_wp2_with fail
      go_loopw [16] (fun s wr => ∃ k : Nat, k ≤ m ∧ s = .int .i64 k ∧ Vals 9 wr w1.heap.size m (firstK (fun i => .string (nm i)) (.string ByteArray.empty) k) ∧ Vals 3 wr (w1.heap.size + 1) m (firstK (fun i => .int .i64 (px (nm i))) (.int .i64 0) k) ∧ Vals 4 wr (w1.heap.size + 1 + 1) m (firstK (fun i => .bool (pk (nm i))) (.bool false) k) ∧ Kept (w1.heap.size ≤ ·) w1 wr) (fun s _ => m - (intOf s).toNat)
      case atStart =>
        refine ⟨0, Nat.zero_le _, rfl, ?_, ?_, ?_, (((Kept.refl _ _).alloc _).alloc _).alloc _⟩
        · exact (((Vals.new 9 w1 _ m _ rfl).alloc _).alloc _).congr (fun i _ => firstK_zero _ _ i)
        · exact ((Vals.new 3 _ _ m _ (by simp)).alloc _).congr (fun i _ => firstK_zero _ _ i)
        · exact (Vals.new 4 _ _ m _ (by simp)).congr (fun i _ => firstK_zero _ _ i)
      case round =>
        obtain ⟨k, hk, rfl, v0, v1, v2, kp⟩ := hrel
        by_cases hlt : k < m
        · have hki : (k : Int) < m := by omega
          have hkz : (0 : Int) ≤ k := by omega
          obtain ⟨x, hx⟩ : ∃ x, nm k = x := ⟨_, rfl⟩
          have hxl : (S.map fun x => Value.string x.1)[k]? = some (.string x) := by
            have hm := HM.out
            rw [List.getElem?_map, List.getElem?_eq_getElem (by omega), Option.map_some, HNM.out k (by omega), hx]
          have ho := HOWN.out
          obtain ⟨g, rfl, hg, y0⟩ := own_cell ho kp (fun b hb _ => Nat.not_le.2 hb) k hlt hxl
          have hge : g ≠ w1.heap.size := by omega
          have y1 := v0.cell k hlt
          have y2 := v0.frozen k
          have y3 := v1.cell k hlt
          have y4 := v1.frozen k
          have y5 := v2.cell k hlt
          have y6 := v2.frozen k
          have V0 := hid v0
          have V1 := hid v1
          have V2 := hid v2
          have KP := hid kp
          have HX := hid hx
          obtain ⟨q1, hq1⟩ : ∃ q, px x = q := ⟨_, rfl⟩
          obtain ⟨q2, hq2⟩ : ∃ q, pk x = q := ⟨_, rfl⟩
          have call := HID.out _ (wr.setCell ⟨w1.heap.size, k, none⟩ (.string x)) x (HP.out.kept (kp.setCell (p := ⟨w1.heap.size, k, none⟩) (.inl (Nat.le_refl _)) _) (fun b hb _ h => absurd h (Nat.not_le.2 hb)))
          rw [hq1, hq2] at call
          have CALL := hid call
          have HQ := hid (And.intro hq1 hq2)
          clear v0 v1 v2 kp hx hxl ho call hq1 hq2
          go_wp2_with fail
          refine CALL.out.mono ?_
          rintro e wz ⟨rfl, hw⟩
          subst wz
          go_wp2_with fail
          go_roundw
          case rel =>
            obtain ⟨rfl, rfl⟩ := HQ.out
            obtain rfl := HX.out
            refine ⟨k + 1, by omega, by go_num, ?_, ?_, ?_, ?_⟩
            · exact (((V0.out.set k _).set_other (by omega) _).set_other (by omega) _).congr (fun i _ => firstK_succ _ _ k i)
            · exact (((V1.out.set_other (by omega) _).set k _).set_other (by omega) _).congr (fun i _ => firstK_succ _ _ k i)
            · exact (((V2.out.set_other (by omega) _).set_other (by omega) _).set k _).congr (fun i _ => firstK_succ _ _ k i)
            · exact ((KP.out.setCell (.inl (by simp)) _).setCell (.inl (by simp)) _).setCell (.inl (by simp; omega)) _
          case measure => simp [intOf]; omega
        · obtain rfl : k = m := by omega
          go_wp2_with fail
          go_meet
          case rel => exact ⟨v0.congr (fun i hi => firstK_full _ _ _ i hi), v1.congr (fun i hi => firstK_full _ _ _ i hi), v2.congr (fun i hi => firstK_full _ _ _ i hi), kp⟩
      --/F2
    case rest =>
      obtain ⟨v0, v1, v2, kp⟩ := hcut
      obtain ⟨w2, hw2⟩ : ∃ w2, w2 = wc := ⟨_, rfl⟩
      subst hw2
      have V0 := hid v0
      have V1 := hid v1
      have V2 := hid v2
      have K12 := hid kp
      have l0' := v0.lt
      have l1' := v1.lt
      have l2' := v2.lt
      have P2 := hid (HP.out.kept kp (fun b hb _ h => absurd h (Nat.not_le.2 hb)))
      have KW := hid (HK.out.trans (kp.mono (T := (w.heap.size ≤ ·)) (fun b _ hb => Nat.le_trans hkz hb)))
      have hkz2 := KW.out.size
      clear v0 v1 v2 kp
      have hnn : (n : Int) ≤ 4096 := by omega
      go_upto_block 4 with (first | ((with_reducible (refine at_op (.makeSlice 29 (.tmp 133) (.tmp 133)) rfl ?_)); refine wpList_make_exact _ rfl (.tmp 133) (.tmp 133) 29 rfl 3 i3 (.int .i64 0) 1 Try.underlying29 HI3.out.1 HI3.out.2.1 HI3.out.2.2.1 .i64 .i64 n n n n rfl rfl rfl rfl (Nat.le_refl _) (by rw [HI3.out.2.2.2]; omega) (by unfold maxLen; omega) ?_) | ((with_reducible (refine at_op (.makeSlice 30 (.tmp 135) (.tmp 135)) rfl ?_)); refine wpList_make_exact _ rfl (.tmp 135) (.tmp 135) 30 rfl 4 i4 (.bool false) 1 Try.underlying30 HI4.out.1 HI4.out.2.1 HI4.out.2.2.1 .i64 .i64 n n n n rfl rfl rfl rfl (Nat.le_refl _) (by rw [HI4.out.2.2.2]; omega) (by unfold maxLen; omega) ?_))
      go_cut [21] (fun s21 wc => Vals 3 wc w2.heap.size n (fun i => .int .i64 (px (ps i))) ∧ Vals 4 wc (w2.heap.size + 1) n (fun i => .bool (pk (ps i))) ∧ Kept (w2.heap.size ≤ ·) w2 wc)
      case first =>
        --F3
        go_wp2_with fail
        go_loopw [21] (fun s wr => ∃ k : Nat, k ≤ n ∧ s = .int .i64 k ∧ Vals 3 wr w2.heap.size n (firstK (fun i => .int .i64 (px (ps i))) (.int .i64 0) k) ∧ Vals 4 wr (w2.heap.size + 1) n (firstK (fun i => .bool (pk (ps i))) (.bool false) k) ∧ Kept (w2.heap.size ≤ ·) w2 wr) (fun s _ => n - (intOf s).toNat)
        case atStart =>
          refine ⟨0, Nat.zero_le _, rfl, ?_, ?_, ((Kept.refl _ _).alloc _).alloc _⟩
          · exact ((Vals.new 3 w2 _ n _ rfl).alloc _).congr (fun i _ => firstK_zero _ _ i)
          · exact (Vals.new 4 _ _ n _ (by simp)).congr (fun i _ => firstK_zero _ _ i)
        case round =>
          obtain ⟨k, hk, rfl, v1, v2, kp⟩ := hrel
          by_cases hlt : k < n
          · have hki : (k : Int) < n := by omega
            have hki0 : (k : Int) < l0 := by omega
            have hkz : (0 : Int) ≤ k := by omega
            obtain ⟨x, hx⟩ : ∃ x, ps k = x := ⟨_, rfl⟩
            obtain ⟨b0, o0, e0, d0, y0⟩ := R0.out.at (KW.out.trans (kp.mono (T := (w.heap.size ≤ ·)) (fun b _ hb => Nat.le_trans hkz2 hb))) (fun b hb => Nat.not_le.2 hb) k (by omega) (congrArg Value.string hx)
            subst e0
            have y3 := v1.cell k hlt
            have y4 := v1.frozen k
            have y5 := v2.cell k hlt
            have y6 := v2.frozen k
            have V1 := hid v1
            have V2 := hid v2
            have KP := hid kp
            have HX := hid hx
            obtain ⟨q1, hq1⟩ : ∃ q, px x = q := ⟨_, rfl⟩
            obtain ⟨q2, hq2⟩ : ∃ q, pk x = q := ⟨_, rfl⟩
            have call := HID.out _ wr x (P2.out.kept kp (fun b hb _ h => absurd h (Nat.not_le.2 hb)))
            rw [hq1, hq2] at call
            have CALL := hid call
            have HQ := hid (And.intro hq1 hq2)
            clear v1 v2 kp hx call hq1 hq2
            go_wp2_with fail
            refine CALL.out.mono ?_
            rintro e wz ⟨rfl, hw⟩
            subst wz
            go_wp2_with fail
            go_roundw
            case rel =>
              obtain ⟨rfl, rfl⟩ := HQ.out
              obtain rfl := HX.out
              refine ⟨k + 1, by omega, by go_num, ?_, ?_, ?_⟩
              · exact ((V1.out.set k _).set_other (by omega) _).congr (fun i _ => firstK_succ _ _ k i)
              · exact ((V2.out.set_other (by omega) _).set k _).congr (fun i _ => firstK_succ _ _ k i)
              · exact (KP.out.setCell (.inl (by simp)) _).setCell (.inl (by simp)) _
            case measure => simp [intOf]; omega
          · obtain rfl : k = n := by omega
            go_wp2_with fail
            go_meet
            case rel => exact ⟨v1.congr (fun i hi => firstK_full _ _ _ i hi), v2.congr (fun i hi => firstK_full _ _ _ i hi), kp⟩
        --/F3
      case rest =>
        obtain ⟨v3, v4, kp⟩ := hcut
        obtain ⟨w3, hw3⟩ : ∃ w3, w3 = wc := ⟨_, rfl⟩
        subst hw3
        have V3 := hid v3
        have V4 := hid v4
        have K23 := hid kp
        have l3' := v3.lt
        have l4' := v4.lt
        have P3 := hid (P2.out.kept kp (fun b hb _ h => absurd h (Nat.not_le.2 hb)))
        clear v3 v4 kp
        obtain ⟨cn, hcn⟩ : ∃ cn : Nat → Nat, ∀ (k : Nat) (h : k < S.length), S[k].2.length = cn k := ⟨fun k => if h : k < S.length then S[k].2.length else 0, fun k h => by simp [h]⟩
        have HCN := hid hcn
        clear hcn
        go_upto_block 6 with (first | ((with_reducible (refine at_op (.makeSlice 29 (.tmp 159) (.tmp 159)) rfl ?_)); refine wpList_make_exact _ rfl (.tmp 159) (.tmp 159) 29 rfl 3 i3 (.int .i64 0) 1 Try.underlying29 HI3.out.1 HI3.out.2.1 HI3.out.2.2.1 .i64 .i64 m m m m rfl rfl rfl rfl (Nat.le_refl _) (by rw [HI3.out.2.2.2]; omega) (by unfold maxLen; omega) ?_) | ((with_reducible (refine at_op (.makeSlice 29 (.const (.int .i64 0)) (.tmp 161)) rfl ?_)); refine wpList_make_exact _ rfl (.const (.int .i64 0)) (.tmp 161) 29 rfl 3 i3 (.int .i64 0) 1 Try.underlying29 HI3.out.1 HI3.out.2.1 HI3.out.2.2.1 .i64 .i64 0 n 0 n rfl rfl rfl rfl (Nat.zero_le _) (by rw [HI3.out.2.2.2]; omega) (by unfold maxLen; omega) ?_) | ((with_reducible (refine at_op (.makeSlice 30 (.const (.int .i64 0)) (.tmp 163)) rfl ?_)); refine wpList_make_exact _ rfl (.const (.int .i64 0)) (.tmp 163) 30 rfl 4 i4 (.bool false) 1 Try.underlying30 HI4.out.1 HI4.out.2.1 HI4.out.2.2.1 .i64 .i64 0 n 0 n rfl rfl rfl rfl (Nat.zero_le _) (by rw [HI4.out.2.2.2]; omega) (by unfold maxLen; omega) ?_))
        go_cut [25, 26] (fun s25 s26 wc => ∃ I J, I = (off S m).map (·.1) ∧ J = (off S m).map (·.2) ∧ Two (w3.heap.size + 1) wc s25 s26 I J ∧ Vals 3 wc w3.heap.size m (fun i => .int .i64 (cn i)) ∧ Kept (w3.heap.size ≤ ·) w3 wc)
        case first =>
          --F4
          go_wp2_with fail
          go_loopw [25, 26, 27] (fun s25 s26 s wr => ∃ k : Nat, k ≤ m ∧ s = .int .i64 k ∧ ∃ I J, I = (off S k).map (·.1) ∧ J = (off S k).map (·.2) ∧ Two (w3.heap.size + 1) wr s25 s26 I J ∧ Vals 3 wr w3.heap.size m (firstK (fun i => .int .i64 (cn i)) (.int .i64 0) k) ∧ Kept (w3.heap.size ≤ ·) w3 wr) (fun _ _ s _ => m - (intOf s).toNat)
          case atStart =>
            refine ⟨0, Nat.zero_le _, rfl, [], [], by rw [off_zero]; rfl, by rw [off_zero]; rfl, ?_, ?_, (((Kept.refl _ _).alloc _).alloc _).alloc _⟩
            · exact Two.new _ n _ (by unfold maxLen; omega) (by simp)
            · exact (((Vals.new 3 w3 _ m _ rfl).alloc _).alloc _).congr (fun i _ => firstK_zero _ _ i)
          case round =>
            obtain ⟨k, hk, rfl, I, J, hI, hJ, tw, v5, kp⟩ := hrel
            by_cases hlt : k < m
            · have hki : (k : Int) < m := by omega
              have hkz : (0 : Int) ≤ k := by omega
              have hkS : k < S.length := by have := HM.out; omega
              obtain ⟨c, hc⟩ : ∃ c, cn k = c := ⟨_, rfl⟩
              have hcl : S[k].2.length = c := (HCN.out k hkS).trans hc
              have hcn : c ≤ n := by rw [← hcl]; exact HOS.out _ (List.getElem_mem _)
              have hcni : (c : Int) ≤ n := by omega
              have P4 := P3.out.kept kp (fun b hb _ h => absurd h (Nat.not_le.2 hb))
              have call := count21 _ w.heap.size k S wr P4 hkS (by have := HM.out; omega)
              rw [hcl] at call
              have CALL := hid call
              have y1 := v5.cell k hlt
              have y2 := v5.frozen k
              have V5 := hid v5
              have TW := hid tw
              have KP := hid kp
              have HIJ := hid (And.intro hI hJ)
              have HCL := hid (And.intro hcl hc)
              obtain ⟨aI, cI, rfl⟩ := own_form tw.ids
              obtain ⟨aJ, cJ, rfl⟩ := own_form tw.jss
              clear v5 tw kp call P4 hI hJ hcl hc
              go_wp2_with fail
              refine CALL.out.mono ?_
              rintro e wz ⟨rfl, hw⟩
              subst wz
              clear CALL
              have hdec : decide (n < c) = false := by simpa using hcn
              go_wp2_with fail
              try simp only [hdec]
              go_loopw [25, 26, 29] (fun s25 s26 s wr => ∃ i : Nat, i ≤ c ∧ s = .int .i64 i ∧ ∃ I J, I = (off S k ++ S[k].2.take i).map (·.1) ∧ J = (off S k ++ S[k].2.take i).map (·.2) ∧ Two (w3.heap.size + 1) wr s25 s26 I J ∧ Vals 3 wr w3.heap.size m (firstK (fun i => .int .i64 (cn i)) (.int .i64 0) (k + 1)) ∧ Kept (w3.heap.size ≤ ·) w3 wr) (fun _ _ s _ => c - (intOf s).toNat)
              case atStart =>
                refine ⟨0, Nat.zero_le _, rfl, I, J, by rw [HIJ.out.1]; simp, by rw [HIJ.out.2]; simp, ?_, ?_, KP.out.setCell (p := ⟨w3.heap.size, k, none⟩) (.inl (Nat.le_refl _)) _⟩
                · exact TW.out.kept (U := fun b => b = w3.heap.size) ((Kept.refl (fun b => b = w3.heap.size) wr).setCell (p := ⟨w3.heap.size, k, none⟩) (.inr rfl) _) (fun b _ h e => by omega)
                · obtain ⟨_, rfl⟩ := HCL.out
                  exact (V5.out.set k _).congr (fun i _ => firstK_succ _ _ k i)
              case round =>
                clear HIJ TW V5 KP y1 y2
                obtain ⟨i, hi, rfl, I, J, hI, hJ, tw, v5, kp⟩ := hrel
                by_cases hlt2 : i < c
                · have hii : (i : Int) < c := by omega
                  have hiz : (0 : Int) ≤ i := by omega
                  have hiS : i < S[k].2.length := by rw [HCL.out.1]; exact hlt2
                  obtain ⟨⟨x, y⟩, hxy⟩ : ∃ p, S[k].2[i] = p := ⟨_, rfl⟩
                  have call := owner22 _ w.heap.size k i S wr (P3.out.kept kp (fun b hb _ h => absurd h (Nat.not_le.2 hb))) hkS (by have := HM.out; omega) hiS (by rw [HCL.out.1]; omega)
                  rw [hxy] at call
                  have CALL := hid call
                  have hIl : I.length = (off S k).length + i := by rw [hI, List.length_map, List.length_append, List.length_take]; omega
                  have hJl : J.length = (off S k).length + i := by rw [hJ, List.length_map, List.length_append, List.length_take]; omega
                  have hoff := off_le S n HOS.out k (by omega)
                  have hbnd : (off S k).length ≤ 16777216 := Nat.le_trans hoff (Nat.le_trans (Nat.mul_le_mul (show k ≤ 4096 by omega) (show n ≤ 4096 by omega)) (by decide))
                  have hIb : I.length + 1 ≤ 16781313 := by omega
                  have hJb : J.length + 1 ≤ 16781313 := by omega
                  have hstep : off S k ++ S[k].2.take (i + 1) = (off S k ++ S[k].2.take i) ++ [(x, y)] := by rw [List.take_succ_eq_append_getElem hiS, hxy, List.append_assoc]
                  have HIJ := hid (And.intro (show I ++ [x] = (off S k ++ S[k].2.take (i + 1)).map (·.1) by rw [hstep, hI]; simp) (show J ++ [y] = (off S k ++ S[k].2.take (i + 1)).map (·.2) by rw [hstep, hJ]; simp))
                  obtain ⟨aI, cI, rfl⟩ := own_form tw.ids
                  obtain ⟨aJ, cJ, rfl⟩ := own_form tw.jss
                  have V5 := hid v5
                  have TW := hid tw
                  have KP := hid kp
                  clear v5 tw kp call hI hJ hIl hJl hoff hbnd hstep hxy
                  go_wp2_with fail
                  refine CALL.out.mono ?_
                  rintro e wz ⟨rfl, nq, hw⟩
                  have TZ : Hid (Two (w3.heap.size + 1) wz (.slice aI I.length cI) (.slice aJ J.length cJ) I J) := by rw [hw]; exact TW.out.drewN nq
                  have VZ : Hid (Vals 3 wz w3.heap.size m (firstK (fun i => .int .i64 (cn i)) (.int .i64 0) (k + 1))) := by rw [hw]; exact V5.out.drewN nq
                  have KZ : Hid (Kept (w3.heap.size ≤ ·) w3 wz) := by rw [hw]; exact KP.out.drewN nq
                  have hz3 : w3.heap.size + 1 ≤ wz.heap.size := Nat.succ_le_of_lt VZ.out.lt
                  clear hw CALL V5 TW KP
                  go_wp2_with (at_builtin; refine wpList_append_lies _ rfl (.tmp 192) (.tmp 194) 29 rfl 0 3 i3 (.int .i64 0) 1 8 Try.underlying29 HI3.out.1 HI3.out.2.1 HI3.out.2.2.1 HI3.out.2.2.2 (by rfl) (by decide) (.slice aI I.length cI) I.length (I.map (Value.int .i64)) (by rfl) ((TZ.out.alloc _).ids) ⟨wz.heap.size, 0, none⟩ 1 1 [.int .i64 x] (by rfl) rfl (cell_one_new' _ _ _ _ rfl) (by intro u hu; simp at hu; subst hu; rfl) (by decide) (by unfold maxLen; omega) (by omega) (Nat.zero_le _) (wz.heap.size + 1) (by simp) ?_)
                  intro g1 cap1 w4 hown4 hgrow4 hat4 hlt4
                  obtain ⟨t4, k4⟩ := TZ.out.appI x hgrow4 hown4 hat4 (by omega)
                  have T4 := hid t4
                  have V4' := hid (VZ.out.kept k4 (by omega))
                  have K4 := hid (KZ.out.trans (k4.mono (T := (w3.heap.size ≤ ·)) (fun b _ h => by omega)))
                  have hz4 : w3.heap.size + 1 ≤ w4.heap.size := Nat.succ_le_of_lt V4'.out.lt
                  clear TZ VZ KZ t4 k4 hown4 hgrow4 hat4 hlt4 hz3
                  go_wp2_with (at_builtin; refine wpList_append_lies _ rfl (.tmp 196) (.tmp 198) 30 rfl 0 4 i4 (.bool false) 1 1 Try.underlying30 HI4.out.1 HI4.out.2.1 HI4.out.2.2.1 HI4.out.2.2.2 (by rfl) (by decide) (.slice aJ J.length cJ) J.length (J.map Value.bool) (by rfl) ((T4.out.alloc _).jss) ⟨w4.heap.size, 0, none⟩ 1 1 [.bool y] (by rfl) rfl (cell_one_new' _ _ _ _ rfl) (by intro u hu; simp at hu; subst hu; rfl) (by decide) (by unfold maxLen; omega) (by omega) (Nat.zero_le _) (w4.heap.size + 1) (by simp) ?_)
                  intro g2 cap2 w5 hown5 hgrow5 hat5 hlt5
                  obtain ⟨t5, k5⟩ := T4.out.appJ y hgrow5 hown5 hat5 (by omega)
                  have T5 := hid t5
                  have V5' := hid (V4'.out.kept k5 (by omega))
                  have K5 := hid (K4.out.trans (k5.mono (T := (w3.heap.size ≤ ·)) (fun b _ h => by omega)))
                  clear T4 V4' K4 t5 k5 hown5 hgrow5 hat5 hlt5 hz4
                  go_wp2_with fail
                  go_roundw
                  case rel => exact ⟨i + 1, by omega, by go_num, I ++ [x], J ++ [y], HIJ.out.1, HIJ.out.2, T5.out, V5'.out, K5.out⟩
                  case measure => simp [intOf]; omega
                · obtain rfl : i = c := by omega
                  go_wp2_with fail
                  go_roundw
                  case rel =>
                    have e1 : off S k ++ S[k].2.take i = off S (k + 1) := by rw [off_succ S k hkS, ← HCL.out.1, List.take_length]
                    rw [e1] at hI hJ
                    exact ⟨k + 1, by omega, by go_num, I, J, hI, hJ, tw, v5, kp⟩
                  case measure => simp [intOf]; omega
            · obtain rfl : k = m := by omega
              go_wp2_with fail
              go_meet
              case rel => exact ⟨I, J, hI, hJ, tw, v5.congr (fun i hi => firstK_full _ _ _ i hi), kp⟩
          --/F4
        case rest =>
          obtain ⟨I, J, hI, hJ, tw, v5, kp⟩ := hcut
          obtain ⟨w4, hw4⟩ : ∃ w4, w4 = wc := ⟨_, rfl⟩
          subst hw4
          have K24 : Kept (w2.heap.size ≤ ·) w2 w4 := K23.out.trans (kp.mono (fun b _ h => Nat.le_trans K23.out.size h))
          have SV4 := hid (SavedAt.mk (V0.out.kept K24 (by omega)) (V1.out.kept K24 (by omega)) (V2.out.kept K24 (by omega)) (V3.out.kept kp (by omega)) (V4.out.kept kp (by omega)) v5 tw K12.out.size K23.out.size)
          have P4 := hid (show PatAt (fun b => (w.heap.size ≤ b ∧ b < w1.heap.size) ∨ w4.heap.size ≤ b) w4 w.heap.size S from (((HP.out.re (U := fun b => (w.heap.size ≤ b ∧ b < w1.heap.size) ∨ w4.heap.size ≤ b) (fun b h1 h2 => .inl ⟨h2, h1⟩)).kept K12.out (fun b hb _ h => absurd h (Nat.not_le.2 hb))).kept K24 (fun b hb _ h => absurd h (Nat.not_le.2 hb))))
          have KW4 := hid (KW.out.trans (K24.mono (T := (w.heap.size ≤ ·)) (fun b _ hb => Nat.le_trans hkz2 hb)))
          have hkz4 := KW4.out.size
          have hz14 : w1.heap.size ≤ w4.heap.size := Nat.le_trans K12.out.size K24.size
          have HIJ := hid (And.intro hI hJ)
          obtain ⟨T', hT'⟩ : ∃ T' : Nat → Prop, T' = fun b => (w.heap.size ≤ b ∧ b < w1.heap.size) ∨ w4.heap.size ≤ b := ⟨_, rfl⟩
          rw [← hT'] at P4
          have hT1 := hid (show ∀ b, w4.heap.size ≤ b → T' b by rw [hT']; exact fun b h => .inr h)
          have hT2 := hid (show ∀ b, T' b → w.heap.size ≤ b by rw [hT']; intro b h; omega)
          have hT3 := hid (show ∀ b, b < w4.heap.size → w1.heap.size ≤ b → ¬ T' b by rw [hT']; intro b h1 h2 h3; omega)
          clear V0 V1 V2 V3 V4 K24 kp v5 tw hI hJ K12 K23 P2 P3 KW HP l0' l1' l2' l3' l4' hT'
          go_upto_block 10 with fail
          go_cut [32] (fun s32 wc => PatAt T' wc w.heap.size S ∧ Kept T' w4 wc)
          case first =>
            --F6
            go_wp2_with fail
            go_loopw [32] (fun s wr => ∃ j : Nat, j ≤ n ∧ s = .int .i64 j ∧ PatAt T' wr w.heap.size S ∧ Kept T' w4 wr) (fun s _ => n - (intOf s).toNat)
            case atStart => exact ⟨0, Nat.zero_le _, rfl, P4.out, Kept.refl _ _⟩
            case round =>
              obtain ⟨j, hj, rfl, hp, hk⟩ := hrel
              by_cases hlt : j < n
              · have hji : (j : Int) < n := by omega
                have hj0 : (j : Int) < l0 := by omega
                have hj1 : (j : Int) < l1 := by omega
                have hj2 : (j : Int) < l2 := by omega
                have hjz : (0 : Int) ≤ j := by omega
                have hkw : Kept (w.heap.size ≤ ·) w wr := KW4.out.trans (hk.mono (fun b _ hb => hT2.out b hb))
                obtain ⟨p, hp1⟩ : ∃ p, ps j = p := ⟨_, rfl⟩
                obtain ⟨i, hi1⟩ : ∃ i, is j = i := ⟨_, rfl⟩
                obtain ⟨b, hb1⟩ : ∃ b, bs j = b := ⟨_, rfl⟩
                obtain ⟨b0, o0, e0, d0, y0⟩ := R0.out.at hkw (fun b hb => Nat.not_le.2 hb) j (by omega) (congrArg Value.string hp1)
                obtain ⟨b1, o1, e1, d1, y1⟩ := R1.out.at hkw (fun b hb => Nat.not_le.2 hb) j (by omega) (congrArg (Value.int .i64) hi1)
                obtain ⟨b2, o2, e2, d2, y2⟩ := R2.out.at hkw (fun b hb => Nat.not_le.2 hb) j (by omega) (congrArg Value.bool hb1)
                subst e0 e1 e2
                have hst := HST.out j hlt
                rw [hp1, hi1, hb1] at hst
                have HST2 := hid hst
                have hsz := hk.size
                have hsz2 := hkw.size
                have HP := hid hp
                have HK := hid hk
                have hSl : S.length ≤ 8192 := by have := HM.out; omega
                have HO := hid (fun x hx => Nat.le_trans (HOS.out x hx) (by omega) : ∀ x ∈ S, x.2.length ≤ 8192)
                clear hp hk hkw hp1 hi1 hb1 hst
                go_wp2_with fail
                go_region_held3 (fun w' => w'.cell? ⟨b0, o0 + j, none⟩ = some (.string p) ∧ w'.cell? ⟨b1, o1 + j, none⟩ = some (.int .i64 i) ∧ w'.cell? ⟨b2, o2 + j, none⟩ = some (.bool b)) (go_keep) (first | (go_at_call 14; refine (add_any T' w.heap.size S p i b _ HP.out.drew (fun b hb => hT1.out b (Nat.le_trans hsz hb)) hSl HO.out).mono ?_; rintro e wz ⟨rfl, hp2, hk2⟩; have y0' := (hk2.cell (p := ⟨b0, o0 + j, none⟩) (Nat.lt_of_lt_of_le d0 hsz2) (fun h => Nat.not_le.2 d0 (hT2.out _ h))).trans y0; have y1' := (hk2.cell (p := ⟨b1, o1 + j, none⟩) (Nat.lt_of_lt_of_le d1 hsz2) (fun h => Nat.not_le.2 d1 (hT2.out _ h))).trans y1; have y2' := (hk2.cell (p := ⟨b2, o2 + j, none⟩) (Nat.lt_of_lt_of_le d2 hsz2) (fun h => Nat.not_le.2 d2 (hT2.out _ h))).trans y2; rw [HST2.out] at hp2; have HP2 := hid hp2; have HK2 := hid hk2; clear hp2 hk2))
                all_goals go_wp2_with fail
                go_roundw
                case rel => exact ⟨j + 1, by omega, by go_num, HP2.out, HK.out.drew.trans HK2.out⟩
                case measure => simp [intOf]; omega
              · obtain rfl : j = n := by omega
                go_wp2_with fail
                go_meet
                case rel => exact ⟨hp, hk⟩
            --/F6
          case rest =>
            obtain ⟨hp, hk⟩ := hcut
            obtain ⟨w5, hw5⟩ : ∃ w5, w5 = wc := ⟨_, rfl⟩
            subst hw5
            have SV5 := hid (SV4.out.kept hk (fun b h1 h2 => hT3.out b h1 h2))
            have KW5 := hid (KW4.out.trans (hk.mono (T := (w.heap.size ≤ ·)) (fun b _ hb => hT2.out b hb)))
            have c17 := list17 _ _ _ _ hp
            have c18 := owners18 _ _ _ _ hp
            have c19 := ids19 _ _ _ _ hp
            rw [HM.out] at c17 c18 c19
            have C17 := hid c17
            have C18 := hid c18
            have C19 := hid c19
            have P5 := hid hp
            obtain ⟨aI, cI, rfl⟩ := own_form SV5.out.two.ids
            obtain ⟨aJ, cJ, rfl⟩ := own_form SV5.out.two.jss
            clear hp hk SV4 P4 HOWN HST hT1 hT2 hT3 c17 c18 c19 hz14 KW4 HI9 HI3 HI4
            go_wp2_with fail
            refine C17.out.mono ?_
            rintro e wz ⟨aM, cM, rfl, hw, hown⟩
            subst wz
            have HOWN := hid hown
            clear hown C17
            go_wp2_with fail
            refine C18.out.mono ?_
            rintro e wz ⟨rfl, hw⟩
            subst wz
            clear C18
            go_wp2_with fail
            refine C19.out.mono ?_
            rintro e wz ⟨rfl, hw⟩
            subst wz
            clear C19
            go_upto_block 12 with fail
            go_cut [] (fun wc => Kept (fun _ => False) w5 wc)
            case first =>
              --F7
              go_wp2_with fail
              go_loopw [34, 35] (fun s34 s wr => ∃ k : Nat, k ≤ m ∧ s = .int .i64 k ∧ s34 = .int .i64 ((off S k).length : Nat) ∧ Kept (fun _ => False) w5 wr) (fun _ s _ => m - (intOf s).toNat)
              case atStart => exact ⟨0, Nat.zero_le _, rfl, by rw [off_zero]; rfl, Kept.refl _ _⟩
              case round =>
                obtain ⟨k, hk, rfl, rfl, kp⟩ := hrel
                by_cases hlt : k < m
                · have hki : (k : Int) < m := by omega
                  have hkz : (0 : Int) ≤ k := by omega
                  have hkS : k < S.length := by have := HM.out; omega
                  have hSl : S.length ≤ 8192 := by have := HM.out; omega
                  obtain ⟨c, hc⟩ : ∃ c, cn k = c := ⟨_, rfl⟩
                  obtain ⟨x, hx⟩ : ∃ x, nm k = x := ⟨_, rfl⟩
                  obtain ⟨q1, hq1⟩ : ∃ q, px x = q := ⟨_, rfl⟩
                  obtain ⟨q2, hq2⟩ : ∃ q, pk x = q := ⟨_, rfl⟩
                  have hcl : S[k].2.length = c := (HCN.out k hkS).trans hc
                  have hxl : (S.map fun x => Value.string x.1)[k]? = some (.string x) := by
                    rw [List.getElem?_map, List.getElem?_eq_getElem hkS, Option.map_some, HNM.out k hkS, hx]
                  obtain ⟨g, rfl, hg, y0⟩ := own_cell HOWN.out kp (fun _ _ _ => id) k hlt hxl
                  have sv := SV5.out.kept kp (fun _ _ _ => id)
                  have y1 : wr.cell? ⟨w1.heap.size, k, none⟩ = some (.string x) := by rw [sv.v0.cell k hlt, hx]
                  have y2 : wr.cell? ⟨w1.heap.size + 1, k, none⟩ = some (.int .i64 q1) := by rw [sv.v1.cell k hlt, hx, hq1]
                  have y3 : wr.cell? ⟨w1.heap.size + 1 + 1, k, none⟩ = some (.bool q2) := by rw [sv.v2.cell k hlt, hx, hq2]
                  have y4 : wr.cell? ⟨w3.heap.size, k, none⟩ = some (.int .i64 c) := by rw [sv.v5.cell k hlt, hc]
                  have C20 := hid (show ∀ wz, Kept (fun _ => False) wr wz → Calls Try.prog 20 #[.pointer (some ⟨w.heap.size, 0, none⟩), .string x] wz fun e w' => e = .returned (.tuple #[.int .i64 (q1 : Nat), .bool q2]) ∧ w' = wz from fun wz hz => by
                    have := HID.out _ wz x ((P5.out.kept kp (fun _ _ _ => id)).kept hz (fun _ _ _ => id))
                    rw [hq1, hq2] at this
                    exact this)
                  have C21 := hid (show ∀ wz, Kept (fun _ => False) wr wz → Calls Try.prog 21 #[.pointer (some ⟨w.heap.size, 0, none⟩), .int .i64 k] wz fun e w' => e = .returned (.int .i64 (c : Nat)) ∧ w' = wz from fun wz hz => by
                    have := count21 _ w.heap.size k S wz ((P5.out.kept kp (fun _ _ _ => id)).kept hz (fun _ _ _ => id)) hkS hSl
                    rw [hcl] at this
                    exact this)
                  have KP := hid kp
                  have HCL := hid hcl
                  have HCK := hid hc
                  clear hc hx hq1 hq2 hcl hxl sv kp
                  go_wp2_with fail
                  go_quiet (fail)
                  go_wp2_with fail
                  refine (C20.out _ (by repeat first | exact Kept.refl _ _ | refine Kept.drewN ?_ _ | refine Kept.drew ?_)).mono ?_
                  rintro e wz ⟨rfl, hw⟩
                  subst wz
                  go_wp2_with fail
                  go_region_held3 (fun w' => w'.cell? ⟨w3.heap.size, k, none⟩ = some (.int .i64 c)) (go_keep) (first | (go_at_call 21; refine (C21.out _ (((Kept.refl _ _).drewN _).drew)).mono ?_; rintro e wz ⟨rfl, hw⟩; subst wz))
                  all_goals go_wp2_with fail
                  go_loopw [34, 38] (fun s34 s wr => ∃ i : Nat, i ≤ c ∧ s = .int .i64 i ∧ (∃ d : Nat, d = (off S k).length + i ∧ s34 = .int .i64 d) ∧ Kept (fun _ => False) w5 wr) (fun _ s _ => c - (intOf s).toNat)
                  case atStart => exact ⟨0, Nat.zero_le _, rfl, ⟨_, rfl, rfl⟩, KP.out.drewN _⟩
                  case round =>
                    clear y0 y1 y2 y3 y4 C20 C21 KP
                    obtain ⟨i, hi, rfl, ⟨d, hd, rfl⟩, kp⟩ := hrel
                    have sv := SV5.out.kept kp (fun _ _ _ => id)
                    have y4 : wr.cell? ⟨w3.heap.size, k, none⟩ = some (.int .i64 c) := by rw [sv.v5.cell k hlt, HCK.out]
                    by_cases hlt2 : i < c
                    · have hii : (i : Int) < c := by omega
                      have hiz : (0 : Int) ≤ i := by omega
                      have hiS : i < S[k].2.length := by rw [HCL.out]; exact hlt2
                      obtain ⟨⟨x, y⟩, hxy⟩ : ∃ p, S[k].2[i] = p := ⟨_, rfl⟩
                      have hcn8 : c ≤ n := by rw [← HCL.out]; exact HOS.out _ (List.getElem_mem _)
                      have call := owner22 _ w.heap.size k i S wr (P5.out.kept kp (fun _ _ _ => id)) hkS hSl hiS (by rw [HCL.out]; omega)
                      rw [hxy] at call
                      have CALL := hid call
                      have hoff := off_at S k i hkS hiS
                      rw [hxy, ← hd, HM.out] at hoff
                      have hdl : d < (off S m).length := by
                        rcases Nat.lt_or_ge d (off S m).length with h | h
                        · exact h
                        · rw [List.getElem?_eq_none h] at hoff; cases hoff
                      have hIl : I.length = (off S m).length := by rw [HIJ.out.1, List.length_map]
                      have hJl : J.length = (off S m).length := by rw [HIJ.out.2, List.length_map]
                      have hbd := off_le S n HOS.out m (by have := HM.out; omega)
                      have hbnd : (off S m).length ≤ 16777216 := Nat.le_trans hbd (Nat.le_trans (Nat.mul_le_mul (show m ≤ 4096 by omega) (show n ≤ 4096 by omega)) (by decide))
                      obtain ⟨gI, rfl, hgI, z0⟩ := own_cell sv.two.ids (Kept.refl (fun _ => False) wr) (fun _ _ _ => id) d (by omega) (v := .int .i64 x) (by rw [HIJ.out.1, List.getElem?_map, List.getElem?_map, hoff]; rfl)
                      obtain ⟨gJ, rfl, hgJ, z1⟩ := own_cell sv.two.jss (Kept.refl (fun _ => False) wr) (fun _ _ _ => id) d (by omega) (v := .bool y) (by rw [HIJ.out.2, List.getElem?_map, List.getElem?_map, hoff]; rfl)
                      have hdI : (d : Int) < I.length := by omega
                      have hdJ : (d : Int) < J.length := by omega
                      have hdz : (0 : Int) ≤ d := by omega
                      have hd1 : (d : Int) ≤ 16777216 := by omega
                      have KP := hid kp
                      have HD := hid hd
                      clear kp sv call hoff hdl hIl hJl hbd hbnd hd hxy hgI hgJ
                      go_wp2_with fail
                      refine CALL.out.mono ?_
                      rintro e wz ⟨rfl, nq, hw⟩
                      have z0' : wz.cell? ⟨gI, d, none⟩ = some (.int .i64 x) := by rw [hw]; exact z0
                      have z1' : wz.cell? ⟨gJ, d, none⟩ = some (.bool y) := by rw [hw]; exact z1
                      have KZ : Hid (Kept (fun _ => False) w5 wz) := by rw [hw]; exact KP.out.drewN nq
                      clear hw CALL KP z0 z1
                      go_wp2_with fail
                      go_roundw
                      case rel => exact ⟨i + 1, by omega, by go_num, ⟨d + 1, by have := HD.out; omega, by go_num⟩, KZ.out⟩
                      case measure => simp [intOf]; omega
                    · obtain rfl : i = c := by omega
                      clear sv
                      have HD := hid hd
                      clear hd
                      go_wp2_with fail
                      go_roundw
                      case rel =>
                        refine ⟨k + 1, by omega, by go_num, ?_, kp⟩
                        rw [off_succ S k hkS, List.length_append, HCL.out, HD.out]
                      case measure => simp [intOf]; omega
                · obtain rfl : k = m := by omega
                  go_wp2_with fail
                  go_meet
                  case rel => exact kp
              --/F7
            case rest =>
              clear HOWN HNM HCN
              go_upto_block 16 with fail
              go_cut [] (fun wc => Kept (fun _ => False) w5 wc)
              case first =>
                --F9
                go_wp2_with fail
                go_loopw [41] (fun s wr => ∃ k : Nat, k ≤ n ∧ s = .int .i64 k ∧ Kept (fun _ => False) w5 wr) (fun s _ => n - (intOf s).toNat)
                case atStart => exact ⟨0, Nat.zero_le _, rfl, hcut⟩
                case round =>
                  obtain ⟨k, hk, rfl, kp⟩ := hrel
                  by_cases hlt : k < n
                  · have hki : (k : Int) < n := by omega
                    have hki0 : (k : Int) < l0 := by omega
                    have hkz : (0 : Int) ≤ k := by omega
                    obtain ⟨x, hx⟩ : ∃ x, ps k = x := ⟨_, rfl⟩
                    obtain ⟨q1, hq1⟩ : ∃ q, px x = q := ⟨_, rfl⟩
                    obtain ⟨q2, hq2⟩ : ∃ q, pk x = q := ⟨_, rfl⟩
                    have sv := SV5.out.kept kp (fun _ _ _ => id)
                    have y1 : wr.cell? ⟨w2.heap.size, k, none⟩ = some (.int .i64 q1) := by rw [sv.v3.cell k hlt, hx, hq1]
                    have y2 : wr.cell? ⟨w2.heap.size + 1, k, none⟩ = some (.bool q2) := by rw [sv.v4.cell k hlt, hx, hq2]
                    obtain ⟨b0, o0, e0, d0, y0⟩ := R0.out.at (KW5.out.trans (kp.mono (T := (w.heap.size ≤ ·)) (fun b _ hb => hb.elim))) (fun b hb => Nat.not_le.2 hb) k (by omega) (congrArg Value.string hx)
                    subst e0
                    have call := HID.out _ wr x (P5.out.kept kp (fun _ _ _ => id))
                    rw [hq1, hq2] at call
                    have CALL := hid call
                    have KP := hid kp
                    clear kp hx call hq1 hq2 sv
                    go_wp2_with fail
                    refine CALL.out.mono ?_
                    rintro e wz ⟨rfl, hw⟩
                    subst wz
                    go_wp2_with fail
                    go_roundw
                    case rel => exact ⟨k + 1, by omega, by go_num, KP.out⟩
                    case measure => simp [intOf]; omega
                  · obtain rfl : k = n := by omega
                    go_wp2_with fail
                    go_meet
                    case rel => exact kp
                --/F9
              case rest =>
                go_wp2_with fail
                go_ret
                exact ⟨rfl, (KW5.out.trans (hcut.mono (T := (w.heap.size ≤ ·)) (fun b _ hb => hb.elim))).below (Nat.le_refl _) (fun b hb => Nat.not_le.2 hb)⟩

end Go.Proofs.Qxb6601898a
