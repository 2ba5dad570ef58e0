import Derived.Test.Qxb6600263aPlain
import Derived.Deep.DeepCutAuto
namespace Go.Proofs.Qxb6600263a
open Go.RowKit
set_option linter.unusedVariables false

theorem Try.info3 : (Try.prog.info? 3).map (fun i => (i.zero, i.size, i.bytes)) = some (some (.int .i64 0), 1, 8) := by kernel_rfl

set_option maxRecDepth 100000 in
set_option maxHeartbeats 1000000 in
theorem idem_far (a0 a1 a2 : Option Addr) (l0 c0 l1 c1 l2 c2 : Nat) (w : World) (h : ¬ l0 + l1 + l2 ≤ 1048576) (m0 : l0 ≤ maxLen) (m1 : l1 ≤ maxLen) (m2 : l2 ≤ maxLen) :
    Calls Try.prog 5 #[.slice a0 l0 c0, .slice a1 l1 c1, .slice a2 l2 c2] w fun e w' => e = .returned (.bool true) ∧ w' = w := by
  go_enter Try.func5, Try.ntmps5
  go_wp2_with fail
  refine (bytes16_no a0 a1 a2 l0 c0 l1 c1 l2 c2 _ h m0 m1 m2).mono ?_
  rintro e wz ⟨rfl, hw⟩
  subst wz
  go_wp2_with fail
  go_ret
  exact ⟨rfl, rfl⟩

set_option maxRecDepth 100000 in
set_option maxHeartbeats 1000000 in
theorem idem_long (a0 a1 a2 : Option Addr) (l0 c0 l1 c1 l2 c2 : Nat) (w : World) (h : l0 + l1 + l2 ≤ 1048576) (h2 : 65536 < l0 ∨ 65536 < l1 ∨ 65536 < l2) :
    Calls Try.prog 5 #[.slice a0 l0 c0, .slice a1 l1 c1, .slice a2 l2 c2] w fun e w' => e = .returned (.bool true) ∧ w' = w := by
  have H : (65536 < l0) ∨ (l0 ≤ 65536 ∧ 65536 < l1) ∨ (l0 ≤ 65536 ∧ l1 ≤ 65536 ∧ 65536 < l2) := by omega
  clear h2
  rcases H with h3 | ⟨g0, h3⟩ | ⟨g0, g1, h3⟩
  all_goals
    go_enter Try.func5, Try.ntmps5
    go_wp2_with fail
    refine (bytes16_yes a0 a1 a2 l0 c0 l1 c1 l2 c2 _ h).mono ?_
    rintro e wz ⟨rfl, hw⟩
    subst wz
    go_wp2_with fail
    go_ret
    exact ⟨rfl, rfl⟩

theorem idem_fin {w6 w7 w6' wx : World} {n : Nat} {F L U1 U2 : Nat → Int} {p1 p2 : Value} (h1 : Told w6 w6' n F L (.pointer none) p1) (h2 : Told wx w7 n F L p1 p2)
    (u1 : ¬ Yes n F → ∀ i, U1 i = 0) (v1 : Yes n F → ∀ i, U1 i = cnt L (fun _ => 0) (n - 1) i)
    (u2 : ¬ Yes n F → ∀ i, U2 i = U1 i) (v2 : Yes n F → ∀ i, U2 i = cnt L U1 (n - 1) i) :
    (∀ i, U2 i = U1 i) ∧ ((p1 = .pointer none ∧ p2 = .pointer none) ∨ ∃ b b' v, p1 = .pointer (some ⟨b, 0, none⟩) ∧ p2 = .pointer (some ⟨b', 0, none⟩) ∧ v = tot L (n - 1) ∧ w7.cell? ⟨b', 0, none⟩ = some (.int .i64 v)) := by
  rcases h1 with ⟨hn, rfl⟩ | ⟨hy, b, hlb, rfl, hB⟩
  · rcases h2 with ⟨_, rfl⟩ | ⟨hy, _⟩
    · exact ⟨u2 hn, .inl ⟨rfl, rfl⟩⟩
    · exact absurd hy hn
  · rcases h2 with ⟨hn, _⟩ | ⟨_, b', hlb', rfl, hB'⟩
    · exact absurd hy hn
    · have e : U1 = cnt L (fun _ => 0) (n - 1) := funext (v1 hy)
      refine ⟨fun i => by rw [v2 hy, e, cnt_idem], .inr ⟨b, b', tot L (n - 1), rfl, rfl, rfl, ?_⟩⟩
      rw [hB'.cell]; rfl

/-- What the first count has left of the pointer, for the walk. -/
theorem told_had {w w' : World} {n : Nat} {F L : Nat → Int} {p : Value} (h : Told w w' n F L (.pointer none) p) :
    ∃ had : Bool, (had = false ∧ p = .pointer none) ∨ (had = true ∧ ∃ b, p = .pointer (some ⟨b, 0, none⟩) ∧ w.heap.size ≤ b ∧ Blk w' b #[.int .i64 (tot L (n - 1))] 3) := by
  rcases h with ⟨hn, rfl⟩ | ⟨hy, b, hlb, rfl, hB⟩
  · exact ⟨false, .inl ⟨rfl, rfl⟩⟩
  · exact ⟨true, .inr ⟨rfl, b, rfl, hlb, hB⟩⟩

set_option maxRecDepth 100000 in
set_option maxHeartbeats 2000000 in
theorem idem_main (a0 a1 a2 : Option Addr) (l0 c0 l1 c1 l2 c2 : Nat) (F z1 z2 : Nat → Int) (w : World) (h : l0 + l1 + l2 ≤ 1048576) (m0 : l0 ≤ 65536) (m1 : l1 ≤ 65536) (m2 : l2 ≤ 65536)
    (n0 : a0 = none → l0 = 0) (n1 : a1 = none → l1 = 0) (n2 : a2 = none → l2 = 0) (r0 : Reads .u32 w a0 l0 F) (r1 : Reads .u8 w a1 l1 z1) (r2 : Reads .u8 w a2 l2 z2)
    (b1 : ∀ i, i < l1 → 0 ≤ z1 i ∧ z1 i ≤ 255) (b2 : ∀ i, i < l2 → 0 ≤ z2 i ∧ z2 i ≤ 255) :
    Calls Try.prog 5 #[.slice a0 l0 c0, .slice a1 l1 c1, .slice a2 l2 c2] w fun e w' => e = .returned (.bool true) ∧ Below w.heap.size w w' := by
  have R0 := hid r0
  have R1 := hid r1
  have R2 := hid r2
  have N0 := hid n0
  have N1 := hid n1
  have N2 := hid n2
  have HB1 := hid b1
  have HB2 := hid b2
  obtain ⟨i3, hi3, hz30, hz31, hz32⟩ := info_parts Try.info3
  clear r0 r1 r2 n0 n1 n2 b1 b2
  go_enter Try.func5, Try.ntmps5
  go_wp2_with fail
  refine (bytes16_yes a0 a1 a2 l0 c0 l1 c1 l2 c2 _ h).mono ?_
  rintro e wz ⟨rfl, hw⟩
  subst wz
  go_wp2_with fail
  refine (clone32_any a0 l0 c0 F _ (by omega) N0.out R0.out).mono ?_
  rintro e w0 ⟨a0', c0', rfl, r0, k0⟩
  go_wp2_with fail
  refine (clone8_any a1 l1 c1 z1 _ (by omega) N1.out (R1.out.kept k0 (fun _ _ _ _ => id))).mono ?_
  rintro e w1 ⟨a1', c1', rfl, r1, k1⟩
  go_wp2_with fail
  refine (clone8_any a2 l2 c2 z2 _ (by omega) N2.out ((R2.out.kept k0 (fun _ _ _ _ => id)).kept k1 (fun _ _ _ _ => id))).mono ?_
  rintro e w2 ⟨a2', c2', rfl, r2, k2⟩
  have S0 := hid ((r0.kept k1 (fun _ _ _ _ => id)).kept k2 (fun _ _ _ _ => id))
  have S1 := hid (r1.kept k2 (fun _ _ _ _ => id))
  have S2 := hid r2
  have K2 := hid ((k0.trans k1).trans k2)
  clear r0 r1 r2 k0 k1 k2 R0 R1 R2 N0 N1 N2
  go_wp2_with fail
  refine (min3_any l0 l1 l2 _ (by omega) (by omega) (by omega)).mono ?_
  rintro e wz ⟨rfl, hw⟩
  subst wz
  obtain ⟨n, hn⟩ : ∃ n, min3 l0 l1 l2 = n := ⟨_, rfl⟩
  have hn0 : n ≤ l0 := by unfold min3 at hn; omega
  have hn1 : n ≤ l1 := by unfold min3 at hn; omega
  have hn2 : n ≤ l2 := by unfold min3 at hn; omega
  rw [hn]
  clear hn
  go_wp2_with fail
  refine (build_any _ _ _ l0 _ l1 _ l2 _ n F z1 z2 _ (by omega) hn0 hn1 hn2 (S0.out.mono hn0) (S1.out.mono hn1) (S2.out.mono hn2)).mono ?_
  rintro e w4 ⟨rfl, t1, nd1, sz4, k4⟩
  have Z1 : w2.heap.size + 1 < w4.heap.size := by omega
  have Ow : w.heap.size ≤ w2.heap.size := K2.out.size
  have K4 := hid (K2.out.trans k4)
  have bL : ∀ i, i < n → 0 ≤ hl (F i) (z1 i) (z2 i) ∧ hl (F i) (z1 i) (z2 i) ≤ 255 := fun i hi => hl_bd (HB1.out i (by omega)) (HB2.out i (by omega))
  have BL := hid bL
  clear sz4 k4 bL S0 S1 S2 K2 HB1 HB2
  go_wp2_with fail
  refine (zzcount_any w2.heap.size (w2.heap.size + 1) n _ _ _ _ _ (fun i => hl (F i) (z1 i) (z2 i)) _ t1 nd1 (by omega) (by omega) (fun _ _ => rfl) BL.out).mono ?_
  rintro e w6 ⟨rfl, p1, U1, t2, nd2, k6, told1, u1, v1⟩
  have K6 := hid ((K4.out.own (fun b => w.heap.size ≤ b)).trans (k6.mono (fun b _ hb => by omega)))
  have TO1 := hid told1
  have V1 := hid v1
  have W1 := hid u1
  clear t1 nd1 k6 told1 u1 v1 K4
  go_wp2_with (at_make; refine wpList_make_exact _ rfl _ _ 53 rfl 3 i3 (.int .i64 0) 1 Try.underlying53 hi3 hz30 hz31 .i64 .i64 _ _ n n rfl rfl rfl rfl (Nat.le_refl _) (by rw [hz32]; omega) (by unfold maxLen; omega) ?_)
  clear hi3 hz30 hz31 hz32
  go_loopw [10] (fun i wr => ∃ m : Nat, m ≤ n ∧ i = .int .i64 m ∧ Nums .i64 3 wr w6.heap.size n (fun q => if q < m then U1 q else 0) ∧ TraceAt wr w2.heap.size p1 (.slice (some ⟨w2.heap.size + 1, 0, none⟩) n n) ∧
      Nodes wr (w2.heap.size + 1) n F z1 z2 U1 ∧ Kept (fun _ => False) w6 wr) (fun i _ => n - (intOf i).toNat)
  case atStart =>
    have kk : Kept (fun _ => False) w6 (w6.alloc (Obj.cells (madeCells #[Value.int IntKind.i64 0] n) 3)) := (Kept.refl _ _).alloc _
    refine ⟨0, Nat.zero_le _, rfl, ?_, ?_, ?_, ?_⟩
    · simpa using Nums.new (k := .i64) 3 w6 n
    · simpa using t2.kept kk id
    · simpa using nd2.kept kk id
    · simpa using kk
  case round =>
    obtain ⟨m, hm, rfl, f1, t1, nd1, k7⟩ := hrel
    have L6 := t2.lt
    have L6' := nd2.lt
    clear t2 nd2
    have c9 := t1.c9
    by_cases hmt : m < n
    · obtain ⟨_, _, _, y1⟩ := nd1.cells m hmt
      have x1 := f1.cell m hmt
      have x2 := f1.frozen m
      have F1 := hid (f1.set m (U1 m))
      have T1 := hid (t1.set_other (a := ⟨w6.heap.size, m, none⟩) (by simp; omega) (.int .i64 (U1 m)))
      have ND1 := hid (nd1.set_other (a := ⟨w6.heap.size, m, none⟩) (by simp; omega) (.int .i64 (U1 m)))
      have K7 := hid (k7.setCell (p := ⟨w6.heap.size, m, none⟩) (.inl (by simp)) (.int .i64 (U1 m)))
      clear f1 t1 nd1 k7
      go_wp2_with fail
      go_roundw
      case rel => exact ⟨m + 1, by omega, by go_num, F1.out.congr (fun i _ => if_lt_succ U1 m i), T1.out, ND1.out, K7.out⟩
      case measure => simp [intOf]; omega
    · obtain rfl : m = n := by omega
      have g1 : Nums .i64 3 wr w6.heap.size m U1 := f1.congr (fun i hi => by simp [hi])
      have c8 := t1.c8
      obtain ⟨had, hhad⟩ := told_had TO1.out
      clear f1
      go_upto_region 18 with fail
      go_cut [11] (fun s wc => s = .bool had ∧ wc = wr)
      case first =>
        rcases hhad with ⟨rfl, rfl⟩ | ⟨rfl, b, rfl, hb, hB⟩
        all_goals
          go_wp2_with fail
          go_meet
          case rel => exact ⟨rfl, rfl⟩
      case rest =>
        obtain ⟨rfl, hw⟩ := hcut
        subst wc
        obtain ⟨v, hv⟩ : ∃ v : Int, v = if had then tot (fun i => hl (F i) (z1 i) (z2 i)) (m - 1) else 0 := ⟨_, rfl⟩
        have HV := hid hv
        clear hv
        go_upto_if 85 with fail
        go_cut [12] (fun s wc => s = .int .i64 v ∧ wc = wr)
        case first =>
          rcases hhad with ⟨rfl, rfl⟩ | ⟨rfl, b, rfl, hb, hB⟩
          · go_wp2_with fail
            go_meet
            case rel => exact ⟨by rw [HV.out]; rfl, rfl⟩
          · have hc : wr.cell? ⟨b, 0, none⟩ = some (.int .i64 (tot (fun i => hl (F i) (z1 i) (z2 i)) (m - 1))) := by rw [(hB.kept k7 id).cell]; rfl
            go_wp2_with fail
            go_meet
            case rel => exact ⟨by rw [HV.out]; rfl, rfl⟩
        case rest =>
          obtain ⟨rfl, hw⟩ := hcut
          subst wc
          go_wp2_with fail
          refine (zzcount_any w2.heap.size (w2.heap.size + 1) m _ _ _ _ _ (fun i => hl (F i) (z1 i) (z2 i)) _ t1 nd1 (by omega) (by omega) (fun _ _ => rfl) BL.out).mono ?_
          rintro e w8 ⟨rfl, p2, U2, t2, nd2, k8, told2, u2, v2⟩
          have HF := hid (idem_fin TO1.out told2 W1.out V1.out u2 v2)
          have KK := hid ((K6.out.trans (k7.own _)).trans (k8.mono (fun b _ hb => by omega)))
          have g2 := g1.kept k8 (by omega)
          have c8 := t2.c8
          have c9 := t2.c9
          clear TO1 told2 W1 V1 u2 v2 k7 k8 K6 t1 nd1 g1 BL t2
          obtain ⟨hU, hP⟩ := HF.out
          have HU := hid hU
          have hp3 : (had = false ∧ p2 = .pointer none) ∨ (had = true ∧ ∃ b, p2 = .pointer (some ⟨b, 0, none⟩) ∧ w8.cell? ⟨b, 0, none⟩ = some (.int .i64 v)) := by
            rcases hhad with ⟨rfl, rfl⟩ | ⟨rfl, b, rfl, hb, hB⟩
            · rcases hP with ⟨_, h⟩ | ⟨b, b', v', h, _⟩
              · exact .inl ⟨rfl, h⟩
              · cases h
            · rcases hP with ⟨h, _⟩ | ⟨b, b', v', _, h, hv', hc⟩
              · cases h
              · exact .inr ⟨rfl, b', h, by rw [hc, hv', HV.out]; rfl⟩
          clear HF hU hP hhad HV
          go_upto_region 23 with fail
          go_cut [100] (fun s wc => s = .bool false ∧ wc = w8)
          case first =>
            rcases hp3 with ⟨rfl, rfl⟩ | ⟨rfl, b, rfl, hc⟩
            all_goals
              go_wp2_with fail
              go_meet
              case rel => exact ⟨rfl, rfl⟩
          case rest =>
            obtain ⟨rfl, hw⟩ := hcut
            subst wc
            go_upto_region 25 with fail
            go_cut [111] (fun s wc => s = .bool false ∧ wc = w8)
            case first =>
              rcases hp3 with ⟨rfl, rfl⟩ | ⟨rfl, b, rfl, hc⟩
              all_goals
                go_wp2_with fail
                go_meet
                case rel => exact ⟨by simp, rfl⟩
            case rest =>
              obtain ⟨rfl, hw⟩ := hcut
              subst wc
              go_wp2_with fail
              go_loopw [13] (fun i wx => ∃ q : Nat, q ≤ m ∧ i = .int .i64 q ∧ ∃ nq, wx = w8.drewN nq) (fun i _ => m - (intOf i).toNat)
              case atStart => exact ⟨0, Nat.zero_le _, rfl, 0, rfl⟩
              case round =>
                obtain ⟨q, hq, rfl, nq'', hw⟩ := hrel
                subst hw
                by_cases hqm : q < m
                · obtain ⟨_, _, _, y1⟩ := nd2.cells q hqm
                  have y2 := g2.cell q hqm
                  rw [HU.out q] at y1
                  have hqi : (q : Int) < m := by omega
                  have hq0 : (0 : Int) ≤ q := by omega
                  go_wp2_with fail
                  go_quiet (fail)
                  go_wp2_with fail
                  go_roundw
                  case rel => exact ⟨q + 1, by omega, by go_num, _, rfl⟩
                  case measure => simp [intOf]; omega
                · go_wp2_with fail
                  go_ret
                  exact ⟨rfl, (KK.out.drewN _).below (Nat.le_refl _) (fun b hb => by omega)⟩

end Go.Proofs.Qxb6600263a
