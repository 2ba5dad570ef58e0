import Derived.Test.Qxb6600263aPlain
import Derived.Deep.DeepCutAuto
namespace Go.Proofs.Qxb6600263a
open Go.RowKit
set_option linter.unusedVariables false

set_option maxRecDepth 100000 in
set_option maxHeartbeats 1000000 in
theorem shift_far (t k : Int) (a1 a2 : Option Addr) (l1 c1 l2 c2 : Nat) (w : World) (h : ¬ l1 + l2 ≤ 1048576) (m1 : l1 ≤ maxLen) (m2 : l2 ≤ maxLen) :
    Calls Try.prog 4 #[.int .u32 t, .slice a1 l1 c1, .slice a2 l2 c2, .int .u8 k] w fun e w' => e = .returned (.bool true) ∧ w' = w := by
  go_enter Try.func4, Try.ntmps4
  go_wp2_with fail
  refine (bytes15_no t k a1 a2 l1 c1 l2 c2 _ h m1 m2).mono ?_
  rintro e wz ⟨rfl, hw⟩
  subst wz
  go_wp2_with fail
  go_ret
  exact ⟨rfl, rfl⟩

set_option maxRecDepth 100000 in
set_option maxHeartbeats 1000000 in
theorem shift_long (t k : Int) (a1 a2 : Option Addr) (l1 c1 l2 c2 : Nat) (w : World) (h : l1 + l2 ≤ 1048576) (h2 : 65536 < l1 ∨ 65536 < l2) :
    Calls Try.prog 4 #[.int .u32 t, .slice a1 l1 c1, .slice a2 l2 c2, .int .u8 k] w fun e w' => e = .returned (.bool true) ∧ w' = w := by
  by_cases h3 : 65536 < l1
  · go_enter Try.func4, Try.ntmps4
    go_wp2_with fail
    refine (bytes15_yes t k a1 a2 l1 c1 l2 c2 _ h).mono ?_
    rintro e wz ⟨rfl, hw⟩
    subst wz
    go_wp2_with fail
    go_ret
    exact ⟨rfl, rfl⟩
  · have h4 : 65536 < l2 := by omega
    go_enter Try.func4, Try.ntmps4
    go_wp2_with fail
    refine (bytes15_yes t k a1 a2 l1 c1 l2 c2 _ h).mono ?_
    rintro e wz ⟨rfl, hw⟩
    subst wz
    go_wp2_with fail
    go_ret
    exact ⟨rfl, rfl⟩

/-- The two counts agree: pointers both nil, or totals equal; the entries' counts are equal. -/
theorem shift_fin {w5 w6 w7 : World} {n tb nb tb' nb' : Nat} {t k : Int} {L L' U1 U2 : Nat → Int} {p1 p2 : Value} (h1 : Told w5 w6 n (fun _ => t) L (.pointer none) p1) (h2 : Told w6 w7 n (fun _ => t) L' (.pointer none) p2)
    (k6 : Kept (fun b => b = tb ∨ b = nb) w5 w6) (k7 : Kept (fun b => b = tb' ∨ b = nb') w6 w7) (hb : tb' < w5.heap.size ∧ nb' < w5.heap.size)
    (u1 : ¬ Yes n (fun _ => t) → ∀ i, U1 i = 0) (v1 : Yes n (fun _ => t) → ∀ i, U1 i = cnt L (fun _ => 0) (n - 1) i)
    (u2 : ¬ Yes n (fun _ => t) → ∀ i, U2 i = 0) (v2 : Yes n (fun _ => t) → ∀ i, U2 i = cnt L' (fun _ => 0) (n - 1) i) (hl : hok t = true → ∀ i, i < n → L' i = L i + k) :
    (∀ i, U1 i = U2 i) ∧ ((p1 = .pointer none ∧ p2 = .pointer none) ∨ ∃ b b' v, p1 = .pointer (some ⟨b, 0, none⟩) ∧ p2 = .pointer (some ⟨b', 0, none⟩) ∧ w7.cell? ⟨b, 0, none⟩ = some (.int .i64 v) ∧ w7.cell? ⟨b', 0, none⟩ = some (.int .i64 v)) := by
  rcases h1 with ⟨hn, rfl⟩ | ⟨hy, b, hlb, rfl, hB⟩
  · rcases h2 with ⟨_, rfl⟩ | ⟨hy, _⟩
    · exact ⟨fun i => by rw [u1 hn, u2 hn], .inl ⟨rfl, rfl⟩⟩
    · exact absurd hy hn
  · rcases h2 with ⟨hn, _⟩ | ⟨_, b', hlb', rfl, hB'⟩
    · exact absurd hy hn
    · have hs := hl hy.2
      have h0 := hy.1
      have e : tot L' (n - 1) = tot L (n - 1) := tot_shift hs (n - 1) (by omega)
      refine ⟨fun i => by rw [v1 hy, v2 hy, cnt_shift hs (n - 1) i (by omega)], .inr ⟨b, b', tot L (n - 1), rfl, rfl, ?_, ?_⟩⟩
      · rw [(hB.kept k7 (by omega)).cell]; rfl
      · rw [hB'.cell, ← e]; rfl

set_option maxRecDepth 100000 in
set_option maxHeartbeats 2000000 in
theorem shift_main (t k : Int) (a1 a2 : Option Addr) (l1 c1 l2 c2 n : Nat) (z1 z2 : Nat → Int) (w : World) (h : l1 + l2 ≤ 1048576) (m1 : l1 ≤ 65536) (m2 : l2 ≤ 65536)
    (hnl : n ≤ l1 ∧ n ≤ l2 ∧ (n = l1 ∨ n = l2)) (n1 : a1 = none → l1 = 0) (n2 : a2 = none → l2 = 0) (r1 : Reads .u8 w a1 l1 z1) (r2 : Reads .u8 w a2 l2 z2)
    (b1 : ∀ i, i < l1 → 0 ≤ z1 i ∧ z1 i ≤ 255) (b2 : ∀ i, i < l2 → 0 ≤ z2 i ∧ z2 i ≤ 255) (hk : 0 ≤ k ∧ k ≤ 255) (ht : 0 ≤ t ∧ t ≤ 4294967295) :
    Calls Try.prog 4 #[.int .u32 t, .slice a1 l1 c1, .slice a2 l2 c2, .int .u8 k] w fun e w' => e = .returned (.bool true) ∧ Below w.heap.size w w' := by
  have R1 := hid r1
  have R2 := hid r2
  have N1 := hid n1
  have N2 := hid n2
  clear r1 r2 n1 n2
  have hsplit : (l2 < l1 ∧ n = l2) ∨ (¬ l2 < l1 ∧ n = l1) := by omega
  go_enter Try.func4, Try.ntmps4
  go_wp2_with fail
  refine (bytes15_yes t k a1 a2 l1 c1 l2 c2 _ h).mono ?_
  rintro e wz ⟨rfl, hw⟩
  subst wz
  go_upto_if 43 with fail
  go_cut [9] (fun s wc => s = .int .i64 n ∧ wc = w)
  case first =>
    rcases hsplit with ⟨hs, rfl⟩ | ⟨hs, rfl⟩
    all_goals
      go_wp2_with fail
      go_meet
      case rel => exact ⟨rfl, rfl⟩
  case rest =>
    obtain ⟨rfl, hw⟩ := hcut
    subst wc
    clear hsplit
    go_wp2_with fail
    go_loop [10] (fun i => ∃ j : Nat, j ≤ n ∧ i = .int .i64 j ∧ ∀ q, q < j → z1 q + k ≤ 255 ∧ z2 q + k ≤ 255) (fun i => n - (intOf i).toNat)
    case atStart => exact ⟨0, Nat.zero_le _, rfl, fun q hq => by omega⟩
    case round =>
      obtain ⟨j, hj, rfl, hall⟩ := hrel
      have HA := hid hall
      clear hall
      by_cases hlt : j < n
      · obtain ⟨b, o, ha1, q1⟩ := R1.out.resolve_left (by omega)
        obtain ⟨b', o', ha2, q2⟩ := R2.out.resolve_left (by omega)
        subst ha1 ha2
        have d1 := q1 j (by omega)
        have d2 := q2 j (by omega)
        have e1 := b1 j (by omega)
        have e2 := b2 j (by omega)
        clear q1 q2 b1 b2
        by_cases g1 : 255 < z1 j + k
        · go_wp2_with fail
          go_ret
          exact ⟨rfl, Below.refl _ _⟩
        · by_cases g2 : 255 < z2 j + k
          · go_wp2_with fail
            go_ret
            exact ⟨rfl, Below.refl _ _⟩
          · go_wp2_with fail
            go_round
            case rel => exact ⟨j + 1, by omega, by go_num, fun q hq => by
              by_cases hqj : q = j
              · subst hqj; omega
              · exact HA.out q (by omega)⟩
            case measure => simp [intOf]; omega
      · obtain rfl : j = n := by omega
        have HB1 := hid b1
        have HB2 := hid b2
        obtain ⟨i5, hi5, hz50, hz51, hz52⟩ := info_parts Try.info5
        obtain ⟨i32, hi32, hz320, hz321, hz322⟩ := info_parts Try.info32
        clear b1 b2
        go_wp2_with fail
        refine (clone8_any a1 l1 c1 z1 _ (by omega) N1.out R1.out).mono ?_
        rintro e w1 ⟨a1', c1', rfl, r1, k1⟩
        go_wp2_with fail
        refine (clone8_any a2 l2 c2 z2 _ (by omega) N2.out (R2.out.kept k1 (fun _ _ _ _ => id))).mono ?_
        rintro e w2 ⟨a2', c2', rfl, r2, k2⟩
        have S1 := hid ((r1.kept k2 (fun _ _ _ _ => id)).mono (m := j) (by omega))
        have S2 := hid (r2.mono (m := j) (by omega))
        have K2 := hid (k1.trans k2)
        clear r1 r2 k1 k2
        go_wp2_with (first
          | (at_make; refine wpList_make_exact _ rfl _ _ 22 rfl 32 i32 (.int .u32 0) 1 Try.underlying22 hi32 hz320 hz321 .i64 .i64 _ _ j j rfl rfl rfl rfl (Nat.le_refl _) (by rw [hz322]; omega) (by unfold maxLen; omega) ?_)
          | (at_make; refine wpList_make_exact _ rfl _ _ 23 rfl 5 i5 (.int .u8 0) 1 Try.underlying23 hi5 hz50 hz51 .i64 .i64 _ _ j j rfl rfl rfl rfl (Nat.le_refl _) (by rw [hz52]; omega) (by unfold maxLen; omega) ?_))
        clear hi5 hz50 hz51 hz52 hi32 hz320 hz321 hz322
        go_loopw [14] (fun i wr => ∃ m : Nat, m ≤ j ∧ i = .int .i64 m ∧ Nums .u32 32 wr w2.heap.size j (fun q => if q < m then t else 0) ∧ Nums .u8 5 wr (w2.heap.size + 1) j (fun q => if q < m then z1 q + k else 0) ∧
            Nums .u8 5 wr (w2.heap.size + 2) j (fun q => if q < m then z2 q + k else 0) ∧ wr.heap.size = w2.heap.size + 3 ∧ Kept (fun _ => False) w2 wr) (fun i _ => j - (intOf i).toNat)
        case atStart =>
          refine ⟨0, Nat.zero_le _, rfl, ?_, ?_, ?_, by simp, (((Kept.refl _ _).alloc _).alloc _).alloc _⟩
          · exact (((Nums.new' (k := .u32) 32 w2 j _ rfl).alloc _).alloc _).congr (fun i _ => by simp)
          · exact ((Nums.new' (k := .u8) 5 (w2.alloc (Obj.cells (madeCells #[Value.int IntKind.u32 0] j) 32)) j _ (by simp)).alloc _).congr (fun i _ => by simp)
          · exact (Nums.new' (k := .u8) 5 ((w2.alloc (Obj.cells (madeCells #[Value.int IntKind.u32 0] j) 32)).alloc (Obj.cells (madeCells #[Value.int IntKind.u8 0] j) 5)) j _ (by simp)).congr (fun i _ => by simp)
        case round =>
          obtain ⟨m, hm, rfl, f1, f2, f3, hsz, k3⟩ := hrel
          by_cases hmt : m < j
          · obtain ⟨b, o, ha1, q1⟩ := S1.out.resolve_left (by omega)
            obtain ⟨b', o', ha2, q2⟩ := S2.out.resolve_left (by omega)
            subst ha1 ha2
            have d1 : wr.cell? ⟨b, o + m, none⟩ = some (.int .u8 (z1 m)) := by rw [k3.cell (p := ⟨b, o + m, none⟩) (World.block_lt_of_cell? _ _ (q1 m hmt)) id]; exact q1 m hmt
            have d2 : wr.cell? ⟨b', o' + m, none⟩ = some (.int .u8 (z2 m)) := by rw [k3.cell (p := ⟨b', o' + m, none⟩) (World.block_lt_of_cell? _ _ (q2 m hmt)) id]; exact q2 m hmt
            have lb := World.block_lt_of_cell? _ _ (q1 m hmt)
            have lb' := World.block_lt_of_cell? _ _ (q2 m hmt)
            simp only at lb lb'
            have e1 := HB1.out m (by omega)
            have e2 := HB2.out m (by omega)
            have g := HA.out m (by omega)
            have x1 := f1.cell m hmt
            have x2 := f2.cell m hmt
            have x3 := f3.cell m hmt
            have y1 := f1.frozen m
            have y2 := f2.frozen m
            have y3 := f3.frozen m
            have F1 := hid f1
            have F2 := hid f2
            have F3 := hid f3
            clear q1 q2 f1 f2 f3
            go_wp2_with fail
            go_roundw
            case rel =>
              refine ⟨m + 1, by omega, by go_num, ?_, ?_, ?_, by simpa using hsz, ?_⟩
              · exact (((F1.out.set m t).set_other (a := ⟨w2.heap.size + 1, m, none⟩) (by simp) _).set_other (a := ⟨w2.heap.size + 1 + 1, m, none⟩) (by simp; omega) _).congr (fun i _ => if_lt_succ (fun _ => t) m i)
              · exact (((F2.out.set_other (a := ⟨w2.heap.size, m, none⟩) (by simp) _).set m (z1 m + k)).set_other (a := ⟨w2.heap.size + 1 + 1, m, none⟩) (by simp) _).congr (fun i _ => if_lt_succ (fun q => z1 q + k) m i)
              · exact (((F3.out.set_other (a := ⟨w2.heap.size, m, none⟩) (by simp) _).set_other (a := ⟨w2.heap.size + 1, m, none⟩) (by simp) _).set m (z2 m + k)).congr (fun i _ => if_lt_succ (fun q => z2 q + k) m i)
              · exact ((k3.setCell (p := ⟨w2.heap.size, m, none⟩) (.inl (by simp)) _).setCell (p := ⟨w2.heap.size + 1, m, none⟩) (.inl (by simp)) _).setCell (p := ⟨w2.heap.size + 1 + 1, m, none⟩) (.inl (by simp; omega)) _
            case measure => simp [intOf]; omega
          · obtain rfl : m = j := by omega
            have g1 : Nums .u32 32 wr w2.heap.size m (fun _ => t) := f1.congr (fun i hi => by simp [hi])
            have g2 : Nums .u8 5 wr (w2.heap.size + 1) m (fun q => z1 q + k) := f2.congr (fun i hi => by simp [hi])
            have g3 : Nums .u8 5 wr (w2.heap.size + 2) m (fun q => z2 q + k) := f3.congr (fun i hi => by simp [hi])
            have Z0 : w2.heap.size + 2 < wr.heap.size := by omega
            have Ow : w.heap.size ≤ w2.heap.size := K2.out.size
            clear f1 f2 f3 hsz
            go_wp2_with fail
            refine (build_any _ _ _ m m l1 _ l2 _ m (fun _ => t) z1 z2 _ (by omega) (by omega) (by omega) (by omega) g1.reads (S1.out.kept k3 (fun _ _ _ _ => id)) (S2.out.kept k3 (fun _ _ _ _ => id))).mono ?_
            rintro e w4 ⟨rfl, t1, nd1, sz4, k4⟩
            have h2 := g1.kept k4 id
            have h3 := g2.kept k4 id
            have h4 := g3.kept k4 id
            have Z1 : wr.heap.size + 1 < w4.heap.size := by omega
            clear g1 g2 g3 sz4
            go_wp2_with fail
            refine (build_any _ _ _ m m m m m m m (fun _ => t) _ _ _ (by omega) (by omega) (by omega) (by omega) h2.reads h3.reads h4.reads).mono ?_
            rintro e w5 ⟨rfl, t2, nd2, sz5, k5⟩
            have t1' := t1.kept k5 id
            have nd1' := nd1.kept k5 id
            have Z2 : w4.heap.size + 1 < w5.heap.size := by omega
            have K5 := hid (((K2.out.trans k3).trans k4).trans k5)
            have bL : ∀ i, i < m → 0 ≤ hl t (z1 i) (z2 i) ∧ hl t (z1 i) (z2 i) ≤ 255 := fun i hi => hl_bd (HB1.out i (by omega)) (HB2.out i (by omega))
            have bL' : ∀ i, i < m → 0 ≤ hl t (z1 i + k) (z2 i + k) ∧ hl t (z1 i + k) (z2 i + k) ≤ 255 := fun i hi => by
              have := HB1.out i (by omega)
              have := HB2.out i (by omega)
              have := HA.out i hi
              exact hl_bd (by omega) (by omega)
            have BL := hid bL
            have BL' := hid bL'
            clear t1 nd1 h2 h3 h4 k3 k4 k5 sz5 bL bL'
            go_wp2_with fail
            refine (zzcount_any wr.heap.size (wr.heap.size + 1) m _ _ _ _ _ (fun i => hl t (z1 i) (z2 i)) _ t1' nd1' (by omega) (by omega) (fun _ _ => rfl) BL.out).mono ?_
            rintro e w6 ⟨rfl, p1, U1, t1, nd1, k6, told1, u1, v1⟩
            have t2' := t2.kept k6 (by omega)
            have nd2' := nd2.kept k6 (by omega)
            clear t1' nd1' t2 nd2
            have TO1 := hid told1
            have V1 := hid v1
            have W1 := hid u1
            clear told1 v1 u1
            go_wp2_with fail
            refine (zzcount_any w4.heap.size (w4.heap.size + 1) m _ _ _ _ _ (fun i => hl t (z1 i + k) (z2 i + k)) _ t2' nd2' (by omega) (by omega) (fun _ _ => rfl) BL'.out).mono ?_
            rintro e w7 ⟨rfl, p2, U2, t2, nd2, k7, told2, u2, v2⟩
            have t1' := t1.kept k7 (by omega)
            have nd1' := nd1.kept k7 (by omega)
            have L1 := t1.lt
            clear t1 nd1 t2' nd2'
            have HF := hid (shift_fin TO1.out told2 k6 k7 (by omega) W1.out V1.out u2 v2 (fun h i _ => hl_shift h))
            have KK := hid ((K5.out.own (fun b => w.heap.size ≤ b)).trans ((k6.mono (fun b _ hb => by omega)).trans (k7.mono (fun b _ hb => by omega))))
            clear TO1 told2 k6 k7 W1 V1 u2 v2
            have c1 := t1'.c8
            have c2 := t2.c8
            have d1 := t1'.c9
            have d2 := t2.c9
            clear t1' t2 S1 S2 BL BL' HB1 HB2 HA R1 R2 N1 N2 K2 K5
            obtain ⟨hU, hP⟩ := HF.out
            have HU := hid hU
            have HND1 := hid nd1'
            have HND2 := hid nd2
            clear HF hU nd1' nd2
            go_upto_region 30 with fail
            go_cut [132] (fun s wc => s = .bool false ∧ ∃ nq, wc = w7.drewN nq)
            case first =>
              rcases hP with ⟨rfl, rfl⟩ | ⟨b, b', v, rfl, rfl, x1, x2⟩
              all_goals
                go_quiet (fail)
                go_wp2_with fail
                go_meet
                case rel => exact ⟨rfl, _, rfl⟩
            case rest =>
              obtain ⟨rfl, nq, hw⟩ := hcut
              subst wc
              go_upto_region 32 with fail
              go_cut [152] (fun s wc => s = .bool false ∧ ∃ nq, wc = w7.drewN nq)
              case first =>
                rcases hP with ⟨rfl, rfl⟩ | ⟨b, b', v, rfl, rfl, x1, x2⟩
                all_goals
                  go_quiet (fail)
                  go_wp2_with fail
                  go_meet
                  case rel => exact ⟨rfl, _, drewN2 _ _ _⟩
              case rest =>
                obtain ⟨rfl, nq', hw⟩ := hcut
                subst wc
                go_wp2_with fail
                go_loopw [17] (fun i wx => ∃ q : Nat, q ≤ m ∧ i = .int .i64 q ∧ ∃ nq, wx = w7.drewN nq) (fun i _ => m - (intOf i).toNat)
                case atStart => exact ⟨0, Nat.zero_le _, rfl, _, rfl⟩
                case round =>
                  obtain ⟨q, hq, rfl, nq'', hw⟩ := hrel
                  subst hw
                  by_cases hqm : q < m
                  · obtain ⟨_, _, _, y1⟩ := HND1.out.cells q hqm
                    obtain ⟨_, _, _, y2⟩ := HND2.out.cells q hqm
                    rw [HU.out q] at y1
                    have hqi : (q : Int) < m := by omega
                    have hq0 : (0 : Int) ≤ q := by omega
                    go_wp2_with fail
                    go_quiet (fail)
                    go_wp2_with fail
                    go_roundw
                    case rel => exact ⟨q + 1, by omega, by go_num, _, rfl⟩
                    case measure => simp [intOf]; omega
                  · go_wp2_with fail
                    go_ret
                    exact ⟨rfl, (KK.out.drewN _).below (Nat.le_refl _) (fun b hb => by omega)⟩

end Go.Proofs.Qxb6600263a
