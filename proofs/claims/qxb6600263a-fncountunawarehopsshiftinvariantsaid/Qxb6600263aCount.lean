import Derived.Test.Qxb6600263aNode
namespace Go.Proofs.Qxb6600263a
open Go.RowKit
set_option linter.unusedVariables false

/-- The gap ahead of entry i + 1; the total after k steps; the counts. -/
def gap (L : Nat → Int) (i : Nat) : Int := L i - L (i + 1) - 1
def tot (L : Nat → Int) : Nat → Int
  | 0 => 0
  | k + 1 => tot L k + if 0 < gap L k then gap L k else 0
def cnt (L U : Nat → Int) (k : Nat) (i : Nat) : Int := if 0 < i ∧ i ≤ k ∧ 0 < gap L (i - 1) then gap L (i - 1) else U i

theorem gap_bd {L : Nat → Int} {i : Nat} (h : 0 ≤ L i ∧ L i ≤ 255) (h' : 0 ≤ L (i + 1) ∧ L (i + 1) ≤ 255) : -256 ≤ gap L i ∧ gap L i ≤ 254 := by
  unfold gap; omega
theorem tot_bd {L : Nat → Int} {n : Nat} (h : ∀ i, i < n → 0 ≤ L i ∧ L i ≤ 255) (k : Nat) (hk : k + 1 ≤ n) : 0 ≤ tot L k ∧ tot L k ≤ 255 * k := by
  induction k with
  | zero => simp [tot]
  | succ k ih =>
    have := ih (by omega)
    have g := gap_bd (h k (by omega)) (h (k + 1) (by omega))
    simp only [tot]
    split <;> omega

theorem tot_hit (L : Nat → Int) (k : Nat) (hg : 0 < L k - L (k + 1) - 1) : tot L (k + 1) = tot L k + (L k - L (k + 1) - 1) := by
  simp only [tot]; rw [if_pos (by unfold gap; exact hg)]; rfl
theorem tot_miss (L : Nat → Int) (k : Nat) (hg : ¬ 0 < L k - L (k + 1) - 1) : tot L (k + 1) = tot L k := by
  simp only [tot]; rw [if_neg (by unfold gap; exact hg), Int.add_zero]
theorem cnt_hit (L U : Nat → Int) (k i : Nat) (hg : 0 < L k - L (k + 1) - 1) : (if i = k + 1 then L k - L (k + 1) - 1 else cnt L U k i) = cnt L U (k + 1) i := by
  unfold cnt
  by_cases h : i = k + 1
  · subst h
    rw [if_pos rfl, if_pos ⟨by omega, by omega, by simpa [gap] using hg⟩]; rfl
  · rw [if_neg h]
    by_cases h2 : 0 < i ∧ i ≤ k ∧ 0 < gap L (i - 1)
    · rw [if_pos h2, if_pos ⟨h2.1, by omega, h2.2.2⟩]
    · rw [if_neg h2, if_neg (fun h3 => h2 ⟨h3.1, by omega, h3.2.2⟩)]
theorem cnt_miss (L U : Nat → Int) (k i : Nat) (hg : ¬ 0 < L k - L (k + 1) - 1) : cnt L U k i = cnt L U (k + 1) i := by
  unfold cnt
  by_cases h2 : 0 < i ∧ i ≤ k ∧ 0 < gap L (i - 1)
  · rw [if_pos h2, if_pos ⟨h2.1, by omega, h2.2.2⟩]
  · rw [if_neg h2, if_neg (fun h3 => ?_)]
    by_cases h : i = k + 1
    · subst h
      exact hg (by simpa [gap] using h3.2.2)
    · exact h2 ⟨h3.1, by omega, h3.2.2⟩

set_option maxHeartbeats 1000000 in
theorem count_none (tb nb n : Nat) (p : Value) (F H V U : Nat → Int) (w : World) (ht : TraceAt w tb p (.slice (some ⟨nb, 0, none⟩) n n)) (hn : Nodes w nb n F H V U) (hs : n ≤ 65536)
    (hno : n = 0 ∨ hok (F 0) = false) :
    Calls Try.prog 18 #[.pointer (some ⟨tb, 0, none⟩)] w fun e w' => e = .returned (.tuple #[]) ∧ w' = w := by
  have c9 := ht.c9
  by_cases h0 : n = 0
  · subst h0
    clear ht hn hno
    go_enter Try.func18, Try.ntmps18
    go_wp2_with fail
    refine bodyPost_ret (results_none rfl _ _ _) rfl ?_
    exact ⟨rfl, rfl⟩
  · have hk := hno.resolve_left h0
    obtain ⟨n0, n1, n14, n39⟩ := hn.cells 0 (by omega)
    simp only [Nat.zero_mul, Nat.zero_add] at n0 n1 n14 n39
    have HK : Hid (hok (F 0) = false) := hk
    have hpos : (0 : Int) < n := by omega
    clear ht hn hno hk h0
    go_enter Try.func18, Try.ntmps18
    go_wp2_with fail
    refine (hopLim_any nb 0 (F 0) (H 0) (V 0) _ n0 n1 n14).mono ?_
    rintro e w' ⟨rfl, rfl⟩
    rw [HK.out]
    go_wp2_with fail
    refine bodyPost_ret (results_none rfl _ _ _) rfl ?_
    exact ⟨rfl, rfl⟩

set_option maxHeartbeats 1000000 in
theorem count_some (tb nb n : Nat) (p : Value) (F H V U L : Nat → Int) (w : World) (ht : TraceAt w tb p (.slice (some ⟨nb, 0, none⟩) n n)) (hn : Nodes w nb n F H V U) (hs : n ≤ 65536)
    (h0 : 0 < n) (hk : hok (F 0) = true) (hne : tb ≠ nb) (hL : ∀ i, i < n → L i = hl (F i) (H i) (V i)) (hb : ∀ i, i < n → 0 ≤ L i ∧ L i ≤ 255) :
    Calls Try.prog 18 #[.pointer (some ⟨tb, 0, none⟩)] w fun e w' => e = .returned (.tuple #[]) ∧
      TraceAt w' tb (.pointer (some ⟨w.heap.size, 0, none⟩)) (.slice (some ⟨nb, 0, none⟩) n n) ∧ Nodes w' nb n F H V (cnt L U (n - 1)) ∧ Blk w' w.heap.size #[.int .i64 (tot L (n - 1))] 3 ∧
      w'.heap.size = w.heap.size + 1 ∧ Kept (fun b => b = tb ∨ b = nb) w w' := by
  have c9 := ht.c9
  have ltb := ht.lt
  have lnb := hn.lt
  obtain ⟨n0, n1, n14, n39⟩ := hn.cells 0 h0
  simp only [Nat.zero_mul, Nat.zero_add] at n0 n1 n14 n39
  have HK : Hid (hok (F 0) = true) := hk
  have HL0 : Hid (L 0 = hl (F 0) (H 0) (V 0)) := hL 0 h0
  have hpos : (0 : Int) < n := by omega
  have hpos1 : (1 : Int) ≤ n := by omega
  have HT : Hid (TraceAt w tb p (.slice (some ⟨nb, 0, none⟩) n n)) := ht
  have HN : Hid (Nodes w nb n F H V U) := hn
  have HLL : Hid (∀ i, i < n → L i = hl (F i) (H i) (V i)) := hL
  clear hk ht hn hL
  by_cases h1 : n = 1
  · subst h1
    go_enter Try.func18, Try.ntmps18
    go_wp2_with fail
    refine (hopLim_any nb 0 (F 0) (H 0) (V 0) _ n0 n1 n14).mono ?_
    rintro e wz ⟨rfl, hw⟩
    subst wz
    rw [HK.out, ← HL0.out]
    go_wp2_with fail
    refine wp_loop_rounds 1 ?_
    rw [rounds_succ]
    have c8 := HT.out.c8
    have f8 := HT.out.frozen 8
    go_wp2
    refine bodyPost_end (results_none rfl _ _ _) rfl ?_
    refine ⟨rfl, ?_, ?_, ?_, by simp, ?_⟩
    · exact (HT.out.set8 _).kept ((Kept.refl (fun _ => False) _).alloc _) id
    · exact ((HN.out.set_other (a := ⟨tb, 8, none⟩) (fun h => hne h.symm) _).kept ((Kept.refl (fun _ => False) _).alloc _) id).congr (fun i _ => ⟨rfl, rfl, rfl, by simp [cnt]; omega⟩)
    · have := Blk.new (w.setCell ⟨tb, 8, none⟩ (.pointer (some ⟨w.heap.size, 0, none⟩))) #[.int .i64 0] 3
      rw [World.size_setCell] at this
      exact this
    · exact ((Kept.refl _ _).setCell (p := ⟨tb, 8, none⟩) (.inr (.inl rfl)) _).alloc _
  have h2 : (2 : Int) ≤ n := by omega
  go_enter Try.func18, Try.ntmps18
  go_wp2_with fail
  refine (hopLim_any nb 0 (F 0) (H 0) (V 0) _ n0 n1 n14).mono ?_
  rintro e wz ⟨rfl, hw⟩
  subst wz
  rw [HK.out, ← HL0.out]
  go_wp2_with fail
  clear n0 n1 n14 n39 HK HL0
  go_loopw [2, 33] (fun pv i wr => ∃ k : Nat, k + 1 ≤ n ∧ i = .int .i64 k ∧ pv = .int .u8 (L k) ∧ TraceAt wr tb p (.slice (some ⟨nb, 0, none⟩) n n) ∧ Nodes wr nb n F H V (cnt L U k) ∧
      Blk wr w.heap.size #[.int .i64 (tot L k)] 3 ∧ wr.heap.size = w.heap.size + 1 ∧ Kept (fun b => b = tb ∨ b = nb) w wr)
    (fun _ i _ => n - (intOf i).toNat)
  case atStart =>
    refine ⟨0, by omega, rfl, rfl, ?_, ?_, Blk.new _ _ _, by simp, (Kept.refl _ _).alloc _⟩
    · exact HT.out.kept ((Kept.refl (fun _ => False) _).alloc _) id
    · exact (HN.out.kept ((Kept.refl (fun _ => False) _).alloc _) id).congr (fun i _ => ⟨rfl, rfl, rfl, by simp [cnt]; omega⟩)
  case round =>
    obtain ⟨k, hk, rfl, rfl, ht, hn, hbk, hsz, hkp⟩ := hrel
    clear HT HN c9
    have c9 := ht.c9
    have c8 := ht.c8
    have f8 := ht.frozen 8
    have ct : wr.cell? ⟨w.heap.size, 0, none⟩ = some (.int .i64 (tot L k)) := by rw [hbk.cell]; rfl
    have ft : wr.frozen? ⟨w.heap.size, 0, none⟩ = false := hbk.frozen 0
    by_cases hlt : k + 1 < n
    · obtain ⟨n0, n1, n14, n39⟩ := hn.cells (k + 1) hlt
      have f39 := hn.frozen ((k + 1) * 40 + 39)
      have HLk : Hid (L (k + 1) = hl (F (k + 1)) (H (k + 1)) (V (k + 1))) := HLL.out (k + 1) hlt
      have b1 := hb k (by omega)
      have b2 := hb (k + 1) hlt
      have b3 := tot_bd hb k (by omega)
      go_wp2_with fail
      refine (hopLim_any nb ((k + 1) * 40) (F (k + 1)) (H (k + 1)) (V (k + 1)) _ n0 n1 n14).mono ?_
      rintro e wz ⟨rfl, hw⟩
      subst wz
      rw [← HLk.out]
      by_cases hg : 0 < L k - L (k + 1) - 1
      · go_wp2_with fail
        go_roundw
        case rel =>
          refine ⟨k + 1, by omega, by go_num, rfl, ?_, ?_, ?_, by simpa using hsz, ?_⟩
          · exact (ht.set_other (a := ⟨nb, (k + 1) * 40 + 39, none⟩) hne _).set_other (a := ⟨w.heap.size, 0, none⟩) (by simp; omega) _
          · exact ((hn.setU (k + 1) hlt (L k - L (k + 1) - 1)).set_other (a := ⟨w.heap.size, 0, none⟩) (by simp; omega) _).congr (fun i _ => ⟨rfl, rfl, rfl, cnt_hit L U k i hg⟩)
          · have R := (hbk.set_other (a := ⟨nb, (k + 1) * 40 + 39, none⟩) (by simp; omega) (.int .i64 (L k - L (k + 1) - 1))).set 0 (.int .i64 (tot L k + (L k - L (k + 1) - 1)))
            rw [tot_hit L k hg]
            exact R
          · exact (hkp.setCell (p := ⟨nb, (k + 1) * 40 + 39, none⟩) (.inr (.inr rfl)) _).setCell (p := ⟨w.heap.size, 0, none⟩) (.inl (by simp)) _
        case measure => simp [intOf]; omega
      · go_wp2_with fail
        go_roundw
        case rel =>
          refine ⟨k + 1, by omega, by go_num, rfl, ht, hn.congr (fun i _ => ⟨rfl, rfl, rfl, cnt_miss L U k i (by omega)⟩), ?_, hsz, hkp⟩
          rw [tot_miss L k (by omega)]
          exact hbk
        case measure => simp [intOf]; omega
    · have hkn : k = n - 1 := by omega
      go_wp2_with fail
      refine bodyPost_end (results_none rfl _ _ _) rfl ?_
      subst hkn
      exact ⟨rfl, ht.set8 _, hn.set_other (a := ⟨tb, 8, none⟩) (fun h => hne h.symm) _, hbk.set_other (a := ⟨tb, 8, none⟩) (by simp; omega) _, by simpa using hsz, hkp.setCell (p := ⟨tb, 8, none⟩) (.inr (.inl rfl)) _⟩

theorem zzcount_none (tb nb n : Nat) (p : Value) (F H V U : Nat → Int) (w : World) (ht : TraceAt w tb p (.slice (some ⟨nb, 0, none⟩) n n)) (hn : Nodes w nb n F H V U) (hs : n ≤ 65536)
    (hno : n = 0 ∨ hok (F 0) = false) :
    Calls Try.prog 12 #[.pointer (some ⟨tb, 0, none⟩)] w fun e w' => e = .returned (.tuple #[]) ∧ w' = w := by
  go_enter Try.func12, Try.ntmps12
  go_wp2_with fail
  refine (count_none tb nb n p F H V U _ ht hn hs hno).mono ?_
  rintro e wz ⟨rfl, hw⟩
  subst wz
  go_wp2_with fail
  refine bodyPost_end (results_none rfl _ _ _) rfl ?_
  exact ⟨rfl, rfl⟩

theorem zzcount_some (tb nb n : Nat) (p : Value) (F H V U L : Nat → Int) (w : World) (ht : TraceAt w tb p (.slice (some ⟨nb, 0, none⟩) n n)) (hn : Nodes w nb n F H V U) (hs : n ≤ 65536)
    (h0 : 0 < n) (hk : hok (F 0) = true) (hne : tb ≠ nb) (hL : ∀ i, i < n → L i = hl (F i) (H i) (V i)) (hb : ∀ i, i < n → 0 ≤ L i ∧ L i ≤ 255) :
    Calls Try.prog 12 #[.pointer (some ⟨tb, 0, none⟩)] w fun e w' => e = .returned (.tuple #[]) ∧
      TraceAt w' tb (.pointer (some ⟨w.heap.size, 0, none⟩)) (.slice (some ⟨nb, 0, none⟩) n n) ∧ Nodes w' nb n F H V (cnt L U (n - 1)) ∧ Blk w' w.heap.size #[.int .i64 (tot L (n - 1))] 3 ∧
      w'.heap.size = w.heap.size + 1 ∧ Kept (fun b => b = tb ∨ b = nb) w w' := by
  have H1 := hid (count_some tb nb n p F H V U L w ht hn hs h0 hk hne hL hb)
  clear ht hn hk hL
  go_enter Try.func12, Try.ntmps12
  go_wp2_with fail
  refine H1.out.mono ?_
  rintro e w1 ⟨rfl, h1, h2, h3, h4, h5⟩
  clear H1
  go_wp2_with fail
  refine bodyPost_end (results_none rfl _ _ _) rfl ?_
  exact ⟨rfl, h1, h2, h3, h4, h5⟩

end Go.Proofs.Qxb6600263a
