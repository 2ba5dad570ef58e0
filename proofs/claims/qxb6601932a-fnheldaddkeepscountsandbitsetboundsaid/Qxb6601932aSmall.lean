/-
  The small functions: the copy, the places, what was seen.
-/
import Derived.Test.Qxb6601932aFit
import Derived.Laws.StructEq
namespace Go.Proofs.Qxb6601932a
open Go.RowKit
set_option linter.unusedVariables false
set_option linter.unusedSimpArgs false

theorem Try.info29 : (Try.prog.info? 29).map (fun i => (i.zero, i.size, i.bytes)) = some (some (.agg #[.string ByteArray.empty, .string ByteArray.empty]), 2, 32) := by kernel_rfl
theorem Try.q22 (w : World) (a : Option Addr) (n c : Nat) : (binOp .eql 22 (.slice a n c) (.slice none 0 0)).run Try.prog w = .ok (.bool a.isNone) w := Lib.run_eql_slice_nil w _ _ a n c 0 0 Try.underlying22

/-- The block holds n holdings, of which the first m are laid. -/
def Two (w : World) (b n m : Nat) (sc : Nat → ByteArray × ByteArray) : Prop :=
  ∃ cs, Blk w b cs 29 ∧ cs.size = n * 2 ∧ ∀ k, k < m → cs[k * 2]? = some (.string (sc k).1) ∧ cs[k * 2 + 1]? = some (.string (sc k).2)
theorem Two.new (w : World) (n : Nat) (sc : Nat → ByteArray × ByteArray) : Two (w.alloc (.cells (madeCells (Value.agg #[.string ByteArray.empty, .string ByteArray.empty]).cells (n * 2)) 29)) w.heap.size n 0 sc :=
  ⟨_, Blk.new _ _ _, size_madeCells _ _, fun k hk => by omega⟩
theorem Two.at {w : World} {b n m : Nat} {sc : Nat → ByteArray × ByteArray} (h : Two w b n m sc) (k : Nat) (hk : k < n) : (∃ u, w.cell? ⟨b, k * 2, none⟩ = some u) ∧ (∃ u, w.cell? ⟨b, k * 2 + 1, none⟩ = some u) ∧ w.frozen? ⟨b, k * 2, none⟩ = false ∧ w.frozen? ⟨b, k * 2 + 1, none⟩ = false := by
  obtain ⟨cs, hb, hs, _⟩ := h
  refine ⟨⟨cs[k * 2], by rw [hb.cell]; exact Array.getElem?_eq_getElem (by omega)⟩, ⟨cs[k * 2 + 1], by rw [hb.cell]; exact Array.getElem?_eq_getElem (by omega)⟩, hb.frozen _, hb.frozen _⟩
theorem Two.set {w : World} {b n k : Nat} {sc : Nat → ByteArray × ByteArray} (h : Two w b n k sc) (hk : k < n) : Two ((w.setCell ⟨b, k * 2, none⟩ (.string (sc k).1)).setCell ⟨b, k * 2 + 1, none⟩ (.string (sc k).2)) b n (k + 1) sc := by
  obtain ⟨cs, hb, hs, hc⟩ := h
  refine ⟨_, (hb.set (k * 2) _).set (k * 2 + 1) _, by simpa using hs, fun j hj => ?_⟩
  simp only [Array.getElem?_setIfInBounds, Array.size_setIfInBounds]
  by_cases e : j = k
  · subst e
    rw [if_neg (by omega), if_pos rfl, if_pos (by omega), if_pos rfl, if_pos (by omega)]
    exact ⟨rfl, rfl⟩
  · have := hc j (by omega)
    rw [if_neg (by omega), if_neg (by omega), if_neg (by omega), if_neg (by omega)]
    exact this
theorem Two.holds {w : World} {b n : Nat} {sc : Nat → ByteArray × ByteArray} (h : Two w b n n sc) : Holds w (some ⟨b, 0, none⟩) n sc := by
  obtain ⟨cs, hb, hs, hc⟩ := h
  exact .inr ⟨b, 0, rfl, fun i hi => by rw [Nat.zero_add, hb.cell, hb.cell]; exact hc i hi⟩

set_option maxHeartbeats 1000000 in
theorem copy7 (a : Option Addr) (l c : Nat) (sc : Nat → ByteArray × ByteArray) (w : World) (hl : l ≤ 4096) (hr : Holds w a l sc) :
    Calls Try.prog 7 #[.slice a l c] w fun e w' => ∃ a' c', e = .returned (.slice a' l c') ∧ Holds w' a' l sc ∧ Kept (fun _ => False) w w' ∧ ∀ b o, a' = some ⟨b, o, none⟩ → w.heap.size ≤ b ∧ b < w'.heap.size := by
  have hq := Try.q22
  cases a with
  | none =>
    obtain rfl : l = 0 := by
      rcases hr with h | ⟨b, o, e, _⟩
      · exact h
      · cases e
    clear hr
    go_enter Try.func7, Try.ntmps7
    go_wp2_with fail
    go_ret
    exact ⟨none, 0, rfl, .inl rfl, Kept.refl _ _, fun b o e => by cases e⟩
  | some x =>
    obtain ⟨i0, hi, hz0, hz1, hz2⟩ := info_parts Try.info29
    have HZ := hid hr
    clear hr
    go_enter Try.func7, Try.ntmps7
    go_wp2_with (at_make; refine wpList_make_exact _ rfl _ _ 22 rfl 29 i0 (.agg #[.string ByteArray.empty, .string ByteArray.empty]) 2 Try.underlying22 hi hz0 hz1 .i64 .i64 _ _ l l rfl rfl rfl rfl (Nat.le_refl _) (by rw [hz2]; omega) (by unfold maxLen; omega) ?_)
    go_loopw [4] (fun i wr => ∃ k : Nat, k ≤ l ∧ i = .int .i64 k ∧ Two wr w.heap.size l k sc ∧ Kept (fun _ => False) w wr ∧ w.heap.size < wr.heap.size)
      (fun i _ => l - (intOf i).toNat)
    case atStart => exact ⟨0, Nat.zero_le _, rfl, Two.new w l sc, (Kept.refl _ _).alloc _, by simp⟩
    case round =>
      obtain ⟨k, hk, rfl, hn, hkp, hsz⟩ := hrel
      clear hi hz0 hz1 hz2
      by_cases hlt : k < l
      · obtain ⟨b, off, hx, hz⟩ := HZ.out.resolve_left (by omega)
        obtain rfl := Option.some.inj hx
        obtain ⟨z1, z2⟩ := hz k hlt
        have hbl := World.block_lt_of_cell? w _ z1
        have hc1 : wr.cell? ⟨b, off + k * 2, none⟩ = some (.string (sc k).1) := (hkp.cell (p := ⟨b, off + k * 2, none⟩) hbl id).trans z1
        have hc2 : wr.cell? ⟨b, off + k * 2 + 1, none⟩ = some (.string (sc k).2) := (hkp.cell (p := ⟨b, off + k * 2 + 1, none⟩) hbl id).trans z2
        obtain ⟨⟨u1, hu1⟩, ⟨u2, hu2⟩, fu1, fu2⟩ := hn.at k hlt
        have HN := hid (hn.set hlt)
        have HK := hid ((hkp.setCell (p := ⟨w.heap.size, k * 2, none⟩) (.inl (Nat.le_refl _)) (.string (sc k).1)).setCell (p := ⟨w.heap.size, k * 2 + 1, none⟩) (.inl (Nat.le_refl _)) (.string (sc k).2))
        obtain ⟨s1, s2, hs⟩ : ∃ x y, sc k = (x, y) := ⟨_, _, rfl⟩
        have hn' := HN.out
        have hk' := HK.out
        rw [hs] at hc1 hc2 hn' hk'
        clear hn hkp hz HZ hx z1 z2 HN HK hs
        have HN := hid hn'
        have HK := hid hk'
        clear hn' hk'
        go_wp2_with fail
        go_roundw
        case rel => exact ⟨k + 1, by omega, by go_num, HN.out, HK.out, by simpa using hsz⟩
        case measure => simp [intOf]; omega
      · have hk' : k = l := by omega
        subst hk'
        go_wp2_with fail
        go_ret
        exact ⟨_, _, rfl, hn.holds, hkp, fun b o e => by cases e; exact ⟨Nat.le_refl _, hsz⟩⟩

/-! ### Places -/
theorem placeFrom_first (s : ByteArray) : ∀ (L : List ByteArray) (k i : Nat) (hi : i < L.length), L[i] = s → (∀ j (hj : j < L.length), j < i → L[j] ≠ s) → placeFrom k s L = some (k + i)
  | [], k, i, hi, _, _ => by simp at hi
  | t :: r, k, i, hi, h, hn => by
    unfold placeFrom
    cases i with
    | zero =>
      simp only [List.getElem_cons_zero] at h
      subst h
      rw [if_pos (ba_refl _)]
      rfl
    | succ i =>
      have h0 := hn 0 (by simp) (by omega)
      simp only [List.getElem_cons_zero] at h0
      rw [if_neg (fun e => h0 (ba_eq e).symm), placeFrom_first s r (k + 1) i (by simpa using hi) (by simpa using h) (fun j hj hji => by
        have := hn (j + 1) (by simpa using hj) (by omega)
        simpa using this)]
      congr 1
      omega
theorem placeFrom_no (s : ByteArray) : ∀ (L : List ByteArray) (k : Nat), (∀ j (hj : j < L.length), L[j] ≠ s) → placeFrom k s L = none
  | [], k, _ => rfl
  | t :: r, k, hn => by
    unfold placeFrom
    have h0 := hn 0 (by simp)
    simp only [List.getElem_cons_zero] at h0
    rw [if_neg (fun e => h0 (ba_eq e).symm), placeFrom_no s r (k + 1) (fun j hj => by
      have := hn (j + 1) (by simpa using hj)
      simpa using this)]
/-- The place, or -1. -/
def idx (L : List ByteArray) (s : ByteArray) : Int := match place L s with | some j => (j : Int) | none => -1
theorem idx_first {L : List ByteArray} {s : ByteArray} {i : Nat} (hi : i < L.length) (h : L[i] = s) (hn : ∀ j (hj : j < L.length), j < i → L[j] ≠ s) : idx L s = i := by
  unfold idx place; rw [placeFrom_first s L 0 i hi h hn]; simp
theorem idx_no {L : List ByteArray} {s : ByteArray} (hn : ∀ j (hj : j < L.length), L[j] ≠ s) : idx L s = -1 := by
  unfold idx place; rw [placeFrom_no s L 0 hn]

set_option maxHeartbeats 1000000 in
theorem index9 (v : Value) (L : List ByteArray) (s : ByteArray) (w : World) (hL : L.length ≤ 8192) (ho : w.ownsRow 0 9 1 v L.length (L.map Value.string)) :
    Calls Try.prog 9 #[v, .string s] w fun e w' => e = .returned (.int .i64 (idx L s)) ∧ w' = w := by
  obtain ⟨a, cap, hv⟩ := own_form ho
  subst hv
  have HO := hid ho
  clear ho
  go_enter Try.func9, Try.ntmps9
  go_wp2_with fail
  go_loop [5] (fun i => ∃ k : Nat, k ≤ L.length ∧ i = .int .i64 k ∧ ∀ j (hj : j < L.length), j < k → L[j] ≠ s) (fun i => L.length - (intOf i).toNat)
  case atStart => exact ⟨0, Nat.zero_le _, rfl, fun j _ h => by omega⟩
  case round =>
    obtain ⟨k, hk, rfl, hn⟩ := hrel
    have HN := hid hn
    clear hn
    by_cases hlt : k < L.length
    · obtain ⟨g, cp, hge, _, hgl, _⟩ := own_at HO.out (by omega)
      cases hge
      obtain ⟨x, hx⟩ : ∃ x, L[k] = x := ⟨_, rfl⟩
      have hc : w.cell? ⟨g, k, none⟩ = some (.string x) := by rw [HO.out.cellAt k (by omega)]; simp [hlt, hx]
      have HX := hid hx
      have hki : (k : Int) < L.length := by omega
      have hk0 : (0 : Int) ≤ k := by omega
      clear hx
      by_cases he : (x == s) = true
      · have he' : (x.toList == s.toList) = true := by rw [← beq_toListBytes]; exact he
        have HE := hid he
        clear he
        go_wp2_with fail
        go_ret
        exact ⟨by rw [idx_first hlt (HX.out.trans (ba_eq HE.out)) HN.out]; rfl, rfl⟩
      · have he' : (x.toList == s.toList) = false := by rw [← beq_toListBytes]; simpa using he
        have HE := hid he
        clear he
        go_wp2_with fail
        go_round
        case rel => exact ⟨k + 1, by omega, by go_num, fun j hj hjk => by
          by_cases e : j = k
          · subst e; rw [HX.out]; exact fun q => HE.out (by rw [q]; exact ba_refl s)
          · exact HN.out j hj (by omega)⟩
        case measure => simp [intOf]; omega
    · obtain rfl : k = L.length := by omega
      go_wp2_with fail
      go_ret
      exact ⟨by rw [idx_no (fun j hj => HN.out j hj hj)]; rfl, rfl⟩

/-! ### What was seen -/
def SeenB (sc : Nat → ByteArray × ByteArray) (i : Nat) (e : Ending) : Prop := ∃ r : Bool, e = .returned (.bool r) ∧ (r = true ↔ ∃ j, j < i ∧ sc j = sc i)

set_option maxHeartbeats 2000000 in
theorem seen10 (a : Option Addr) (l c i : Nat) (sc : Nat → ByteArray × ByteArray) (w : World) (hl : l ≤ 4096) (hi : i < l) (hr : Holds w a l sc) :
    Calls Try.prog 10 #[.slice a l c, .int .i64 (i : Int)] w fun e w' => SeenB sc i e ∧ Kept (fun _ => False) w w' := by
  obtain ⟨b, o, ha, q⟩ := hr.resolve_left (by omega)
  subst ha
  obtain ⟨fi, si, hsi⟩ : ∃ x y, sc i = (x, y) := ⟨_, _, rfl⟩
  have HSI := hid hsi
  have HQ := hid q
  have hii : (i : Int) < l := by omega
  have hi0 : (0 : Int) ≤ i := by omega
  clear hr q hsi
  go_enter Try.func10, Try.ntmps10
  go_wp2_with fail
  go_loopw [5] (fun x wr => ∃ j : Nat, j ≤ i ∧ x = .int .i64 j ∧ (∀ k, k < j → sc k ≠ sc i) ∧ Kept (fun _ => False) w wr) (fun x _ => i - (intOf x).toNat)
  case atStart => exact ⟨0, Nat.zero_le _, rfl, fun k h => by omega, Kept.refl _ _⟩
  case round =>
    obtain ⟨j, hj, rfl, hn, hk⟩ := hrel
    have HN := hid hn
    have HK := hid hk
    clear hn
    by_cases hlt : j < i
    · obtain ⟨fj, sj, hsj⟩ : ∃ x y, sc j = (x, y) := ⟨_, _, rfl⟩
      obtain ⟨p1, p2⟩ := HQ.out j (by omega)
      obtain ⟨r1, r2⟩ := HQ.out i hi
      rw [hsj] at p1 p2
      rw [HSI.out] at r1 r2
      have hbl := World.block_lt_of_cell? w _ p1
      have c1 : wr.cell? ⟨b, o + j * 2, none⟩ = some (.string fj) := (hk.cell (p := ⟨b, o + j * 2, none⟩) hbl id).trans p1
      have c2 : wr.cell? ⟨b, o + j * 2 + 1, none⟩ = some (.string sj) := (hk.cell (p := ⟨b, o + j * 2 + 1, none⟩) hbl id).trans p2
      have c3 : wr.cell? ⟨b, o + i * 2, none⟩ = some (.string fi) := (hk.cell (p := ⟨b, o + i * 2, none⟩) hbl id).trans r1
      have c4 : wr.cell? ⟨b, o + i * 2 + 1, none⟩ = some (.string si) := (hk.cell (p := ⟨b, o + i * 2 + 1, none⟩) hbl id).trans r2
      have HSJ := hid hsj
      have hjl : (j : Int) < l := by omega
      have hj0 : (0 : Int) ≤ j := by omega
      have hji : (j : Int) < i := by omega
      clear hsj p1 p2 r1 r2 hk hbl
      by_cases e1 : (fj == fi) = true
      · have e1' : (fj.toList == fi.toList) = true := by rw [← beq_toListBytes]; exact e1
        have HE1 := hid e1
        clear e1
        by_cases e2 : (sj == si) = true
        · have e2' : (sj.toList == si.toList) = true := by rw [← beq_toListBytes]; exact e2
          have HE2 := hid e2
          clear e2
          go_wp2_with fail
          go_quiet (fail)
          go_wp2_with fail
          go_ret
          exact ⟨⟨true, rfl, by
            simp only [true_iff]
            exact ⟨j, hlt, by rw [HSJ.out, HSI.out, ba_eq HE1.out, ba_eq HE2.out]⟩⟩, HK.out.drewN _⟩
        · have e2' : (sj.toList == si.toList) = false := by rw [← beq_toListBytes]; simpa using e2
          have HE := hid e2
          clear e2
          go_wp2_with fail
          go_quiet (fail)
          go_wp2_with fail
          go_roundw
          case rel => exact ⟨j + 1, by omega, by go_num, fun k hk => by
            by_cases e : k = j
            · subst e; rw [HSJ.out, HSI.out]; exact fun q => HE.out (by rw [show sj = si from congrArg Prod.snd q]; exact ba_refl _)
            · exact HN.out k (by omega), HK.out.drewN _⟩
          case measure => simp [intOf]; omega
      · have e1' : (fj.toList == fi.toList) = false := by rw [← beq_toListBytes]; simpa using e1
        have HE := hid e1
        clear e1
        go_wp2_with fail
        go_quiet (fail)
        go_wp2_with fail
        go_roundw
        case rel => exact ⟨j + 1, by omega, by go_num, fun k hk => by
          by_cases e : k = j
          · subst e; rw [HSJ.out, HSI.out]; exact fun q => HE.out (by rw [show fj = fi from congrArg Prod.fst q]; exact ba_refl _)
          · exact HN.out k (by omega), HK.out.drewN _⟩
        case measure => simp [intOf]; omega
    · obtain rfl : j = i := by omega
      go_wp2_with fail
      go_ret
      exact ⟨⟨false, rfl, by
        constructor
        · intro h; cases h
        · rintro ⟨k, hk, e⟩; exact absurd e (HN.out k hk)⟩, HK.out⟩

end Go.Proofs.Qxb6601932a
