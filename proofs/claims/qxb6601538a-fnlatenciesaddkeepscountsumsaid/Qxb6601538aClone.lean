import Derived.Test.Qxb6601538aOwn
namespace Go.Proofs.Qxb6601538a
open Go.RowKit
set_option linter.unusedVariables false

theorem Blk.newAt (w : World) (c : Array Value) (e : TypeId) (B : Nat) (hB : w.heap.size = B) : Blk (w.alloc (.cells c e)) B c e := by
  subst hB
  exact Blk.new w c e

/-- 54 nil pointers are rows of the call's own. -/
def nil54 : Array Value := #[.pointer none, .pointer none, .pointer none, .pointer none, .pointer none, .pointer none, .pointer none, .pointer none, .pointer none, .pointer none, .pointer none, .pointer none, .pointer none, .pointer none, .pointer none, .pointer none, .pointer none, .pointer none,
  .pointer none, .pointer none, .pointer none, .pointer none, .pointer none, .pointer none, .pointer none, .pointer none, .pointer none, .pointer none, .pointer none, .pointer none, .pointer none, .pointer none, .pointer none, .pointer none, .pointer none, .pointer none,
  .pointer none, .pointer none, .pointer none, .pointer none, .pointer none, .pointer none, .pointer none, .pointer none, .pointer none, .pointer none, .pointer none, .pointer none, .pointer none, .pointer none, .pointer none, .pointer none, .pointer none, .pointer none]

theorem nil54_at : ∀ r, r < 54 → nil54[r]? = some (.pointer none) := by
  have h : nil54 = Array.replicate 54 (.pointer none) := rfl
  intro r hr
  rw [h]
  simp [hr]

theorem OwnRows.nil (S : Nat → Prop) (w : World) : OwnRows S w nil54 (fun _ _ => 0) :=
  ⟨fun _ => none, fun r hr => nil54_at r hr, fun _ _ _ _ _ => rfl, (fun _ _ _ h => by cases h), (fun _ _ _ _ _ h => by cases h)⟩

def upto (E : Nat → Nat → Int) (k : Nat) (r c : Nat) : Int := if r < k then E r c else 0
theorem upto_succ (E : Nat → Nat → Int) (k r c : Nat) : (if r = k then E k c else upto E k r c) = upto E (k + 1) r c := by
  unfold upto
  by_cases h : r = k
  · subst h; simp
  · by_cases h2 : r < k
    · simp [h, h2, show r < k + 1 by omega]
    · simp [h, h2, show ¬ r < k + 1 by omega]
theorem upto_nil (E : Nat → Nat → Int) (k r c : Nat) (hc : c < 1024) (h : ∀ c, c < 1024 → E k c = 0) : upto E k r c = upto E (k + 1) r c := by
  rw [← upto_succ]
  by_cases h2 : r = k
  · subst h2; simp [h c hc, upto]
  · rw [if_neg h2]

theorem if_lt_succ (f : Nat → Int) (k i : Nat) : (if i = k then f k else if i < k then f i else 0) = if i < k + 1 then f i else 0 := by
  by_cases h : i = k
  · subst h; simp
  · by_cases h2 : i < k
    · simp [h, h2, show i < k + 1 by omega]
    · simp [h, h2, show ¬ i < k + 1 by omega]

set_option maxHeartbeats 1000000 in
theorem clone_any (cs : Array Value) (E : Nat → Nat → Int) (w : World) (h : RowsAt w cs E) :
    Calls Try.prog 15 #[.agg cs] w fun e w' => ∃ cs', e = .returned (.agg cs') ∧ cs'.size = 54 ∧ OwnRows (fun b => w.heap.size ≤ b ∧ b < w'.heap.size) w' cs' E ∧ Kept (fun _ => False) w w' := by
  have hrow := h
  unfold RowsAt at hrow
  clear h
  obtain ⟨i48, hi48, hz48, _, _⟩ := info_parts Try.info48
  go_enter Try.func15, Try.ntmps15
  go_wp2_with fail
  go_loopw [4] (fun i wr => ∃ k : Nat, k ≤ 54 ∧ i = .int .i64 k ∧ ∃ co, Blk wr w.heap.size cs 35 ∧ Blk wr (w.heap.size + 1) nil54 35 ∧ Blk wr (w.heap.size + 1 + 1) co 35 ∧ OwnRows (fun b => w.heap.size + 3 ≤ b) wr co (upto E k) ∧ co.size = 54 ∧
      (∀ r, k ≤ r → r < 54 → co[r]? = some (.pointer none)) ∧ Kept (fun _ => False) w wr ∧ w.heap.size + 3 ≤ wr.heap.size) (fun i _ => 54 - (intOf i).toNat)
  case atStart =>
    refine ⟨0, Nat.zero_le _, rfl, nil54, ?_, ?_, ?_, ?_, rfl, fun r _ hr => nil54_at r hr, (((Kept.refl _ _).alloc _).alloc _).alloc _, by simp⟩
    · exact ((Blk.newAt w cs 35 _ rfl).alloc _).alloc _
    · exact (Blk.newAt (w.alloc (.cells cs 35)) nil54 35 _ (by simp)).alloc _
    · exact Blk.newAt ((w.alloc (.cells cs 35)).alloc (.cells nil54 35)) nil54 35 _ (by simp)
    · exact (OwnRows.nil _ _).congr (fun r c _ _ => by simp [upto])
  case round =>
    obtain ⟨k, hk, rfl, co, B1, B2, B3, own, hco, hnil, kp, hsz⟩ := hrel
    have HCO := hid hco
    clear hco
    by_cases hlt : k < 54
    · have hi : (k : Int) < 54 := by omega
      rcases hrow k hlt with ⟨hp, hE⟩ | ⟨b, o, hp, hE⟩
      · have hc : wr.cell? ⟨w.heap.size, k, none⟩ = some (.pointer none) := by rw [B1.cell, hp]
        clear hrow hp hi48 hz48
        go_wp2_with fail
        go_roundw
        case rel => exact ⟨k + 1, by omega, by go_num, co, B1, B2, B3, own.congr (fun r c _ hc => upto_nil E k r c hc hE), HCO.out, fun r h1 h2 => hnil r (by omega) h2, kp, hsz⟩
        case measure => simp [intOf]; omega
      · have hc : wr.cell? ⟨w.heap.size, k, none⟩ = some (.pointer (some ⟨b, o, none⟩)) := by rw [B1.cell, hp]
        have hb := World.block_lt_of_cell? w _ (hE 0 (by omega))
        simp only at hb
        have HE := hid hE
        have HN := hid hnil
        clear hrow hp hE hnil
        go_wp2_with (with_reducible (refine wpList_alloc_agg 48 z48 rfl rfl i48 hi48 hz48 ?_))
        clear hi48 hz48
        obtain ⟨w1, hw1⟩ : ∃ w1, w1 = wr := ⟨_, rfl⟩
        subst hw1
        go_loopw [6] (fun i wr => ∃ j : Nat, j ≤ 1024 ∧ i = .int .i64 j ∧ Nums .u64 48 wr w1.heap.size 1024 (fun c => if c < j then E k c else 0) ∧ Kept (fun _ => False) w1 wr) (fun i _ => 1024 - (intOf i).toNat)
        case atStart => exact ⟨0, Nat.zero_le _, rfl, (Nums.new48 w1 _ rfl).congr (fun c _ => by simp), (Kept.refl _ _).alloc _⟩
        case round =>
          obtain ⟨j, hj, rfl, nm, kp2⟩ := hrel
          by_cases hjt : j < 1024
          · have hji : (j : Int) < 1024 := by omega
            have hx : wr.cell? ⟨b, o + j, none⟩ = some (.int .u64 (E k j)) := by
              rw [(kp.trans kp2).cell (p := ⟨b, o + j, none⟩) hb id]
              exact HE.out j hjt
            have hc2 : wr.cell? ⟨w.heap.size, k, none⟩ = some (.pointer (some ⟨b, o, none⟩)) := by rw [kp2.cell (p := ⟨w.heap.size, k, none⟩) (by simp; omega) id]; exact hc
            have hy := nm.cell j hjt
            have hz := nm.frozen j
            have NM := hid (nm.set j (E k j))
            have KP2 := hid (kp2.setCell (p := ⟨w1.heap.size, j, none⟩) (.inl (by simp)) (.int .u64 (E k j)))
            clear nm kp2 hc
            go_wp2_with fail
            go_region
            all_goals go_wp2_with fail
            go_roundw
            case rel => exact ⟨j + 1, by omega, by go_num, NM.out.congr (fun c _ => if_lt_succ (E k) j c), KP2.out.drew⟩
            case measure => simp [intOf]; omega
          · obtain rfl : j = 1024 := by omega
            have nm' : Nums .u64 48 wr w1.heap.size 1024 (E k) := nm.congr (fun c hc => by simp [hc])
            have B3' := B3.kept kp2 id
            have y1 : wr.cell? ⟨w.heap.size + 1 + 1, k, none⟩ = some (.pointer none) := by rw [B3'.cell]; exact HN.out k (Nat.le_refl _) hlt
            have y2 := B3'.frozen k
            have OW := hid ((own.put hlt hsz (Nat.le_refl _) kp2 nm').kept (T := fun b => b = w.heap.size + 2) ((Kept.refl (fun b => b = w.heap.size + 2) _).setCell (p := ⟨w.heap.size + 1 + 1, k, none⟩) (.inr rfl) (.pointer (some ⟨w1.heap.size, 0, none⟩))) (fun b (hb : w.heap.size + 3 ≤ b) => by omega))
            have l1 := nm'.lt
            clear nm nm'
            go_wp2_with fail
            go_roundw
            case rel =>
              refine ⟨k + 1, by omega, by go_num, _, ?_, ?_, B3'.set k _, OW.out.congr (fun r c _ _ => upto_succ E k r c), by simpa using HCO.out, ?_, ?_, ?_⟩
              · exact (B1.kept kp2 id).set_other (a := ⟨w.heap.size + 1 + 1, k, none⟩) (by simp; omega) _
              · exact (B2.kept kp2 id).set_other (a := ⟨w.heap.size + 1 + 1, k, none⟩) (by simp) _
              · intro r h1 h2
                rw [Array.getElem?_setIfInBounds, if_neg (by omega)]
                exact HN.out r (by omega) h2
              · exact (kp.trans kp2).setCell (p := ⟨w.heap.size + 1 + 1, k, none⟩) (.inl (by simp; omega)) _
              · simp; omega
            case measure => simp [intOf]; omega
    · obtain rfl : k = 54 := by omega
      have OW := hid own
      clear own hnil hi48 hz48
      go_wp2_with (first
        | ((with_reducible (refine at_op (.load 35 (.tmp 3)) rfl ?_)); refine wpList_load_row rfl 35 (.tmp 3) rfl (w.heap.size + 1 + 1) rfl 35 co (0, 0) _ B3 Try.underlying35 rfl (by rw [HCO.out]; exact Try.size35) ?_)
        | ((with_reducible (refine at_op (.store 35 (.tmp 2) (.tmp 34)) rfl ?_)); refine wpList_store_row rfl 35 (.tmp 2) (.tmp 34) rfl (w.heap.size + 1) co rfl rfl 35 nil54 B2 (by rw [HCO.out]; exact Try.size35) (by rw [HCO.out]; rfl) (OW.out.oneCell HCO.out) ?_))
      refine bodyPost_ret (results_cell_row rfl _ _ (w.heap.size + 1) 35 co (0, 0) _ rfl (B2.setRow co) Try.underlying35 rfl (by rw [HCO.out]; exact Try.size35)) rfl ?_
      refine ⟨co, rfl, HCO.out, ?_, ?_⟩
      · exact ((OW.out.kept (T := fun b => b = w.heap.size + 1) ((Kept.refl _ _).setRow _ co (.inr rfl)) (fun b (hb : w.heap.size + 3 ≤ b) => by omega)).mono (fun b hlt hb => ⟨by omega, hlt⟩)).congr (fun r c hr _ => by simp [upto, hr])
      · exact kp.setRow _ _ (.inl (by omega))

end Go.Proofs.Qxb6601538a
