import Derived.Test.Qxb6600263aNode
import Derived.Test.Qxb6600263aClone
namespace Go.Proofs.Qxb6600263a
open Go.RowKit
set_option linter.unusedVariables false

set_option maxHeartbeats 1000000 in
theorem build_any (af ah av : Option Addr) (lf cf lh ch lv cv n : Nat) (F H V : Nat → Int) (w : World) (hn : n ≤ 65536) (hlf : n ≤ lf) (hlh : n ≤ lh) (hlv : n ≤ lv)
    (hF : Reads .u32 w af n F) (hH : Reads .u8 w ah n H) (hV : Reads .u8 w av n V) :
    Calls Try.prog 11 #[.slice af lf cf, .slice ah lh ch, .slice av lv cv, .int .i64 n] w fun e w' => e = .returned (.pointer (some ⟨w.heap.size, 0, none⟩)) ∧
      TraceAt w' w.heap.size (.pointer none) (.slice (some ⟨w.heap.size + 1, 0, none⟩) n n) ∧ Nodes w' (w.heap.size + 1) n F H V (fun _ => 0) ∧ w'.heap.size = w.heap.size + 2 ∧ Kept (fun _ => False) w w' := by
  obtain ⟨i0, hi, hz0, hz1, hz2⟩ := info_parts Try.info47
  go_enter Try.func11, Try.ntmps11
  go_wp2_with (at_make; (refine wpList_make_exact _ rfl _ _ 37 rfl 47 i0 (.agg nodeZ) 40 Try.underlying37 hi hz0 hz1 .i64 .i64 _ _ n n rfl rfl rfl rfl (Nat.le_refl _) (by rw [hz2]; omega) (by unfold maxLen; omega) ?_))
  go_loopw [10] (fun i wr => ∃ k : Nat, k ≤ n ∧ i = .int .i64 k ∧ TraceAt wr w.heap.size (.pointer none) (.slice (some ⟨w.heap.size + 1, 0, none⟩) n n) ∧
      Nodes wr (w.heap.size + 1) n (fun j => if j < k then F j else 0) (fun j => if j < k then H j else 0) (fun j => if j < k then V j else 0) (fun _ => 0) ∧ wr.heap.size = w.heap.size + 2 ∧ Kept (fun _ => False) w wr)
    (fun i _ => n - (intOf i).toNat)
  case atStart =>
    refine ⟨0, Nat.zero_le _, rfl, ?_, ?_, by simp, ((Kept.refl _ _).alloc _).alloc _⟩
    · exact ⟨_, (Blk.new w _ 39).alloc _, rfl, rfl, rfl⟩
    · have := Nodes.new (w.alloc (Obj.cells #[.int .u16 0, .int .u8 0, .int .u8 0, .int .i64 0, .int .u32 0, .bool false, .bool false, .bool false, .pointer none, .slice (some ⟨w.heap.size + 1, 0, none⟩) n n] 39)) n
      rw [World.size_alloc] at this
      simpa using this
  case round =>
    obtain ⟨k, hk, rfl, ht, hnd, hs, hkp⟩ := hrel
    clear hi hz0 hz1 hz2
    by_cases hlt : k < n
    · rcases hF with hF | ⟨bf, off, rfl, hF⟩
      · omega
      rcases hH with hH | ⟨bh, oh, rfl, hH⟩
      · omega
      rcases hV with hV | ⟨bv, ov, rfl, hV⟩
      · omega
      have bF := World.block_lt_of_cell? w _ (hF k hlt)
      have bH := World.block_lt_of_cell? w _ (hH k hlt)
      have bV := World.block_lt_of_cell? w _ (hV k hlt)
      have cF : wr.cell? ⟨bf, off + k, none⟩ = some (.int .u32 (F k)) := by rw [hkp.cell (p := ⟨bf, off + k, none⟩) bF id]; exact hF k hlt
      have cH : wr.cell? ⟨bh, oh + k, none⟩ = some (.int .u8 (H k)) := by rw [hkp.cell (p := ⟨bh, oh + k, none⟩) bH id]; exact hH k hlt
      have cV : wr.cell? ⟨bv, ov + k, none⟩ = some (.int .u8 (V k)) := by rw [hkp.cell (p := ⟨bv, ov + k, none⟩) bV id]; exact hV k hlt
      simp only at bF bH bV
      have c9 := ht.c9
      obtain ⟨n0, n1, n14, n39⟩ := hnd.cells k hlt
      have f0 := hnd.frozen (k * 40)
      have f1 := hnd.frozen (k * 40 + 1)
      have f14 := hnd.frozen (k * 40 + 14)
      have HN : Hid (Nodes wr (w.heap.size + 1) n (fun j => if j < k then F j else 0) (fun j => if j < k then H j else 0) (fun j => if j < k then V j else 0) (fun _ => 0)) := hnd
      have HT : Hid (TraceAt wr w.heap.size (.pointer none) (.slice (some ⟨w.heap.size + 1, 0, none⟩) n n)) := ht
      clear hnd ht hF hH hV
      go_wp2
      go_region
      all_goals go_wp2
      go_region
      all_goals go_wp2
      go_region
      all_goals go_wp2
      go_roundw
      case rel =>
        refine ⟨k + 1, by omega, by go_num, ?_, ?_, by simpa using hs, ?_⟩
        · exact ((HT.out.set_other (a := ⟨w.heap.size + 1, k * 40, none⟩) (by simp) _).set_other (a := ⟨w.heap.size + 1, k * 40 + 1, none⟩) (by simp) _).set_other (a := ⟨w.heap.size + 1, k * 40 + 14, none⟩) (by simp) _
        · have R := ((HN.out.setF k hlt (F k)).setH k hlt (H k)).setV k hlt (V k)
          exact R.congr (fun i _ => ⟨if_lt_succ F k i, if_lt_succ H k i, if_lt_succ V k i, rfl⟩)
        · exact (((((hkp.setCell (p := ⟨w.heap.size + 1, k * 40, none⟩) (.inl (by simp)) _).setCell (p := ⟨w.heap.size + 1, k * 40 + 1, none⟩) (.inl (by simp)) _).setCell (p := ⟨w.heap.size + 1, k * 40 + 14, none⟩) (.inl (by simp)) _).drew).drew).drew
      case measure => simp [intOf]; omega
    · have hk' : k = n := by omega
      subst hk'
      go_wp2
      go_ret
      exact ⟨rfl, ht, hnd.congr (fun i hi => by simp [hi]), hs, hkp⟩
end Go.Proofs.Qxb6600263a
