import Derived.Test.Qxb6600263aRows
import Derived.Test.Qxb6600263aBase
import Derived.WalkSpells
namespace Go.Proofs.Qxb6600263a
open Go.RowKit
set_option linter.unusedVariables false

theorem Try.info5 : (Try.prog.info? 5).map (fun i => (i.zero, i.size, i.bytes)) = some (some (.int .u8 0), 1, 1) := by kernel_rfl
theorem Try.info32 : (Try.prog.info? 32).map (fun i => (i.zero, i.size, i.bytes)) = some (some (.int .u32 0), 1, 4) := by kernel_rfl

theorem Try.q22 (w : World) (a : Option Addr) (n c : Nat) : (binOp .eql 22 (.slice a n c) (.slice none 0 0)).run Try.prog w = .ok (.bool a.isNone) w := Lib.run_eql_slice_nil w _ _ a n c 0 0 Try.underlying22
theorem Try.q23 (w : World) (a : Option Addr) (n c : Nat) : (binOp .eql 23 (.slice a n c) (.slice none 0 0)).run Try.prog w = .ok (.bool a.isNone) w := Lib.run_eql_slice_nil w _ _ a n c 0 0 Try.underlying23

theorem if_lt_succ (f : Nat → Int) (k i : Nat) : (if i = k then f k else if i < k then f i else 0) = if i < k + 1 then f i else 0 := by
  by_cases h : i = k
  · subst h; simp
  · by_cases h2 : i < k
    · simp [h, h2, show i < k + 1 by omega]
    · simp [h, h2, show ¬ i < k + 1 by omega]

set_option maxHeartbeats 400000 in
theorem clone8_any (a : Option Addr) (len cap : Nat) (z : Nat → Int) (w : World) (hl : len ≤ 1048576) (hnil : a = none → len = 0) (hz : Reads .u8 w a len z) :
    Calls Try.prog 9 #[.slice a len cap] w fun e w' => ∃ a' cap', e = .returned (.slice a' len cap') ∧ Reads .u8 w' a' len z ∧ Kept (fun _ => False) w w' := by
  have hq := Try.q23
  cases a with
  | none =>
    obtain rfl := hnil rfl
    clear hz hnil
    go_enter Try.func9, Try.ntmps9
    go_wp2
    go_ret
    exact ⟨none, 0, rfl, .inl rfl, Kept.refl _ _⟩
  | some x =>
    obtain ⟨i0, hi, hz0, hz1, hz2⟩ := info_parts Try.info5
    have HZ := hid hz
    clear hz hnil
    go_enter Try.func9, Try.ntmps9
    go_wp2_with (at_make; refine wpList_make_exact _ rfl _ _ 23 rfl 5 i0 (.int .u8 0) 1 Try.underlying23 hi hz0 hz1 .i64 .i64 _ _ len len rfl rfl rfl rfl (Nat.le_refl _) (by rw [hz2]; omega) (by unfold maxLen; omega) ?_)
    go_loopw [4] (fun i wr => ∃ k : Nat, k ≤ len ∧ i = .int .i64 k ∧ Nums .u8 5 wr w.heap.size len (fun j => if j < k then z j else 0) ∧ Kept (fun _ => False) w wr)
      (fun i _ => len - (intOf i).toNat)
    case atStart => exact ⟨0, Nat.zero_le _, rfl, by simpa using Nums.new (k := .u8) 5 w (len * 1), (Kept.refl _ _).alloc _⟩
    case round =>
      obtain ⟨k, hk, rfl, hn, hkp⟩ := hrel
      clear hi hz0 hz1 hz2
      by_cases hlt : k < len
      · obtain ⟨b, off, hx, hz⟩ := HZ.out.resolve_left (by omega)
        obtain rfl := Option.some.inj hx
        have hc1 : wr.cell? ⟨b, off + k, none⟩ = some (.int .u8 (z k)) := by
          rw [hkp.cell (p := ⟨b, off + k, none⟩) (World.block_lt_of_cell? w _ (hz k hlt)) id]; exact hz k hlt
        have hc2 := hn.cell k hlt
        have hc3 := hn.frozen k
        have hn2 := hn.set k (z k)
        have hkp2 := hkp.setCell (p := ⟨w.heap.size, k, none⟩) (.inl (Nat.le_refl _)) (.int .u8 (z k))
        clear hn hkp hz HZ hx
        go_wp2
        go_roundw
        case rel => exact ⟨k + 1, by omega, by go_num, hn2.congr (fun i _ => if_lt_succ z k i), hkp2⟩
        case measure => simp [intOf]; omega
      · have hk' : k = len := by omega
        subst hk'
        go_wp2
        go_ret
        exact ⟨_, _, rfl, (hn.congr (fun i hi => by simp [hi])).reads, hkp⟩

set_option maxHeartbeats 400000 in
theorem clone32_any (a : Option Addr) (len cap : Nat) (z : Nat → Int) (w : World) (hl : len ≤ 1048576) (hnil : a = none → len = 0) (hz : Reads .u32 w a len z) :
    Calls Try.prog 8 #[.slice a len cap] w fun e w' => ∃ a' cap', e = .returned (.slice a' len cap') ∧ Reads .u32 w' a' len z ∧ Kept (fun _ => False) w w' := by
  have hq := Try.q22
  cases a with
  | none =>
    obtain rfl := hnil rfl
    clear hz hnil
    go_enter Try.func8, Try.ntmps8
    go_wp2
    go_ret
    exact ⟨none, 0, rfl, .inl rfl, Kept.refl _ _⟩
  | some x =>
    obtain ⟨i0, hi, hz0, hz1, hz2⟩ := info_parts Try.info32
    have HZ := hid hz
    clear hz hnil
    go_enter Try.func8, Try.ntmps8
    go_wp2_with (at_make; refine wpList_make_exact _ rfl _ _ 22 rfl 32 i0 (.int .u32 0) 1 Try.underlying22 hi hz0 hz1 .i64 .i64 _ _ len len rfl rfl rfl rfl (Nat.le_refl _) (by rw [hz2]; omega) (by unfold maxLen; omega) ?_)
    go_loopw [4] (fun i wr => ∃ k : Nat, k ≤ len ∧ i = .int .i64 k ∧ Nums .u32 32 wr w.heap.size len (fun j => if j < k then z j else 0) ∧ Kept (fun _ => False) w wr)
      (fun i _ => len - (intOf i).toNat)
    case atStart => exact ⟨0, Nat.zero_le _, rfl, by simpa using Nums.new (k := .u32) 32 w (len * 1), (Kept.refl _ _).alloc _⟩
    case round =>
      obtain ⟨k, hk, rfl, hn, hkp⟩ := hrel
      clear hi hz0 hz1 hz2
      by_cases hlt : k < len
      · obtain ⟨b, off, hx, hz⟩ := HZ.out.resolve_left (by omega)
        obtain rfl := Option.some.inj hx
        have hc1 : wr.cell? ⟨b, off + k, none⟩ = some (.int .u32 (z k)) := by
          rw [hkp.cell (p := ⟨b, off + k, none⟩) (World.block_lt_of_cell? w _ (hz k hlt)) id]; exact hz k hlt
        have hc2 := hn.cell k hlt
        have hc3 := hn.frozen k
        have hn2 := hn.set k (z k)
        have hkp2 := hkp.setCell (p := ⟨w.heap.size, k, none⟩) (.inl (Nat.le_refl _)) (.int .u32 (z k))
        clear hn hkp hz HZ hx
        go_wp2
        go_roundw
        case rel => exact ⟨k + 1, by omega, by go_num, hn2.congr (fun i _ => if_lt_succ z k i), hkp2⟩
        case measure => simp [intOf]; omega
      · have hk' : k = len := by omega
        subst hk'
        go_wp2
        go_ret
        exact ⟨_, _, rfl, (hn.congr (fun i hi => by simp [hi])).reads, hkp⟩

end Go.Proofs.Qxb6600263a
