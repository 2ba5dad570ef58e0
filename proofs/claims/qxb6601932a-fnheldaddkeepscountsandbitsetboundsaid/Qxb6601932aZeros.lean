/-
  'append(x, make([]T, k)...)' onto a row that the call owns.
-/
import Derived.Test.Qxb6601932aClone
import Derived.Lib.AppendZerosOnto
import Derived.Deep.AppendLies
namespace Go.Proofs.Qxb6601932a
open Go.RowKit
set_option linter.unusedVariables false
set_option linter.unusedSimpArgs false

theorem zeroCells_one (z : Value) (k : Nat) : Builtin.zeroCells #[z] k = (List.replicate k z).toArray := by
  apply Array.ext_getElem?
  intro i
  by_cases h : i < k
  · simp [Builtin.zeroCells, h, Nat.mod_one]
  · simp [Builtin.zeroCells, h]

theorem run_room_zeros {P : Program} (w : World) (t tn ty e : TypeId) (i : TypeInfo) (z : Value) (kn : IntKind) (ht : P.underlying t = some (.slice e)) (htn : P.underlying tn = some (.int kn)) (hi : P.info? e = some i) (hz : i.zero = some z) (hs1 : i.size = 1) (hzc : z.cells = #[z]) (h1 : z.oneCell' = true)
    (g n cap k : Nat) (cur : Array Value) (hg : w.heap[g]? = some (.cells cur e (0, 0))) (hk : 0 < k) (hroom : n + k ≤ cap) (hcs : cap ≤ cur.size) (h48 : k * i.bytes ≤ 281474976710656) (h63 : n + k ≤ 9223372036854775807) :
    (Builtin.append_ #[t, tn] ty #[.slice (some ⟨g, 0, none⟩) n cap, .int .i64 k]).run P w = .ok (.slice (some ⟨g, 0, none⟩) (n + k) cap) (w.setRow g (cur.toList.take n ++ List.replicate k z ++ cur.toList.drop (n + k)).toArray) := by
  have hst := run_storeCells_at P g n e (List.replicate k z) 0 cur w hg (by simp; omega) (fun u hu => by rw [List.eq_of_mem_replicate hu]; exact h1)
  simp only [Nat.add_zero, List.length_replicate] at hst
  have hw : IntKind.i64.wrap (k : Int) = k := by rw [IntKind.wrap_i64]; omega
  have hneg : ¬ ((k : Int) < 0) := by omega
  have h48i : ¬ (281474976710656 < (k : Int) * (i.bytes : Int)) := by
    rw [← Int.natCast_mul]
    omega
  have hk0 : k ≠ 0 := by omega
  simp [Builtin.append_, run_underlying ht, run_underlying htn, sizeOf, typeInfo, zeroValue, hi, hz, hs1, asInt, asIntOf, hw, hneg, h48i, hk0, hroom, hzc, zeroCells_one, Addr.add_lit, hst]

/-- Both arms. -/
theorem run_append_zeros {P : Program} (w : World) (t tn ty e : TypeId) (i : TypeInfo) (z : Value) (kn : IntKind) (ht : P.underlying t = some (.slice e)) (htn : P.underlying tn = some (.int kn)) (hi : P.info? e = some i) (hz : i.zero = some z) (hs1 : i.size = 1) (hzc : z.cells = #[z]) (h1 : z.oneCell' = true)
    (v : Value) (n k : Nat) (xs : List Value) (hown : w.ownsRow 0 e 1 v n xs) (hk : 0 < k) (h63 : n + k ≤ maxLen) (hbytes : (n + k) * i.bytes ≤ 140737488355328) :
    ∃ g cap w', (Builtin.append_ #[t, tn] ty #[v, .int .i64 k]).run P w = .ok (.slice (some ⟨g, 0, none⟩) (n + k) cap) w' ∧ w'.ownsRow 0 e 1 (.slice (some ⟨g, 0, none⟩) (n + k) cap) (n + k) (xs ++ List.replicate k z) ∧ w.grownBy w' v.ownBlock ∧ (v.ownBlock = some g ∨ g = w.heap.size) ∧ g < w'.heap.size := by
  have hxl : xs.length = n := by rw [hown.1, Nat.mul_one]
  have h63' : n + k ≤ 9223372036854775807 := by simp only [maxLen] at h63; omega
  have h48 : k * i.bytes ≤ 281474976710656 := Nat.le_trans (Nat.mul_le_mul_right _ (Nat.le_add_left k n)) (Nat.le_trans hbytes (by decide))
  have hlen : (xs ++ List.replicate k z).length = n + k := by simp [hxl]
  have grown : ∀ (old : Nat), old < n + k → ∀ (row : Option Nat),
      (w.drew.alloc (.cells (xs.toArray ++ Builtin.zeroCells z.cells k ++ Builtin.zeroCells z.cells (grownCap w (n + k) old e - (n + k))) e)).ownsRow 0 e 1
        (.slice (some ⟨w.heap.size, 0, none⟩) (n + k) (grownCap w (n + k) old e)) (n + k) (xs ++ List.replicate k z) ∧
      w.grownBy (w.drew.alloc (.cells (xs.toArray ++ Builtin.zeroCells z.cells k ++ Builtin.zeroCells z.cells (grownCap w (n + k) old e - (n + k))) e)) row := by
    intro old ho row
    have hge := grownCap_ge w (n + k) old e
    have hcm : grownCap w (n + k) old e ≤ maxLen := grownCap_le_maxLen w (n + k) old e h63
    refine ⟨⟨by rw [hlen, Nat.mul_one], .inr ⟨w.heap.size, _, _, rfl, Nat.zero_le _, heap_alloc_new w.drew _, hge, hcm, ?_, ?_⟩⟩, ⟨rfl, rfl, rfl, by simp, fun j hj _ => Below.heap_alloc w.drew _ j hj⟩⟩
    · simp only [Array.size_append, List.size_toArray, hzc, zeroCells_one, hxl, List.length_replicate]
      omega
    · simp only [hzc, zeroCells_one, Array.toList_append]
      rw [Nat.mul_one, ← hlen]
      exact List.take_left
  rcases hown.2 with ⟨rfl, rfl⟩ | ⟨g, cap, cur, rfl, hbg, hg, hnc, hcm, hcs, htake⟩
  · have hx : xs = [] := List.eq_nil_of_length_eq_zero hxl
    subst hx
    have hr := Lib.run_append_grow_zeros (P := P) w t tn ty e i z .i64 kn ht htn hi hz none 0 0 [] (by simp [Builtin.firstCells, loadCells, loadCellsFrom]) k hk (by omega) (by omega) (by omega) h48 (growslice_fits (by omega) hbytes)
    have hgr := grown 0 (by omega) (Value.ownBlock (.slice none 0 0))
    exact ⟨_, _, _, hr, hgr.1, hgr.2, .inr rfl, by simp⟩
  · by_cases hroom : n + k ≤ cap
    · have hr := run_room_zeros (P := P) w t tn ty e i z kn ht htn hi hz hs1 hzc h1 g n cap k cur hg hk hroom (by omega) h48 h63'
      refine ⟨g, cap, _, hr, ⟨by rw [hlen, Nat.mul_one], .inr ⟨g, cap, _, rfl, hbg, setRow_heap w g cur _ e _ hg, hroom, hcm, ?_, ?_⟩⟩, ⟨rfl, rfl, rfl, by simp, fun k _ hk => setRow_other w g k _ (fun e => hk (by simp [Value.ownBlock, e]))⟩, .inl rfl, ?_⟩
      · simp only [List.size_toArray, List.length_append, List.length_take, List.length_drop, Array.length_toList, List.length_replicate]
        omega
      · have ht' : cur.toList.take n = xs := by rw [← htake, Nat.mul_one]
        rw [ht', Nat.mul_one, ← hlen]
        exact List.take_left
      · have := (Array.getElem?_eq_some_iff.1 hg).1
        simpa using this
    · have holds : ∀ j u, xs[j]? = some u → w.drew.cell? ((⟨g, 0, none⟩ : Addr).add j) = some u := hown.cells (g := g) rfl
      have hr := Lib.run_append_grow_zeros (P := P) w t tn ty e i z .i64 kn ht htn hi hz (some ⟨g, 0, none⟩) n cap xs (by rw [hs1]; exact run_firstCells_some w.drew 1 n _ n cap xs hown.1 holds) k hk (by omega) (by omega) (by omega) h48 (growslice_fits (by omega) hbytes)
      have hgr := grown cap (by omega) (Value.ownBlock (.slice (some ⟨g, 0, none⟩) n cap))
      exact ⟨_, _, _, hr, hgr.1, hgr.2, .inr rfl, by simp⟩

end Go.Proofs.Qxb6601932a
