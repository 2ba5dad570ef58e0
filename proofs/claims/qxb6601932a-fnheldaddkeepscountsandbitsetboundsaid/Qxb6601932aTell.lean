/-
  A new held; what it tells.
-/
import Derived.Test.Qxb6601932aAddP
namespace Go.Proofs.Qxb6601932a
open Go.RowKit
set_option linter.unusedVariables false
set_option linter.unusedSimpArgs false

theorem build_held (x y z : Nat) (w : World) : (Instr.build 43 #[(0, .map (some x)), (1, .map (some y)), (3, .map (some z))]).run Try.prog w = .ok (.agg #[.map (some x), .map (some y), .slice none 0 0, .map (some z)]) w := by kernel_rfl
theorem wpList_build_held {ops : Array Oper} {rest : List Oper} {o : Oper} {a : Act} {w : World} {Q : Exit → Act → World → Prop} (hg : o.guard = none) (x y z : Operand) (hop : o.op = .build 43 #[(0, x), (1, y), (3, z)]) (p q r : Nat) (hx : a.eval x = .map (some p)) (hy : a.eval y = .map (some q)) (hz : a.eval z = .map (some r))
    (h : wpList Try.prog ops Q rest (a.put o.dst (.agg #[.map (some p), .map (some q), .slice none 0 0, .map (some r)])) w) : wpList Try.prog ops Q (o :: rest) a w := by
  refine wpList_plain hg fun K hK => ?_
  unfold Oper.wp
  simp [execOp, hop, hx, hy, hz, build_held, Result.andThen]
  exact hK _ _ h

theorem held_new (T : Nat → Prop) (w : World) (hT : ∀ b, w.heap.size ≤ b → b < w.heap.size + 4 → T b) : HeldAt T ((((w.alloc (.map #[] 0)).alloc (.map #[] 0)).alloc (.map #[] 0)).alloc (.cells #[.map (some w.heap.size), .map (some (w.heap.size + 1)), .slice none 0 0, .map (some (w.heap.size + 2))] 43)) (w.heap.size + 3) St.empty ∧
    Kept (fun _ => False) w ((((w.alloc (.map #[] 0)).alloc (.map #[] 0)).alloc (.map #[] 0)).alloc (.cells #[.map (some w.heap.size), .map (some (w.heap.size + 1)), .slice none 0 0, .map (some (w.heap.size + 2))] 43)) := by
  refine ⟨⟨w.heap.size, w.heap.size + 1, w.heap.size + 2, .slice none 0 0, [], ⟨?_, hT _ (by omega) (by omega), rfl, World.ownsRow_nil _ _ _ _, (fun i hi => by simp [St.empty] at hi), (fun i j v v' g hv => by simp at hv), (fun g hg => by cases hg), (fun i v g hv => by simp at hv)⟩, ⟨?_, ?_, ?_, by omega, by omega, by omega, hT _ (by omega) (by omega), hT _ (by omega) (by omega), hT _ (by omega) (by omega)⟩⟩, (((Kept.refl _ _).alloc _).alloc _ |>.alloc _).alloc _⟩
  · have := Blk.new (((w.alloc (.map #[] 0)).alloc (.map #[] 0)).alloc (.map #[] 0)) #[.map (some w.heap.size), .map (some (w.heap.size + 1)), .slice none 0 0, .map (some (w.heap.size + 2))] 43
    simpa using this
  · rw [Below.heap_alloc _ _ _ (by simp; omega), Below.heap_alloc _ _ _ (by simp; omega), Below.heap_alloc _ _ _ (by simp)]
    show (w.heap.push _)[w.heap.size]? = _
    simp [St.empty, mapOf, entriesFrom]
  · rw [Below.heap_alloc _ _ _ (by simp), Below.heap_alloc _ _ _ (by simp)]
    show ((w.heap.push _).push _)[w.heap.size + 1]? = _
    rw [show w.heap.size + 1 = (w.heap.push (.map #[] 0)).size by simp, Array.getElem?_push_size]
    rfl
  · rw [Below.heap_alloc _ _ _ (by simp)]
    show (((w.heap.push _).push _).push _)[w.heap.size + 2]? = _
    rw [show w.heap.size + 2 = ((w.heap.push (.map #[] 0)).push (.map #[] 0)).size by simp, Array.getElem?_push_size]
    rfl

theorem new8 (T : Nat → Prop) (w : World) (hT : ∀ b, w.heap.size ≤ b → b < w.heap.size + 4 → T b) : Calls Try.prog 8 #[] w fun e w' => e = .returned (.pointer (some ⟨w.heap.size + 3, 0, none⟩)) ∧ HeldAt T w' (w.heap.size + 3) St.empty ∧ Kept (fun _ => False) w w' ∧ w'.heap.size = w.heap.size + 4 := by
  have HN := hid (held_new T w hT)
  have hmm := @run_makeMap Try.prog
  clear hT
  go_enter Try.func8, Try.ntmps8
  go_wp2_with ((with_reducible (refine at_op (.build 43 #[(0, .tmp 1), (1, .tmp 2), (3, .tmp 3)]) rfl ?_)); refine wpList_build_held rfl (.tmp 1) (.tmp 2) (.tmp 3) (by rfl) w.heap.size (w.heap.size + 1) (w.heap.size + 2) (by rfl) (by rfl) (by rfl) ?_)
  go_ret
  exact ⟨rfl, HN.out.1, HN.out.2, by simp⟩

set_option maxHeartbeats 1000000 in
theorem sizes13 (T : Nat → Prop) (hb : Nat) (S : St) (w : World) (h : HeldAt T w hb S) :
    Calls Try.prog 13 #[.pointer (some ⟨hb, 0, none⟩)] w fun e w' => e = .returned (.tuple #[.int .i64 (S.F.length : Int), .int .i64 (S.Y.length : Int), .int .i64 (S.G.length : Int), .int .i64 (S.Q.length : Int)]) ∧ ∃ n, w' = w.drewN n := by
  obtain ⟨fb, yb, qb, vG, vs, hc, ht⟩ := h
  obtain ⟨a, cap, hv⟩ := own_form hc.own
  subst hv
  have c0 := hc.c0
  have c1 := hc.c1
  have c2 := hc.c2
  have c3 := hc.c3
  have m0 : ∀ n ty, (Builtin.len_ #[39] ty #[.map (some fb)]).run Try.prog (w.drewN n) = .ok (.int .i64 (S.F.length : Int)) (w.drewN n) := fun n ty => by
    simp [Builtin.len_, run_underlying Try.underlying39, getObj, Sem.run, ht.mf, goInt, size_mapOf]
  have m1 : ∀ n ty, (Builtin.len_ #[39] ty #[.map (some yb)]).run Try.prog (w.drewN n) = .ok (.int .i64 (S.Y.length : Int)) (w.drewN n) := fun n ty => by
    simp [Builtin.len_, run_underlying Try.underlying39, getObj, Sem.run, ht.my, goInt, size_mapOf]
  have m3 : ∀ n ty, (Builtin.len_ #[40] ty #[.map (some qb)]).run Try.prog (w.drewN n) = .ok (.int .i64 (S.Q.length : Int)) (w.drewN n) := fun n ty => by
    simp [Builtin.len_, run_underlying Try.underlying40, getObj, Sem.run, ht.mq, goInt, size_pairMap]
  clear hc ht
  obtain ⟨nF, hnF⟩ : ∃ n, S.F.length = n := ⟨_, rfl⟩
  obtain ⟨nY, hnY⟩ : ∃ n, S.Y.length = n := ⟨_, rfl⟩
  obtain ⟨nG, hnG⟩ : ∃ n, S.G.length = n := ⟨_, rfl⟩
  obtain ⟨nQ, hnQ⟩ : ∃ n, S.Q.length = n := ⟨_, rfl⟩
  rw [hnF] at m0
  rw [hnY] at m1
  rw [hnQ] at m3
  rw [hnG] at c2
  rw [hnF, hnY, hnG, hnQ]
  clear hnF hnY hnG hnQ
  go_enter Try.func13, Try.ntmps13
  go_wp2_with fail
  go_quiet (fail)
  go_wp2_with fail
  refine bodyPost_ret (v := .tuple #[.int .i64 nF, .int .i64 nY, .int .i64 nG, .int .i64 nQ]) (by simp [results, Try.results13, go_sem]) rfl ?_
  exact ⟨rfl, _, rfl⟩

set_option maxHeartbeats 1000000 in
theorem fund14 (T : Nat → Prop) (hb : Nat) (S : St) (w : World) (f : Nat) (W : List Nat) (c d : Nat) (h : HeldAt T w hb S) (hf : f < S.G.length) (hG : S.G[f] = (W, c, d)) (hl : S.G.length ≤ 8192) :
    Calls Try.prog 14 #[.pointer (some ⟨hb, 0, none⟩), .int .i64 (f : Int)] w fun e w' => e = .returned (.tuple #[.int .i64 (W.length : Int), .int .i64 (c : Int), .int .i64 (d : Int)]) ∧ Kept (fun _ => False) w w' := by
  obtain ⟨fb, yb, qb, vG, vs, hc, ht⟩ := h
  obtain ⟨go, co, a, cap, hvG, hv⟩ := rec_open hc hf hG
  subst hvG
  obtain ⟨x2, _, g0, g1, g2, _, _, _⟩ := rec_cells hc hf hG hv
  obtain ⟨nW, hnW⟩ : ∃ n, W.length = n := ⟨_, rfl⟩
  obtain ⟨nG, hnG⟩ : ∃ n, S.G.length = n := ⟨_, rfl⟩
  rw [hnW] at g0
  rw [hnG] at x2
  rw [hnW]
  have hfi : (f : Int) < nG := by omega
  have hf0 : (0 : Int) ≤ f := by omega
  clear hc ht hv hG hnG hnW hf hl
  go_enter Try.func14, Try.ntmps14
  go_wp2_with fail
  obtain ⟨w1, hw1⟩ : ∃ w1, w1 = w.alloc (.cells #[.slice a nW cap, .int .i64 (c : Int), .int .i64 (d : Int)] 47) := ⟨_, rfl⟩
  rw [← hw1]
  have hbn := Blk.new w #[.slice a nW cap, .int .i64 (c : Int), .int .i64 (d : Int)] 47
  have HK := hid (show Kept (fun _ => False) w w1 by rw [hw1]; exact (Kept.refl _ _).alloc _)
  rw [← hw1] at hbn
  obtain ⟨pb, hpb⟩ : ∃ pb, pb = w.heap.size := ⟨_, rfl⟩
  rw [← hpb] at hbn
  rw [← hpb]
  have p0 : w1.cell? ⟨pb, 0, none⟩ = some (.slice a nW cap) := by rw [hbn.cell]; rfl
  have p1 : w1.cell? ⟨pb, 1, none⟩ = some (.int .i64 (c : Int)) := by rw [hbn.cell]; rfl
  have p2 : w1.cell? ⟨pb, 2, none⟩ = some (.int .i64 (d : Int)) := by rw [hbn.cell]; rfl
  clear hbn hw1 hpb x2 g0 g1 g2
  go_quiet (fail)
  go_wp2_with fail
  refine bodyPost_ret (v := .tuple #[.int .i64 nW, .int .i64 c, .int .i64 d]) (by simp [results, Try.results14, go_sem]) rfl ?_
  exact ⟨rfl, HK.out.drewN _⟩



end Go.Proofs.Qxb6601932a
