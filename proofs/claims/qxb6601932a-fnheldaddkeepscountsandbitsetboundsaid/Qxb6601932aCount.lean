/-
  Plain facts for the second law.
-/
import Derived.Test.Qxb6601932aScript
namespace Go.Proofs.Qxb6601932a
open Go.RowKit
set_option linter.unusedVariables false
set_option linter.unusedSimpArgs false

/-- The funds of the calls that were not seen before. -/
def runFo (sc : Nat → ByteArray × ByteArray) : Nat → List Nat
  | 0 => []
  | i + 1 => if ((run sc i).step (sc i).1 (sc i).2).1 then runFo sc i else runFo sc i ++ [placeN (run sc i).F (sc i).1]
theorem run_cnt (sc : Nat → ByteArray × ByteArray) : ∀ i, Cnt (runFo sc i) (run sc i)
  | 0 => Cnt.empty
  | i + 1 => (run_cnt sc i).step _ _
theorem runFo_len (sc : Nat → ByteArray × ByteArray) : ∀ i, (runFo sc i).length ≤ i
  | 0 => Nat.le_refl _
  | i + 1 => by
    have := runFo_len sc i
    unfold runFo
    split
    · omega
    · simp; omega
def ints (L : List Nat) : List Value := L.map fun (n : Nat) => Value.int .i64 (n : Int)

/-- The sum of the scattered counts of the first k. -/
def sumD (G : List (List Nat × Nat × Nat)) (k : Nat) : Nat := ((G.take k).map (·.2.2)).sum
theorem sumD_zero (G : List (List Nat × Nat × Nat)) : sumD G 0 = 0 := rfl
theorem sumD_all (G : List (List Nat × Nat × Nat)) : sumD G G.length = (G.map (·.2.2)).sum := by unfold sumD; rw [List.take_length]
theorem sumD_succ (G : List (List Nat × Nat × Nat)) (k : Nat) (h : k < G.length) : sumD G (k + 1) = sumD G k + (G[k]).2.2 := by
  unfold sumD
  rw [List.take_succ_eq_append_getElem h, List.map_append, List.sum_append]
  rfl
theorem sumD_le (G : List (List Nat × Nat × Nat)) (N : Nat) (h : ∀ g ∈ G, g.2.2 ≤ N) : ∀ k, k ≤ G.length → sumD G k ≤ k * N
  | 0, _ => Nat.zero_le _
  | k + 1, hk => by
    rw [sumD_succ G k (by omega)]
    have h1 := sumD_le G N h k (by omega)
    have h2 := h G[k] (List.getElem_mem (by omega))
    rw [Nat.add_mul, Nat.one_mul]
    omega
theorem count_take (L : List Nat) (f k : Nat) (h : k < L.length) : (L.take (k + 1)).count f = (L.take k).count f + (if L[k] = f then 1 else 0) := by
  rw [List.take_succ_eq_append_getElem h, List.count_append]
  congr 1
  simp [List.count_cons, List.count_nil]

end Go.Proofs.Qxb6601932a
