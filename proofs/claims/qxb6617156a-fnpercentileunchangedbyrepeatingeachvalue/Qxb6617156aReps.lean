/-
  THE REPEATED LIST IN MEMORY: lemmas outside the walk.
-/
import Derived.Test.Qxb6617156aPct
import Derived.Test.Qxb6617156aPlain2
import Derived.Deep.RegionHeld
namespace Go.Proofs.Qxb6617156a.pct
open Go.RowKit Go.Proofs.Qxb6617156a.plain

/-- The first m values of the repeated list, as they lie in memory. -/
def reps (Z : Nat → Int) (Q m : Nat) : List Value := (List.range m).map fun t => Value.int .i64 (Z (t / Q))
theorem reps_zero (Z : Nat → Int) (Q : Nat) : reps Z Q 0 = [] := rfl
theorem reps_succ (Z : Nat → Int) (Q m : Nat) : reps Z Q (m + 1) = reps Z Q m ++ [Value.int .i64 (Z (m / Q))] := by
  simp [reps, List.range_succ]
theorem reps_at (Z : Nat → Int) (Q m t : Nat) (h : t < m) : (reps Z Q m)[t]? = some (Value.int .i64 (Z (t / Q))) := by
  simp [reps, h]

/-- The source of the copy, in the world behind the make. -/
theorem src_cells (x : Addr) (len : Nat) (zs : List Int) (w : World) (hsrc : Hid (∀ i, i < len → w.cell? (x.add i) = some (.int .i64 (zs.getD i 0)))) (HZ : Hid (zs.length = len)) {o : Obj} :
    0 < zs.length → ∀ (j : Nat) (a : Int), zs[j]? = some a → (w.alloc o).cell? (x.add j) = some (Value.int IntKind.i64 a) := by
  intro _ j a hj
  have hjl : j < zs.length := by
    rcases Nat.lt_or_ge j zs.length with h | h
    · exact h
    · rw [List.getElem?_eq_none h] at hj; cases hj
  have h := hsrc.out j (by rw [← HZ.out]; exact hjl)
  rw [List.getD_eq_getElem?_getD, hj] at h
  rw [World.cell?_alloc_some _ _ _ (by rw [h]; rfl)]
  exact h

/-- One element more. -/
theorem rep_step {w1 : World} {B g m N i j Q : Nat} {Z : Nat → Int} {X : Int} (hm : m = i * Q + j) (hj : j < Q) (hX : X = Z i)
    (h : w1.ownsRow B 2 1 (.slice (some ⟨g, 0, none⟩) (m + 1) N) (m + 1) (reps Z Q m ++ [Value.int .i64 X])) :
    w1.ownsRow B 2 1 (.slice (some ⟨g, 0, none⟩) (m + 1) N) (m + 1) (reps Z Q (m + 1)) := by
  rw [reps_succ, hm, div_mid i j Q hj, ← hX, ← hm]
  exact h

theorem lt_of_heap {w : World} {b : Nat} {o : Obj} (h : w.heap[b]? = some o) : b < w.heap.size := by
  rcases Nat.lt_or_ge b w.heap.size with h' | h'
  · exact h'
  · rw [Array.getElem?_eq_none h'] at h; cases h
end Go.Proofs.Qxb6617156a.pct
