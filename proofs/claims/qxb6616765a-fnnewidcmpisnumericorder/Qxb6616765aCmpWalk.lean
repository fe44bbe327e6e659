/-
  THE LAW FnNewIDCmpIsNumericOrder, WALKED.
-/
import Derived.Test.Qxb6616765aLimbs
import Derived.OpenShut
import Derived.ProofKit
namespace Go.Proofs.Qxb6616765a.fnNewIDCmpIsNumericOrder
open Go.ChangeShapes Go.WideShapes Go.ChangeAt Go.RowKit
open Go.Proofs.Qxb6616765a.ids
set_option linter.unusedVariables false

/-! ### THE PLAIN LAW -/
theorem cmp2_neg (ah al bh bl : Int) : cmp2 bh bl ah al = -cmp2 ah al bh bl := by
  unfold cmp2 cmpI
  (repeat' split) <;> omega

theorem cmp2_bd (ah al bh bl : Int) : -1 ≤ cmp2 ah al bh bl ∧ cmp2 ah al bh bl ≤ 1 := by
  unfold cmp2 cmpI
  (repeat' split) <;> omega
theorem grown_trans {a b c : World} (h : Grown a b) (k : Grown b c) : Grown a c :=
  ⟨World.keptBut_trans h.1 k.1, fun x => (k.2.1 x).trans (h.2.1 x), Nat.le_trans h.2.2 k.2.2⟩

/-! ### STEP 1: THE WALK: the Go text returns true. 'Grown w w'': the world has at most new blocks (Derived/RowKit3.lean). Part the cases AHEAD of 'go_enter' where a test parts the walk; take each callee by a contract of your own. -/
theorem walk (a0 : Int) (a1 : Int) (a2 : Int) (a3 : Int) (w0 : (Lit.int .u64 a0).wf = true) (w1 : (Lit.int .u64 a1).wf = true) (w2 : (Lit.int .u64 a2).wf = true) (w3 : (Lit.int .u64 a3).wf = true) (w : World) :
    Calls Try.prog 3 #[.int .u64 a0, .int .u64 a1, .int .u64 a2, .int .u64 a3] w fun e w' => e = .returned (.bool true) ∧ Grown w w' := by
  have e1 : cmp2 a2 a3 a0 a1 = -cmp2 a0 a1 a2 a3 := cmp2_neg a0 a1 a2 a3
  obtain ⟨q1, q2⟩ := cmp2_bd a0 a1 a2 a3
  obtain ⟨n0, m0⟩ := bounds_u64 w0
  obtain ⟨n1, m1⟩ := bounds_u64 w1
  obtain ⟨n2, m2⟩ := bounds_u64 w2
  obtain ⟨n3, m3⟩ := bounds_u64 w3
  go_enter Try.func3, Try.ntmps3
  go_wp2_with (first
    | (go_at_call 9; refine (newID_any _ _ _).mono ?_; rintro e w' ⟨rfl, c, rfl⟩)
    | (go_at_call 10; refine (limbs_any _ _ _ _ (by omega) (by omega) (by omega) (by omega) (by omega) (by omega) (by omega) (by omega) _).mono ?_; rintro e w' ⟨rfl, hb, hg⟩; obtain ⟨hc, hf⟩ := bcell hb; have hz : w.heap.size + 1 + 1 + 1 < w'.heap.size := (by have := hb.size; simp at this; omega); have hz1 : w.heap.size + 1 < w'.heap.size := by have := hb.size; simp at this; omega)
    | (go_at_call 11; refine (idCmp_any _ _ _ _ _).mono ?_; rintro e w2 ⟨rfl, hb2, hg2⟩; obtain ⟨hc2, hf2⟩ := bcell hb2))
  go_ret
  exact ⟨by simp, grown_trans (grown_trans (grown_trans (by repeat (first | exact Grown.refl _ | apply Grown.drew | apply Grown.alloc)) hg) ‹_›) hg2⟩

end Go.Proofs.Qxb6616765a.fnNewIDCmpIsNumericOrder
