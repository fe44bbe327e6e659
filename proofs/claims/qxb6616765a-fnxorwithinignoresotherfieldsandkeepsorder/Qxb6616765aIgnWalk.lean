/-
  THE LAW FnXorWithinIgnoresOtherFieldsAndKeepsOrder, WALKED.
-/
import Derived.Test.Qxb6616765aXorWalks
import Derived.OpenShut
import Derived.ProofKit
namespace Go.Proofs.Qxb6616765a.fnXorWithinIgnoresOtherFieldsAndKeepsOrder
open Go.ChangeShapes Go.WideShapes Go.ChangeAt Go.RowKit
open Go.Proofs.Qxb6616765a.xors
set_option linter.unusedVariables false

theorem clamp_cases (x : Int) : (x < 0 ∧ clamp x = 0) ∨ (0 ≤ x ∧ x ≤ 128 ∧ clamp x = x) ∨ (128 < x ∧ clamp x = 128) := by
  unfold clamp; (repeat' split) <;> omega

/-- The bound on lengths: it says no. -/
theorem bytes_no (a0 : Int) (a1 : Int) (a2 : Int) (a3 : ByteArray) (a4 : Int) (a5 : Int) (a6 a7 : Int) (w : World) (h : 1048576 < a3.size) :
    Calls Try.prog 23 #[.int .i64 a0, .int .u64 a1, .int .u64 a2, .string a3, .int .u64 a4, .int .u64 a5, .int .i64 a6, .int .i64 a7] w fun e w' => e = .returned (.bool false) ∧ w' = w := by
  go_enter Try.func23, Try.ntmps23
  go_wp2
  go_ret
  exact ⟨rfl, rfl⟩
/-- The bound on lengths: it says yes. -/
theorem bytes_yes (a0 : Int) (a1 : Int) (a2 : Int) (a3 : ByteArray) (a4 : Int) (a5 : Int) (a6 a7 : Int) (w : World) (h : a3.size ≤ 1048576) :
    Calls Try.prog 23 #[.int .i64 a0, .int .u64 a1, .int .u64 a2, .string a3, .int .u64 a4, .int .u64 a5, .int .i64 a6, .int .i64 a7] w fun e w' => e = .returned (.bool true) ∧ w' = w := by
  go_enter Try.func23, Try.ntmps23
  go_wp2
  go_ret
  exact ⟨rfl, rfl⟩

set_option maxHeartbeats 1600000 in
theorem walk (a0 : Int) (a1 : Int) (a2 : Int) (a3 : ByteArray) (a4 : Int) (a5 : Int) (a6 : Int) (a7 : Int) (w0 : (Lit.int .i64 a0).wf = true) (w1 : (Lit.int .u64 a1).wf = true) (w2 : (Lit.int .u64 a2).wf = true) (w3 : a3.size ≤ maxLen) (w4 : (Lit.int .u64 a4).wf = true) (w5 : (Lit.int .u64 a5).wf = true) (w6 : (Lit.int .i64 a6).wf = true) (w7 : (Lit.int .i64 a7).wf = true) (w : World) :
    Calls Try.prog 7 #[.int .i64 a0, .int .u64 a1, .int .u64 a2, .string a3, .int .u64 a4, .int .u64 a5, .int .i64 a6, .int .i64 a7] w fun e w' => e = .returned (.bool true) ∧ Grown w w' := by
  by_cases hs : 1048576 < a3.size
  · go_enter Try.func7, Try.ntmps7
    go_wp2_with (go_at_call 23; refine (bytes_no _ _ _ _ _ _ _ _ _ hs).mono ?_; rintro e w' ⟨rfl, rfl⟩)
    go_ret
    exact ⟨rfl, Grown.refl _⟩
  · have hs' : a3.size ≤ 1048576 := by omega
    clear hs
    obtain ⟨n6, m6⟩ := bounds_i64 w6
    obtain ⟨n7, m7⟩ := bounds_i64 w7
    have hd := clamp_dist a6 a7
    rcases clamp_cases a6 with ⟨x1, hx⟩ | ⟨x1, x2, hx⟩ | ⟨x1, hx⟩ <;> rcases clamp_cases a7 with ⟨y1, hy⟩ | ⟨y1, y2, hy⟩ | ⟨y1, hy⟩ <;> rw [hx, hy] at hd <;> by_cases ho : a6 ≤ a7 <;> first | (exfalso; clear hx hy hd; omega) | skip
    all_goals
      go_enter Try.func7, Try.ntmps7
      go_wp2_with (first
        | (go_at_call 23; refine (bytes_yes _ _ _ _ _ _ _ _ _ hs').mono ?_; rintro e w' ⟨rfl, rfl⟩)
        | (go_at_call 20; refine (newXor_any _ _ _ _ _ _ _ _).mono ?_; rintro e w' ⟨rfl, hb1, hg1⟩)
        | (go_at_call 21; refine (zzWithin_any _ _ _ _ _ _ _ _).mono ?_; rintro e w2 ⟨rfl, hb2, hg2⟩)
        | (go_at_call 22; refine (zzDist_any _ _ (by omega) (by omega) (by omega) (by omega) _).mono ?_; rintro e w' ⟨rfl, rfl⟩))
      go_ret
      exact ⟨by simp, by repeat (first | exact Grown.refl _ | refine grown_trans ?_ (by assumption))⟩
end Go.Proofs.Qxb6616765a.fnXorWithinIgnoresOtherFieldsAndKeepsOrder
