/-
  THE LAW FnXorWithinIsNearestBucketCount, WALKED.
-/
import Derived.Test.Qxb6616765aXorWalks
import Derived.OpenShut
import Derived.ProofKit
namespace Go.Proofs.Qxb6616765a.fnXorWithinIsNearestBucketCount
open Go.ChangeShapes Go.WideShapes Go.ChangeAt Go.RowKit
open Go.Proofs.Qxb6616765a.xors
set_option linter.unusedVariables false

/-- The bound on lengths: it says no. -/
theorem bytes_no (a0 : Int) (a1 : Int) (a2 : Int) (a3 : ByteArray) (a4 : Int) (a5 : Int) (a6 : Int) (w : World) (h : 1048576 < a3.size) :
    Calls Try.prog 19 #[.int .i64 a0, .int .u64 a1, .int .u64 a2, .string a3, .int .u64 a4, .int .u64 a5, .int .i64 a6] w fun e w' => e = .returned (.bool false) ∧ w' = w := by
  go_enter Try.func19, Try.ntmps19
  go_wp2
  go_ret
  exact ⟨rfl, rfl⟩
/-- The bound on lengths: it says yes. -/
theorem bytes_yes (a0 : Int) (a1 : Int) (a2 : Int) (a3 : ByteArray) (a4 : Int) (a5 : Int) (a6 : Int) (w : World) (h : a3.size ≤ 1048576) :
    Calls Try.prog 19 #[.int .i64 a0, .int .u64 a1, .int .u64 a2, .string a3, .int .u64 a4, .int .u64 a5, .int .i64 a6] w fun e w' => e = .returned (.bool true) ∧ w' = w := by
  go_enter Try.func19, Try.ntmps19
  go_wp2
  go_ret
  exact ⟨rfl, rfl⟩

set_option maxHeartbeats 800000 in
theorem walk (a0 : Int) (a1 : Int) (a2 : Int) (a3 : ByteArray) (a4 : Int) (a5 : Int) (a6 : Int) (w0 : (Lit.int .i64 a0).wf = true) (w1 : (Lit.int .u64 a1).wf = true) (w2 : (Lit.int .u64 a2).wf = true) (w3 : a3.size ≤ maxLen) (w4 : (Lit.int .u64 a4).wf = true) (w5 : (Lit.int .u64 a5).wf = true) (w6 : (Lit.int .i64 a6).wf = true) (w : World) :
    Calls Try.prog 6 #[.int .i64 a0, .int .u64 a1, .int .u64 a2, .string a3, .int .u64 a4, .int .u64 a5, .int .i64 a6] w fun e w' => e = .returned (.bool true) ∧ Grown w w' := by
  by_cases hs : 1048576 < a3.size
  · go_enter Try.func6, Try.ntmps6
    go_wp2_with (go_at_call 19; refine (bytes_no _ _ _ _ _ _ _ _ hs).mono ?_; rintro e w' ⟨rfl, rfl⟩)
    go_ret
    exact ⟨rfl, Grown.refl _⟩
  · have hs' : a3.size ≤ 1048576 := by omega
    clear hs
    obtain ⟨n6, m6⟩ := bounds_i64 w6
    obtain ⟨q1, q2⟩ := clamp_bd a6
    have hcc := clamp_clamp a6
    go_enter Try.func6, Try.ntmps6
    go_wp2_with (first
      | (go_at_call 19; refine (bytes_yes _ _ _ _ _ _ _ _ hs').mono ?_; rintro e w' ⟨rfl, rfl⟩)
      | (go_at_call 20; refine (newXor_any _ _ _ _ _ _ _ _).mono ?_; rintro e w' ⟨rfl, hb1, hg1⟩)
      | (go_at_call 21; refine (zzWithin_any _ _ _ _ _ _ _ _).mono ?_; rintro e w2 ⟨rfl, hb2, hg2⟩)
      | (go_at_call 22; refine (zzDist_any _ _ (by omega) (by omega) (by omega) (by omega) _).mono ?_; rintro e w' ⟨rfl, rfl⟩))
    go_loop [18] (fun i => ∃ k : Nat, k ≤ 129 ∧ i = .int .i64 k) (fun i => 129 - (intOf i).toNat)
    case atStart => exact ⟨0, by omega, rfl⟩
    case round =>
      obtain ⟨k, hk, rfl⟩ := hrel
      by_cases hlt : k ≤ 128
      · have hge := clamp_near a6 k (by omega) (by omega)
        go_wp2_with (go_at_call 22; refine (zzDist_any _ _ (by omega) (by omega) (by omega) (by omega) _).mono ?_; rintro e w' ⟨rfl, rfl⟩)
        go_round
        case rel => exact ⟨k + 1, by omega, by go_num⟩
        case measure => simp [intOf]; omega
      · go_wp2_with (first
          | (go_at_call 20; refine (newXor_any _ _ _ _ _ _ _ _).mono ?_; rintro e w' ⟨rfl, hb3, hg3⟩)
          | (go_at_call 21; refine (zzWithin_any _ _ _ _ _ _ _ _).mono ?_; rintro e w2 ⟨rfl, hb4, hg4⟩))
        go_ret
        exact ⟨by simp, grown_trans (grown_trans (grown_trans (grown_trans hg1 ((Grown.refl _).alloc _ _)) hg2) (grown_trans hg3 ((Grown.refl _).alloc _ _))) hg4⟩
end Go.Proofs.Qxb6616765a.fnXorWithinIsNearestBucketCount
