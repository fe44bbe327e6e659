/-
  THE WALKS OF THE SMALL FUNCTIONS OVER ringroute.ID: NewID, cmp.Compare at uint64, ID.Cmp.
-/
import Derived.Test.Qxb6616765aRows
import Derived.WalkKit
import Derived.WalkSpells
import Derived.StillTactics
import Derived.Laws.Pointers
import Derived.RowKit3
import Derived.Deep.QuietTactic
import Derived.BigQuiet
namespace Go.Proofs.Qxb6616765a.ids
open Go.RowKit

/-- What cmp.Compare answers at two integers. -/
def cmpI (x y : Int) : Int := if x < y then -1 else if y < x then 1 else 0
/-- Two words each, the high ones first. -/
def cmp2 (ah al bh bl : Int) : Int := if cmpI ah bh = 0 then cmpI al bl else cmpI ah bh

/-- ringroute.NewID. -/
theorem newID_any (hi lo : Int) (w : World) :
    Calls Try.prog 9 #[.int .u64 hi, .int .u64 lo] w fun e w' => e = .returned (.agg #[.int .u64 hi, .int .u64 lo]) ∧ ∃ c : Array Value, w' = w.alloc (.cells c 24) := by
  go_enter Try.func9, Try.ntmps9
  go_wp2
  simp [bodyPost, results, Try.results9, go_sem]
  exact ⟨_, rfl⟩

/-- cmp.Compare[uint64]. -/
theorem compare_any (x y : Int) (w : World) :
    Calls Try.prog 25 #[.int .u64 x, .int .u64 y] w fun e w' => e = .returned (.int .i64 (cmpI x y)) ∧ w' = w := by
  unfold cmpI
  by_cases h1 : x < y
  · go_enter Try.func25, Try.ntmps25
    go_wp2
    go_ret
    exact ⟨by simp, rfl⟩
  · by_cases h2 : y < x
    · go_enter Try.func25, Try.ntmps25
      go_wp2
      go_ret
      exact ⟨by simp, rfl⟩
    · go_enter Try.func25, Try.ntmps25
      go_wp2
      go_ret
      exact ⟨by simp, rfl⟩

/-- (ringroute.ID).Cmp. -/
theorem idCmp_any (ah al bh bl : Int) (w : World) :
    Calls Try.prog 11 #[.agg #[.int .u64 ah, .int .u64 al], .agg #[.int .u64 bh, .int .u64 bl]] w fun e w' =>
      e = .returned (.int .i64 (cmp2 ah al bh bl)) ∧ Below w.heap.size w w' ∧ Grown w w' := by
  unfold cmp2
  by_cases h : cmpI ah bh = 0
  · have hd : (cmpI ah bh != 0) = false := by simp [h]
    go_enter Try.func11, Try.ntmps11
    go_wp2_with (go_at_call 25; refine (compare_any _ _ _).mono ?_; rintro e w' ⟨rfl, rfl⟩)
    go_ret
    exact ⟨by simp, ((Below.refl _ _).alloc (Nat.le_refl _) _).alloc (by simp) _, ((Grown.refl _).alloc _ _).alloc _ _⟩
  · have hd : (cmpI ah bh != 0) = true := by simp [h]
    go_enter Try.func11, Try.ntmps11
    go_wp2_with (go_at_call 25; refine (compare_any _ _ _).mono ?_; rintro e w' ⟨rfl, rfl⟩)
    go_ret
    exact ⟨by simp, ((Below.refl _ _).alloc (Nat.le_refl _) _).alloc (by simp) _, ((Grown.refl _).alloc _ _).alloc _ _⟩
end Go.Proofs.Qxb6616765a.ids
