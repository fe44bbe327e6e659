/-
  THE LAW FnPercentileUnchangedByRepeatingEachValue, WALKED.
-/
import Derived.Test.Qxb6617156aReps
import Derived.OpenShut
import Derived.ProofKit
import Derived.Below
namespace Go.Proofs.Qxb6617156a.fnPercentileUnchangedByRepeatingEachValue
open Go.ChangeShapes Go.WideShapes Go.ChangeAt Go.RowKit
open Go.Proofs.Qxb6617156a.pct Go.Proofs.Qxb6617156a.plain
set_option linter.unusedVariables false

/-- WHAT THE WALK IS TOLD OF A SLICE OF INTEGERS THAT CAME IN. -/
def IsRow (k : IntKind) (w : World) (a : Option Addr) (len cap : Nat) (zs : List Int) : Prop :=
  (a = none ∧ len = 0 ∧ cap = 0 ∧ zs = []) ∨
  ∃ x, a = some x ∧ len ≤ cap ∧ cap ≤ maxLen ∧ zs.length = cap ∧ (∀ i, i < zs.length → w.cell? (x.add i) = some (.int k (zs.getD i 0))) ∧ ∀ n ∈ zs, (Lit.int k n).wf = true

/-- Too long: the law passes by. -/
theorem walk_long (a : Option Addr) (len cap : Nat) (p q : Int) (w : World) (h : 131072 < len) :
    Calls Try.prog 4 #[.slice a len cap, .int .i64 p, .int .i64 q] w fun e w' => e = .returned (.bool true) ∧ Below w.heap.size w w' := by
  by_cases h2 : 1048576 < len
  · go_enter Try.func4, Try.ntmps4
    go_wp2_with (go_at_call 7; refine (bytes7_no _ _ _ _ _ _ h2).mono ?_; rintro e w' ⟨rfl, rfl⟩)
    go_ret
    exact ⟨rfl, Below.refl _ _⟩
  · have h3 : len ≤ 1048576 := by omega
    clear h2
    go_enter Try.func4, Try.ntmps4
    go_wp2_with (go_at_call 7; refine (bytes7_yes _ _ _ _ _ _ h3).mono ?_; rintro e w' ⟨rfl, rfl⟩)
    go_ret
    exact ⟨rfl, Below.refl _ _⟩

/-- k out of range: the law passes by. -/
theorem walk_k (a : Option Addr) (len cap : Nat) (p q : Int) (w : World) (h : len ≤ 131072) (hq : q < 1 ∨ 65536 < q) :
    Calls Try.prog 4 #[.slice a len cap, .int .i64 p, .int .i64 q] w fun e w' => e = .returned (.bool true) ∧ Below w.heap.size w w' := by
  have h3 : len ≤ 1048576 := by omega
  rcases hq with hq | hq
  · go_enter Try.func4, Try.ntmps4
    go_wp2_with (go_at_call 7; refine (bytes7_yes _ _ _ _ _ _ h3).mono ?_; rintro e w' ⟨rfl, rfl⟩)
    go_ret
    exact ⟨rfl, Below.refl _ _⟩
  · have hq' : ¬ q < 1 := by omega
    go_enter Try.func4, Try.ntmps4
    go_wp2_with (go_at_call 7; refine (bytes7_yes _ _ _ _ _ _ h3).mono ?_; rintro e w' ⟨rfl, rfl⟩)
    go_ret
    exact ⟨rfl, Below.refl _ _⟩

/-- nil. -/
theorem walk_nil (p q : Int) (w : World) (h1 : ¬ q < 1) (h2 : ¬ 65536 < q) :
    Calls Try.prog 4 #[.slice none 0 0, .int .i64 p, .int .i64 q] w fun e w' => e = .returned (.bool true) ∧ Below w.heap.size w w' := by
  have hneq : ∀ w, (binOp .neq 22 (.slice none 0 0) (.slice none 0 0)).run Try.prog w = .ok (.bool false) w := fun w => run_neq_slice_nil_any (P := Try.prog) w 22 2 none 0 0 0 0 Try.underlying22
  go_enter Try.func4, Try.ntmps4
  go_wp2_with (first
    | (go_at_call 7; refine (bytes7_yes _ _ _ _ _ _ (by omega)).mono ?_; rintro e w' ⟨rfl, rfl⟩)
    | (go_at_call 6; refine (zzpct_zero _ _ _ _ (by omega) _).mono ?_; rintro e w' ⟨rfl, rfl⟩))
  go_ret
  exact ⟨rfl, Below.refl _ _⟩

set_option maxHeartbeats 1600000 in
/-- Not nil, not too long; the list is empty, or p or k lets the law pass by. -/
theorem walk_out (x : Addr) (len cap : Nat) (zs : List Int) (p q : Int) (w : World) (hlen : len ≤ 131072) (hz : zs.length = len) (hq1 : ¬ q < 1) (hq2 : ¬ 65536 < q)
    (hcell : ∀ i, i < len → w.cell? (x.add i) = some (.int .i64 (zs.getD i 0))) (hout : len < 1 ∨ (¬ len < 1 ∧ p < 1) ∨ (¬ len < 1 ∧ ¬ p < 1 ∧ 100 < p) ∨ (¬ len < 1 ∧ ¬ p < 1 ∧ ¬ 100 < p ∧ 131072 / (len : Int) < q)) :
    Calls Try.prog 4 #[.slice (some x) len cap, .int .i64 p, .int .i64 q] w fun e w' => e = .returned (.bool true) ∧ Below w.heap.size w w' := by
  have hneq : ∀ w, (binOp .neq 22 (.slice (some x) len cap) (.slice none 0 0)).run Try.prog w = .ok (.bool true) w := fun w => run_neq_slice_nil_any (P := Try.prog) w 22 2 (some x) len cap 0 0 Try.underlying22
  have hmk := run_make_row' (P := Try.prog) 22 2 (.int .i64 0) 8 Try.underlying22 Try.info2 rfl .i64 .i64 len (by omega) (by omega)
  have hsrc : Hid (∀ i, i < len → w.cell? (x.add i) = some (.int .i64 (zs.getD i 0))) := hcell
  have HZ : Hid (zs.length = len) := hz
  clear hcell hz
  have h5 : len ≤ 1048576 := by omega
  rcases hout with h0 | ⟨h0, hp⟩ | ⟨h0, hp0, hp⟩ | ⟨h0, hp0, hp1, hk⟩
  all_goals
    go_enter Try.func4, Try.ntmps4
    go_wp2_with (first
      | (go_at_call 7; refine (bytes7_yes _ _ _ _ _ _ h5).mono ?_; rintro e w' ⟨rfl, rfl⟩)
      | (refine wpList_copy_splice rfl (.tmp 36) (.tmp 37) 22 22 rfl 2 Try.underlying22 Try.size2 (some ⟨w.heap.size, 0, none⟩) (some x) len len len cap rfl rfl w.heap.size 0 (madeCells #[.int .i64 0] len).toList 2 (by simpa using heap_alloc_new w _) (zs.map (Value.int .i64)) (by simp [HZ.out]) ?_ ?_ (ints_oneCell _ _) w.heap.size w ((Below.refl _ _).alloc (Nat.le_refl _) _) (Nat.le_refl _) ?_))
    · exact src_cells x len zs w hsrc HZ
    · simp [HZ.out, size_madeCells]
    intro w2 HG2 hB2
    clear hsrc HG2
    go_wp2_with (go_at_call 6; refine (zzpct_zero _ _ _ _ (by omega) _).mono ?_; rintro e w' ⟨rfl, rfl⟩)
    go_ret
    exact ⟨rfl, hB2⟩
end Go.Proofs.Qxb6617156a.fnPercentileUnchangedByRepeatingEachValue
