/-
  bench.percentile, its shim, and the bounds on lengths: walked.
-/
import Derived.Test.Qxb6617156aRows
import Derived.Test.Qxb6617156aPlain
import Derived.WalkKit
import Derived.WalkSpells
import Derived.StillTactics
import Derived.Laws.Pointers
import Derived.Deep.QuietTactic
import Derived.BigQuiet
import Derived.Laws.CopyOwn
import Derived.Deep.OwnRows
namespace Go.Proofs.Qxb6617156a.pct
open Go.RowKit

/-- percentile over no values: 0. -/
theorem pct_zero (a : Option Addr) (len cap : Nat) (p : Int) (h : len < 1) (w : World) :
    Calls Try.prog 8 #[.slice a len cap, .int .i64 p] w fun e w' => e = .returned (.int .i64 0) ∧ w = w' := by
  go_enter Try.func8, Try.ntmps8
  go_wp2
  go_ret
  exact ⟨rfl, rfl⟩

/-- percentile: the value at place K. -/
theorem pct_any (b off len cap K : Nat) (p v : Int) (h1 : 1 ≤ len) (hK : (p * (len : Int) + 99) / 100 - 1 = (K : Int)) (hKl : K < len) (hm0 : 0 ≤ p * (len : Int)) (hm : p * (len : Int) ≤ 100000000) (w : World)
    (hc : w.cell? ⟨b, off + K, none⟩ = some (.int .i64 v)) :
    Calls Try.prog 8 #[.slice (some ⟨b, off, none⟩) len cap, .int .i64 p] w fun e w' => e = .returned (.int .i64 v) ∧ w = w' := by
  go_enter Try.func8, Try.ntmps8
  go_wp2
  go_ret
  exact ⟨rfl, rfl⟩

theorem zzpct_zero (a : Option Addr) (len cap : Nat) (p : Int) (h : len < 1) (w : World) :
    Calls Try.prog 6 #[.slice a len cap, .int .i64 p] w fun e w' => e = .returned (.int .i64 0) ∧ w = w' := by
  go_enter Try.func6, Try.ntmps6
  go_wp2_with (go_at_call 8; refine (pct_zero _ _ _ _ h _).mono ?_; rintro e w' ⟨rfl, rfl⟩)
  go_ret
  exact ⟨rfl, rfl⟩

theorem zzpct_any (b off len cap K : Nat) (p v : Int) (h1 : 1 ≤ len) (hK : Hid ((p * (len : Int) + 99) / 100 - 1 = (K : Int))) (hKl : K < len) (hm0 : 0 ≤ p * (len : Int)) (hm : p * (len : Int) ≤ 100000000) (w : World)
    (hc : w.cell? ⟨b, off + K, none⟩ = some (.int .i64 v)) :
    Calls Try.prog 6 #[.slice (some ⟨b, off, none⟩) len cap, .int .i64 p] w fun e w' => e = .returned (.int .i64 v) ∧ w = w' := by
  go_enter Try.func6, Try.ntmps6
  go_wp2_with (go_at_call 8; refine (pct_any b off len cap K p v h1 hK.out hKl hm0 hm _ hc).mono ?_; rintro e w' ⟨rfl, rfl⟩)
  go_ret
  exact ⟨rfl, rfl⟩

theorem bytes5_no (a : Option Addr) (len cap : Nat) (p : Int) (w : World) (h : 1048576 < len) :
    Calls Try.prog 5 #[.slice a len cap, .int .i64 p] w fun e w' => e = .returned (.bool false) ∧ w = w' := by
  go_enter Try.func5, Try.ntmps5
  go_wp2
  go_ret
  exact ⟨rfl, rfl⟩
theorem bytes5_yes (a : Option Addr) (len cap : Nat) (p : Int) (w : World) (h : len ≤ 1048576) :
    Calls Try.prog 5 #[.slice a len cap, .int .i64 p] w fun e w' => e = .returned (.bool true) ∧ w = w' := by
  go_enter Try.func5, Try.ntmps5
  go_wp2
  go_ret
  exact ⟨rfl, rfl⟩
theorem bytes7_no (a : Option Addr) (len cap : Nat) (p q : Int) (w : World) (h : 1048576 < len) :
    Calls Try.prog 7 #[.slice a len cap, .int .i64 p, .int .i64 q] w fun e w' => e = .returned (.bool false) ∧ w = w' := by
  go_enter Try.func7, Try.ntmps7
  go_wp2
  go_ret
  exact ⟨rfl, rfl⟩
theorem bytes7_yes (a : Option Addr) (len cap : Nat) (p q : Int) (w : World) (h : len ≤ 1048576) :
    Calls Try.prog 7 #[.slice a len cap, .int .i64 p, .int .i64 q] w fun e w' => e = .returned (.bool true) ∧ w = w' := by
  go_enter Try.func7, Try.ntmps7
  go_wp2
  go_ret
  exact ⟨rfl, rfl⟩

theorem Try.info2 : (Try.prog.info? 2).map (fun i => (i.zero, i.size, i.bytes)) = some (some (.int .i64 0), 1, 8) := by kernel_rfl
theorem Try.size2 : (Try.prog.info? 2).map (·.size) = some 1 := by kernel_rfl

theorem bdN {B n : Nat} {a w : World} (h : Below B a w) : Below B a (w.drewN n) := ⟨h.os, h.tape, h.output, h.size, h.block⟩

/-- What the copy of a row leaves: its cells. -/
theorem copied {w2 : World} {b n : Nat} {t : TypeId} {L : List Value} {zs : List Int} (hL : L.length = n) (hz : zs.length = n)
    (h : w2.heap[b]? = some (.cells (splice L 0 (zs.map (Value.int .i64))).toArray t (0, 0))) :
    ∀ j, j < n → w2.cell? ⟨b, j, none⟩ = some (.int .i64 (zs.getD j 0)) := by
  intro j hj
  have e : splice L 0 (zs.map (Value.int .i64)) = zs.map (Value.int .i64) := by
    simp [splice, hz]; omega
  rw [e] at h
  simp [World.cell?, h, hj, hz]
end Go.Proofs.Qxb6617156a.pct
