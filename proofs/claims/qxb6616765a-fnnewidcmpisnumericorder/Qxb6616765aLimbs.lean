/-
  zzCmpLimbs: the comparison of two 128-bit numbers by four 32-bit limbs.
-/
import Derived.Test.Qxb6616765aIdWalks
import Derived.Laws.BitsAllLaws
namespace Go.Proofs.Qxb6616765a.ids
open Go.RowKit

/-- The k-th limb, the most significant first. -/
def limb (h l : Int) (k : Nat) : Int := if k = 0 then h / 4294967296 else if k = 1 then h % 4294967296 else if k = 2 then l / 4294967296 else l % 4294967296

theorem and32 (a : Int) (h1 : 0 ≤ a) (h2 : a < 18446744073709551616) : bits .and .u64 a 4294967295 = a % 4294967296 := by
  rw [u64_and a 4294967295 h1 h2 (by decide) (by decide)]
  have e : ((4294967295 : Int)).toNat = 2 ^ 32 - 1 := by decide
  rw [e, Nat.and_two_pow_sub_one_eq_mod]
  omega

theorem limb_lt (h1 l1 h2 l2 : Int) (k : Nat) (hk : k < 4) (he : ∀ j, j < k → limb h1 l1 j = limb h2 l2 j) (hl : limb h1 l1 k < limb h2 l2 k) : cmp2 h1 l1 h2 l2 = -1 := by
  have e0 := he 0
  have e1 := he 1
  have e2 := he 2
  simp only [limb, cmp2, cmpI] at *
  obtain rfl | rfl | rfl | rfl : k = 0 ∨ k = 1 ∨ k = 2 ∨ k = 3 := by omega
  all_goals simp at e0 e1 e2 hl
  all_goals (clear he; repeat' split) <;> omega

theorem limb_gt (h1 l1 h2 l2 : Int) (k : Nat) (hk : k < 4) (he : ∀ j, j < k → limb h1 l1 j = limb h2 l2 j) (hl : limb h2 l2 k < limb h1 l1 k) : cmp2 h1 l1 h2 l2 = 1 := by
  have e0 := he 0
  have e1 := he 1
  have e2 := he 2
  simp only [limb, cmp2, cmpI] at *
  obtain rfl | rfl | rfl | rfl : k = 0 ∨ k = 1 ∨ k = 2 ∨ k = 3 := by omega
  all_goals simp at e0 e1 e2 hl
  all_goals (clear he; repeat' split) <;> omega

theorem limb_eq (h1 l1 h2 l2 : Int) (he : ∀ j, j < 4 → limb h1 l1 j = limb h2 l2 j) : cmp2 h1 l1 h2 l2 = 0 := by
  have e0 := he 0 (by omega)
  have e1 := he 1 (by omega)
  have e2 := he 2 (by omega)
  have e3 := he 3 (by omega)
  simp only [limb, cmp2, cmpI] at *
  simp at e0 e1 e2 e3
  (clear he; repeat' split) <;> omega

theorem bdN {B n : Nat} {a w : World} (h : Below B a w) : Below B a (w.drewN n) := ⟨h.os, h.tape, h.output, h.size, h.block⟩

theorem bcell {W w1 : World} (hb : Below W.heap.size W w1) : (∀ b o, b < W.heap.size → w1.cell? ⟨b, o, none⟩ = W.cell? ⟨b, o, none⟩) ∧ (∀ b o, b < W.heap.size → w1.frozen? ⟨b, o, none⟩ = W.frozen? ⟨b, o, none⟩) :=
  ⟨fun b o h => hb.cell (p := ⟨b, o, none⟩) h, fun b o h => hb.frozen (p := ⟨b, o, none⟩) h⟩

theorem ret_int {k : IntKind} {a b : Int} (h : a = b) : Ending.returned (.int k a) = .returned (.int k b) := by rw [h]

theorem cells4 (w : World) (c : Array Value) (t : TypeId) (h l : Int) (hc : c = #[.int .u64 (h / 4294967296), .int .u64 (h % 4294967296), .int .u64 (l / 4294967296), .int .u64 (l % 4294967296)]) :
    ∀ j, j < 4 → (w.alloc (.cells c t)).cell? ⟨w.heap.size, j, none⟩ = some (.int .u64 (limb h l j)) := by
  subst hc
  intro j hj
  obtain rfl | rfl | rfl | rfl : j = 0 ∨ j = 1 ∨ j = 2 ∨ j = 3 := by omega
  all_goals simp [limb, go_sem]

set_option maxHeartbeats 800000 in
theorem limbs_any (h1 l1 h2 l2 : Int) (a1 : 0 ≤ h1) (b1 : h1 < 18446744073709551616) (a2 : 0 ≤ l1) (b2 : l1 < 18446744073709551616)
    (a3 : 0 ≤ h2) (b3 : h2 < 18446744073709551616) (a4 : 0 ≤ l2) (b4 : l2 < 18446744073709551616) (w : World) :
    Calls Try.prog 10 #[.int .u64 h1, .int .u64 l1, .int .u64 h2, .int .u64 l2] w fun e w' =>
      e = .returned (.int .i64 (cmp2 h1 l1 h2 l2)) ∧ Below w.heap.size w w' ∧ Grown w w' := by
  have e1 := and32 h1 a1 b1
  have e2 := and32 l1 a2 b2
  have e3 := and32 h2 a3 b3
  have e4 := and32 l2 a4 b4
  go_enter Try.func10, Try.ntmps10
  go_wp2
  go_loopw [11] (fun i wr => ∃ k : Nat, k ≤ 4 ∧ i = .int .i64 k ∧ (∀ j, j < k → limb h1 l1 j = limb h2 l2 j) ∧
      (∀ j, j < 4 → wr.cell? ⟨w.heap.size, j, none⟩ = some (.int .u64 (limb h1 l1 j))) ∧ (∀ j, j < 4 → wr.cell? ⟨w.heap.size + 1, j, none⟩ = some (.int .u64 (limb h2 l2 j))) ∧ Below w.heap.size w wr ∧ Grown w wr)
    (fun i _ => 4 - (intOf i).toNat)
  case atStart =>
    refine ⟨0, by omega, rfl, fun j hj => absurd hj (by omega), ?_, ?_, ((Below.refl _ _).alloc (Nat.le_refl _) _).alloc (by simp) _, ((Grown.refl _).alloc _ _).alloc _ _⟩
    · intro j hj
      rw [World.cell?_alloc_past _ _ _ (by simp)]
      exact cells4 w _ 51 h1 l1 rfl j hj
    · intro j hj
      have := cells4 (w.alloc (.cells #[.int .u64 (h1 / 4294967296), .int .u64 (h1 % 4294967296), .int .u64 (l1 / 4294967296), .int .u64 (l1 % 4294967296)] 51)) _ 51 h2 l2 rfl j hj
      simpa using this
  case round =>
    obtain ⟨k, hk, rfl, heq, hX, hY, hb, hg⟩ := hrel
    clear e1 e2 e3 e4 a1 a2 a3 a4 b1 b2 b3 b4
    by_cases hlt : k < 4
    · have hx := hX k hlt
      have hy := hY k hlt
      have HX : Hid (∀ j, j < 4 → wr.cell? ⟨w.heap.size, j, none⟩ = some (.int .u64 (limb h1 l1 j))) := hX
      have HY : Hid (∀ j, j < 4 → wr.cell? ⟨w.heap.size + 1, j, none⟩ = some (.int .u64 (limb h2 l2 j))) := hY
      have HE : Hid (∀ j, j < k → limb h1 l1 j = limb h2 l2 j) := heq
      clear hX hY heq
      obtain ⟨X, hXe⟩ : ∃ X, X = limb h1 l1 k := ⟨_, rfl⟩
      obtain ⟨Y, hYe⟩ : ∃ Y, Y = limb h2 l2 k := ⟨_, rfl⟩
      rw [← hXe] at hx
      rw [← hYe] at hy
      have HXe : Hid (X = limb h1 l1 k) := hXe
      have HYe : Hid (Y = limb h2 l2 k) := hYe
      clear hXe hYe
      by_cases c1 : X < Y
      · go_wp2
        go_quiet (fail)
        go_wp2
        go_ret
        exact ⟨ret_int (limb_lt _ _ _ _ k hlt HE.out (by rw [← HXe.out, ← HYe.out]; exact c1)).symm, bdN hb, hg⟩
      · by_cases c2 : Y < X
        · go_wp2
          go_quiet (fail)
          go_wp2
          go_quiet (fail)
          go_wp2
          go_ret
          exact ⟨ret_int (limb_gt _ _ _ _ k hlt HE.out (by rw [← HXe.out, ← HYe.out]; exact c2)).symm, bdN (bdN hb), hg⟩
        · go_wp2
          go_quiet (fail)
          go_wp2
          go_quiet (fail)
          go_wp2
          go_roundw
          case rel =>
            refine ⟨k + 1, by omega, by go_num, ?_, HX.out, HY.out, bdN hb, hg⟩
            intro j hj
            by_cases hjk : j < k
            · exact HE.out j hjk
            · have : j = k := by omega
              subst this
              rw [← HXe.out, ← HYe.out]; omega
          case measure => simp [intOf]; omega
    · have : k = 4 := by omega
      subst this
      have HE : Hid (∀ j, j < 4 → limb h1 l1 j = limb h2 l2 j) := heq
      clear heq hX hY
      go_wp2
      go_ret
      exact ⟨ret_int (limb_eq _ _ _ _ HE.out).symm, hb, hg⟩
end Go.Proofs.Qxb6616765a.ids
