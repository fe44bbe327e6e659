/-
  THE LAW FnNewIDDifferenceAddsBack, WALKED: math/bits.Sub64 by the guide's contract, laid at this dump.
-/
import Derived.Test.Qxb6616765aIdWalks
import Derived.Shelf.Spec.BitsCarry
import Derived.Laws.Bits64
import Derived.OpenShut
import Derived.ProofKit
namespace Go.Proofs.Qxb6616765a.fnNewIDDifferenceAddsBack
open Go.ChangeShapes Go.WideShapes Go.ChangeAt Go.RowKit
open Go.Proofs.Qxb6616765a.ids
set_option linter.unusedVariables false

theorem sub64_nat (x y b : Nat) (hb : b ≤ 1) (w : World) :
    (callFunc 30 #[.int .u64 x, .int .u64 y, .int .u64 b]).run Try.prog w =
      .ok (.value (.tuple #[.int .u64 (((x + 18446744073709551616 - y - b) % 18446744073709551616 : Nat) : Int), .int .u64 ((if x < y + b then 1 else 0 : Nat) : Int)])) w := by
  rw [run_callFunc_extern Try.func30 (by kernel_rfl) (by kernel_rfl) (by kernel_rfl) (e := sub64Entry) (by kernel_rfl), run_sub64 x y b hb]
  rfl

/-- The borrow. -/
def bor (x y : Int) : Int := if x < y then 1 else 0
def dLo (al bl : Int) : Int := (al - bl) % 18446744073709551616
def dHi (ah al bh bl : Int) : Int := (ah - bh - bor al bl) % 18446744073709551616
def dOut (ah al bh bl : Int) : Int := if ah < bh + bor al bl then 1 else 0
theorem bor_bd (x y : Int) : 0 ≤ bor x y ∧ bor x y ≤ 1 := by unfold bor; split <;> omega

theorem sub64 (x y b : Int) (hx : 0 ≤ x) (hy : 0 ≤ y) (hy' : y < 18446744073709551616) (hb0 : 0 ≤ b) (hb : b ≤ 1) (w : World) : (callFunc 30 #[.int .u64 x, .int .u64 y, .int .u64 b]).run Try.prog w =
    .ok (.value (.tuple #[.int .u64 ((x - y - b) % 18446744073709551616), .int .u64 (if x < y + b then 1 else 0)])) w := by
  obtain ⟨x, rfl⟩ := Int.eq_ofNat_of_zero_le hx
  obtain ⟨y, rfl⟩ := Int.eq_ofNat_of_zero_le hy
  obtain ⟨b, rfl⟩ := Int.eq_ofNat_of_zero_le hb0
  have e1 : (((x + 18446744073709551616 - y - b) % 18446744073709551616 : Nat) : Int) = ((x : Int) - y - b) % 18446744073709551616 := by omega
  have e2 : ((if x < y + b then 1 else 0 : Nat) : Int) = if (x : Int) < y + b then 1 else 0 := by split <;> split <;> omega
  rw [← e1, ← e2]
  exact sub64_nat x y b (by omega) w

theorem sub_first (al bl : Int) (h1 : 0 ≤ al) (h2 : 0 ≤ bl) (h3 : bl < 18446744073709551616) (w : World) : (callFunc 30 #[.int .u64 al, .int .u64 bl, .int .u64 0]).run Try.prog w =
    .ok (.value (.tuple #[.int .u64 (dLo al bl), .int .u64 (bor al bl)])) w := by
  simpa [dLo, bor] using sub64 al bl 0 h1 h2 h3 (Int.le_refl 0) (by decide) w
theorem sub_second (ah al bh bl : Int) (h1 : 0 ≤ ah) (h2 : 0 ≤ bh) (h3 : bh < 18446744073709551616) (w : World) : (callFunc 30 #[.int .u64 ah, .int .u64 bh, .int .u64 (bor al bl)]).run Try.prog w =
    .ok (.value (.tuple #[.int .u64 (dHi ah al bh bl), .int .u64 (dOut ah al bh bl)])) w := by
  obtain ⟨b0, b1⟩ := bor_bd al bl
  exact sub64 ah bh (bor al bl) h1 h2 h3 b0 b1 w

theorem bcell {W w1 : World} (hb : Below W.heap.size W w1) : (∀ b o, b < W.heap.size → w1.cell? ⟨b, o, none⟩ = W.cell? ⟨b, o, none⟩) ∧ (∀ b o, b < W.heap.size → w1.frozen? ⟨b, o, none⟩ = W.frozen? ⟨b, o, none⟩) :=
  ⟨fun b o h => hb.cell (p := ⟨b, o, none⟩) h, fun b o h => hb.frozen (p := ⟨b, o, none⟩) h⟩
theorem grown_trans {a b c : World} (h : Grown a b) (k : Grown b c) : Grown a c :=
  ⟨World.keptBut_trans h.1 k.1, fun x => (k.2.1 x).trans (h.2.1 x), Nat.le_trans h.2.2 k.2.2⟩

/-- (ringroute.ID).sub. -/
theorem sub_any (ah al bh bl : Int) (a1 : 0 ≤ ah) (b1 : 0 ≤ al) (c1 : 0 ≤ bh) (c2 : bh < 18446744073709551616) (d1 : 0 ≤ bl) (d2 : bl < 18446744073709551616) (w : World) :
    Calls Try.prog 26 #[.agg #[.int .u64 ah, .int .u64 al], .agg #[.int .u64 bh, .int .u64 bl]] w fun e w' =>
      e = .returned (.agg #[.int .u64 (dHi ah al bh bl), .int .u64 (dLo al bl)]) ∧ Below w.heap.size w w' ∧ Grown w w' := by
  go_enter Try.func26, Try.ntmps26
  go_wp2_with (first | simp only [sub_first al bl b1 d1 d2] | simp only [sub_second ah al bh bl a1 c1 c2])
  simp [bodyPost, results, Try.results26, go_sem]
  exact ⟨(((Below.refl _ _).alloc (Nat.le_refl _) _).alloc (by simp) _).alloc (by simp; omega) _, (((Grown.refl _).alloc _ _).alloc _ _).alloc _ _⟩

/-- ZZidSub. -/
theorem zzSub_any (ah al bh bl : Int) (a1 : 0 ≤ ah) (b1 : 0 ≤ al) (c1 : 0 ≤ bh) (c2 : bh < 18446744073709551616) (d1 : 0 ≤ bl) (d2 : bl < 18446744073709551616) (w : World) :
    Calls Try.prog 12 #[.agg #[.int .u64 ah, .int .u64 al], .agg #[.int .u64 bh, .int .u64 bl]] w fun e w' =>
      e = .returned (.agg #[.int .u64 (dHi ah al bh bl), .int .u64 (dLo al bl)]) ∧ Grown w w' := by
  go_enter Try.func12, Try.ntmps12
  go_wp2_with (go_at_call 26; refine (sub_any _ _ _ _ a1 b1 c1 c2 d1 d2 _).mono ?_; rintro e w' ⟨rfl, hb, hg⟩; obtain ⟨hc, hf⟩ := bcell hb; have hz : w.heap.size + 1 + 1 < w'.heap.size := (by have := hb.size; simp at this; omega))
  have g0 : w'.cell? ⟨w.heap.size + 1 + 1, 0, none⟩ = some (.int .u64 0) := by rw [hc _ _ (by simp)]; simp [go_sem]
  have g1 : w'.cell? ⟨w.heap.size + 1 + 1, 1, none⟩ = some (.int .u64 0) := by rw [hc _ _ (by simp)]; simp [go_sem]
  simp [bodyPost, results, Try.results12, go_sem, g0, g1]
  exact Grown.setCell (Grown.setCell (grown_trans (((Grown.refl _).alloc _ _).alloc _ _ |>.alloc _ _) hg) (by simp; omega) _) (by simp; omega) _

/-- ZZidHi. -/
theorem hi_any (ah al : Int) (w : World) :
    Calls Try.prog 13 #[.agg #[.int .u64 ah, .int .u64 al]] w fun e w' => e = .returned (.int .u64 ah) ∧ Below w.heap.size w w' ∧ Grown w w' := by
  go_enter Try.func13, Try.ntmps13
  go_wp2
  go_ret
  exact ⟨rfl, (Below.refl _ _).alloc (Nat.le_refl _) _, (Grown.refl _).alloc _ _⟩
/-- ZZidLo. -/
theorem lo_any (ah al : Int) (w : World) :
    Calls Try.prog 14 #[.agg #[.int .u64 ah, .int .u64 al]] w fun e w' => e = .returned (.int .u64 al) ∧ Below w.heap.size w w' ∧ Grown w w' := by
  go_enter Try.func14, Try.ntmps14
  go_wp2
  go_ret
  exact ⟨rfl, (Below.refl _ _).alloc (Nat.le_refl _) _, (Grown.refl _).alloc _ _⟩

/-! ### THE PLAIN LAWS -/
theorem back_lo (l1 l2 : Int) (h1 : 0 ≤ l1) (h2 : l1 ≤ 18446744073709551615) (h3 : 0 ≤ l2) (h4 : l2 ≤ 18446744073709551615) : IntKind.u64.wrap (dLo l1 l2 + l2) = l1 := by
  rw [IntKind.wrap_u64]; unfold dLo; omega
theorem back_hi1 (h1 l1 h2 l2 : Int) (a1 : 0 ≤ h1) (a2 : h1 ≤ 18446744073709551615) (a3 : 0 ≤ h2) (a4 : h2 ≤ 18446744073709551615) (b1 : 0 ≤ l1) (b2 : l1 ≤ 18446744073709551615) (b3 : 0 ≤ l2) (b4 : l2 ≤ 18446744073709551615) (hc : l1 < dLo l1 l2) :
    IntKind.u64.wrap (IntKind.u64.wrap (dHi h1 l1 h2 l2 + h2) + 1) = h1 := by
  rw [IntKind.wrap_u64, IntKind.wrap_u64]; unfold dHi bor; unfold dLo at hc; split <;> omega
theorem back_hi0 (h1 l1 h2 l2 : Int) (a1 : 0 ≤ h1) (a2 : h1 ≤ 18446744073709551615) (a3 : 0 ≤ h2) (a4 : h2 ≤ 18446744073709551615) (b1 : 0 ≤ l1) (b2 : l1 ≤ 18446744073709551615) (b3 : 0 ≤ l2) (b4 : l2 ≤ 18446744073709551615) (hc : ¬ l1 < dLo l1 l2) :
    IntKind.u64.wrap (dHi h1 l1 h2 l2 + h2) = h1 := by
  rw [IntKind.wrap_u64]; unfold dHi bor; unfold dLo at hc; split <;> omega

theorem walk (a0 : Int) (a1 : Int) (a2 : Int) (a3 : Int) (w0 : (Lit.int .u64 a0).wf = true) (w1 : (Lit.int .u64 a1).wf = true) (w2 : (Lit.int .u64 a2).wf = true) (w3 : (Lit.int .u64 a3).wf = true) (w : World) :
    Calls Try.prog 4 #[.int .u64 a0, .int .u64 a1, .int .u64 a2, .int .u64 a3] w fun e w' => e = .returned (.bool true) ∧ Grown w w' := by
  obtain ⟨n0, m0⟩ := bounds_u64 w0
  obtain ⟨n1, m1⟩ := bounds_u64 w1
  obtain ⟨n2, m2⟩ := bounds_u64 w2
  obtain ⟨n3, m3⟩ := bounds_u64 w3
  have e1 := back_lo a1 a3 n1 m1 n3 m3
  have k2 : a2 < 18446744073709551616 := by omega
  have k3 : a3 < 18446744073709551616 := by omega
  by_cases hc : a1 < dLo a1 a3
  · have e2 := back_hi1 a0 a1 a2 a3 n0 m0 n2 m2 n1 m1 n3 m3 hc
    go_enter Try.func4, Try.ntmps4
    go_wp2_with (first
      | (go_at_call 9; refine (newID_any _ _ _).mono ?_; rintro e w' ⟨rfl, c, rfl⟩)
      | (go_at_call 12; refine (zzSub_any _ _ _ _ n0 n1 n2 k2 n3 k3 _).mono ?_; rintro e w' ⟨rfl, hg⟩)
      | (go_at_call 13; refine (hi_any _ _ _).mono ?_; rintro e w' ⟨rfl, hb3, hg3⟩; obtain ⟨hc3, hf3⟩ := bcell hb3)
      | (go_at_call 14; refine (lo_any _ _ _).mono ?_; rintro e w' ⟨rfl, hb4, hg4⟩))
    go_ret
    exact ⟨by simp, by repeat (first | exact Grown.refl _ | apply Grown.alloc | refine grown_trans ?_ (by assumption))⟩
  · have e2 := back_hi0 a0 a1 a2 a3 n0 m0 n2 m2 n1 m1 n3 m3 hc
    go_enter Try.func4, Try.ntmps4
    go_wp2_with (first
      | (go_at_call 9; refine (newID_any _ _ _).mono ?_; rintro e w' ⟨rfl, c, rfl⟩)
      | (go_at_call 12; refine (zzSub_any _ _ _ _ n0 n1 n2 k2 n3 k3 _).mono ?_; rintro e w' ⟨rfl, hg⟩)
      | (go_at_call 13; refine (hi_any _ _ _).mono ?_; rintro e w' ⟨rfl, hb3, hg3⟩; obtain ⟨hc3, hf3⟩ := bcell hb3)
      | (go_at_call 14; refine (lo_any _ _ _).mono ?_; rintro e w' ⟨rfl, hb4, hg4⟩))
    go_ret
    exact ⟨by simp, by repeat (first | exact Grown.refl _ | apply Grown.alloc | refine grown_trans ?_ (by assumption))⟩
end Go.Proofs.Qxb6616765a.fnNewIDDifferenceAddsBack
