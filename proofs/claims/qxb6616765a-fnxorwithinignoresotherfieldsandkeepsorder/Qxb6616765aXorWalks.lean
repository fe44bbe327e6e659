/-
  THE WALKS OF THE SMALL FUNCTIONS OVER xorRequest: the maker, within, zzDist.
-/
import Derived.Test.Qxb6616765aRows
import Derived.WalkKit
import Derived.WalkSpells
import Derived.StillTactics
import Derived.Laws.Pointers
import Derived.RowKit3
import Derived.Laws.Bits64
namespace Go.Proofs.Qxb6616765a.xors
open Go.RowKit

def clamp (x : Int) : Int := if x < 0 then 0 else if 128 < x then 128 else x
def dist (a b : Int) : Int := if b ≤ a then a - b else b - a
/-- ZZnewXorRequest. -/
theorem newXor_any (kind fh fl : Int) (ad : ByteArray) (kh kl wi : Int) (w : World) :
    Calls Try.prog 20 #[.int .i64 kind, .int .u64 fh, .int .u64 fl, .string ad, .int .u64 kh, .int .u64 kl, .int .i64 wi] w fun e w' => e = .returned (.agg #[.int .i64 kind, .int .u64 fh, .int .u64 fl, .string ad, .int .u64 kh, .int .u64 kl, .int .i64 wi]) ∧ Below w.heap.size w w' ∧ Grown w w' := by
  go_enter Try.func20, Try.ntmps20
  go_wp2
  simp [bodyPost, results, Try.results20, go_sem]
  exact ⟨(Below.refl _ _).alloc (Nat.le_refl _) _, (Grown.refl _).alloc _ _⟩

theorem ret_int {k : IntKind} {a b : Int} (h : a = b) : Ending.returned (.int k a) = .returned (.int k b) := by rw [h]

/-- (xorRequest).within. -/
theorem within_any (kind fh fl : Int) (ad : ByteArray) (kh kl wi : Int) (w : World) :
    Calls Try.prog 28 #[.agg #[.int .i64 kind, .int .u64 fh, .int .u64 fl, .string ad, .int .u64 kh, .int .u64 kl, .int .i64 wi]] w fun e w' => e = .returned (.int .i64 (clamp wi)) ∧ Below w.heap.size w w' ∧ Grown w w' := by
  unfold clamp
  by_cases h1 : wi < 0
  · go_enter Try.func28, Try.ntmps28
    go_wp2
    go_ret
    exact ⟨ret_int (by simp), (Below.refl _ _).alloc (Nat.le_refl _) _, (Grown.refl _).alloc _ _⟩
  · by_cases h2 : 128 < wi
    · go_enter Try.func28, Try.ntmps28
      go_wp2
      go_ret
      exact ⟨ret_int (by simp), (Below.refl _ _).alloc (Nat.le_refl _) _, (Grown.refl _).alloc _ _⟩
    · go_enter Try.func28, Try.ntmps28
      go_wp2
      go_ret
      exact ⟨ret_int (by simp), (Below.refl _ _).alloc (Nat.le_refl _) _, (Grown.refl _).alloc _ _⟩

theorem bcell {W w1 : World} (hb : Below W.heap.size W w1) : (∀ b o, b < W.heap.size → w1.cell? ⟨b, o, none⟩ = W.cell? ⟨b, o, none⟩) ∧ (∀ b o, b < W.heap.size → w1.frozen? ⟨b, o, none⟩ = W.frozen? ⟨b, o, none⟩) :=
  ⟨fun b o h => hb.cell (p := ⟨b, o, none⟩) h, fun b o h => hb.frozen (p := ⟨b, o, none⟩) h⟩

theorem grown_trans {a b c : World} (h : Grown a b) (k : Grown b c) : Grown a c :=
  ⟨World.keptBut_trans h.1 k.1, fun x => (k.2.1 x).trans (h.2.1 x), Nat.le_trans h.2.2 k.2.2⟩

/-- ZZxorRequestWithin. -/
theorem zzWithin_any (kind fh fl : Int) (ad : ByteArray) (kh kl wi : Int) (w : World) :
    Calls Try.prog 21 #[.agg #[.int .i64 kind, .int .u64 fh, .int .u64 fl, .string ad, .int .u64 kh, .int .u64 kl, .int .i64 wi]] w fun e w' => e = .returned (.int .i64 (clamp wi)) ∧ Below w.heap.size w w' ∧ Grown w w' := by
  go_enter Try.func21, Try.ntmps21
  go_wp2_with (go_at_call 28; refine (within_any _ _ _ _ _ _ _ _).mono ?_; rintro e w' ⟨rfl, hb, hg⟩)
  go_ret
  exact ⟨rfl, ((Below.refl _ _).alloc (Nat.le_refl _) _).trans (hb.mono (by simp)), grown_trans ((Grown.refl _).alloc _ _) hg⟩

theorem u64_sub (a b : Int) (h : 0 ≤ a - b) (h' : a - b < 18446744073709551616) : IntKind.u64.wrap (IntKind.u64.wrap a - IntKind.u64.wrap b) = a - b := by
  rw [IntKind.wrap_u64, IntKind.wrap_u64, IntKind.wrap_u64]
  omega

/-- zzDist. -/
theorem zzDist_any (a b : Int) (h1 : -9223372036854775808 ≤ a) (h2 : a ≤ 9223372036854775807) (h3 : -9223372036854775808 ≤ b) (h4 : b ≤ 9223372036854775807) (w : World) :
    Calls Try.prog 22 #[.int .i64 a, .int .i64 b] w fun e w' => e = .returned (.int .u64 (dist a b)) ∧ w' = w := by
  unfold dist
  by_cases h : b ≤ a
  · go_enter Try.func22, Try.ntmps22
    go_wp2
    go_ret
    refine ⟨ret_int ?_, rfl⟩
    exact u64_sub _ _ (by omega) (by omega)
  · go_enter Try.func22, Try.ntmps22
    go_wp2
    go_ret
    refine ⟨ret_int ?_, rfl⟩
    exact u64_sub _ _ (by omega) (by omega)
/-! ### THE PLAIN LAWS -/
theorem clamp_bd (x : Int) : 0 ≤ clamp x ∧ clamp x ≤ 128 := by unfold clamp; (repeat' split) <;> omega
theorem clamp_clamp (x : Int) : clamp (clamp x) = clamp x := by unfold clamp; (repeat' split) <;> omega
theorem clamp_near (x k : Int) (h0 : 0 ≤ k) (h1 : k ≤ 128) : dist (clamp x) x ≤ dist k x := by unfold clamp dist; (repeat' split) <;> omega
theorem clamp_id (x : Int) (h0 : 0 ≤ x) (h1 : x ≤ 128) : clamp x = x := by unfold clamp; (repeat' split) <;> omega
theorem clamp_mono (x y : Int) (h : x ≤ y) : clamp x ≤ clamp y := by unfold clamp; (repeat' split) <;> omega
theorem clamp_dist (x y : Int) : dist (clamp x) (clamp y) ≤ dist x y := by unfold clamp dist; (repeat' split) <;> omega
end Go.Proofs.Qxb6616765a.xors
