/-
  A SLICE OF PEERS IN MEMORY; the two bounds on lengths, walked.
-/
import Derived.Test.Qxb6616765aRows
import Derived.WalkKit
import Derived.WalkSpells
import Derived.StillTactics
import Derived.Laws.Pointers
import Derived.RowKit3
import Derived.Deep.QuietTactic
import Derived.BigQuiet
namespace Go.Proofs.Qxb6616765a.peers
open Go.RowKit
set_option linter.unusedVariables false

/-- A row of triples: two words and a string each. -/
def Triples (w : World) (b off len : Nat) (H L : Nat → Int) (A : Nat → ByteArray) : Prop :=
  ∀ i, i < len → w.cell? ⟨b, off + i * 3, none⟩ = some (.int .u64 (H i)) ∧ w.cell? ⟨b, off + i * 3 + 1, none⟩ = some (.int .u64 (L i)) ∧ w.cell? ⟨b, off + i * 3 + 2, none⟩ = some (.string (A i))

/-- What is known of a slice of such triples. -/
def PeersAt (w : World) (a : Option Addr) (len : Nat) (H L : Nat → Int) (A : Nat → ByteArray) : Prop :=
  len = 0 ∨ ∃ b off, a = some ⟨b, off, none⟩ ∧ b < w.heap.size ∧ Triples w b off len H L A

def sumA (A : Nat → ByteArray) : Nat → Nat
  | 0 => 0
  | k + 1 => sumA A k + (A k).size
theorem sumA_mono (A : Nat → ByteArray) {j k : Nat} (h : j ≤ k) : sumA A j ≤ sumA A k := by
  induction k with
  | zero => obtain rfl : j = 0 := by omega
            exact Nat.le_refl _
  | succ k ih =>
    by_cases hj : j ≤ k
    · have := ih hj; simp only [sumA]; omega
    · obtain rfl : j = k + 1 := by omega
      exact Nat.le_refl _

/-- The bound says yes. -/
theorem bytes15_yes (a : Option Addr) (len cap : Nat) (c : Int) (H L : Nat → Int) (A : Nat → ByteArray) (w : World) (hp : PeersAt w a len H L A) (h : len + sumA A len ≤ 1048576) :
    Calls Try.prog 15 #[.slice a len cap, .int .i64 c] w fun e w' => e = .returned (.bool true) ∧ w = w' := by
  have HP : Hid (PeersAt w a len H L A) := hp
  clear hp
  go_enter Try.func15, Try.ntmps15
  go_wp2
  go_loop [5, 6] (fun t i => ∃ k : Nat, k ≤ len ∧ i = .int .i64 k ∧ t = .int .i64 ((len + sumA A k : Nat) : Int)) (fun _ i => len - (intOf i).toNat)
  case atStart => exact ⟨0, Nat.zero_le _, rfl, rfl⟩
  case round =>
    obtain ⟨k, hk, rfl, rfl⟩ := hrel
    by_cases hlt : k < len
    · have hs : sumA A (k + 1) ≤ sumA A len := sumA_mono A hlt
      simp only [sumA] at hs
      rcases HP.out with h0 | ⟨b, off, rfl, hb, ht⟩
      · exfalso; omega
      have hc := (ht k hlt).2.2
      clear ht HP
      go_wp2
      go_round
      case rel => exact ⟨k + 1, by omega, by go_num, by rw [sumA]; go_num⟩
      case measure => simp [intOf]; omega
    · obtain rfl : k = len := by omega
      go_wp2
      go_ret
      exact ⟨rfl, rfl⟩

/-- The bound says no. -/
theorem bytes15_no (a : Option Addr) (len cap : Nat) (c : Int) (H L : Nat → Int) (A : Nat → ByteArray) (w : World) (hp : PeersAt w a len H L A) (hA : ∀ i, i < len → (A i).size ≤ maxLen) (h : 1048576 < len + sumA A len) :
    Calls Try.prog 15 #[.slice a len cap, .int .i64 c] w fun e w' => e = .returned (.bool false) ∧ w = w' := by
  have HP : Hid (PeersAt w a len H L A) := hp
  have HA : Hid (∀ i, i < len → (A i).size ≤ maxLen) := hA
  clear hp hA
  by_cases hl : 1048576 < len
  · go_enter Try.func15, Try.ntmps15
    go_wp2
    go_ret
    exact ⟨rfl, rfl⟩
  go_enter Try.func15, Try.ntmps15
  go_wp2
  go_loop [5, 6] (fun t i => ∃ k : Nat, k ≤ len ∧ i = .int .i64 k ∧ len + sumA A k ≤ 1048576 ∧ t = .int .i64 ((len + sumA A k : Nat) : Int)) (fun _ i => len - (intOf i).toNat)
  case atStart => exact ⟨0, Nat.zero_le _, rfl, by simp only [sumA]; omega, rfl⟩
  case round =>
    obtain ⟨k, hk, rfl, hsum, rfl⟩ := hrel
    by_cases hlt : k < len
    · rcases HP.out with h0 | ⟨b, off, rfl, hb, ht⟩
      · exfalso; omega
      have hc := (ht k hlt).2.2
      have hm := HA.out k hlt
      unfold maxLen at hm
      clear ht HP HA
      by_cases h1 : 1048576 < (A k).size
      · go_wp2
        go_ret
        exact ⟨rfl, rfl⟩
      · by_cases h2 : 1048576 < len + sumA A k + (A k).size
        · go_wp2
          go_ret
          exact ⟨rfl, rfl⟩
        · go_wp2
          go_round
          case rel => exact ⟨k + 1, by omega, by go_num, by simp only [sumA]; omega, by rw [sumA]; go_num⟩
          case measure => simp [intOf]; omega
    · exfalso
      obtain rfl : k = len := by omega
      omega

/-- Not too big. -/
theorem tooBig_no (a : Option Addr) (len cap : Nat) (x : Nat) (H L : Nat → Int) (A : Nat → ByteArray) (w : World) (hp : PeersAt w a len H L A) (h : x + 32 * len + sumA A len ≤ 1048576) :
    Calls Try.prog 16 #[.slice a len cap, .int .i64 x] w fun e w' => e = .returned (.bool false) ∧ w = w' := by
  have HP : Hid (PeersAt w a len H L A) := hp
  clear hp
  have h1 : ¬ 1048576 < x := by omega
  have h2 : ¬ 65536 < len := by omega
  go_enter Try.func16, Try.ntmps16
  go_wp2
  go_loop [5, 6] (fun t i => ∃ k : Nat, k ≤ len ∧ i = .int .i64 k ∧ t = .int .i64 ((x + 32 * k + sumA A k : Nat) : Int)) (fun _ i => len - (intOf i).toNat)
  case atStart => exact ⟨0, Nat.zero_le _, rfl, by simp [sumA]⟩
  case round =>
    obtain ⟨k, hk, rfl, rfl⟩ := hrel
    by_cases hlt : k < len
    · have hs : sumA A (k + 1) ≤ sumA A len := sumA_mono A hlt
      simp only [sumA] at hs
      rcases HP.out with h0 | ⟨b, off, rfl, hb, ht⟩
      · exfalso; omega
      have hc := (ht k hlt).2.2
      clear ht HP
      go_wp2
      go_round
      case rel => exact ⟨k + 1, by omega, by go_num, by rw [sumA]; go_num⟩
      case measure => simp [intOf]; omega
    · obtain rfl : k = len := by omega
      go_wp2
      go_ret
      exact ⟨rfl, rfl⟩

/-- Too big. -/
theorem tooBig_yes (a : Option Addr) (len cap : Nat) (x : Nat) (H L : Nat → Int) (A : Nat → ByteArray) (w : World) (hp : PeersAt w a len H L A) (hx : x ≤ 1048576) (hA : len + sumA A len ≤ 1048576) (h : 1048576 < x + 32 * len + sumA A len) :
    Calls Try.prog 16 #[.slice a len cap, .int .i64 x] w fun e w' => e = .returned (.bool true) ∧ w = w' := by
  have HP : Hid (PeersAt w a len H L A) := hp
  clear hp
  have h1 : ¬ 1048576 < x := by omega
  by_cases h2 : 65536 < len
  · go_enter Try.func16, Try.ntmps16
    go_wp2
    go_ret
    exact ⟨rfl, rfl⟩
  go_enter Try.func16, Try.ntmps16
  go_wp2
  go_loop [5, 6] (fun t i => ∃ k : Nat, k ≤ len ∧ i = .int .i64 k ∧ x + 32 * k + sumA A k ≤ 1048576 ∧ t = .int .i64 ((x + 32 * k + sumA A k : Nat) : Int)) (fun _ i => len - (intOf i).toNat)
  case atStart => exact ⟨0, Nat.zero_le _, rfl, by simp only [sumA]; omega, by simp [sumA]⟩
  case round =>
    obtain ⟨k, hk, rfl, hsum, rfl⟩ := hrel
    by_cases hlt : k < len
    · have hs : sumA A (k + 1) ≤ sumA A len := sumA_mono A hlt
      simp only [sumA] at hs
      rcases HP.out with h0 | ⟨b, off, rfl, hb, ht⟩
      · exfalso; omega
      have hc := (ht k hlt).2.2
      clear ht HP
      by_cases h3 : 1048576 < x + 32 * k + sumA A k + (32 + (A k).size)
      · go_wp2
        go_ret
        exact ⟨rfl, rfl⟩
      · go_wp2
        go_round
        case rel => exact ⟨k + 1, by omega, by go_num, by simp only [sumA]; omega, by rw [sumA]; go_num⟩
        case measure => simp [intOf]; omega
    · exfalso
      obtain rfl : k = len := by omega
      omega
end Go.Proofs.Qxb6616765a.peers
