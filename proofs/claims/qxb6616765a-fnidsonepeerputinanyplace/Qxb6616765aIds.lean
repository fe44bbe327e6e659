/-
  ringroute.ids and its shim, walked.
-/
import Derived.Test.Qxb6616765aPeers
namespace Go.Proofs.Qxb6616765a.peers
open Go.RowKit
set_option linter.unusedVariables false

theorem Try.info24 : (Try.prog.info? 24).map (fun i => (i.zero, i.size, i.bytes)) = some (some (.agg #[.int .u64 0, .int .u64 0]), 2, 16) := by kernel_rfl
theorem Try.info42 : (Try.prog.info? 42).map (fun i => (i.zero, i.size, i.bytes)) = some (some (.agg #[.int .u64 0, .int .u64 0, .string ByteArray.empty]), 3, 32) := by kernel_rfl

/-- A row of pairs of words. -/
def Pairs (w : World) (b len : Nat) (H L : Nat → Int) : Prop :=
  ∀ i, i < len → w.cell? ⟨b, i * 2, none⟩ = some (.int .u64 (H i)) ∧ w.cell? ⟨b, i * 2 + 1, none⟩ = some (.int .u64 (L i))

/-- The same of a list of cells. -/
def PairsL (xs : List Value) (k : Nat) (H L : Nat → Int) : Prop := ∀ j, j < k → xs[j * 2]? = some (.int .u64 (H j)) ∧ xs[j * 2 + 1]? = some (.int .u64 (L j))

theorem row_lt {w : World} {base e size g n cap : Nat} {xs : List Value} (h : w.ownsRow base e size (.slice (some ⟨g, 0, none⟩) n cap) n xs) : g < w.heap.size :=
  (h.lt g rfl).2
theorem row_cell {w : World} {base e size g n cap : Nat} {xs : List Value} (h : w.ownsRow base e size (.slice (some ⟨g, 0, none⟩) n cap) n xs) {j : Nat} (hj : j < n * size) : ∃ v, w.cell? ⟨g, j, none⟩ = some v := by
  have hl : j < xs.length := by rw [h.1]; exact hj
  exact ⟨xs[j], by rw [h.cellAt j hj, List.getElem?_eq_getElem hl]⟩

theorem pairs_of {w : World} {base e g n cap : Nat} {xs : List Value} {H L : Nat → Int} (h : w.ownsRow base e 2 (.slice (some ⟨g, 0, none⟩) n cap) n xs) (hp : PairsL xs n H L) : Pairs w g n H L := by
  intro i hi
  obtain ⟨h1, h2⟩ := hp i hi
  exact ⟨(h.cellAt _ (by omega)).trans h1, (h.cellAt _ (by omega)).trans h2⟩

theorem pairs_step {xs : List Value} {k n : Nat} {H L : Nat → Int} (hl : xs.length = n * 2) (hk : k < n) (hp : PairsL xs k H L) :
    PairsL ((xs.set (k * 2) (.int .u64 (H k))).set (k * 2 + 1) (.int .u64 (L k))) (k + 1) H L := by
  intro j hj
  by_cases hjk : j < k
  · obtain ⟨h1, h2⟩ := hp j hjk
    constructor
    · rw [List.getElem?_set_ne (by omega), List.getElem?_set_ne (by omega)]; exact h1
    · rw [List.getElem?_set_ne (by omega), List.getElem?_set_ne (by omega)]; exact h2
  · obtain rfl : j = k := by omega
    constructor
    · rw [List.getElem?_set_ne (by omega), List.getElem?_set_self (by omega)]
    · rw [List.getElem?_set_self (by simp; omega)]

set_option maxHeartbeats 800000 in
theorem ids_any (a : Option Addr) (len cap : Nat) (H L : Nat → Int) (A : Nat → ByteArray) (w : World) (hp : PeersAt w a len H L A) (hlen : len ≤ 1048576) :
    Calls Try.prog 27 #[.slice a len cap] w fun e w' => e = .returned (.slice (some ⟨w.heap.size, 0, none⟩) len len) ∧ Pairs w' w.heap.size len H L ∧ Below w.heap.size w w' ∧ w.heap.size < w'.heap.size := by
  have HP : Hid (PeersAt w a len H L A) := hp
  clear hp
  obtain ⟨i0, hi, hz0, hz1, hz2⟩ := info_parts Try.info24
  go_enter Try.func27, Try.ntmps27
  go_wp2_with (at_make; refine wpList_make_full _ rfl _ _ 35 rfl w.heap.size 24 i0 (.agg #[.int .u64 0, .int .u64 0]) 2 Try.underlying35 hi hz0 hz1 .i64 .i64 _ _ len rfl rfl rfl rfl (by rw [hz2]; omega) (by unfold maxLen; omega) (Nat.le_refl _) ?_; intro w1 hown1 hgrow1)
  have hbel1 : Below w.heap.size w w1 := (Below.refl _ _).grown hgrow1 (Nat.le_refl _) (fun k hk => by cases hk)
  have hlt1 : w.heap.size < w1.heap.size := row_lt hown1
  clear hgrow1
  go_loopw [11] (fun i wr => ∃ (k : Nat) (xs : List Value), k ≤ len ∧ i = .int .i64 k ∧ wr.ownsRow w.heap.size 24 2 (.slice (some ⟨w.heap.size, 0, none⟩) len len) len xs ∧ PairsL xs k H L ∧ Below w.heap.size w wr ∧ w.heap.size < wr.heap.size)
    (fun i _ => len - (intOf i).toNat)
  case atStart => exact ⟨0, _, Nat.zero_le _, rfl, hown1, fun j hj => absurd hj (by omega), hbel1, hlt1⟩
  case round =>
    clear hown1 hbel1 hlt1
    obtain ⟨k, xs, hk, rfl, hown, hpl, hbel, hBr⟩ := hrel
    by_cases hlt : k < len
    · rcases HP.out with h0 | ⟨b, off, rfl, hb, ht⟩
      · exfalso; omega
      obtain ⟨t1, t2, t3⟩ := ht k hlt
      have c1 := (hbel.cell (p := ⟨b, off + k * 3, none⟩) hb).trans t1
      have c2 := (hbel.cell (p := ⟨b, off + k * 3 + 1, none⟩) hb).trans t2
      have c3 := (hbel.cell (p := ⟨b, off + k * 3 + 2, none⟩) hb).trans t3
      obtain ⟨o0, d0⟩ := row_cell hown (j := k * 2) (by omega)
      obtain ⟨o1, d1⟩ := row_cell hown (j := k * 2 + 1) (by omega)
      have f0 := hown.frozenAt (k * 2)
      have f1 := hown.frozenAt (k * 2 + 1)
      have hbr : b < wr.heap.size := by omega
      clear t1 t2 t3 ht HP
      have HO : Hid (wr.ownsRow w.heap.size 24 2 (.slice (some ⟨w.heap.size, 0, none⟩) len len) len xs) := hown
      have HPL : Hid (PairsL xs k H L) := hpl
      clear hown hpl
      go_wp2
      go_roundw
      case rel => exact ⟨k + 1, _, by omega, by go_num, ((HO.out.stored (k * 2) _).1.stored (k * 2 + 1) _).1.alloc _, pairs_step HO.out.1 hlt HPL.out, ((hbel.setCell (Nat.le_refl _) _).setCell (Nat.le_refl _) _).alloc (by simp; omega) _, by simp; omega⟩
      case measure => simp [intOf]; omega
    · obtain rfl : k = len := by omega
      have hpr := pairs_of hown hpl
      clear hown hpl
      go_wp2
      go_ret
      exact ⟨rfl, hpr, hbel, hBr⟩

theorem zzids_any (a : Option Addr) (len cap : Nat) (H L : Nat → Int) (A : Nat → ByteArray) (w : World) (hp : PeersAt w a len H L A) (hlen : len ≤ 1048576) :
    Calls Try.prog 18 #[.slice a len cap] w fun e w' => e = .returned (.slice (some ⟨w.heap.size, 0, none⟩) len len) ∧ Pairs w' w.heap.size len H L ∧ Below w.heap.size w w' ∧ w.heap.size < w'.heap.size := by
  have HP : Hid (PeersAt w a len H L A) := hp
  clear hp
  go_enter Try.func18, Try.ntmps18
  go_wp2_with (go_at_call 27; refine (ids_any a len cap H L A w HP.out hlen).mono ?_; rintro e w' ⟨rfl, h1, h2, h3⟩)
  go_ret
  exact ⟨rfl, h1, h2, h3⟩
end Go.Proofs.Qxb6616765a.peers
