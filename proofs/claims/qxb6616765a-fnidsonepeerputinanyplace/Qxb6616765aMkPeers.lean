/-
  zzPeers, walked: a slice of peers made of a slice of plain triples.
-/
import Derived.Test.Qxb6616765aIds
import Derived.Test.Qxb6616765aIdWalks
import Derived.Deep.RegionHeld3
namespace Go.Proofs.Qxb6616765a.peers
open Go.RowKit Go.Proofs.Qxb6616765a.ids
set_option linter.unusedVariables false

/-- The triples, of a list of cells. -/
def TriplesL (xs : List Value) (k : Nat) (H L : Nat → Int) (A : Nat → ByteArray) : Prop :=
  ∀ j, j < k → xs[j * 3]? = some (.int .u64 (H j)) ∧ xs[j * 3 + 1]? = some (.int .u64 (L j)) ∧ xs[j * 3 + 2]? = some (.string (A j))

theorem triples_of {w : World} {base e g n cap : Nat} {xs : List Value} {H L : Nat → Int} {A : Nat → ByteArray} (h : w.ownsRow base e 3 (.slice (some ⟨g, 0, none⟩) n cap) n xs) (hp : TriplesL xs n H L A) : Triples w g 0 n H L A := by
  intro i hi
  obtain ⟨h1, h2, h3⟩ := hp i hi
  simp only [Nat.zero_add]
  exact ⟨(h.cellAt _ (by omega)).trans h1, (h.cellAt _ (by omega)).trans h2, (h.cellAt _ (by omega)).trans h3⟩

theorem triples_step {xs : List Value} {k n : Nat} {H L : Nat → Int} {A : Nat → ByteArray} (hl : xs.length = n * 3) (hk : k < n) (hp : TriplesL xs k H L A) :
    TriplesL (((xs.set (k * 3) (.int .u64 (H k))).set (k * 3 + 1) (.int .u64 (L k))).set (k * 3 + 2) (.string (A k))) (k + 1) H L A := by
  intro j hj
  by_cases hjk : j < k
  · obtain ⟨h1, h2, h3⟩ := hp j hjk
    refine ⟨?_, ?_, ?_⟩
    · rw [List.getElem?_set_ne (by omega), List.getElem?_set_ne (by omega), List.getElem?_set_ne (by omega)]; exact h1
    · rw [List.getElem?_set_ne (by omega), List.getElem?_set_ne (by omega), List.getElem?_set_ne (by omega)]; exact h2
    · rw [List.getElem?_set_ne (by omega), List.getElem?_set_ne (by omega), List.getElem?_set_ne (by omega)]; exact h3
  · obtain rfl : j = k := by omega
    refine ⟨?_, ?_, ?_⟩
    · rw [List.getElem?_set_ne (by omega), List.getElem?_set_ne (by omega), List.getElem?_set_self (by omega)]
    · rw [List.getElem?_set_ne (by omega), List.getElem?_set_self (by simp; omega)]
    · rw [List.getElem?_set_self (by simp; omega)]

theorem cell_set_other (w : World) (B j b o : Nat) (v : Value) (h : ¬ b = B) : (w.setCell ⟨B, j, none⟩ v).cell? ⟨b, o, none⟩ = w.cell? ⟨b, o, none⟩ :=
  World.cell?_of_block (Below.heap_setCell w ⟨B, j, none⟩ v b h)

set_option maxHeartbeats 1600000 in
theorem mk_any (a : Option Addr) (len cap : Nat) (H L : Nat → Int) (A : Nat → ByteArray) (w : World) (hp : PeersAt w a len H L A) (hlen : len ≤ 1048576) :
    Calls Try.prog 17 #[.slice a len cap] w fun e w' => e = .returned (.slice (some ⟨w.heap.size, 0, none⟩) len len) ∧ Triples w' w.heap.size 0 len H L A ∧ Below w.heap.size w w' ∧ w.heap.size < w'.heap.size := by
  have HP : Hid (PeersAt w a len H L A) := hp
  clear hp
  obtain ⟨i0, hi, hz0, hz1, hz2⟩ := info_parts Try.info42
  go_enter Try.func17, Try.ntmps17
  go_wp2_with (at_make; refine wpList_make_full _ rfl _ _ 33 rfl w.heap.size 42 i0 (.agg #[.int .u64 0, .int .u64 0, .string ByteArray.empty]) 3 Try.underlying33 hi hz0 hz1 .i64 .i64 _ _ len rfl rfl rfl rfl (by rw [hz2]; omega) (by unfold maxLen; omega) (Nat.le_refl _) ?_; intro w1 hown1 hgrow1)
  have hbel1 : Below w.heap.size w w1 := (Below.refl _ _).grown hgrow1 (Nat.le_refl _) (fun k hk => by cases hk)
  have hlt1 : w.heap.size < w1.heap.size := row_lt hown1
  clear hgrow1
  go_loopw [4] (fun i wr => ∃ (k : Nat) (xs : List Value), k ≤ len ∧ i = .int .i64 k ∧ wr.ownsRow w.heap.size 42 3 (.slice (some ⟨w.heap.size, 0, none⟩) len len) len xs ∧ TriplesL xs k H L A ∧ Below w.heap.size w wr ∧ w.heap.size < wr.heap.size)
    (fun i _ => len - (intOf i).toNat)
  case atStart => exact ⟨0, _, Nat.zero_le _, rfl, hown1, fun j hj => absurd hj (by omega), hbel1, hlt1⟩
  case round =>
    clear hown1 hbel1 hlt1
    obtain ⟨k, xs, hk, rfl, hown, hpl, hbel, hBr⟩ := hrel
    by_cases hlt : k < len
    · rcases HP.out with h0 | ⟨b, off, rfl, hb, ht⟩
      · exfalso; omega
      obtain ⟨t1, t2, t3⟩ := ht k hlt
      have c1 := (hbel.cell (p := ⟨b, off + k * 3, none⟩) hb).trans t1
      have c2 := (hbel.cell (p := ⟨b, off + k * 3 + 1, none⟩) hb).trans t2
      have c3 := (hbel.cell (p := ⟨b, off + k * 3 + 2, none⟩) hb).trans t3
      obtain ⟨o0, d0⟩ := row_cell hown (j := k * 3) (by omega)
      obtain ⟨o1, d1⟩ := row_cell hown (j := k * 3 + 1) (by omega)
      obtain ⟨o2, d2⟩ := row_cell hown (j := k * 3 + 2) (by omega)
      have f0 := hown.frozenAt (k * 3)
      have f1 := hown.frozenAt (k * 3 + 1)
      have f2 := hown.frozenAt (k * 3 + 2)
      have hbr : b < wr.heap.size := by omega
      have hbne : ¬ b = w.heap.size := by omega
      have hki : (k : Int) < (len : Int) := by omega
      clear t1 t2 t3 ht HP
      have HO : Hid (wr.ownsRow w.heap.size 42 3 (.slice (some ⟨w.heap.size, 0, none⟩) len len) len xs) := hown
      have HPL : Hid (TriplesL xs k H L A) := hpl
      clear hown hpl
      go_wp2
      go_region_held3 (fun w' => w'.cell? ⟨b, off + k * 3, none⟩ = some (.int .u64 (H k)) ∧ w'.cell? ⟨b, off + k * 3 + 1, none⟩ = some (.int .u64 (L k)) ∧ w'.cell? ⟨b, off + k * 3 + 2, none⟩ = some (.string (A k))) (simp [go_sem, World.cell?_alloc_past, cell_set_other, hbne, hbr, c1, c2, c3])
        (first | (go_at_call 9; refine (newID_any _ _ _).mono ?_; rintro e w' ⟨rfl, c, rfl⟩))
      go_wp2
      go_roundw
      case rel => exact ⟨k + 1, _, by omega, by go_num, ((((HO.out.stored (k * 3) _).1.stored (k * 3 + 1) _).1.stored (k * 3 + 2) _).1.alloc _).drew, triples_step HO.out.1 hlt HPL.out, ((((hbel.setCell (Nat.le_refl _) _).setCell (Nat.le_refl _) _).setCell (Nat.le_refl _) _).alloc (by simp; omega) _).drew, by simp; omega⟩
      case measure => simp [intOf]; omega
    · obtain rfl : k = len := by omega
      have hpr := triples_of hown hpl
      clear hown hpl
      go_wp2
      go_ret
      exact ⟨rfl, hpr, hbel, hBr⟩
end Go.Proofs.Qxb6616765a.peers
