/-
  THE LAW FnIdsSplitsAtAnyCut, WALKED.
-/
import Derived.Test.Qxb6616765aMkPeers
namespace Go.Proofs.Qxb6616765a.fnIdsSplitsAtAnyCut
open Go.RowKit Go.Proofs.Qxb6616765a.ids Go.Proofs.Qxb6616765a.peers
set_option linter.unusedVariables false

/-- The ways on which the law passes by. -/
theorem walk_out (a : Option Addr) (len cap : Nat) (c : Int) (H L : Nat → Int) (A : Nat → ByteArray) (w : World) (hp : PeersAt w a len H L A) (hA : ∀ i, i < len → (A i).size ≤ maxLen)
    (ho : 1048576 < len + sumA A len ∨ (len + sumA A len ≤ 1048576 ∧ 1048576 < 0 + 32 * len + sumA A len) ∨ (0 + 32 * len + sumA A len ≤ 1048576 ∧ c < 0) ∨ (0 + 32 * len + sumA A len ≤ 1048576 ∧ ¬ c < 0 ∧ (len : Int) < c)) :
    Calls Try.prog 5 #[.slice a len cap, .int .i64 c] w fun e w' => e = .returned (.bool true) ∧ Below w.heap.size w w' := by
  have HP : Hid (PeersAt w a len H L A) := hp
  clear hp
  rcases ho with h | ⟨h1, h2⟩ | ⟨h1, h2⟩ | ⟨h1, h2, h3⟩
  · have HA : Hid (∀ i, i < len → (A i).size ≤ maxLen) := hA
    clear hA
    go_enter Try.func5, Try.ntmps5
    go_wp2_with (go_at_call 15; refine (bytes15_no _ _ _ _ H L A _ HP.out HA.out h).mono ?_; rintro e w' ⟨rfl, rfl⟩)
    go_ret
    exact ⟨rfl, Below.refl _ _⟩
  · clear hA
    go_enter Try.func5, Try.ntmps5
    go_wp2_with (first
      | (go_at_call 15; refine (bytes15_yes _ _ _ _ H L A _ HP.out h1).mono ?_; rintro e w' ⟨rfl, rfl⟩)
      | (go_at_call 16; refine (tooBig_yes _ _ _ 0 H L A _ HP.out (by omega) h1 h2).mono ?_; rintro e w' ⟨rfl, rfl⟩))
    go_ret
    exact ⟨rfl, Below.refl _ _⟩
  · clear hA
    have h4 : len + sumA A len ≤ 1048576 := by omega
    go_enter Try.func5, Try.ntmps5
    go_wp2_with (first
      | (go_at_call 15; refine (bytes15_yes _ _ _ _ H L A _ HP.out h4).mono ?_; rintro e w' ⟨rfl, rfl⟩)
      | (go_at_call 16; refine (tooBig_no _ _ _ 0 H L A _ HP.out h1).mono ?_; rintro e w' ⟨rfl, rfl⟩))
    go_ret
    exact ⟨rfl, Below.refl _ _⟩
  · clear hA
    have h4 : len + sumA A len ≤ 1048576 := by omega
    go_enter Try.func5, Try.ntmps5
    go_wp2_with (first
      | (go_at_call 15; refine (bytes15_yes _ _ _ _ H L A _ HP.out h4).mono ?_; rintro e w' ⟨rfl, rfl⟩)
      | (go_at_call 16; refine (tooBig_no _ _ _ 0 H L A _ HP.out h1).mono ?_; rintro e w' ⟨rfl, rfl⟩))
    go_ret
    exact ⟨rfl, Below.refl _ _⟩

theorem pairs_below {w w' : World} {B b n : Nat} {H L : Nat → Int} (h : Below B w w') (hb : b < B) (hp : Pairs w b n H L) : Pairs w' b n H L := by
  intro i hi
  obtain ⟨h1, h2⟩ := hp i hi
  exact ⟨(h.cell (p := ⟨b, i * 2, none⟩) hb).trans h1, (h.cell (p := ⟨b, i * 2 + 1, none⟩) hb).trans h2⟩
theorem peers_below {w w' : World} {a : Option Addr} {n : Nat} {H L : Nat → Int} {A : Nat → ByteArray} (h : Below w.heap.size w w') (hp : PeersAt w a n H L A) : PeersAt w' a n H L A := by
  rcases hp with h0 | ⟨b, off, rfl, hb, ht⟩
  · exact .inl h0
  · refine .inr ⟨b, off, rfl, Nat.lt_of_lt_of_le hb h.size, fun i hi => ?_⟩
    obtain ⟨h1, h2, h3⟩ := ht i hi
    exact ⟨(h.cell (p := ⟨b, off + i * 3, none⟩) hb).trans h1, (h.cell (p := ⟨b, off + i * 3 + 1, none⟩) hb).trans h2, (h.cell (p := ⟨b, off + i * 3 + 2, none⟩) hb).trans h3⟩
/-- ZZidHi. -/
theorem hi_alloc (ah al : Int) (w : World) :
    Calls Try.prog 13 #[.agg #[.int .u64 ah, .int .u64 al]] w fun e w' => e = .returned (.int .u64 ah) ∧ ∃ c : Array Value, w' = w.alloc (.cells c 24) := by
  go_enter Try.func13, Try.ntmps13
  go_wp2
  go_ret
  exact ⟨rfl, _, rfl⟩
/-- ZZidLo. -/
theorem lo_alloc (ah al : Int) (w : World) :
    Calls Try.prog 14 #[.agg #[.int .u64 ah, .int .u64 al]] w fun e w' => e = .returned (.int .u64 al) ∧ ∃ c : Array Value, w' = w.alloc (.cells c 24) := by
  go_enter Try.func14, Try.ntmps14
  go_wp2
  go_ret
  exact ⟨rfl, _, rfl⟩

theorem bdN {B n : Nat} {a w : World} (h : Below B a w) : Below B a (w.drewN n) := ⟨h.os, h.tape, h.output, h.size, h.block⟩

set_option maxHeartbeats 1600000 in
theorem walk_main (a : Option Addr) (len cap c : Nat) (H L : Nat → Int) (A : Nat → ByteArray) (w : World) (hp : PeersAt w a len H L A) (h1 : 0 + 32 * len + sumA A len ≤ 1048576) (hc : c ≤ len) :
    Calls Try.prog 5 #[.slice a len cap, .int .i64 c] w fun e w' => e = .returned (.bool true) ∧ Below w.heap.size w w' := by
  have HP : Hid (PeersAt w a len H L A) := hp
  clear hp
  have h4 : len + sumA A len ≤ 1048576 := by omega
  go_enter Try.func5, Try.ntmps5
  go_wp2_with (first
    | (go_at_call 15; refine (bytes15_yes _ _ _ _ H L A _ HP.out h4).mono ?_; rintro e w' ⟨rfl, rfl⟩)
    | (go_at_call 16; refine (tooBig_no _ _ _ 0 H L A _ HP.out h1).mono ?_; rintro e w' ⟨rfl, rfl⟩)
    | (go_at_call 17; refine (mk_any a len cap H L A w HP.out (by omega)).mono ?_; rintro e w1 ⟨rfl, ht1, hb1, hl1⟩))
  have HT1 : Hid (Triples w1 w.heap.size 0 len H L A) := ht1
  clear ht1
  refine (zzids_any (some ⟨w.heap.size, 0, none⟩) len len H L A w1 (Or.inr ⟨_, _, rfl, hl1, HT1.out⟩) (by omega)).mono ?_
  rintro e w2 ⟨rfl, hp2, hb2, hl2⟩
  have HP2 : Hid (Pairs w2 w1.heap.size len H L) := hp2
  clear hp2
  go_wp2_with fail
  refine (zzids_any (some ⟨w.heap.size, 0, none⟩) c len H L A w2 (Or.inr ⟨_, _, rfl, by omega, fun i hi => ?_⟩) (by omega)).mono ?_
  · have e := HT1.out i (by omega)
    rw [hb2.cell (p := ⟨w.heap.size, 0 + i * 3, none⟩) hl1, hb2.cell (p := ⟨w.heap.size, 0 + i * 3 + 1, none⟩) hl1, hb2.cell (p := ⟨w.heap.size, 0 + i * 3 + 2, none⟩) hl1]
    exact e
  rintro e w3 ⟨rfl, hp3, hb3, hl3⟩
  have HP3 : Hid (Pairs w3 w2.heap.size c H L) := hp3
  clear hp3
  go_wp2_with fail
  · -- the cut is at the end
    have hlc : len = c := by omega
    rw [hlc] at HP2 HP
    refine (zzids_any (some ⟨w.heap.size, 0, none⟩) 0 0 H L A w3 (Or.inl rfl) (by omega)).mono ?_
    rintro e w4 ⟨rfl, hp4, hb4, hl4⟩
    have HW : Hid (Pairs w4 w1.heap.size c H L) := pairs_below hb4 (by omega) (pairs_below hb3 hl2 HP2.out)
    have HL : Hid (Pairs w4 w2.heap.size c H L) := pairs_below hb4 hl3 HP3.out
    have hbA : Below w.heap.size w w4 := ((hb1.trans (hb2.mono (by omega))).trans (hb3.mono (by omega))).trans (hb4.mono (by omega))
    have HPA : Hid (PeersAt w4 a c H L A) := peers_below hbA HP.out
    have hsz : w.heap.size ≤ w4.heap.size := by omega
    obtain ⟨g1, hg1⟩ : ∃ g, g = w1.heap.size := ⟨_, rfl⟩
    obtain ⟨g2, hg2⟩ : ∃ g, g = w2.heap.size := ⟨_, rfl⟩
    obtain ⟨g3, hg3⟩ : ∃ g, g = w3.heap.size := ⟨_, rfl⟩
    have k1 : g1 < w4.heap.size := by omega
    have k2 : g2 < w4.heap.size := by omega
    have k3 : g3 < w4.heap.size := by omega
    rw [← hg1] at HW ⊢
    rw [← hg2] at HL ⊢
    rw [← hg3]
    clear hp4 hb4 hl4 HP2 HP3 HT1 HP hb1 hb2 hb3 hl1 hl2 hl3 hg1 hg2 hg3
    go_wp2
    go_loopw [10] (fun i wr => ∃ k : Nat, k ≤ c ∧ i = .int .i64 k ∧ Below w4.heap.size w4 wr) (fun i _ => c - (intOf i).toNat)
    case atStart => exact ⟨0, Nat.zero_le _, rfl, Below.refl _ _⟩
    case round =>
      obtain ⟨k, hk, rfl, hbel⟩ := hrel
      by_cases hlt : k < c
      · rcases HPA.out with h0 | ⟨b, off, rfl, hb, ht⟩
        · exfalso; omega
        obtain ⟨t1, t2, t3⟩ := ht k hlt
        obtain ⟨u1, u2⟩ := HW.out k hlt
        have p1 := (hbel.cell (p := ⟨b, off + k * 3, none⟩) hb).trans t1
        have p2 := (hbel.cell (p := ⟨b, off + k * 3 + 1, none⟩) hb).trans t2
        have x1 := (hbel.cell (p := ⟨g1, k * 2, none⟩) k1).trans u1
        have x2 := (hbel.cell (p := ⟨g1, k * 2 + 1, none⟩) k1).trans u2
        have qb : b < wr.heap.size := Nat.lt_of_lt_of_le hb hbel.size
        have q1 : g1 < wr.heap.size := Nat.lt_of_lt_of_le k1 hbel.size
        have q2 : g2 < wr.heap.size := Nat.lt_of_lt_of_le k2 hbel.size
        have q3 : g3 < wr.heap.size := Nat.lt_of_lt_of_le k3 hbel.size
        have hki : (k : Int) < (c : Int) := by omega
        clear t1 t2 t3 u1 u2 ht
        obtain ⟨v1, v2⟩ := HL.out k hlt
        have y1 := (hbel.cell (p := ⟨g2, k * 2, none⟩) k2).trans v1
        have y2 := (hbel.cell (p := ⟨g2, k * 2 + 1, none⟩) k2).trans v2
        have hkci : (k : Int) < (c : Int) := by omega
        clear v1 v2
        go_wp2
        go_region_held3 (fun w' => w'.cell? ⟨b, off + k * 3, none⟩ = some (.int .u64 (H k)) ∧ w'.cell? ⟨b, off + k * 3 + 1, none⟩ = some (.int .u64 (L k)) ∧ w'.cell? ⟨g1, k * 2, none⟩ = some (.int .u64 (H k)) ∧ w'.cell? ⟨g1, k * 2 + 1, none⟩ = some (.int .u64 (L k))) (simp [go_sem, World.cell?_alloc_past, qb, q1, p1, p2, x1, x2])
          (first | (go_at_call 13; refine (hi_alloc _ _ _).mono ?_; rintro e w' ⟨rfl, o1, rfl⟩) | (go_at_call 14; refine (lo_alloc _ _ _).mono ?_; rintro e w' ⟨rfl, o2, rfl⟩))
        go_wp2
        go_quiet (fail)
        go_wp2
        go_roundw
        case rel => exact ⟨k + 1, by omega, by go_num, by first | exact bdN ((hbel.alloc hbel.size _).alloc (by have := hbel.size; simp; omega) _) | exact bdN ((hbel.alloc hbel.size _).alloc (by have := hbel.size; simp; omega) _).drew⟩
        case measure => simp [intOf]; omega
      · obtain rfl : k = c := by omega
        go_wp2
        go_ret
        exact ⟨rfl, hbA.trans (hbel.mono hsz)⟩
  · refine (zzids_any (some ⟨w.heap.size, c * 3, none⟩) (len - c) (len - c) (fun i => H (c + i)) (fun i => L (c + i)) (fun i => A (c + i)) w3 (Or.inr ⟨_, _, rfl, by omega, fun i hi => ?_⟩) (by omega)).mono ?_
    · have e := HT1.out (c + i) (by omega)
      rw [show c * 3 + i * 3 = 0 + (c + i) * 3 by omega]
      rw [hb3.cell (p := ⟨w.heap.size, 0 + (c + i) * 3, none⟩) (by simp; omega), hb3.cell (p := ⟨w.heap.size, 0 + (c + i) * 3 + 1, none⟩) (by simp; omega), hb3.cell (p := ⟨w.heap.size, 0 + (c + i) * 3 + 2, none⟩) (by simp; omega)]
      rw [hb2.cell (p := ⟨w.heap.size, 0 + (c + i) * 3, none⟩) hl1, hb2.cell (p := ⟨w.heap.size, 0 + (c + i) * 3 + 1, none⟩) hl1, hb2.cell (p := ⟨w.heap.size, 0 + (c + i) * 3 + 2, none⟩) hl1]
      exact e
    rintro e w4 ⟨rfl, hp4, hb4, hl4⟩
    have HW : Hid (Pairs w4 w1.heap.size len H L) := pairs_below hb4 (by omega) (pairs_below hb3 hl2 HP2.out)
    have HL : Hid (Pairs w4 w2.heap.size c H L) := pairs_below hb4 hl3 HP3.out
    have HR : Hid (Pairs w4 w3.heap.size (len - c) (fun i => H (c + i)) (fun i => L (c + i))) := hp4
    have hbA : Below w.heap.size w w4 := ((hb1.trans (hb2.mono (by omega))).trans (hb3.mono (by omega))).trans (hb4.mono (by omega))
    have HPA : Hid (PeersAt w4 a len H L A) := peers_below hbA HP.out
    have hsz : w.heap.size ≤ w4.heap.size := by omega
    obtain ⟨g1, hg1⟩ : ∃ g, g = w1.heap.size := ⟨_, rfl⟩
    obtain ⟨g2, hg2⟩ : ∃ g, g = w2.heap.size := ⟨_, rfl⟩
    obtain ⟨g3, hg3⟩ : ∃ g, g = w3.heap.size := ⟨_, rfl⟩
    have k1 : g1 < w4.heap.size := by omega
    have k2 : g2 < w4.heap.size := by omega
    have k3 : g3 < w4.heap.size := by omega
    rw [← hg1] at HW ⊢
    rw [← hg2] at HL ⊢
    rw [← hg3] at HR ⊢
    clear hp4 hb4 hl4 HP2 HP3 HT1 HP hb1 hb2 hb3 hl1 hl2 hl3 hg1 hg2 hg3
    have hne : (((len - c : Nat) : Int) != (len : Int) - (c : Int)) = false := by
      rw [show ((len - c : Nat) : Int) = (len : Int) - (c : Int) by omega]; simp
    go_wp2
    go_loopw [10] (fun i wr => ∃ k : Nat, k ≤ len ∧ i = .int .i64 k ∧ Below w4.heap.size w4 wr) (fun i _ => len - (intOf i).toNat)
    case atStart => exact ⟨0, Nat.zero_le _, rfl, Below.refl _ _⟩
    case round =>
      obtain ⟨k, hk, rfl, hbel⟩ := hrel
      by_cases hlt : k < len
      · rcases HPA.out with h0 | ⟨b, off, rfl, hb, ht⟩
        · exfalso; omega
        obtain ⟨t1, t2, t3⟩ := ht k hlt
        obtain ⟨u1, u2⟩ := HW.out k hlt
        have p1 := (hbel.cell (p := ⟨b, off + k * 3, none⟩) hb).trans t1
        have p2 := (hbel.cell (p := ⟨b, off + k * 3 + 1, none⟩) hb).trans t2
        have x1 := (hbel.cell (p := ⟨g1, k * 2, none⟩) k1).trans u1
        have x2 := (hbel.cell (p := ⟨g1, k * 2 + 1, none⟩) k1).trans u2
        have qb : b < wr.heap.size := Nat.lt_of_lt_of_le hb hbel.size
        have q1 : g1 < wr.heap.size := Nat.lt_of_lt_of_le k1 hbel.size
        have q2 : g2 < wr.heap.size := Nat.lt_of_lt_of_le k2 hbel.size
        have q3 : g3 < wr.heap.size := Nat.lt_of_lt_of_le k3 hbel.size
        have hki : (k : Int) < (len : Int) := by omega
        clear t1 t2 t3 u1 u2 ht
        by_cases hkc : k < c
        · obtain ⟨v1, v2⟩ := HL.out k hkc
          have y1 := (hbel.cell (p := ⟨g2, k * 2, none⟩) k2).trans v1
          have y2 := (hbel.cell (p := ⟨g2, k * 2 + 1, none⟩) k2).trans v2
          have hkci : (k : Int) < (c : Int) := by omega
          clear v1 v2
          go_wp2
          go_region_held3 (fun w' => w'.cell? ⟨b, off + k * 3, none⟩ = some (.int .u64 (H k)) ∧ w'.cell? ⟨b, off + k * 3 + 1, none⟩ = some (.int .u64 (L k)) ∧ w'.cell? ⟨g1, k * 2, none⟩ = some (.int .u64 (H k)) ∧ w'.cell? ⟨g1, k * 2 + 1, none⟩ = some (.int .u64 (L k))) (simp [go_sem, World.cell?_alloc_past, qb, q1, p1, p2, x1, x2])
            (first | (go_at_call 13; refine (hi_alloc _ _ _).mono ?_; rintro e w' ⟨rfl, o1, rfl⟩) | (go_at_call 14; refine (lo_alloc _ _ _).mono ?_; rintro e w' ⟨rfl, o2, rfl⟩))
          go_wp2
          go_quiet (fail)
          go_wp2
          go_roundw
          case rel => exact ⟨k + 1, by omega, by go_num, by first | exact bdN ((hbel.alloc hbel.size _).alloc (by have := hbel.size; simp; omega) _) | exact bdN ((hbel.alloc hbel.size _).alloc (by have := hbel.size; simp; omega) _).drew⟩
          case measure => simp [intOf]; omega
        · obtain ⟨v1, v2⟩ := HR.out (k - c) (by omega)
          have e1 : c + (k - c) = k := by omega
          simp only [e1] at v1 v2
          have y1 := (hbel.cell (p := ⟨g3, (k - c) * 2, none⟩) k3).trans v1
          have y2 := (hbel.cell (p := ⟨g3, (k - c) * 2 + 1, none⟩) k3).trans v2
          have hkci : ¬ (k : Int) < (c : Int) := by omega
          have hri : (k : Int) - (c : Int) < ((len - c : Nat) : Int) := by omega
          clear v1 v2 e1
          go_wp2
          go_region_held3 (fun w' => w'.cell? ⟨b, off + k * 3, none⟩ = some (.int .u64 (H k)) ∧ w'.cell? ⟨b, off + k * 3 + 1, none⟩ = some (.int .u64 (L k)) ∧ w'.cell? ⟨g1, k * 2, none⟩ = some (.int .u64 (H k)) ∧ w'.cell? ⟨g1, k * 2 + 1, none⟩ = some (.int .u64 (L k))) (simp [go_sem, World.cell?_alloc_past, qb, q1, p1, p2, x1, x2])
            (first | (go_at_call 13; refine (hi_alloc _ _ _).mono ?_; rintro e w' ⟨rfl, o1, rfl⟩) | (go_at_call 14; refine (lo_alloc _ _ _).mono ?_; rintro e w' ⟨rfl, o2, rfl⟩))
          go_wp2
          go_quiet (fail)
          go_wp2
          go_roundw
          case rel => exact ⟨k + 1, by omega, by go_num, by first | exact bdN ((hbel.alloc hbel.size _).alloc (by have := hbel.size; simp; omega) _) | exact bdN ((hbel.alloc hbel.size _).alloc (by have := hbel.size; simp; omega) _).drew⟩
          case measure => simp [intOf]; omega
      · obtain rfl : k = len := by omega
        go_wp2
        go_ret
        exact ⟨rfl, hbA.trans (hbel.mono hsz)⟩
end Go.Proofs.Qxb6616765a.fnIdsSplitsAtAnyCut
