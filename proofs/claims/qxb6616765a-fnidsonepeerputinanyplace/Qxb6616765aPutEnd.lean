/-
  THE LAW FnIdsOnePeerPutInAnyPlace, WALKED: the new peer comes last.
-/
import Derived.Test.Qxb6616765aPut
namespace Go.Proofs.Qxb6616765a.fnIdsOnePeerPutInAnyPlace
open Go.RowKit Go.Proofs.Qxb6616765a.ids Go.Proofs.Qxb6616765a.peers
set_option linter.unusedVariables false

set_option maxHeartbeats 3200000 in
theorem walk_end (a : Option Addr) (len cap : Nat) (hi lo : Int) (s : ByteArray) (H L : Nat → Int) (A : Nat → ByteArray) (w : World) (hp : PeersAt w a len H L A) (h1 : s.size + 32 * len + sumA A len ≤ 1048576) :
    Calls Try.prog 8 #[.slice a len cap, .int .i64 len, .int .u64 hi, .int .u64 lo, .string s] w fun e w' => e = .returned (.bool true) ∧ Below w.heap.size w w' := by
  have HP : Hid (PeersAt w a len H L A) := hp
  clear hp
  have h4 : len + sumA A len + s.size ≤ 1048576 := by omega
  obtain ⟨i0, hi0, hz0, hz1, hz2⟩ := info_parts Try.info42
  go_enter Try.func8, Try.ntmps8
  go_wp2_with (first
    | (go_at_call 24; refine (bytes24_yes _ _ _ _ _ _ _ H L A _ HP.out h4).mono ?_; rintro e w' ⟨rfl, rfl⟩)
    | (go_at_call 16; refine (tooBig_no _ _ _ s.size H L A _ HP.out h1).mono ?_; rintro e w' ⟨rfl, rfl⟩)
    | (go_at_call 17; refine (mk_any a len cap H L A w HP.out (by omega)).mono ?_; rintro e w1 ⟨rfl, ht1, hb1, hl1⟩; have HT1 : Hid (Triples w1 w.heap.size 0 len H L A) := ht1; clear ht1)
    | (at_make; refine wpList_make_own _ rfl _ _ 33 rfl w1.heap.size 42 i0 (.agg #[.int .u64 0, .int .u64 0, .string ByteArray.empty]) 3 Try.underlying33 hi0 hz0 hz1 .i64 .i64 _ (len + 1) rfl rfl (by omega) (by rw [hz2]; omega) (by unfold maxLen; omega) (Nat.le_refl _) ?_; intro w2 hown2 hgrow2; have HT2 : Hid (Triples w2 w.heap.size 0 len H L A) := triples_grown hgrow2 (by simp) HT1.out)
    | (at_builtin; refine app_row' rfl (.tmp 44) (.tmp 47) rfl w1.heap.size w1.heap.size 0 (len + 1) [] rfl hown2 w.heap.size 0 len len H L A rfl (fun i hi => HT2.out i (by omega)) len (by omega) (by omega) ?_; intro w3 hown3 hgrow3; have HT3 : Hid (Triples w3 w.heap.size 0 len H L A) := triples_grown hgrow3 (by simp; omega) HT2.out)
    | (go_at_call 9; refine (newID_any _ _ _).mono ?_; rintro e w' ⟨rfl, cc, rfl⟩)
    | (at_builtin; refine app_row' rfl (.tmp 49) (.tmp 55) rfl w1.heap.size w1.heap.size len (len + 1) _ rfl ((hown3.alloc _).alloc _) (w3.heap.size + 1) 0 1 1 (fun _ => hi) (fun _ => lo) (fun _ => s) rfl (one_triple _ _ _ _ _ _ (by simp)) (len + 1) (by omega) (by omega) ?_; intro w4 hown4 hgrow4; have HT4 : Hid (Triples w4 w.heap.size 0 len H L A) := triples_grown hgrow4 (by simp; omega) (triples_alloc (triples_alloc HT3.out)))
    | (at_builtin; refine app_row' rfl (.tmp 57) (.tmp 60) rfl w1.heap.size w1.heap.size (len + 1) (len + 1) _ rfl hown4 w.heap.size 0 0 0 (fun i => H (len + i)) (fun i => L (len + i)) (fun i => A (len + i)) rfl (fun i hi => absurd hi (by omega)) (len + 1) (by omega) (by omega) ?_; intro w5 hown5 hgrow5; have HT5 : Hid (Triples w5 w.heap.size 0 len H L A) := triples_grown hgrow5 (by simp; omega) HT4.out))
  have HTI : Hid (Triples w5 w1.heap.size 0 (len + 1) (put H len hi) (put L len lo) (put A len s)) := put_triples (Nat.le_refl _) (by rw [Nat.sub_self]; exact hown5)
  have hbl2 : Below w1.heap.size w1 w2 := (Below.refl _ _).grown hgrow2 (Nat.le_refl _) (fun k hk => by cases hk)
  have hbl3 : Below w1.heap.size w1 w3 := hbl2.grown hgrow3 hbl2.size (fun k hk => by cases hk; exact Nat.le_refl _)
  have hbl4 : Below w1.heap.size w1 w4 := ((hbl3.alloc hbl3.size _).alloc (by have := hbl3.size; simp; omega) _).grown hgrow4 (by have := hbl3.size; simp; omega) (fun k hk => by cases hk; exact Nat.le_refl _)
  have hbl5 : Below w1.heap.size w1 w5 := hbl4.grown hgrow5 hbl4.size (fun k hk => by cases hk; exact Nat.le_refl _)
  have hs5 : w1.heap.size < w5.heap.size := row_lt hown5
  have hbw5 : Below w.heap.size w w5 := hb1.trans (hbl5.mono (by omega))
  clear hown2 hown3 hown4 hown5 hgrow2 hgrow3 hgrow4 hgrow5 hbl2 hbl3 hbl4 hbl5 HT1 HT2 HT3 HT4 hb1
  refine (zzids_any (some ⟨w.heap.size, 0, none⟩) len len H L A w5 (Or.inr ⟨_, _, rfl, by omega, HT5.out⟩) (by omega)).mono ?_
  rintro e w6 ⟨rfl, hp6, hb6, hl6⟩
  have HP6 : Hid (Pairs w6 w5.heap.size len H L) := hp6
  clear hp6
  go_wp2_with fail
  refine (zzids_any (some ⟨w1.heap.size, 0, none⟩) (len + 1) (len + 1) (put H len hi) (put L len lo) (put A len s) w6 (Or.inr ⟨_, _, rfl, by omega, triples_below hb6 hs5 HTI.out⟩) (by omega)).mono ?_
  rintro e w7 ⟨rfl, hp7, hb7, hl7⟩
  have HW : Hid (Pairs w7 w5.heap.size len H L) := pairs_below hb7 hl6 HP6.out
  have HB : Hid (Pairs w7 w6.heap.size (len + 1) (put H len hi) (put L len lo)) := hp7
  have hbA : Below w.heap.size w w7 := (hbw5.trans (hb6.mono (by omega))).trans (hb7.mono (by omega))
  have HPA : Hid (PeersAt w7 a len H L A) := peers_below hbA HP.out
  have hsz : w.heap.size ≤ w7.heap.size := by omega
  obtain ⟨g1, hg1⟩ : ∃ g, g = w5.heap.size := ⟨_, rfl⟩
  obtain ⟨g2, hg2⟩ : ∃ g, g = w6.heap.size := ⟨_, rfl⟩
  obtain ⟨g0, hg0⟩ : ∃ g, g = w1.heap.size := ⟨_, rfl⟩
  have k1 : g1 < w7.heap.size := by omega
  have k2 : g2 < w7.heap.size := by omega
  rw [← hg1] at HW ⊢
  rw [← hg2] at HB ⊢
  rw [← hg0]
  clear hp7 hb7 hl7 HP6 HT5 HTI HP hbw5 hb6 hl6 hs5 hl1 hg1 hg2 hg0
  obtain ⟨z1, z2⟩ := HB.out len (by omega)
  rw [put_eq] at z1 z2
  go_wp2_with (first
    | (go_at_call 13; refine (hi_alloc _ _ _).mono ?_; rintro e w' ⟨rfl, o1, rfl⟩)
    | (go_at_call 14; refine (lo_alloc _ _ _).mono ?_; rintro e w' ⟨rfl, o2, rfl⟩))
  clear z1 z2
  go_loopw [16] (fun i wr => ∃ k : Nat, k ≤ len ∧ i = .int .i64 k ∧ Below w7.heap.size w7 wr) (fun i _ => len - (intOf i).toNat)
  case atStart => exact ⟨0, Nat.zero_le _, rfl, ((Below.refl _ _).alloc (Nat.le_refl _) _).alloc (by simp) _⟩
  case round =>
    obtain ⟨k, hk, rfl, hbel⟩ := hrel
    by_cases hlt : k < len
    · rcases HPA.out with h0 | ⟨b, off, rfl, hb, ht⟩
      · exfalso; omega
      · obtain ⟨t1, t2, t3⟩ := ht k hlt
        obtain ⟨u1, u2⟩ := HW.out k hlt
        have p1 := (hbel.cell (p := ⟨b, off + k * 3, none⟩) hb).trans t1
        have p2 := (hbel.cell (p := ⟨b, off + k * 3 + 1, none⟩) hb).trans t2
        have x1 := (hbel.cell (p := ⟨g1, k * 2, none⟩) k1).trans u1
        have x2 := (hbel.cell (p := ⟨g1, k * 2 + 1, none⟩) k1).trans u2
        have qb : b < wr.heap.size := Nat.lt_of_lt_of_le hb hbel.size
        have q1 : g1 < wr.heap.size := Nat.lt_of_lt_of_le k1 hbel.size
        have q2 : g2 < wr.heap.size := Nat.lt_of_lt_of_le k2 hbel.size
        have hki : (k : Int) < (len : Int) := by omega
        clear t1 t2 t3 u1 u2 ht
        obtain ⟨v1, v2⟩ := HB.out k (by omega)
        rw [put_lt _ _ _ _ (by omega)] at v1 v2
        have y1 := (hbel.cell (p := ⟨g2, k * 2, none⟩) k2).trans v1
        have y2 := (hbel.cell (p := ⟨g2, k * 2 + 1, none⟩) k2).trans v2
        have hkci : ¬ (len : Int) ≤ (k : Int) := by omega
        clear v1 v2
        go_wp2
        go_region_held3 (fun w' => w'.cell? ⟨b, off + k * 3, none⟩ = some (.int .u64 (H k)) ∧ w'.cell? ⟨b, off + k * 3 + 1, none⟩ = some (.int .u64 (L k)) ∧ w'.cell? ⟨g1, k * 2, none⟩ = some (.int .u64 (H k)) ∧ w'.cell? ⟨g1, k * 2 + 1, none⟩ = some (.int .u64 (L k))) (simp [go_sem, World.cell?_alloc_past, qb, q1, p1, p2, x1, x2])
          (first | (go_at_call 13; refine (hi_alloc _ _ _).mono ?_; rintro e w' ⟨rfl, o3, rfl⟩) | (go_at_call 14; refine (lo_alloc _ _ _).mono ?_; rintro e w' ⟨rfl, o4, rfl⟩))
        go_wp2
        go_quiet (fail)
        go_wp2
        go_roundw
        case rel => exact ⟨k + 1, by omega, by go_num, by first | exact bdN ((hbel.alloc hbel.size _).alloc (by have := hbel.size; simp; omega) _) | exact bdN ((hbel.alloc hbel.size _).alloc (by have := hbel.size; simp; omega) _).drew⟩
        case measure => simp [intOf]; omega
    · obtain rfl : k = len := by omega
      go_wp2
      go_ret
      exact ⟨rfl, hbA.trans (hbel.mono hsz)⟩
end Go.Proofs.Qxb6616765a.fnIdsOnePeerPutInAnyPlace
