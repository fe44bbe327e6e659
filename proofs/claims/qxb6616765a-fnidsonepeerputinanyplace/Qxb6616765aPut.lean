/-
  ONE PEER PUT IN: the bound on lengths, walked; appended triples, outside the walk.
-/
import Derived.Test.Qxb6616765aMkPeers
import Derived.WideShapes
namespace Go.Proofs.Qxb6616765a.peers
open Go.RowKit
set_option linter.unusedVariables false

/-- The bound says yes. -/
theorem bytes24_yes (a : Option Addr) (len cap : Nat) (c hi lo : Int) (s : ByteArray) (H L : Nat → Int) (A : Nat → ByteArray) (w : World) (hp : PeersAt w a len H L A) (h : len + sumA A len + s.size ≤ 1048576) :
    Calls Try.prog 24 #[.slice a len cap, .int .i64 c, .int .u64 hi, .int .u64 lo, .string s] w fun e w' => e = .returned (.bool true) ∧ w = w' := by
  have HP : Hid (PeersAt w a len H L A) := hp
  clear hp
  go_enter Try.func24, Try.ntmps24
  go_wp2
  go_loop [11, 12] (fun t i => ∃ k : Nat, k ≤ len ∧ i = .int .i64 k ∧ t = .int .i64 ((len + sumA A k : Nat) : Int)) (fun _ i => len - (intOf i).toNat)
  case atStart => exact ⟨0, Nat.zero_le _, rfl, rfl⟩
  case round =>
    obtain ⟨k, hk, rfl, rfl⟩ := hrel
    by_cases hlt : k < len
    · have hs : sumA A (k + 1) ≤ sumA A len := sumA_mono A hlt
      simp only [sumA] at hs
      rcases HP.out with h0 | ⟨b, off, rfl, hb, ht⟩
      · exfalso; omega
      have hc := (ht k hlt).2.2
      clear ht HP
      go_wp2
      go_round
      case rel => exact ⟨k + 1, by omega, by go_num, by rw [sumA]; go_num⟩
      case measure => simp [intOf]; omega
    · obtain rfl : k = len := by omega
      go_wp2
      go_ret
      exact ⟨rfl, rfl⟩

/-- The bound says no. -/
theorem bytes24_no (a : Option Addr) (len cap : Nat) (c hi lo : Int) (s : ByteArray) (H L : Nat → Int) (A : Nat → ByteArray) (w : World) (hp : PeersAt w a len H L A) (hA : ∀ i, i < len → (A i).size ≤ maxLen) (hs : s.size ≤ maxLen) (h : 1048576 < len + sumA A len + s.size) :
    Calls Try.prog 24 #[.slice a len cap, .int .i64 c, .int .u64 hi, .int .u64 lo, .string s] w fun e w' => e = .returned (.bool false) ∧ w = w' := by
  have HP : Hid (PeersAt w a len H L A) := hp
  have HA : Hid (∀ i, i < len → (A i).size ≤ maxLen) := hA
  clear hp hA
  unfold maxLen at hs
  by_cases hl : 1048576 < len
  · go_enter Try.func24, Try.ntmps24
    go_wp2
    go_ret
    exact ⟨rfl, rfl⟩
  go_enter Try.func24, Try.ntmps24
  go_wp2
  go_loop [11, 12] (fun t i => ∃ k : Nat, k ≤ len ∧ i = .int .i64 k ∧ len + sumA A k ≤ 1048576 ∧ t = .int .i64 ((len + sumA A k : Nat) : Int)) (fun _ i => len - (intOf i).toNat)
  case atStart => exact ⟨0, Nat.zero_le _, rfl, by simp only [sumA]; omega, rfl⟩
  case round =>
    obtain ⟨k, hk, rfl, hsum, rfl⟩ := hrel
    by_cases hlt : k < len
    · rcases HP.out with h0 | ⟨b, off, rfl, hb, ht⟩
      · exfalso; omega
      have hc := (ht k hlt).2.2
      have hm := HA.out k hlt
      unfold maxLen at hm
      clear ht HP HA
      by_cases h1 : 1048576 < (A k).size
      · go_wp2
        go_ret
        exact ⟨rfl, rfl⟩
      · by_cases h2 : 1048576 < len + sumA A k + (A k).size
        · go_wp2
          go_ret
          exact ⟨rfl, rfl⟩
        · go_wp2
          go_round
          case rel => exact ⟨k + 1, by omega, by go_num, by simp only [sumA]; omega, by rw [sumA]; go_num⟩
          case measure => simp [intOf]; omega
    · obtain rfl : k = len := by omega
      by_cases h1 : 1048576 < s.size
      · go_wp2
        go_ret
        exact ⟨rfl, rfl⟩
      · go_wp2
        go_ret
        exact ⟨rfl, rfl⟩

/-- The cells of m triples, one behind the other. -/
def flat (H L : Nat → Int) (A : Nat → ByteArray) : Nat → List Value
  | 0 => []
  | m + 1 => flat H L A m ++ [.int .u64 (H m), .int .u64 (L m), .string (A m)]
theorem flat_length (H L : Nat → Int) (A : Nat → ByteArray) (m : Nat) : (flat H L A m).length = m * 3 := by
  induction m with
  | zero => rfl
  | succ m ih => simp only [flat, List.length_append, ih, List.length_cons, List.length_nil]; omega
theorem flat_at (H L : Nat → Int) (A : Nat → ByteArray) (m : Nat) : TriplesL (flat H L A m) m H L A := by
  induction m with
  | zero => intro j hj; omega
  | succ m ih =>
    intro j hj
    have hl := flat_length H L A m
    simp only [flat]
    by_cases hjm : j < m
    · obtain ⟨h1, h2, h3⟩ := ih j hjm
      rw [List.getElem?_append_left (by omega), List.getElem?_append_left (by omega), List.getElem?_append_left (by omega)]
      exact ⟨h1, h2, h3⟩
    · obtain rfl : j = m := by omega
      rw [List.getElem?_append_right (by omega), List.getElem?_append_right (by omega), List.getElem?_append_right (by omega), hl]
      rw [show j * 3 - j * 3 = 0 by omega, show j * 3 + 1 - j * 3 = 1 by omega, show j * 3 + 2 - j * 3 = 2 by omega]
      exact ⟨rfl, rfl, rfl⟩
theorem flat_one (H L : Nat → Int) (A : Nat → ByteArray) (m : Nat) : ∀ u ∈ flat H L A m, u.oneCell' = true := by
  induction m with
  | zero => intro u hu; cases hu
  | succ m ih =>
    intro u hu
    simp only [flat, List.mem_append, List.mem_cons, List.not_mem_nil, or_false] at hu
    rcases hu with hu | rfl | rfl | rfl
    · exact ih u hu
    · rfl
    · rfl
    · rfl
theorem flat_cells {w : World} {b off m : Nat} {H L : Nat → Int} {A : Nat → ByteArray} (ht : Triples w b off m H L A) : ∀ j u, (flat H L A m)[j]? = some u → w.cell? ((⟨b, off, none⟩ : Addr).add j) = some u := by
  intro j u hj
  rw [WideShapes.add_plain]
  have hjl : j < m * 3 := by
    rw [← flat_length H L A m]
    rcases Nat.lt_or_ge j (flat H L A m).length with h | h
    · exact h
    · rw [List.getElem?_eq_none h] at hj; cases hj
  obtain ⟨i, r, rfl, hr⟩ : ∃ i r, j = i * 3 + r ∧ r < 3 := ⟨j / 3, j % 3, by omega, by omega⟩
  have hi : i < m := by omega
  obtain ⟨t1, t2, t3⟩ := ht i hi
  obtain ⟨f1, f2, f3⟩ := flat_at H L A m i hi
  obtain rfl | rfl | rfl : r = 0 ∨ r = 1 ∨ r = 2 := by omega
  · rw [Nat.add_zero, f1] at hj; rw [Nat.add_zero, t1, hj]
  · rw [f2] at hj; rw [← Nat.add_assoc, t2, hj]
  · rw [f3] at hj; rw [← Nat.add_assoc, t3, hj]

/-- append of triples that lie in a row, within the capacity. -/
theorem app_row {w : World} {ops : Array Oper} {rest : List Oper} {o : Oper} {a : Act} {Q : Exit → Act → World → Prop}
    (hgd : o.guard = none) (s x : Operand) (hop : o.op = Op.call { callee := Callee.builtin Builtin.append, args := #[s, x], argTypes := #[33, 33] })
    (base g k cap : Nat) (xs : List Value) (hs : a.eval s = .slice (some ⟨g, 0, none⟩) k cap) (hown : w.ownsRow base 42 3 (.slice (some ⟨g, 0, none⟩) k cap) k xs)
    (b off m c : Nat) (H L : Nat → Int) (A : Nat → ByteArray) (hx : a.eval x = .slice (some ⟨b, off, none⟩) m c) (ht : Triples w b off m H L A) (b1 : k + m ≤ cap)
    (hK : ∀ w', w'.ownsRow base 42 3 (.slice (some ⟨g, 0, none⟩) (k + m) cap) (k + m) (xs ++ flat H L A m) → w.grownBy w' (some g) → wpList Try.prog ops Q rest (a.put o.dst (.slice (some ⟨g, 0, none⟩) (k + m) cap)) w') :
    wpList Try.prog ops Q (o :: rest) a w := by
  obtain ⟨i0, hi, hz0, hz1, hz2⟩ := info_parts Try.info42
  exact wpList_append_fits w hgd s x 33 hop base 42 i0 3 Try.underlying33 hi hz1 g k cap xs hs hown ⟨b, off, none⟩ m c (flat H L A m) hx (flat_length H L A m) (flat_cells ht) (flat_one H L A m) b1 hK

theorem triples_grown {w w' : World} {row : Option Nat} {b off m : Nat} {H L : Nat → Int} {A : Nat → ByteArray} (hg : w.grownBy w' row) (hne : some b ≠ row) (ht : Triples w b off m H L A) : Triples w' b off m H L A := by
  intro i hi
  obtain ⟨t1, t2, t3⟩ := ht i hi
  exact ⟨hg.cell t1 hne, hg.cell t2 hne, hg.cell t3 hne⟩
theorem triples_alloc {w : World} {o : Obj} {b off m : Nat} {H L : Nat → Int} {A : Nat → ByteArray} (ht : Triples w b off m H L A) : Triples (w.alloc o) b off m H L A := by
  intro i hi
  obtain ⟨t1, t2, t3⟩ := ht i hi
  refine ⟨?_, ?_, ?_⟩
  · rw [World.cell?_alloc_lt _ _ _ (World.block_lt_of_cell? w _ t1)]; exact t1
  · rw [World.cell?_alloc_lt _ _ _ (World.block_lt_of_cell? w _ t2)]; exact t2
  · rw [World.cell?_alloc_lt _ _ _ (World.block_lt_of_cell? w _ t3)]; exact t3
theorem triples_some {w : World} {b off m c d : Nat} {H L : Nat → Int} {A : Nat → ByteArray} (ht : Triples w b off m H L A) (hd : d = off + c * 3) {n : Nat} (hn : c + n ≤ m) : Triples w b d n (fun i => H (c + i)) (fun i => L (c + i)) (fun i => A (c + i)) := by
  intro i hi
  obtain ⟨t1, t2, t3⟩ := ht (c + i) (by omega)
  subst hd
  rw [show off + c * 3 + i * 3 = off + (c + i) * 3 by omega]
  exact ⟨t1, t2, t3⟩

/-- The list with x put in at place c. -/
def put {α : Type} (F : Nat → α) (c : Nat) (x : α) (i : Nat) : α := if i < c then F i else if i = c then x else F (i - 1)
theorem put_triples {w : World} {base g n c cap : Nat} {H L : Nat → Int} {A : Nat → ByteArray} {hi lo : Int} {s : ByteArray} (hc : c ≤ n)
    (h : w.ownsRow base 42 3 (.slice (some ⟨g, 0, none⟩) (n + 1) cap) (n + 1) (flat H L A c ++ flat (fun _ => hi) (fun _ => lo) (fun _ => s) 1 ++ flat (fun i => H (c + i)) (fun i => L (c + i)) (fun i => A (c + i)) (n - c))) :
    Triples w g 0 (n + 1) (put H c hi) (put L c lo) (put A c s) := by
  refine triples_of h ?_
  intro j hj
  have l1 := flat_length H L A c
  have l2 := flat_length (fun _ => hi) (fun _ => lo) (fun _ => s) 1
  by_cases h1 : j < c
  · obtain ⟨f1, f2, f3⟩ := flat_at H L A c j h1
    simp only [put, if_pos h1]
    rw [List.append_assoc, List.getElem?_append_left (by omega), List.getElem?_append_left (by omega), List.getElem?_append_left (by omega)]
    exact ⟨f1, f2, f3⟩
  · by_cases h2 : j = c
    · subst h2
      simp only [put, if_neg (Nat.lt_irrefl _), if_true]
      rw [List.append_assoc]
      refine ⟨?_, ?_, ?_⟩
      · rw [List.getElem?_append_right (by omega), l1, show j * 3 - j * 3 = 0 by omega, List.getElem?_append_left (by omega)]; rfl
      · rw [List.getElem?_append_right (by omega), l1, show j * 3 + 1 - j * 3 = 1 by omega, List.getElem?_append_left (by omega)]; rfl
      · rw [List.getElem?_append_right (by omega), l1, show j * 3 + 2 - j * 3 = 2 by omega, List.getElem?_append_left (by omega)]; rfl
    · obtain ⟨f1, f2, f3⟩ := flat_at (fun i => H (c + i)) (fun i => L (c + i)) (fun i => A (c + i)) (n - c) (j - 1 - c) (by omega)
      simp only [show c + (j - 1 - c) = j - 1 by omega] at f1 f2 f3
      simp only [put, if_neg h1, if_neg h2]
      have l3 : (flat H L A c ++ flat (fun _ => hi) (fun _ => lo) (fun _ => s) 1).length = (c + 1) * 3 := by rw [List.length_append, l1, l2]; omega
      rw [List.getElem?_append_right (by omega), List.getElem?_append_right (by omega), List.getElem?_append_right (by omega), l3]
      rw [show j * 3 - (c + 1) * 3 = (j - 1 - c) * 3 by omega, show j * 3 + 1 - (c + 1) * 3 = (j - 1 - c) * 3 + 1 by omega, show j * 3 + 2 - (c + 1) * 3 = (j - 1 - c) * 3 + 2 by omega]
      exact ⟨f1, f2, f3⟩

/-- The same, the new length under a name. -/
theorem app_row' {w : World} {ops : Array Oper} {rest : List Oper} {o : Oper} {a : Act} {Q : Exit → Act → World → Prop}
    (hgd : o.guard = none) (s x : Operand) (hop : o.op = Op.call { callee := Callee.builtin Builtin.append, args := #[s, x], argTypes := #[33, 33] })
    (base g k cap : Nat) (xs : List Value) (hs : a.eval s = .slice (some ⟨g, 0, none⟩) k cap) (hown : w.ownsRow base 42 3 (.slice (some ⟨g, 0, none⟩) k cap) k xs)
    (b off m c : Nat) (H L : Nat → Int) (A : Nat → ByteArray) (hx : a.eval x = .slice (some ⟨b, off, none⟩) m c) (ht : Triples w b off m H L A) (n : Nat) (hn : k + m = n) (b1 : n ≤ cap)
    (hK : ∀ w', w'.ownsRow base 42 3 (.slice (some ⟨g, 0, none⟩) n cap) n (xs ++ flat H L A m) → w.grownBy w' (some g) → wpList Try.prog ops Q rest (a.put o.dst (.slice (some ⟨g, 0, none⟩) n cap)) w') :
    wpList Try.prog ops Q (o :: rest) a w := by
  subst hn
  exact app_row hgd s x hop base g k cap xs hs hown b off m c H L A hx ht b1 hK

theorem one_triple (w : World) (T : TypeId) (hi lo : Int) (s : ByteArray) (b : Nat) (hb : b = w.heap.size) :
    Triples (w.alloc (.cells #[.int .u64 hi, .int .u64 lo, .string s] T)) b 0 1 (fun _ => hi) (fun _ => lo) (fun _ => s) := by
  subst hb
  intro i hi
  obtain rfl : i = 0 := by omega
  simp

theorem pairs_below {w w' : World} {B b n : Nat} {H L : Nat → Int} (h : Below B w w') (hb : b < B) (hp : Pairs w b n H L) : Pairs w' b n H L := by
  intro i hi
  obtain ⟨h1, h2⟩ := hp i hi
  exact ⟨(h.cell (p := ⟨b, i * 2, none⟩) hb).trans h1, (h.cell (p := ⟨b, i * 2 + 1, none⟩) hb).trans h2⟩
theorem peers_below {w w' : World} {a : Option Addr} {n : Nat} {H L : Nat → Int} {A : Nat → ByteArray} (h : Below w.heap.size w w') (hp : PeersAt w a n H L A) : PeersAt w' a n H L A := by
  rcases hp with h0 | ⟨b, off, rfl, hb, ht⟩
  · exact .inl h0
  · refine .inr ⟨b, off, rfl, Nat.lt_of_lt_of_le hb h.size, fun i hi => ?_⟩
    obtain ⟨h1, h2, h3⟩ := ht i hi
    exact ⟨(h.cell (p := ⟨b, off + i * 3, none⟩) hb).trans h1, (h.cell (p := ⟨b, off + i * 3 + 1, none⟩) hb).trans h2, (h.cell (p := ⟨b, off + i * 3 + 2, none⟩) hb).trans h3⟩
theorem triples_below {w w' : World} {B b off n : Nat} {H L : Nat → Int} {A : Nat → ByteArray} (h : Below B w w') (hb : b < B) (ht : Triples w b off n H L A) : Triples w' b off n H L A := by
  intro i hi
  obtain ⟨h1, h2, h3⟩ := ht i hi
  exact ⟨(h.cell (p := ⟨b, off + i * 3, none⟩) hb).trans h1, (h.cell (p := ⟨b, off + i * 3 + 1, none⟩) hb).trans h2, (h.cell (p := ⟨b, off + i * 3 + 2, none⟩) hb).trans h3⟩
theorem bdN {B n : Nat} {a w : World} (h : Below B a w) : Below B a (w.drewN n) := ⟨h.os, h.tape, h.output, h.size, h.block⟩
/-- ZZidHi. -/
theorem hi_alloc (ah al : Int) (w : World) :
    Calls Try.prog 13 #[.agg #[.int .u64 ah, .int .u64 al]] w fun e w' => e = .returned (.int .u64 ah) ∧ ∃ c : Array Value, w' = w.alloc (.cells c 24) := by
  go_enter Try.func13, Try.ntmps13
  go_wp2
  go_ret
  exact ⟨rfl, _, rfl⟩
/-- ZZidLo. -/
theorem lo_alloc (ah al : Int) (w : World) :
    Calls Try.prog 14 #[.agg #[.int .u64 ah, .int .u64 al]] w fun e w' => e = .returned (.int .u64 al) ∧ ∃ c : Array Value, w' = w.alloc (.cells c 24) := by
  go_enter Try.func14, Try.ntmps14
  go_wp2
  go_ret
  exact ⟨rfl, _, rfl⟩
theorem put_lt {α : Type} (F : Nat → α) (c : Nat) (x : α) (i : Nat) (h : i < c) : put F c x i = F i := by simp [put, h]
theorem put_eq {α : Type} (F : Nat → α) (c : Nat) (x : α) : put F c x c = x := by simp [put]
theorem put_gt {α : Type} (F : Nat → α) (c : Nat) (x : α) (i : Nat) (h : c ≤ i) : put F c x (i + 1) = F i := by
  simp only [put]; rw [if_neg (by omega), if_neg (by omega)]; rfl
end Go.Proofs.Qxb6616765a.peers
