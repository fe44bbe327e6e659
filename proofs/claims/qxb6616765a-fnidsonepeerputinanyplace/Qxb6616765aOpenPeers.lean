/-
  FROM THE READING OF AN ARGUMENT '[]PeerIn' TO ITS CELLS.
-/
import Derived.Test.Qxb6616765aPeers
import Derived.ProofKit
import Derived.OpenShut
import Derived.ShutString
import Derived.ChangeOld
import Derived.Below
import Derived.Deep.Slices
import Derived.Deep.Strs
namespace Go.Proofs.Qxb6616765a.peers
open Go.ChangeShapes Go.WideShapes Go.ChangeAt Go.RowKit
set_option linter.unusedVariables false

theorem Try.cells38 : Try.prog.cellsOf 38 = 3 := by kernel_rfl
theorem Try.cells22 : Try.prog.cellsOf 22 = 1 := by kernel_rfl
theorem Try.cells9 : Try.prog.cellsOf 9 = 1 := by kernel_rfl

theorem cells_three {W : World} {x : Addr} {cs : List Value} (h : W.cells? 0 x 3 = some cs) : ∃ c0 c1 c2, cs = [c0, c1, c2] ∧ W.cell? (x.add 0) = some c0 ∧ W.cell? (x.add 1) = some c1 ∧ W.cell? (x.add 2) = some c2 := by
  cases h0 : W.cell? (x.add 0) with
  | none => simp [World.cells?, List.range_succ, h0] at h
  | some c0 =>
    cases h1 : W.cell? (x.add 1) with
    | none => simp [World.cells?, List.range_succ, h0, h1] at h
    | some c1 =>
      cases h2 : W.cell? (x.add 2) with
      | none => simp [World.cells?, List.range_succ, h0, h1, h2] at h
      | some c2 =>
        simp [World.cells?, List.range_succ, h0, h1, h2] at h
        exact ⟨c0, c1, c2, h.symm, rfl, rfl, rfl⟩

theorem open_peers {H' : Type} {enc : TypeId × Value → H'} {W : World} {fuel : Nat} {a : Option Addr} {len cap : Nat} {x : DataW H' × List MemPlace}
    (h : DataW.trod enc Try.prog W 0 (fun _ => true) true fuel 31 [.slice a len cap] = some x) :
    ∃ (H L : Nat → Int) (A : Nat → ByteArray), PeersAt W a len H L A ∧ ∀ i, i < len → (A i).size ≤ maxLen := by
  by_cases h0 : len = 0
  · exact ⟨fun _ => 0, fun _ => 0, fun _ => ByteArray.empty, .inl h0, fun i hi => absurd hi (by omega)⟩
  rcases Go.Deep.open_slice Try.underlying31 h with ⟨hcs, _⟩ | ⟨a', len', cap', m, n, D, Pl, hcs, _, hl, hm, hmm, _, he⟩
  · simp at hcs; omega
  simp at hcs
  obtain ⟨rfl, rfl, rfl⟩ := hcs
  simp only [if_true] at hmm
  subst hmm
  rw [Try.cells38] at he
  have key : ∀ i, i < len → ∃ t : Int × Int × ByteArray, W.cell? (a'.add (i * 3)) = some (.int .u64 t.1) ∧ W.cell? (a'.add (i * 3 + 1)) = some (.int .u64 t.2.1) ∧ W.cell? (a'.add (i * 3 + 2)) = some (.string t.2.2) ∧ t.2.2.size ≤ maxLen := by
    intro i hi
    obtain ⟨cs', hc, ht⟩ := he i (by omega)
    obtain ⟨c0, c1, c2, rfl, g0, g1, g2⟩ := cells_three hc
    obtain ⟨y0, y1, y2, n', _, _, t0, t1, t2⟩ := Go.Deep.trod_struct3 Try.underlying38 ht
    simp only [Try.cells22] at t0 t1
    simp only [Try.cells9] at t2
    obtain ⟨z0, e0, _, _⟩ := DataW.trod_int Try.underlying22 t0
    obtain ⟨z1, e1, _, _⟩ := DataW.trod_int Try.underlying22 t1
    obtain ⟨z2, e2, _, hs⟩ := DataW.trod_string Try.underlying9 t2
    simp at e0 e1 e2
    subst e0 e1 e2
    rw [Go.Deep.add_add] at g0 g1 g2
    exact ⟨(z0, z1, z2), g0, g1, g2, hs⟩
  obtain ⟨t0, k0, _⟩ := key 0 (by omega)
  have hspot : a'.spot = none := by simpa [Addr.add] using World.cell?_spot k0
  have hblk : a'.block < W.heap.size := by
    have := block_lt_of_cell k0
    simpa [Addr.add] using this
  obtain ⟨b, off, sp⟩ := a'
  simp only at hspot hblk
  subst hspot
  obtain ⟨f, hf⟩ := Go.Deep.choose_lt key
  refine ⟨fun i => (f i).1, fun i => (f i).2.1, fun i => (f i).2.2, .inr ⟨b, off, rfl, hblk, fun i hi => ?_⟩, fun i hi => (hf i hi).2.2.2⟩
  obtain ⟨q0, q1, q2, _⟩ := hf i hi
  rw [add_plain] at q0 q1 q2
  exact ⟨q0, q1, q2⟩
end Go.Proofs.Qxb6616765a.peers
