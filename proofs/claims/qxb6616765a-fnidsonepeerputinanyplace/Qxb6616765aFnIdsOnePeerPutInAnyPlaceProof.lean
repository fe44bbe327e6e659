/-
  THE PROOF OF 'Rows.FnIdsOnePeerPutInAnyPlaceSaid': the frame by hand, after the given shells; the walks: Qxb6616765aPutWalk, Qxb6616765aPutEnd.
-/
import Derived.Test.Qxb6616765aRows
import Derived.WalkKit
import Derived.ProofKit
import Derived.OpenShut
import Derived.ShutString
import Derived.ChangeOld
import Derived.Below
import Derived.Test.Qxb6616765aPutWalk
import Derived.Test.Qxb6616765aPutEnd
import Derived.Test.Qxb6616765aOpenPeers
namespace Go.Proofs.Qxb6616765a.fnIdsOnePeerPutInAnyPlace
open Go.ChangeShapes Go.WideShapes Go.ChangeAt Go.RowKit Go.Proofs.Qxb6616765a.peers
open Go.ChangeMaps (open_string shut_string)
set_option linter.unusedVariables false

theorem own : ownKnob Try.prog.godebug = none := by kernel_rfl
theorem laidOut : laidOutB Try.prog = true := by kernel_rfl

/-- Every input. -/
theorem walk (a : Option Addr) (len cap : Nat) (c hi lo : Int) (s : ByteArray) (H L : Nat → Int) (A : Nat → ByteArray) (w : World) (hp : PeersAt w a len H L A) (hA : ∀ i, i < len → (A i).size ≤ maxLen) (hs : s.size ≤ maxLen) :
    Calls Try.prog 8 #[.slice a len cap, .int .i64 c, .int .u64 hi, .int .u64 lo, .string s] w fun e w' => e = .returned (.bool true) ∧ Below w.heap.size w w' := by
  by_cases ho : 1048576 < len + sumA A len + s.size ∨ (len + sumA A len + s.size ≤ 1048576 ∧ 1048576 < s.size + 32 * len + sumA A len) ∨ (s.size + 32 * len + sumA A len ≤ 1048576 ∧ c < 0) ∨ (s.size + 32 * len + sumA A len ≤ 1048576 ∧ ¬ c < 0 ∧ (len : Int) < c)
  · exact walk_out a len cap c hi lo s H L A w hp hA hs ho
  · obtain ⟨k, rfl⟩ := Int.eq_ofNat_of_zero_le (show 0 ≤ c by omega)
    by_cases hk : k = len
    · subst hk
      exact walk_end a k cap hi lo s H L A w hp (by omega)
    · exact walk_mid a len cap k hi lo s H L A w hp (by omega) (by omega)

set_option maxRecDepth 100000 in
theorem lifted (os : Os) (started : os.Started) (H : Type) (enc : TypeId × Value → H) :
    ReturnsInHanded {} Try.checked os 8 .any (Rows.fnIdsOnePeerPutInAnyPlaceSpec.pre6 enc Try.prog Try.f8 Rows.fnIdsOnePeerPutInAnyPlaceRow.domain false) (Rows.fnIdsOnePeerPutInAnyPlaceSpec.post enc Try.prog Try.f8 false true false false) := by
  refine returnsInHanded_of_change (C := Try.checked) own started (by kernel_rfl) Try.func8
    (ChangeSpec.witness6 (enc := enc) (C := Try.checked) false ⟨#[], #[.slice none 0 0, .int .i64 0, .int .u64 0, .int .u64 0, .string ByteArray.empty], []⟩ 8 (by kernel_rfl) (by kernel_rfl) (by kernel_rfl) (by kernel_rfl)) ?_
  intro W base args ds gs before hval0 hW hcnd _
  have hval : ∀ (j : Nat) t v, Try.f8.params[j]? = some t → args[j]? = some v → Value.okWide Try.prog W .any base t v := hval0
  have hW' := hW
  obtain ⟨p, q, hA0, hV, rfl, hfz, hnd⟩ := hW
  have hA : DataW.TrodAll enc Try.prog W 0 (fun _ => true) true Try.f8.params.toList args.toList ds p := hA0
  rw [Try.params8] at hA hval
  obtain ⟨v0, vs0, d0, ds0, p0, q0, hargs, rfl, rfl, h0, r0⟩ := trodAll_cons hA
  obtain ⟨v1, vs1, d1, ds1, p1, q1, rfl, rfl, rfl, h1, r1⟩ := trodAll_cons r0
  obtain ⟨v2, vs2, d2, ds2, p2, q2, rfl, rfl, rfl, h2, r2⟩ := trodAll_cons r1
  obtain ⟨v3, vs3, d3, ds3, p3, q3, rfl, rfl, rfl, h3, r3⟩ := trodAll_cons r2
  obtain ⟨v4, vs4, d4, ds4, p4, q4, rfl, rfl, rfl, h4, r4⟩ := trodAll_cons r3
  obtain ⟨rfl, rfl, rfl⟩ := trodAll_nil r4
  obtain rfl : args = #[v0, v1, v2, v3, v4] := by cases args; simp_all
  obtain ⟨rfl, rfl⟩ := trodVars_none hV
  obtain ⟨a0, len0, cap0, rfl⟩ := okWide_slice Try.underlying31 (hval 0 31 v0 rfl rfl)
  have k0 := h0
  have lt0 : ∀ x ∈ p0, x.block < W.heap.size := by obtain ⟨m, hm⟩ := k0; exact DataW.trod_lt m _ _ _ hm
  obtain ⟨Hh, Ll, Aa, w0, wA⟩ : ∃ (H L : Nat → Int) (A : Nat → ByteArray), PeersAt W a0 len0 H L A ∧ ∀ i, i < len0 → (A i).size ≤ maxLen := by
    obtain ⟨fuel, hf⟩ := h0
    exact open_peers (by simpa [Value.cells] using hf)
  obtain ⟨a1, rfl, rfl, rfl, w1⟩ := open_int Try.underlying3 (hval 1 3 v1 rfl rfl) h1
  obtain ⟨a2, rfl, rfl, rfl, w2⟩ := open_int Try.underlying22 (hval 2 22 v2 rfl rfl) h2
  obtain ⟨a3, rfl, rfl, rfl, w3⟩ := open_int Try.underlying22 (hval 3 22 v3 rfl rfl) h3
  obtain ⟨a4, rfl, rfl, rfl, w4⟩ := open_string Try.underlying9 (hval 4 9 v4 rfl rfl) h4
  clear hA0 hval0
  refine (walk a0 len0 cap0 a1 a2 a3 a4 Hh Ll Aa W w0 wA w4).mono fun e W' ⟨he, bel⟩ => ?_
  subst he
  exact ⟨_, rfl, _, _, _, [], _, [], hW', trodAll_mk1 (shut_bool Try.underlying4 _), (trodAll_cons_mk (Below.trod laidOut (by kernel_rfl) (of_decide_eq_true (by kernel_rfl)) k0 bel lt0) (trodAll_cons_mk (shut_int Try.underlying3 w1) (trodAll_cons_mk (shut_int Try.underlying22 w2) (trodAll_cons_mk (shut_int Try.underlying22 w3) (trodAll_cons_mk (shut_string Try.underlying9 w4) trodAll_mk0))))), rfl, bel.frame _, fun h => by cases h⟩

theorem over : Rows.fnIdsOnePeerPutInAnyPlaceRow.holds Try.pinned (OpenSpec.ofChange Rows.fnIdsOnePeerPutInAnyPlaceSpec) :=
  OpenClaim.holds_of_wide 8 Try.f8 rfl rfl rfl rfl rfl rfl rfl ⟨rfl, rfl, rfl, rfl, rfl⟩ rfl rfl rfl rfl rfl (by kernel_rfl) Try.func8 (by kernel_rfl)
    (of_decide_eq_true (by kernel_rfl)) (by unfold Func.isWrapper; first | (rw [if_pos (by decide +kernel)]; kernel_rfl) | (rw [if_neg (by decide +kernel)]; exact ⟨rfl, rfl⟩))
    (fun os started H enc _ => lifted os started H enc)

/-- THE STATEMENT -/
theorem proved : Rows.FnIdsOnePeerPutInAnyPlaceSaid := over
#print axioms proved
end Go.Proofs.Qxb6616765a.fnIdsOnePeerPutInAnyPlace
