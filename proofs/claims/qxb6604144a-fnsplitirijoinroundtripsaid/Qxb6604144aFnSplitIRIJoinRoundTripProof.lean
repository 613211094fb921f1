/-
  THE SHELL OF A PROOF OF 'Rows.FnSplitIRIJoinRoundTripSaid' ('example.com/millrace/millrace/zzlaws_pkg_rdf_b1.FnSplitIRIJoinRoundTrip'), WRITTEN BY PROGRAM (proof-skeleton.mjs) off the guide's own print for that function.
  THE HOLE, the walk, IS FILLED, and the frame speaks of 'Below' in the place of 'Grown'. ALL ELSE IS THE GUIDE's TEMPLATE (howto/template/XProofs.lean) at this function's number and types: leave it.
-/
import Derived.Test.Qxb6604144aRows
import Derived.Test.Qxb6604144aL4
import Derived.Test.Qxb6604144aSt
import Derived.Test.Qxb6604144aSl
import Derived.WalkKit
import Derived.Below
import Derived.ProofKit
import Derived.OpenShut
import Derived.ShutString
namespace Go.Proofs.Qxb6604144a.fnSplitIRIJoinRoundTrip
open Go.ChangeShapes Go.WideShapes Go.ChangeAt Go.RowKit
open Go.ChangeMaps (open_string shut_string)
set_option linter.unusedVariables false      -- a walk need not use every 'w<i>' (that an integer argument fits its kind)

theorem own : ownKnob Try.prog.godebug = none := by kernel_rfl

/-! ### STEP 1: THE WALK: the Go text returns true. 'Grown w w'': the world has at most new blocks (Derived/RowKit3.lean). Part the cases AHEAD of 'go_enter' where a test parts the walk; take each callee by a contract of your own. -/
set_option maxHeartbeats 2000000 in
set_option maxRecDepth 100000 in
theorem walk (a0 : ByteArray) (w0 : a0.size ≤ maxLen) (w : World) :
    Calls Try.prog 5 #[.string a0] w fun e w' => e = .returned (.bool true) ∧ Below w.heap.size w w' := by
  by_cases hm : a0.size ≤ 1048576
  · go_enter Try.func5, Try.ntmps5
    go_wp2_with fail
    refine (Iri.bytes14_ok a0 w hm).mono ?_
    rintro e w' ⟨rfl, hww⟩
    rw [hww]
    clear hww w'
    go_wp2_with fail
    refine (Iri.zzsplitIRI_any a0 w hm).mono ?_
    rintro e w1 ⟨a, b, c, d, f, x, y, z, rfl, his, hb1⟩
    have hl := Iri.split_len a0.data.toList
    have hj := Iri.join_split a0.data.toList
    rw [Iri.join_is his] at hj
    obtain ⟨i1, i2, i3, i4, i5, _, _, _⟩ := his
    rw [i1, i2, i3, i4, i5, ← Lib.size_eq, ← Lib.size_eq, ← Lib.size_eq, ← Lib.size_eq, ← Lib.size_eq, ← Lib.size_eq] at hl
    have H1 := Iri.hid (And.intro hj hb1)
    clear i1 i2 i3 i4 i5 hb1 hj
    have HC := Iri.hid (Iri.zzjoin_any a b c d f x y z w1 (by omega))
    clear hl
    go_wp2_with fail
    refine HC.out.mono ?_
    rintro e w2 ⟨r, rfl, h1, hb2⟩
    obtain rfl : r = a0 := Iri.ba_ext (h1.trans H1.out.1)
    have H2 := Iri.hid (H1.out.2.trans (hb2.mono H1.out.2.size))
    clear h1 hb2 H1 HC
    go_wp2
    go_ret
    exact ⟨Iri.ret_bool (by first | rfl | simp), H2.out⟩
  · go_enter Try.func5, Try.ntmps5
    go_wp2_with fail
    refine (Iri.bytes14_no a0 w (by omega)).mono ?_
    rintro e w' ⟨rfl, hww⟩
    rw [hww]
    clear hww w'
    go_wp2
    go_ret
    exact ⟨rfl, Below.refl _ _⟩

/-! ### THE ROW's STEP: WRITTEN OUT: LEAVE IT -/
set_option maxRecDepth 100000 in
theorem lifted (os : Os) (started : os.Started) (H : Type) (enc : TypeId × Value → H) :
    ReturnsInHanded {} Try.checked os 5 .any (Rows.fnSplitIRIJoinRoundTripSpec.pre6 enc Try.prog Try.f5 Rows.fnSplitIRIJoinRoundTripRow.domain false) (Rows.fnSplitIRIJoinRoundTripSpec.post enc Try.prog Try.f5 false true false false) := by
  refine returnsInHanded_of_change (C := Try.checked) own started (by kernel_rfl) Try.func5
    (ChangeSpec.witness6 (enc := enc) (C := Try.checked) false ⟨#[], #[.string ByteArray.empty], []⟩ 8 (by kernel_rfl) (by kernel_rfl) (by kernel_rfl) (by kernel_rfl)) ?_
  intro W base args ds gs before hval0 hW hcnd _
  have hval : ∀ (j : Nat) t v, Try.f5.params[j]? = some t → args[j]? = some v → Value.okWide Try.prog W .any base t v := hval0
  have hW' := hW
  obtain ⟨p, q, hA0, hV, rfl, hfz, hnd⟩ := hW
  have hA : DataW.TrodAll enc Try.prog W 0 (fun _ => true) true Try.f5.params.toList args.toList ds p := hA0
  rw [Try.params5] at hA hval
  obtain ⟨v0, vs0, d0, ds0, p0, q0, hargs, rfl, rfl, h0, r0⟩ := trodAll_cons hA
  obtain ⟨rfl, rfl, rfl⟩ := trodAll_nil r0
  obtain rfl : args = #[v0] := by cases args; simp_all
  obtain ⟨rfl, rfl⟩ := trodVars_none hV
  obtain ⟨a0, rfl, rfl, rfl, w0⟩ := open_string Try.underlying9 (hval 0 9 v0 rfl rfl) h0
  clear hA0 hval0
  simp only [List.append_nil] at hW'
  refine (walk a0 w0 W).mono fun e W' ⟨he, hg⟩ => ?_
  subst he
  exact ⟨_, rfl, _, _, _, [], [], [], hW', trodAll_mk1 (shut_bool Try.underlying4 _), (trodAll_cons_mk (shut_string Try.underlying9 w0) trodAll_mk0), rfl, hg.frame _, fun h => by cases h⟩

theorem over : Rows.fnSplitIRIJoinRoundTripRow.holds Try.pinned (OpenSpec.ofChange Rows.fnSplitIRIJoinRoundTripSpec) :=
  OpenClaim.holds_of_wide 5 Try.f5 rfl rfl rfl rfl rfl rfl rfl ⟨rfl, rfl, rfl, rfl, rfl⟩ rfl rfl rfl rfl rfl (by kernel_rfl) Try.func5 (by kernel_rfl)
    (of_decide_eq_true (by kernel_rfl)) (by unfold Func.isWrapper; first | (rw [if_pos (by decide +kernel)]; kernel_rfl) | (rw [if_neg (by decide +kernel)]; exact ⟨rfl, rfl⟩))
    (fun os started H enc _ => lifted os started H enc)

/-- ████ THE STATEMENT ████ -/
theorem proved : Rows.FnSplitIRIJoinRoundTripSaid :=
  over
end Go.Proofs.Qxb6604144a.fnSplitIRIJoinRoundTrip
