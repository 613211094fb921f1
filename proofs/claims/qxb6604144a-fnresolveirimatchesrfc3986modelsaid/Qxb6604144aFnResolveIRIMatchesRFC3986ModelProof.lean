/-
  THE SHELL OF A PROOF OF 'Rows.FnResolveIRIMatchesRFC3986ModelSaid' ('example.com/millrace/millrace/zzlaws_pkg_rdf_b1.FnResolveIRIMatchesRFC3986Model'), WRITTEN BY PROGRAM (proof-skeleton.mjs) off the guide's own print for that function.
  THE HOLE, the walk, IS FILLED, and the frame speaks of 'Below' in the place of 'Grown'. ALL ELSE IS THE GUIDE's TEMPLATE (howto/template/XProofs.lean) at this function's number and types: leave it.
-/
import Derived.Test.Qxb6604144aRows
import Derived.Test.Qxb6604144aRs
import Derived.Test.Qxb6604144aZv
import Derived.Test.Qxb6604144aL4
import Derived.WalkKit
import Derived.Below
import Derived.ProofKit
import Derived.OpenShut
import Derived.ShutString
namespace Go.Proofs.Qxb6604144a.fnResolveIRIMatchesRFC3986Model
open Go.ChangeShapes Go.WideShapes Go.ChangeAt Go.RowKit
open Go.ChangeMaps (open_string shut_string)
set_option linter.unusedVariables false      -- a walk need not use every 'w<i>' (that an integer argument fits its kind)

theorem own : ownKnob Try.prog.godebug = none := by kernel_rfl

set_option maxHeartbeats 1000000 in
/-- The bound on the lengths: it says true or false, and turns nothing. -/
theorem bytes18 (a b : ByteArray) (w : World) (h : a.size ≤ maxLen ∧ b.size ≤ maxLen) :
    Calls Try.prog 18 #[.string a, .string b] w fun e w' => ∃ t : Bool, e = .returned (.bool t) ∧ w' = w := by
  obtain ⟨h1, h2⟩ := h
  unfold maxLen at h1 h2
  go_enter Try.func18, Try.ntmps18
  go_wp2
  all_goals
    go_ret
    first
      | exact ⟨false, rfl, rfl⟩
      | exact ⟨true, rfl, rfl⟩

/-! ### STEP 1: THE WALK: the Go text returns true. 'Grown w w'': the world has at most new blocks (Derived/RowKit3.lean). Part the cases AHEAD of 'go_enter' where a test parts the walk; take each callee by a contract of your own. -/
set_option maxHeartbeats 4000000 in
set_option maxRecDepth 100000 in
theorem walk (a0 : ByteArray) (a1 : ByteArray) (w0 : a0.size ≤ maxLen) (w1 : a1.size ≤ maxLen) (w : World) :
    Calls Try.prog 7 #[.string a0, .string a1] w fun e w' => e = .returned (.bool true) ∧ Below w.heap.size w w' := by
  have HB := Iri.hid (bytes18 a0 a1 w ⟨w0, w1⟩)
  unfold maxLen at w0 w1
  go_enter Try.func7, Try.ntmps7
  go_wp2_with fail
  refine HB.out.mono ?_
  rintro e w' ⟨t, rfl, hww⟩
  rw [hww]
  clear hww w' HB
  cases t
  · go_wp2
    go_ret
    exact ⟨rfl, Below.refl _ _⟩
  by_cases hbig : a0.size ≤ 524288 ∧ a1.size ≤ 524288
  · have k0 : ¬ (524288 : Int) < a0.size := by omega
    have k1 : ¬ (524288 : Int) < a1.size := by omega
    go_wp2_with fail
    refine (Iri.resolve_any a0 a1 w hbig).mono ?_
    rintro e w2 ⟨q, rfl, hq, hb2⟩
    have HB2 := Iri.hid hb2
    have HQ := Iri.hid hq
    clear hq hb2
    go_wp2_with fail
    refine (Iri.zzresolve_any a0 a1 w2 hbig).mono ?_
    rintro e w3 ⟨q3, rfl, hq3, hb3⟩
    have HB3 := Iri.hid (HB2.out.trans (hb3.mono HB2.out.size))
    obtain rfl : q3 = q := Iri.ba_ext (hq3.trans HQ.out.symm)
    clear hb3 HB2
    go_wp2
    go_ret
    first | exact ⟨rfl, HB3.out⟩ | exact ⟨Iri.ret_bool (by first | rfl | simp), HB3.out⟩
  · have hq : (524288 : Int) < a0.size ∨ (¬ (524288 : Int) < a0.size ∧ (524288 : Int) < a1.size) := by omega
    clear hbig
    rcases hq with k | ⟨k0, k⟩
    all_goals
      go_wp2
      go_ret
      exact ⟨rfl, Below.refl _ _⟩

/-! ### THE ROW's STEP: WRITTEN OUT: LEAVE IT -/
set_option maxRecDepth 100000 in
theorem lifted (os : Os) (started : os.Started) (H : Type) (enc : TypeId × Value → H) :
    ReturnsInHanded {} Try.checked os 7 .any (Rows.fnResolveIRIMatchesRFC3986ModelSpec.pre6 enc Try.prog Try.f7 Rows.fnResolveIRIMatchesRFC3986ModelRow.domain false) (Rows.fnResolveIRIMatchesRFC3986ModelSpec.post enc Try.prog Try.f7 false true false false) := by
  refine returnsInHanded_of_change (C := Try.checked) own started (by kernel_rfl) Try.func7
    (ChangeSpec.witness6 (enc := enc) (C := Try.checked) false ⟨#[], #[.string ByteArray.empty, .string ByteArray.empty], []⟩ 8 (by kernel_rfl) (by kernel_rfl) (by kernel_rfl) (by kernel_rfl)) ?_
  intro W base args ds gs before hval0 hW hcnd _
  have hval : ∀ (j : Nat) t v, Try.f7.params[j]? = some t → args[j]? = some v → Value.okWide Try.prog W .any base t v := hval0
  have hW' := hW
  obtain ⟨p, q, hA0, hV, rfl, hfz, hnd⟩ := hW
  have hA : DataW.TrodAll enc Try.prog W 0 (fun _ => true) true Try.f7.params.toList args.toList ds p := hA0
  rw [Try.params7] at hA hval
  obtain ⟨v0, vs0, d0, ds0, p0, q0, hargs, rfl, rfl, h0, r0⟩ := trodAll_cons hA
  obtain ⟨v1, vs1, d1, ds1, p1, q1, rfl, rfl, rfl, h1, r1⟩ := trodAll_cons r0
  obtain ⟨rfl, rfl, rfl⟩ := trodAll_nil r1
  obtain rfl : args = #[v0, v1] := by cases args; simp_all
  obtain ⟨rfl, rfl⟩ := trodVars_none hV
  obtain ⟨a0, rfl, rfl, rfl, w0⟩ := open_string Try.underlying9 (hval 0 9 v0 rfl rfl) h0
  obtain ⟨a1, rfl, rfl, rfl, w1⟩ := open_string Try.underlying9 (hval 1 9 v1 rfl rfl) h1
  clear hA0 hval0
  simp only [List.append_nil] at hW'
  refine (walk a0 a1 w0 w1 W).mono fun e W' ⟨he, hg⟩ => ?_
  subst he
  exact ⟨_, rfl, _, _, _, [], [], [], hW', (trodAll_cons_mk (shut_bool Try.underlying4 _) trodAll_mk0), (trodAll_cons_mk (shut_string Try.underlying9 w0) (trodAll_cons_mk (shut_string Try.underlying9 w1) trodAll_mk0)), rfl, hg.frame _, fun h => by cases h⟩

theorem over : Rows.fnResolveIRIMatchesRFC3986ModelRow.holds Try.pinned (OpenSpec.ofChange Rows.fnResolveIRIMatchesRFC3986ModelSpec) :=
  OpenClaim.holds_of_wide 7 Try.f7 rfl rfl rfl rfl rfl rfl rfl ⟨rfl, rfl, rfl, rfl, rfl⟩ rfl rfl rfl rfl rfl (by kernel_rfl) Try.func7 (by kernel_rfl)
    (of_decide_eq_true (by kernel_rfl)) (by unfold Func.isWrapper; first | (rw [if_pos (by decide +kernel)]; kernel_rfl) | (rw [if_neg (by decide +kernel)]; exact ⟨rfl, rfl⟩))
    (fun os started H enc _ => lifted os started H enc)

/-- ████ THE STATEMENT ████ -/
theorem proved : Rows.FnResolveIRIMatchesRFC3986ModelSaid :=
  over
end Go.Proofs.Qxb6604144a.fnResolveIRIMatchesRFC3986Model
