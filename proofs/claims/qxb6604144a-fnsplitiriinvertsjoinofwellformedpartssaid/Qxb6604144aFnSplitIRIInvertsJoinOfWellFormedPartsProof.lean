/-
  THE SHELL OF A PROOF OF 'Rows.FnSplitIRIInvertsJoinOfWellFormedPartsSaid' ('example.com/millrace/millrace/zzlaws_pkg_rdf_b1.FnSplitIRIInvertsJoinOfWellFormedParts'), WRITTEN BY PROGRAM (proof-skeleton.mjs) off the guide's own print for that function.
  THE HOLE, the walk, IS FILLED, and the frame speaks of 'Below' in the place of 'Grown'. ALL ELSE IS THE GUIDE's TEMPLATE (howto/template/XProofs.lean) at this function's number and types: leave it.
-/
import Derived.Test.Qxb6604144aRows
import Derived.Test.Qxb6604144aL4
import Derived.Test.Qxb6604144aSt
import Derived.Test.Qxb6604144aWf
import Derived.WalkKit
import Derived.Below
import Derived.ProofKit
import Derived.OpenShut
import Derived.ShutString
namespace Go.Proofs.Qxb6604144a.fnSplitIRIInvertsJoinOfWellFormedParts
open Go.ChangeShapes Go.WideShapes Go.ChangeAt Go.RowKit
open Go.ChangeMaps (open_string shut_string)
set_option linter.unusedVariables false      -- a walk need not use every 'w<i>' (that an integer argument fits its kind)

theorem own : ownKnob Try.prog.godebug = none := by kernel_rfl

set_option maxHeartbeats 1000000 in
/-- The bound on the lengths: where it says true they add up to at most 1048576. -/
theorem bytes16 (a b c d f : ByteArray) (x y z : Bool) (w : World) (h : a.size ≤ maxLen ∧ b.size ≤ maxLen ∧ c.size ≤ maxLen ∧ d.size ≤ maxLen ∧ f.size ≤ maxLen) :
    Calls Try.prog 16 #[.string a, .string b, .string c, .string d, .string f, .bool x, .bool y, .bool z] w fun e w' => ∃ t : Bool, e = .returned (.bool t) ∧ w' = w ∧ (t = true → a.size + b.size + c.size + d.size + f.size ≤ 1048576) := by
  obtain ⟨h1, h2, h3, h4, h5⟩ := h
  unfold maxLen at h1 h2 h3 h4 h5
  go_enter Try.func16, Try.ntmps16
  go_wp2
  all_goals
    go_ret
    first
      | exact ⟨false, rfl, rfl, fun h => by cases h⟩
      | exact ⟨true, rfl, rfl, fun _ => by omega⟩

/-! ### STEP 1: THE WALK: the Go text returns true. 'Grown w w'': the world has at most new blocks (Derived/RowKit3.lean). Part the cases AHEAD of 'go_enter' where a test parts the walk; take each callee by a contract of your own. -/
set_option maxHeartbeats 4000000 in
set_option maxRecDepth 100000 in
theorem walk (a0 : ByteArray) (a1 : ByteArray) (a2 : ByteArray) (a3 : ByteArray) (a4 : ByteArray) (a5 : Bool) (a6 : Bool) (a7 : Bool) (w0 : a0.size ≤ maxLen) (w1 : a1.size ≤ maxLen) (w2 : a2.size ≤ maxLen) (w3 : a3.size ≤ maxLen) (w4 : a4.size ≤ maxLen) (w : World) :
    Calls Try.prog 6 #[.string a0, .string a1, .string a2, .string a3, .string a4, .bool a5, .bool a6, .bool a7] w fun e w' => e = .returned (.bool true) ∧ Below w.heap.size w w' := by
  have HB := Iri.hid (bytes16 a0 a1 a2 a3 a4 a5 a6 a7 w ⟨w0, w1, w2, w3, w4⟩)
  unfold maxLen at w0 w1 w2 w3 w4
  go_enter Try.func6, Try.ntmps6
  go_wp2_with fail
  refine HB.out.mono ?_
  rintro e w' ⟨t, rfl, hww, ht⟩
  rw [hww]
  clear hww w' HB
  cases t
  · clear ht
    go_wp2
    go_ret
    exact ⟨rfl, Below.refl _ _⟩
  have hsum := ht rfl
  clear ht
  by_cases hbig : a0.size ≤ 131072 ∧ a1.size ≤ 131072 ∧ a2.size ≤ 131072 ∧ a3.size ≤ 131072 ∧ a4.size ≤ 131072
  · obtain ⟨s0, s1, s2, s3, s4⟩ := hbig
    have k0 : ¬ (131072 : Int) < a0.size := by omega
    have k1 : ¬ (131072 : Int) < a1.size := by omega
    have k2 : ¬ (131072 : Int) < a2.size := by omega
    have k3 : ¬ (131072 : Int) < a3.size := by omega
    have k4 : ¬ (131072 : Int) < a4.size := by omega
    have HW := Iri.hid (Iri.wellFormed_any a0 a1 a2 a3 a4 a5 a6 a7 w (by omega))
    have HJ := Iri.hid (Iri.zzjoin_any a0 a1 a2 a3 a4 a5 a6 a7 w (by omega))
    go_wp2_with fail
    refine HW.out.mono ?_
    rintro e w' ⟨t, rfl, hww, ht⟩
    rw [hww]
    clear hww w' HW
    cases t
    · clear ht
      go_wp2
      go_ret
      exact ⟨rfl, Below.refl _ _⟩
    have HWF := Iri.hid (ht rfl)
    clear ht
    go_wp2_with fail
    refine HJ.out.mono ?_
    rintro e w5 ⟨r, rfl, h1, hb1⟩
    clear HJ
    have hl1 := Iri.j1_len a0
    have hl2 := Iri.j2_len a5 a1
    have hl4 := Iri.j4_len a6 a3
    have hl5 := Iri.j5_len a7 a4
    have hrs : r.size ≤ 1048576 := by
      rw [Lib.size_eq, h1]
      simp only [List.length_append]
      rw [← Lib.size_eq]
      omega
    have HIS : (Iri.split r.data.toList = ⟨a0.data.toList, a1.data.toList, a2.data.toList, a3.data.toList, a4.data.toList, a5, a6, a7⟩) := by
      have e1 : r.data.toList = Iri.join ⟨a0.data.toList, a1.data.toList, a2.data.toList, a3.data.toList, a4.data.toList, a5, a6, a7⟩ := by
        rw [h1, Iri.join_is (a := a0) (b := a1) (c := a2) (d := a3) (f := a4) (x := a5) (y := a6) (z := a7) ⟨rfl, rfl, rfl, rfl, rfl, rfl, rfl, rfl⟩]
      rw [e1]
      exact Iri.split_join HWF.out
    have HB1 := Iri.hid hb1
    have HS := Iri.hid (Iri.zzsplitIRI_any r w5 hrs)
    clear h1 hb1 hl1 hl2 hl4 hl5 hrs HWF
    go_wp2_with fail
    refine HS.out.mono ?_
    rintro e w6 ⟨b0, b1, b2, b3, b4, b5, b6, b7, rfl, his, hb2⟩
    have his2 := his
    rw [HIS] at his2
    obtain ⟨rfl, rfl, rfl, rfl, rfl, rfl, rfl, rfl⟩ := Iri.Is.eqs (⟨rfl, rfl, rfl, rfl, rfl, rfl, rfl, rfl⟩ : Iri.Is ⟨a0.data.toList, a1.data.toList, a2.data.toList, a3.data.toList, a4.data.toList, a5, a6, a7⟩ a0 a1 a2 a3 a4 a5 a6 a7) his2
    have H2 := Iri.hid (HB1.out.trans (hb2.mono HB1.out.size))
    clear his his2 hb2 HB1 HIS HS
    go_wp2
    go_ret
    exact ⟨Iri.ret_bool (by first | rfl | simp), H2.out⟩
  · have hq : (131072 : Int) < a0.size ∨ (¬ (131072 : Int) < a0.size ∧ (131072 : Int) < a1.size) ∨ (¬ (131072 : Int) < a0.size ∧ ¬ (131072 : Int) < a1.size ∧ (131072 : Int) < a2.size) ∨ (¬ (131072 : Int) < a0.size ∧ ¬ (131072 : Int) < a1.size ∧ ¬ (131072 : Int) < a2.size ∧ (131072 : Int) < a3.size) ∨ (¬ (131072 : Int) < a0.size ∧ ¬ (131072 : Int) < a1.size ∧ ¬ (131072 : Int) < a2.size ∧ ¬ (131072 : Int) < a3.size ∧ (131072 : Int) < a4.size) := by omega
    clear hbig
    rcases hq with k | ⟨k0, k⟩ | ⟨k0, k1, k⟩ | ⟨k0, k1, k2, k⟩ | ⟨k0, k1, k2, k3, k⟩
    all_goals
      go_wp2
      go_ret
      exact ⟨rfl, Below.refl _ _⟩

/-! ### THE ROW's STEP: WRITTEN OUT: LEAVE IT -/
set_option maxRecDepth 100000 in
theorem lifted (os : Os) (started : os.Started) (H : Type) (enc : TypeId × Value → H) :
    ReturnsInHanded {} Try.checked os 6 .any (Rows.fnSplitIRIInvertsJoinOfWellFormedPartsSpec.pre6 enc Try.prog Try.f6 Rows.fnSplitIRIInvertsJoinOfWellFormedPartsRow.domain false) (Rows.fnSplitIRIInvertsJoinOfWellFormedPartsSpec.post enc Try.prog Try.f6 false true false false) := by
  refine returnsInHanded_of_change (C := Try.checked) own started (by kernel_rfl) Try.func6
    (ChangeSpec.witness6 (enc := enc) (C := Try.checked) false ⟨#[], #[.string ByteArray.empty, .string ByteArray.empty, .string ByteArray.empty, .string ByteArray.empty, .string ByteArray.empty, .bool false, .bool false, .bool false], []⟩ 8 (by kernel_rfl) (by kernel_rfl) (by kernel_rfl) (by kernel_rfl)) ?_
  intro W base args ds gs before hval0 hW hcnd _
  have hval : ∀ (j : Nat) t v, Try.f6.params[j]? = some t → args[j]? = some v → Value.okWide Try.prog W .any base t v := hval0
  have hW' := hW
  obtain ⟨p, q, hA0, hV, rfl, hfz, hnd⟩ := hW
  have hA : DataW.TrodAll enc Try.prog W 0 (fun _ => true) true Try.f6.params.toList args.toList ds p := hA0
  rw [Try.params6] at hA hval
  obtain ⟨v0, vs0, d0, ds0, p0, q0, hargs, rfl, rfl, h0, r0⟩ := trodAll_cons hA
  obtain ⟨v1, vs1, d1, ds1, p1, q1, rfl, rfl, rfl, h1, r1⟩ := trodAll_cons r0
  obtain ⟨v2, vs2, d2, ds2, p2, q2, rfl, rfl, rfl, h2, r2⟩ := trodAll_cons r1
  obtain ⟨v3, vs3, d3, ds3, p3, q3, rfl, rfl, rfl, h3, r3⟩ := trodAll_cons r2
  obtain ⟨v4, vs4, d4, ds4, p4, q4, rfl, rfl, rfl, h4, r4⟩ := trodAll_cons r3
  obtain ⟨v5, vs5, d5, ds5, p5, q5, rfl, rfl, rfl, h5, r5⟩ := trodAll_cons r4
  obtain ⟨v6, vs6, d6, ds6, p6, q6, rfl, rfl, rfl, h6, r6⟩ := trodAll_cons r5
  obtain ⟨v7, vs7, d7, ds7, p7, q7, rfl, rfl, rfl, h7, r7⟩ := trodAll_cons r6
  obtain ⟨rfl, rfl, rfl⟩ := trodAll_nil r7
  obtain rfl : args = #[v0, v1, v2, v3, v4, v5, v6, v7] := by cases args; simp_all
  obtain ⟨rfl, rfl⟩ := trodVars_none hV
  obtain ⟨a0, rfl, rfl, rfl, w0⟩ := open_string Try.underlying9 (hval 0 9 v0 rfl rfl) h0
  obtain ⟨a1, rfl, rfl, rfl, w1⟩ := open_string Try.underlying9 (hval 1 9 v1 rfl rfl) h1
  obtain ⟨a2, rfl, rfl, rfl, w2⟩ := open_string Try.underlying9 (hval 2 9 v2 rfl rfl) h2
  obtain ⟨a3, rfl, rfl, rfl, w3⟩ := open_string Try.underlying9 (hval 3 9 v3 rfl rfl) h3
  obtain ⟨a4, rfl, rfl, rfl, w4⟩ := open_string Try.underlying9 (hval 4 9 v4 rfl rfl) h4
  obtain ⟨a5, rfl, rfl, rfl⟩ := open_bool Try.underlying4 (hval 5 4 v5 rfl rfl) h5
  obtain ⟨a6, rfl, rfl, rfl⟩ := open_bool Try.underlying4 (hval 6 4 v6 rfl rfl) h6
  obtain ⟨a7, rfl, rfl, rfl⟩ := open_bool Try.underlying4 (hval 7 4 v7 rfl rfl) h7
  clear hA0 hval0
  simp only [List.append_nil] at hW'
  refine (walk a0 a1 a2 a3 a4 a5 a6 a7 w0 w1 w2 w3 w4 W).mono fun e W' ⟨he, hg⟩ => ?_
  subst he
  exact ⟨_, rfl, _, _, _, [], [], [], hW', (trodAll_cons_mk (shut_bool Try.underlying4 _) trodAll_mk0), (trodAll_cons_mk (shut_string Try.underlying9 w0) (trodAll_cons_mk (shut_string Try.underlying9 w1) (trodAll_cons_mk (shut_string Try.underlying9 w2) (trodAll_cons_mk (shut_string Try.underlying9 w3) (trodAll_cons_mk (shut_string Try.underlying9 w4) (trodAll_cons_mk (shut_bool Try.underlying4 _) (trodAll_cons_mk (shut_bool Try.underlying4 _) (trodAll_cons_mk (shut_bool Try.underlying4 _) trodAll_mk0)))))))), rfl, hg.frame _, fun h => by cases h⟩

theorem over : Rows.fnSplitIRIInvertsJoinOfWellFormedPartsRow.holds Try.pinned (OpenSpec.ofChange Rows.fnSplitIRIInvertsJoinOfWellFormedPartsSpec) :=
  OpenClaim.holds_of_wide 6 Try.f6 rfl rfl rfl rfl rfl rfl rfl ⟨rfl, rfl, rfl, rfl, rfl⟩ rfl rfl rfl rfl rfl (by kernel_rfl) Try.func6 (by kernel_rfl)
    (of_decide_eq_true (by kernel_rfl)) (by unfold Func.isWrapper; first | (rw [if_pos (by decide +kernel)]; kernel_rfl) | (rw [if_neg (by decide +kernel)]; exact ⟨rfl, rfl⟩))
    (fun os started H enc _ => lifted os started H enc)

/-- ████ THE STATEMENT ████ -/
theorem proved : Rows.FnSplitIRIInvertsJoinOfWellFormedPartsSaid :=
  over
end Go.Proofs.Qxb6604144a.fnSplitIRIInvertsJoinOfWellFormedParts
