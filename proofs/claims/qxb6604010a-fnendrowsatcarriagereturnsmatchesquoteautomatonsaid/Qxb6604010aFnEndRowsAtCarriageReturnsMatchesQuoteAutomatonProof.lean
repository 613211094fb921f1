/-
  THE SHELL OF A PROOF OF 'Rows.FnEndRowsAtCarriageReturnsMatchesQuoteAutomatonSaid' ('example.com/rules-to-rulings/rules-to-rulings/zzlaws_policy_b1.FnEndRowsAtCarriageReturnsMatchesQuoteAutomaton'), WRITTEN BY PROGRAM (proof-skeleton.mjs, third state) off the guide's own print for that function.
  THE HOLE, the walk, IS FILLED. ALL ELSE IS THE GUIDE's OWN WAY (howto/template/XProofs.lean; Derived/Test/ChunkProofs.lean for 'Below') at this function's number and types: leave it.
-/
import Derived.Test.Qxb6604010aRows
import Derived.Test.Qxb6604010aWk2
import Derived.Test.Qxb6604010aWk3
import Derived.WalkKit
import Derived.ProofKit
import Derived.OpenShut
import Derived.ShutString
import Derived.ChangeOld
import Derived.Below
namespace Go.Proofs.Qxb6604010a.fnEndRowsAtCarriageReturnsMatchesQuoteAutomaton
open Go.ChangeShapes Go.WideShapes Go.ChangeAt Go.RowKit
open Go.ChangeMaps (open_string shut_string)
set_option linter.unusedVariables false

theorem own : ownKnob Try.prog.godebug = none := by kernel_rfl
theorem laidOut : laidOutB Try.prog = true := by kernel_rfl

/-- WHAT THE WALK IS TOLD OF A SLICE OF INTEGERS THAT CAME IN: it is nil; or it leads to a row of 'cap' cells, the numbers 'zs' (the first 'len' are its elements, the rest its spare room), each fitting its kind. -/
def IsRow (k : IntKind) (w : World) (a : Option Addr) (len cap : Nat) (zs : List Int) : Prop :=
  (a = none ∧ len = 0 ∧ cap = 0 ∧ zs = []) ∨
  ∃ x, a = some x ∧ len ≤ cap ∧ cap ≤ maxLen ∧ zs.length = cap ∧ (∀ i, i < zs.length → w.cell? (x.add i) = some (.int k (zs.getD i 0))) ∧ ∀ n ∈ zs, (Lit.int k n).wf = true

/-! ### STEP 1: THE WALK: the Go text returns true, AND WRITES NOTHING THAT WAS THERE: 'Below w.heap.size w w'' (Derived/Below.lean: '.refl', '.alloc', '.drew', '.setCell' at a new block, '.trans'). Open each 'IsRow' by 'rcases' AHEAD of 'go_enter'; part every test ahead of the walk. -/
set_option maxHeartbeats 1000000 in
set_option maxRecDepth 100000 in
theorem walk (a0 : Option Addr) (len0 cap0 : Nat) (z0 : List Int) (w : World) (w0 : IsRow .u8 w a0 len0 cap0 z0) :
    Calls Try.prog 3 #[.slice a0 len0 cap0] w fun e w' => e = .returned (.bool true) ∧ Below w.heap.size w w' := by
  rcases w0 with ⟨rfl, rfl, rfl, rfl⟩ | ⟨x, rfl, hlc, _, hzl, hcell, hwf⟩
  · go_enter Try.func3, Try.ntmps3
    go_wp2_with fail
    refine (Cr.bytes_ok none 0 0 w (by omega)).mono ?_
    rintro e w' ⟨rfl, rfl⟩
    go_wp2_with fail
    refine (Cr.clone_nil _).mono ?_
    rintro e w' ⟨rfl, rfl⟩
    go_wp2_with fail
    refine (Cr.zzend_nil _).mono ?_
    rintro e w' ⟨rfl, rfl⟩
    go_wp2_with fail
    refine (Cr.model_nil _).mono ?_
    rintro e w' ⟨rfl, rfl⟩
    go_wp2_with fail
    refine (Cr.equal_any none none 0 0 0 0 0 0 0 [] _ (by omega) (fun h => by omega) (fun h => by omega)).mono ?_
    rintro e w' ⟨rfl, hb⟩
    go_wp2
    go_ret
    exact ⟨rfl, hb⟩
  · by_cases hm : len0 ≤ 1048576
    · obtain ⟨zs, hzs⟩ : ∃ zs, zs = z0.take len0 := ⟨_, rfl⟩
      have hz : zs.length = len0 := by rw [hzs, List.length_take]; omega
      have hel : ∀ i, i < len0 → zs[i]?.getD 0 = z0.getD i 0 := fun i hi => by rw [hzs, List.getElem?_take_of_lt hi]; simp
      have hrg : ∀ j : Nat, 0 ≤ zs[j]?.getD 0 ∧ zs[j]?.getD 0 ≤ 255 := range_u8 (fun n hn => hwf n (by rw [hzs] at hn; exact List.mem_of_mem_take hn))
      have hx : 0 < len0 → x = ⟨x.block, x.off, none⟩ := fun h => by
        obtain ⟨b, off, spot⟩ := x
        have hspot : spot = none := by simpa [Addr.add] using World.cell?_spot (hcell 0 (by omega))
        rw [hspot]
      have hc : ∀ i, i < len0 → w.cell? ⟨x.block, x.off + i, none⟩ = some (.int .u8 (zs[i]?.getD 0)) := fun i hi => by
        rw [hel i hi, ← hcell i (by omega)]
        conv => rhs; rw [hx (by omega)]
        rw [add_plain]
      have hb : len0 = 0 ∨ x.block < w.heap.size := by
        by_cases h : len0 = 0
        · exact Or.inl h
        · exact Or.inr (World.block_lt_of_cell? w ⟨x.block, x.off + 0, none⟩ (hc 0 (by omega)))
      clear hcell hwf hzs hel
      have H := Cr.hid (And.intro hz (And.intro hrg (And.intro hx (And.intro hc hb))))
      clear hz hrg hx hc hb
      go_enter Try.func3, Try.ntmps3
      go_wp2_with fail
      refine (Cr.bytes_ok (some x) len0 cap0 w hm).mono ?_
      rintro e w' ⟨rfl, hww⟩
      rw [hww]
      clear hww w'
      go_wp2_with fail
      refine (Cr.clone_any x x.block x.off len0 cap0 H.out.2.2.1 zs _ hm H.out.1 H.out.2.2.2.2 H.out.2.2.2.1).mono ?_
      rintro e w1 ⟨rfl, hr1, hb1, hs1⟩
      go_wp2_with fail
      refine (Cr.zzend_any _ len0 zs w1 hm H.out.1 H.out.2.1 hr1).mono ?_
      rintro e w2 ⟨rfl, hr2, hb2⟩
      have hb12 := hb1.trans hb2
      have hc2 : ∀ i, i < len0 → w2.cell? ⟨x.block, x.off + i, none⟩ = some (.int .u8 (zs[i]?.getD 0)) := fun i hi => by
        rw [hb12.cell (p := ⟨x.block, x.off + i, none⟩) (World.block_lt_of_cell? _ _ (H.out.2.2.2.1 i hi))]; exact H.out.2.2.2.1 i hi
      have hbk : len0 = 0 ∨ x.block < w2.heap.size := by
        rcases H.out.2.2.2.2 with h | h
        · exact Or.inl h
        · exact Or.inr (by have := hb12.size; omega)
      have hs2 : w.heap.size < w2.heap.size := by have := hb2.size; omega
      have H2 := Cr.hid (And.intro hr2 (And.intro hb12 (And.intro hc2 (And.intro hbk hs2))))
      clear hr1 hb1 hs1 hr2 hb2 hb12 hc2 hbk hs2
      go_wp2_with fail
      refine (Cr.model_any x x.block x.off len0 cap0 H.out.2.2.1 zs w2 hm H.out.1 H2.out.2.2.2.1 H2.out.2.2.1).mono ?_
      rintro e w3 ⟨rfl, hr3, hb3⟩
      have hr2' := H2.out.1.below hb3 H2.out.2.2.2.2
      have hl : (Cr.mo zs len0).length = len0 := by rw [Cr.mo_length]; exact H.out.1
      have H3 := Cr.hid (And.intro hr3 (And.intro hb3 (And.intro hr2' hl)))
      clear hr3 hb3 hr2' hl
      go_wp2_with fail
      refine (Cr.equal_any (some ⟨w.heap.size, 0, none⟩) (some ⟨w2.heap.size, 0, none⟩) w.heap.size 0 w2.heap.size 0 len0 len0 len0 (Cr.mo zs len0) w3 hm (fun _ => ⟨rfl, fun i hi => ?_⟩) (fun _ => ⟨rfl, fun i hi => ?_⟩)).mono ?_
      · rw [Nat.zero_add]; exact H3.out.2.2.1.1 i (by rw [H3.out.2.2.2]; exact hi)
      · rw [Nat.zero_add]; exact H3.out.1.1 i (by rw [H3.out.2.2.2]; exact hi)
      rintro e w4 ⟨rfl, hb4⟩
      have hs3 := H2.out.2.1.size
      have hs4 := H3.out.2.1.size
      have hbb : Below w.heap.size w w4 := (H2.out.2.1.trans (H3.out.2.1.mono hs3)).trans (hb4.mono (by omega))
      have HB := Cr.hid hbb
      clear hbb hb4 hs3 hs4
      go_wp2
      go_ret
      exact ⟨rfl, HB.out⟩
    · go_enter Try.func3, Try.ntmps3
      go_wp2_with fail
      refine (Cr.bytes_no (some x) len0 cap0 w (by omega)).mono ?_
      rintro e w' ⟨rfl, hww⟩
      rw [hww]
      clear hww w'
      go_wp2
      go_ret
      exact ⟨rfl, Below.refl _ _⟩

/-! ### THE ROW's STEP: WRITTEN OUT: LEAVE IT -/
set_option maxRecDepth 100000 in
theorem lifted (os : Os) (started : os.Started) (H : Type) (enc : TypeId × Value → H) :
    ReturnsInHanded {} Try.checked os 3 .any (Rows.fnEndRowsAtCarriageReturnsMatchesQuoteAutomatonSpec.pre6 enc Try.prog Try.f3 Rows.fnEndRowsAtCarriageReturnsMatchesQuoteAutomatonRow.domain false) (Rows.fnEndRowsAtCarriageReturnsMatchesQuoteAutomatonSpec.post enc Try.prog Try.f3 false true false false) := by
  refine returnsInHanded_of_change (C := Try.checked) own started (by kernel_rfl) Try.func3
    (ChangeSpec.witness6 (enc := enc) (C := Try.checked) false ⟨#[], #[.slice none 0 0], []⟩ 8 (by kernel_rfl) (by kernel_rfl) (by kernel_rfl) (by kernel_rfl)) ?_
  intro W base args ds gs before hval0 hW hcnd _
  have hval : ∀ (j : Nat) t v, Try.f3.params[j]? = some t → args[j]? = some v → Value.okWide Try.prog W .any base t v := hval0
  have hW' := hW
  obtain ⟨p, q, hA0, hV, rfl, hfz, hnd⟩ := hW
  have hA : DataW.TrodAll enc Try.prog W 0 (fun _ => true) true Try.f3.params.toList args.toList ds p := hA0
  rw [Try.params3] at hA hval
  obtain ⟨v0, vs0, d0, ds0, p0, q0, hargs, rfl, rfl, h0, r0⟩ := trodAll_cons hA
  obtain ⟨rfl, rfl, rfl⟩ := trodAll_nil r0
  obtain rfl : args = #[v0] := by cases args; simp_all
  obtain ⟨rfl, rfl⟩ := trodVars_none hV
  obtain ⟨a0, len0, cap0, rfl⟩ := okWide_slice Try.underlying22 (hval 0 22 v0 rfl rfl)
  have k0 := h0
  have lt0 : ∀ x ∈ p0, x.block < W.heap.size := by obtain ⟨m, hm⟩ := k0; exact DataW.trod_lt m _ _ _ hm
  obtain ⟨z0, w0⟩ : ∃ zs, IsRow .u8 W a0 len0 cap0 zs := by
    obtain ⟨fuel, hf⟩ := h0
    rcases open_ints Try.underlying22 Try.underlying5 (by kernel_rfl) hf with ⟨hcs, _⟩ | ⟨x, l, c, zs, hcs, _, hl, hm, hz, _, hcell, hwz⟩
    · simp [Value.cells] at hcs
      obtain ⟨rfl, rfl, rfl⟩ := hcs
      exact ⟨[], .inl ⟨rfl, rfl, rfl, rfl⟩⟩
    · simp [Value.cells] at hcs
      obtain ⟨rfl, rfl, rfl⟩ := hcs
      exact ⟨zs, .inr ⟨_, rfl, hl, hm, by simpa using hz, hcell, hwz⟩⟩
  clear hA0 hval0
  refine (walk a0 len0 cap0 z0 W w0).mono fun e W' ⟨he, bel⟩ => ?_
  subst he
  exact ⟨_, rfl, _, _, _, [], _, [], hW', trodAll_mk1 (shut_bool Try.underlying4 _), (trodAll_cons_mk (Below.trod laidOut (by kernel_rfl) (of_decide_eq_true (by kernel_rfl)) k0 bel lt0) trodAll_mk0), rfl, bel.frame _, fun h => by cases h⟩

theorem over : Rows.fnEndRowsAtCarriageReturnsMatchesQuoteAutomatonRow.holds Try.pinned (OpenSpec.ofChange Rows.fnEndRowsAtCarriageReturnsMatchesQuoteAutomatonSpec) :=
  OpenClaim.holds_of_wide 3 Try.f3 rfl rfl rfl rfl rfl rfl rfl ⟨rfl, rfl, rfl, rfl, rfl⟩ rfl rfl rfl rfl rfl (by kernel_rfl) Try.func3 (by kernel_rfl)
    (of_decide_eq_true (by kernel_rfl)) (by unfold Func.isWrapper; first | (rw [if_pos (by decide +kernel)]; kernel_rfl) | (rw [if_neg (by decide +kernel)]; exact ⟨rfl, rfl⟩))
    (fun os started H enc _ => lifted os started H enc)

/-- ████ THE STATEMENT ████ -/
theorem proved : Rows.FnEndRowsAtCarriageReturnsMatchesQuoteAutomatonSaid := over

end Go.Proofs.Qxb6604010a.fnEndRowsAtCarriageReturnsMatchesQuoteAutomaton
