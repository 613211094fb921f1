/-
  THE SHELL OF A PROOF OF 'Rows.FnFoldFromShiftsByPlainPrefixAndIgnoresLaterTextSaid' ('example.com/thatch/thatch/zzlaws_function_b1.FnFoldFromShiftsByPlainPrefixAndIgnoresLaterText'), WRITTEN BY PROGRAM (proof-skeleton.mjs) off the guide's own print for that function.
  THE HOLE, the walk, IS FILLED, and the frame speaks of 'Below' in the place of 'Grown'. ALL ELSE IS THE GUIDE's TEMPLATE (howto/template/XProofs.lean) at this function's number and types: leave it.
-/
import Derived.Test.Qxb6604457aRows
import Derived.Test.Qxb6604457aWa
import Derived.WalkKit
import Derived.Below
import Derived.HandedShaped
import Derived.ProofKit
import Derived.OpenShut
import Derived.ShutString
namespace Go.Proofs.Qxb6604457a.fnFoldFromShiftsByPlainPrefixAndIgnoresLaterText
open Go.ChangeShapes Go.WideShapes Go.ChangeAt Go.RowKit
open Go.ChangeMaps (open_string shut_string)
set_option linter.unusedVariables false      -- a walk need not use every 'w<i>' (that an integer argument fits its kind)

theorem own : ownKnob Try.prog.godebug = none := by kernel_rfl

set_option maxHeartbeats 1000000 in
/-- The bound on the lengths: where it says true they add up to at most 1048576. -/
theorem bytes8 (a b c : ByteArray) (w : World) (h : a.size ≤ maxLen ∧ b.size ≤ maxLen ∧ c.size ≤ maxLen) :
    Calls Try.prog 8 #[.string a, .string b, .string c] w fun e w' => ∃ t : Bool, e = .returned (.bool t) ∧ w' = w ∧ (t = true → a.size + b.size + c.size ≤ 1048576) := by
  obtain ⟨h1, h2, h3⟩ := h
  unfold maxLen at h1 h2 h3
  go_enter Try.func8, Try.ntmps8
  go_wp2
  all_goals
    go_ret
    first
      | exact ⟨false, rfl, rfl, fun h => by cases h⟩
      | exact ⟨true, rfl, rfl, fun _ => by omega⟩

set_option maxHeartbeats 2000000 in
/-- Where no place is good there is no "(?i". -/
theorem lit_any (s : ByteArray) (w : World) (hm : s.size ≤ 1048576) (hn : ∀ p, ¬ Fo.good s.data.toList p) :
    Calls Try.prog 9 #[.string s] w fun e w' => e = .returned (.bool false) ∧ w' = w := by
  have HN := Fo.hid hn
  clear hn
  go_enter Try.func9, Try.ntmps9
  go_wp2
  go_loop [3] (fun v => ∃ i : Nat, i ≤ s.size ∧ v = .int .i64 i) (fun v => s.size - (intOf v).toNat)
  case atStart => exact ⟨0, by omega, by go_num⟩
  case round =>
    obtain ⟨i, hi, rfl⟩ := hrel
    by_cases hlt : i + 2 < s.size
    · have z1 : (i : Int) + 2 < s.size := by omega
      have hl1 : i + 1 < s.size := by omega
      have hl0 : i < s.size := by omega
      have z2 : (i : Int) + 1 < s.size := by omega
      have z3 : (i : Int) < s.size := by omega
      obtain ⟨x, hx⟩ : ∃ x, s[i] = x := ⟨_, rfl⟩
      obtain ⟨y, hy⟩ : ∃ y, s[i + 1] = y := ⟨_, rfl⟩
      obtain ⟨z, hz⟩ : ∃ z, s[i + 2] = z := ⟨_, rfl⟩
      have HX := Fo.hid (Lib.data_getElem? s i hl0)
      rw [hx] at HX
      have HY := Fo.hid (Lib.data_getElem? s (i + 1) hl1)
      rw [hy] at HY
      have HZ := Fo.hid (Lib.data_getElem? s (i + 2) hlt)
      rw [hz] at HZ
      have q1 : ((x.toNat : Int) == 40) = (x == 40) := Fo.eqN x 40
      have q2 : ((y.toNat : Int) == 63) = (y == 63) := Fo.eqN y 63
      have q3 : ((z.toNat : Int) == 105) = (z == 105) := Fo.eqN z 105
      cases e1 : (x == 40)
      · rw [e1] at q1
        clear e1 q2 q3
        go_wp2
        go_round
        case rel => exact ⟨i + 1, by omega, by go_num⟩
        case measure => simp [intOf]; omega
      · rw [e1] at q1
        cases e2 : (y == 63)
        · rw [e2] at q2
          clear e1 e2 q3
          go_wp2
          go_round
          case rel => exact ⟨i + 1, by omega, by go_num⟩
          case measure => simp [intOf]; omega
        · rw [e2] at q2
          cases e3 : (z == 105)
          · rw [e3] at q3
            clear e1 e2 e3
            go_wp2
            go_round
            case rel => exact ⟨i + 1, by omega, by go_num⟩
            case measure => simp [intOf]; omega
          · have f1 := eq_of_beq e1
            have f2 := eq_of_beq e2
            have f3 := eq_of_beq e3
            subst f1 f2 f3
            exact (HN.out i (Fo.lit_good HX.out HY.out HZ.out)).elim
    · have z1 : ¬ (i : Int) + 2 < s.size := by omega
      go_wp2
      go_ret
      exact ⟨rfl, rfl⟩

theorem data_app (a b : ByteArray) : (a ++ b).data.toList = a.data.toList ++ b.data.toList := by
  simp [ByteArray.data_append]

/-- The three answers. -/
theorem two {a b : ByteArray} {r : Nat} (ha : (40 : UInt8) ∉ a.data.toList) (h : Fo.FF b.data.toList r) : Fo.FF (a ++ b).data.toList (a.size + r) := by
  rw [data_app, Lib.size_eq]
  exact h.shift ha
theorem three {a b c : ByteArray} {r : Nat} (ha : (40 : UInt8) ∉ a.data.toList) (h : Fo.FF b.data.toList r) (hr : r < b.size) : Fo.FF (a ++ b ++ c).data.toList (a.size + r) := by
  rw [data_app, data_app, Lib.size_eq, List.append_assoc]
  exact (h.suffix (by rw [Lib.size_eq] at hr; exact hr)).shift ha

/-! ### STEP 1: THE WALK: the Go text returns true. 'Grown w w'': the world has at most new blocks (Derived/RowKit3.lean). Part the cases AHEAD of 'go_enter' where a test parts the walk; take each callee by a contract of your own. -/
set_option maxHeartbeats 4000000 in
set_option maxRecDepth 100000 in
theorem walk (a0 : ByteArray) (a1 : ByteArray) (a2 : ByteArray) (w0 : a0.size ≤ maxLen) (w1 : a1.size ≤ maxLen) (w2 : a2.size ≤ maxLen) (w : World) (hsh : w.ShapedOpen Try.prog) :
    Calls Try.prog 4 #[.string a0, .string a1, .string a2] w fun e w' => e = .returned (.bool true) ∧ Below w.heap.size w w' := by
  have HB := Fo.hid (bytes8 a0 a1 a2 w ⟨w0, w1, w2⟩)
  have HSH := Fo.hid hsh
  clear hsh
  unfold maxLen at w0 w1 w2
  go_enter Try.func4, Try.ntmps4
  go_wp2_with fail
  refine HB.out.mono ?_
  rintro e w' ⟨t, rfl, hww, ht⟩
  rw [hww]
  clear hww w' HB
  cases t
  · clear ht
    go_wp2
    go_ret
    exact ⟨rfl, Below.refl _ _⟩
  have hsum := ht rfl
  clear ht
  by_cases hbig : a0.size ≤ 262144 ∧ a1.size ≤ 262144 ∧ a2.size ≤ 262144
  · obtain ⟨s0, s1, s2⟩ := hbig
    have k0 : ¬ (262144 : Int) < a0.size := by omega
    have k1 : ¬ (262144 : Int) < a1.size := by omega
    have k2 : ¬ (262144 : Int) < a2.size := by omega
    go_wp2
    go_loop [7] (fun v => ∃ i : Nat, i ≤ a0.size ∧ v = .int .i64 i ∧ (40 : UInt8) ∉ a0.data.toList.take i) (fun v => a0.size - (intOf v).toNat)
    case atStart => exact ⟨0, by omega, by go_num, by simp⟩
    case round =>
      obtain ⟨i, hi, rfl, hno⟩ := hrel
      have HNO := Fo.hid hno
      clear hno
      by_cases hlt : i < a0.size
      · have z1 : (i : Int) < a0.size := by omega
        obtain ⟨x, hx⟩ : ∃ x, a0[i] = x := ⟨_, rfl⟩
        have HX := Fo.hid (Lib.data_getElem? a0 i hlt)
        rw [hx] at HX
        have q1 : ((x.toNat : Int) == 40) = (x == 40) := Fo.eqN x 40
        have q2 : ((x.toNat : Int) == 63) = (x == 63) := Fo.eqN x 63
        cases e1 : (x == 40)
        · rw [e1] at q1
          have H2 : Hid ((40 : UInt8) ∉ a0.data.toList.take (i + 1)) := by
            have hl : i < a0.data.toList.length := by rw [← Lib.size_eq]; exact hlt
            rw [List.take_succ_eq_append_getElem hl]
            have h3 := HX.out
            rw [List.getElem?_eq_getElem hl] at h3
            rw [Option.some.inj h3]
            intro hm
            rcases List.mem_append.1 hm with h | h
            · exact HNO.out h
            · simp only [List.mem_singleton] at h
              rw [← h] at e1
              exact absurd e1 (by decide)
          cases e2 : (x == 63)
          · rw [e2] at q2
            clear e1 e2
            go_wp2
            go_round
            case rel => exact ⟨i + 1, by omega, by go_num, H2.out⟩
            case measure => simp [intOf]; omega
          · rw [e2] at q2
            clear e1 e2
            go_wp2
            go_ret
            exact ⟨rfl, Below.refl _ _⟩
        · rw [e1] at q1
          clear e1 q2
          go_wp2
          go_ret
          exact ⟨rfl, Below.refl _ _⟩
      · have z1 : ¬ (i : Int) < a0.size := by omega
        have HP : Hid ((40 : UInt8) ∉ a0.data.toList) := by
          have h3 := HNO.out
          rw [List.take_of_length_le (by rw [← Lib.size_eq]; omega)] at h3
          exact h3
        clear HNO hlt hi
        go_wp2_with fail
        refine (Fo.zzfold_any a1 w HSH.out (by omega)).mono ?_
        rintro e w' ⟨r, rfl, h1, hww⟩
        rw [hww]
        have HF := Fo.hid h1
        clear hww w'
        have hsz : (a0 ++ a1).size = a0.size + a1.size := ByteArray.size_append
        by_cases hr : r = a1.size
        · have hn : ∀ p, ¬ Fo.good a1.data.toList p := by
            rcases h1 with ⟨h, _⟩ | ⟨_, h⟩
            · rw [← Lib.size_eq] at h; omega
            · exact h
          have HL := Fo.hid (lit_any a1 w (by omega) hn)
          clear h1 hn
          subst hr
          go_wp2_with fail
          refine HL.out.mono ?_
          rintro e w' ⟨rfl, hww⟩
          rw [hww]
          clear hww w' HL
          go_wp2_with fail
          refine (Fo.zzfold_any _ w HSH.out (by omega)).mono ?_
          rintro e w' ⟨r2, rfl, h2, hww⟩
          obtain rfl : r2 = a0.size + a1.size := h2.unique (two HP.out HF.out)
          rw [hww]
          clear hww w' h2
          go_wp2
          go_ret
          exact ⟨rfl, Below.refl _ _⟩
        · have hg : r < a1.size ∧ Fo.good a1.data.toList r := by
            rcases h1 with ⟨h, hg, _⟩ | ⟨h, _⟩
            · rw [← Lib.size_eq] at h; exact ⟨h, hg⟩
            · rw [← Lib.size_eq] at h; exact absurd h hr
          obtain ⟨hlt, hg⟩ := hg
          have hg1 := Fo.good_lt hg
          rw [← Lib.size_eq] at hg1
          obtain ⟨x, hx⟩ : ∃ x, a1[r] = x := ⟨_, rfl⟩
          obtain ⟨y, hy⟩ : ∃ y, a1[r + 1] = y := ⟨_, rfl⟩
          have hX := Lib.data_getElem? a1 r hlt
          have hY := Lib.data_getElem? a1 (r + 1) hg1
          rw [hg.1, hx] at hX
          rw [hg.2.1, hy] at hY
          have q1 : ((x.toNat : Int) != 40) = false := by rw [← Option.some.inj hX]; rfl
          have q2 : ((y.toNat : Int) != 63) = false := by rw [← Option.some.inj hY]; rfl
          clear h1 hg hX hY
          have z2 : ¬ (r : Int) = a1.size := by omega
          have z3 : ¬ (a1.size : Int) < (r : Int) + 2 := by omega
          have z4 : ¬ (r : Int) < 0 := by omega
          have z5 : (r : Int) < a1.size := by omega
          have z6 : (r : Int) + 1 < a1.size := by omega
          have z7 : ((r : Int) == a1.size) = false := by simpa using z2
          clear hr
          go_wp2_with fail
          refine (Fo.zzfold_any _ w HSH.out (by omega)).mono ?_
          rintro e w' ⟨r2, rfl, h2, hww⟩
          obtain rfl : r2 = a0.size + r := h2.unique (two HP.out HF.out)
          rw [hww]
          clear hww w' h2
          go_wp2_with fail
          have hsz2 : (a0 ++ a1 ++ a2).size = a0.size + a1.size + a2.size := by rw [ByteArray.size_append, ByteArray.size_append]
          refine (Fo.zzfold_any _ w HSH.out (by omega)).mono ?_
          rintro e w' ⟨r2, rfl, h2, hww⟩
          obtain rfl : r2 = a0.size + r := h2.unique (three HP.out HF.out hlt)
          rw [hww]
          clear hww w' h2
          go_wp2
          go_ret
          exact ⟨rfl, Below.refl _ _⟩
  · have hq : (262144 : Int) < a0.size ∨ (¬ (262144 : Int) < a0.size ∧ (262144 : Int) < a1.size) ∨ (¬ (262144 : Int) < a0.size ∧ ¬ (262144 : Int) < a1.size ∧ (262144 : Int) < a2.size) := by omega
    clear hbig
    rcases hq with k | ⟨k0, k⟩ | ⟨k0, k1, k⟩
    all_goals
      go_wp2
      go_ret
      exact ⟨rfl, Below.refl _ _⟩

/-! ### THE ROW's STEP: WRITTEN OUT: LEAVE IT -/
set_option maxRecDepth 100000 in
theorem lifted (os : Os) (started : os.Started) (H : Type) (enc : TypeId × Value → H) :
    ReturnsInHanded {} Try.checked os 4 .any (Rows.fnFoldFromShiftsByPlainPrefixAndIgnoresLaterTextSpec.pre6 enc Try.prog Try.f4 Rows.fnFoldFromShiftsByPlainPrefixAndIgnoresLaterTextRow.domain false) (Rows.fnFoldFromShiftsByPlainPrefixAndIgnoresLaterTextSpec.post enc Try.prog Try.f4 false true false false) := by
  refine returnsInHanded_of_change_shaped (C := Try.checked) own started (by kernel_rfl) Try.func4
    (ChangeSpec.witness6 (enc := enc) (C := Try.checked) false ⟨#[], #[.string ByteArray.empty, .string ByteArray.empty, .string ByteArray.empty], []⟩ 8 (by kernel_rfl) (by kernel_rfl) (by kernel_rfl) (by kernel_rfl)) ?_
  intro W base args ds gs before hval0 hW hcnd _ hsh _
  have hval : ∀ (j : Nat) t v, Try.f4.params[j]? = some t → args[j]? = some v → Value.okWide Try.prog W .any base t v := hval0
  have hW' := hW
  obtain ⟨p, q, hA0, hV, rfl, hfz, hnd⟩ := hW
  have hA : DataW.TrodAll enc Try.prog W 0 (fun _ => true) true Try.f4.params.toList args.toList ds p := hA0
  rw [Try.params4] at hA hval
  obtain ⟨v0, vs0, d0, ds0, p0, q0, hargs, rfl, rfl, h0, r0⟩ := trodAll_cons hA
  obtain ⟨v1, vs1, d1, ds1, p1, q1, rfl, rfl, rfl, h1, r1⟩ := trodAll_cons r0
  obtain ⟨v2, vs2, d2, ds2, p2, q2, rfl, rfl, rfl, h2, r2⟩ := trodAll_cons r1
  obtain ⟨rfl, rfl, rfl⟩ := trodAll_nil r2
  obtain rfl : args = #[v0, v1, v2] := by cases args; simp_all
  obtain ⟨rfl, rfl⟩ := trodVars_none hV
  obtain ⟨a0, rfl, rfl, rfl, w0⟩ := open_string Try.underlying9 (hval 0 9 v0 rfl rfl) h0
  obtain ⟨a1, rfl, rfl, rfl, w1⟩ := open_string Try.underlying9 (hval 1 9 v1 rfl rfl) h1
  obtain ⟨a2, rfl, rfl, rfl, w2⟩ := open_string Try.underlying9 (hval 2 9 v2 rfl rfl) h2
  clear hA0 hval0
  simp only [List.append_nil] at hW'
  refine (walk a0 a1 a2 w0 w1 w2 W hsh).mono fun e W' ⟨he, hg⟩ => ?_
  subst he
  exact ⟨_, rfl, _, _, _, [], [], [], hW', (trodAll_cons_mk (shut_bool Try.underlying4 _) trodAll_mk0), (trodAll_cons_mk (shut_string Try.underlying9 w0) (trodAll_cons_mk (shut_string Try.underlying9 w1) (trodAll_cons_mk (shut_string Try.underlying9 w2) trodAll_mk0))), rfl, hg.frame _, fun h => by cases h⟩

theorem over : Rows.fnFoldFromShiftsByPlainPrefixAndIgnoresLaterTextRow.holds Try.pinned (OpenSpec.ofChange Rows.fnFoldFromShiftsByPlainPrefixAndIgnoresLaterTextSpec) :=
  OpenClaim.holds_of_wide 4 Try.f4 rfl rfl rfl rfl rfl rfl rfl ⟨rfl, rfl, rfl, rfl, rfl⟩ rfl rfl rfl rfl rfl (by kernel_rfl) Try.func4 (by kernel_rfl)
    (of_decide_eq_true (by kernel_rfl)) (by unfold Func.isWrapper; first | (rw [if_pos (by decide +kernel)]; kernel_rfl) | (rw [if_neg (by decide +kernel)]; exact ⟨rfl, rfl⟩))
    (fun os started H enc _ => lifted os started H enc)

/-- ████ THE STATEMENT ████ -/
theorem proved : Rows.FnFoldFromShiftsByPlainPrefixAndIgnoresLaterTextSaid :=
  over
end Go.Proofs.Qxb6604457a.fnFoldFromShiftsByPlainPrefixAndIgnoresLaterText
