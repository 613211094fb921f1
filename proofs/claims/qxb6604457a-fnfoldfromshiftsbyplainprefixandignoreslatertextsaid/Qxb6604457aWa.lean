/-
  THE WALKS of foldFrom (10), ZZfoldFrom (6), isFoldFlagFB1 (11), firstFoldingGroupFB1 (7), hasOpenFoldLiteralFB1 (9), each by a contract.
-/
import Derived.Test.Qxb6604457aPl
import Derived.Test.Qxb6604457aShelf
import Derived.WalkKit
import Derived.WalkSpells
import Derived.WalkSmall
import Derived.Below
import Derived.Outline
import Derived.Deep.RegionWith
namespace Go.Proofs.Qxb6604457a.Fo
open Go.RowKit

theorem hid {p : Prop} (h : p) : Hid p := h
theorem ret_bool {a b : Bool} (h : a = b) : Ending.returned (.bool a) = .returned (.bool b) := by rw [h]
theorem ret_int {a b : Int} (h : a = b) : Ending.returned (.int .i64 a) = .returned (.int .i64 b) := by rw [h]

theorem neN (x c : UInt8) : ((x.toNat : Int) != (c.toNat : Int)) = (x != c) := by
  by_cases h : x = c
  · subst h; simp
  · have h1 : (x != c) = true := by simpa using h
    rw [h1, bne_iff_ne]
    intro e
    exact h (UInt8.toNat_inj.1 (by omega))
theorem eqN (x c : UInt8) : ((x.toNat : Int) == (c.toNat : Int)) = (x == c) := by
  have := neN x c
  cases h1 : (x == c) <;> cases h2 : ((x.toNat : Int) == (c.toNat : Int)) <;> simp_all [bne]

theorem take_prefix_tw {p : UInt8 → Bool} : ∀ {l : Bs} {k : Nat}, (∀ b ∈ l.take k, p b = true) → l.take k <+: l.takeWhile p
  | [], k, _ => by simp
  | a :: l, 0, _ => by simp
  | a :: l, k + 1, h => by
    have ha := h a (by simp)
    have ih := take_prefix_tw (p := p) (l := l) (k := k) (fun b hb => h b (by simp [hb]))
    rw [List.take_succ_cons, List.takeWhile_cons, ha]
    simp only [if_true]
    exact List.cons_prefix_cons.2 ⟨rfl, ih⟩

set_option maxHeartbeats 2000000 in
theorem flag_any (c : UInt8) (w : World) : Calls Try.prog 11 #[.int .u8 c.toNat] w fun e w' => e = .returned (.bool (flag c)) ∧ w' = w := by
  have h1 := eqN c 105
  have h2 := eqN c 109
  have h3 := eqN c 115
  have h4 := eqN c 85
  have h5 := eqN c 45
  have hf : flag c = (c == 105 || (c == 109 || (c == 115 || (c == 85 || c == 45)))) := by
    unfold flag
    simp only [List.contains_cons, List.contains_nil, Bool.or_false]
  rw [hf]
  rw [show ((105 : UInt8).toNat : Int) = 105 from rfl] at h1
  rw [show ((109 : UInt8).toNat : Int) = 109 from rfl] at h2
  rw [show ((115 : UInt8).toNat : Int) = 115 from rfl] at h3
  rw [show ((85 : UInt8).toNat : Int) = 85 from rfl] at h4
  rw [show ((45 : UInt8).toNat : Int) = 45 from rfl] at h5
  clear hf
  obtain ⟨n, hn⟩ : ∃ n, c.toNat = n := ⟨_, rfl⟩
  rw [hn] at h1 h2 h3 h4 h5 ⊢
  cases e1 : (c == 105) <;> cases e2 : (c == 109) <;> cases e3 : (c == 115) <;> cases e4 : (c == 85) <;> cases e5 : (c == 45) <;> rw [e1] at h1 <;> rw [e2] at h2 <;> rw [e3] at h3 <;> rw [e4] at h4 <;> rw [e5] at h5
  all_goals
    clear e1 e2 e3 e4 e5 hn
    go_enter Try.func11, Try.ntmps11
    go_wp2
    go_ret
    exact ⟨rfl, rfl⟩

set_option maxHeartbeats 8000000 in
set_option maxRecDepth 100000 in
theorem fold_any (s : ByteArray) (w : World) (hsh : w.ShapedOpen Try.prog) (hs : s.size ≤ 1048576) : Calls Try.prog 10 #[.string s] w fun e w' => ∃ r : Nat, e = .returned (.int .i64 r) ∧ FF s.data.toList r ∧ w' = w := by
  have HZ := hid (Lib.size_eq s)
  have HSH := hid hsh
  clear hsh
  go_enter Try.func10, Try.ntmps10
  go_wp2
  go_loop [3] (fun v => ∃ i : Nat, i ≤ s.size ∧ v = .int .i64 i ∧ ∀ p, p < i → ¬ good s.data.toList p) (fun v => s.size - (intOf v).toNat)
  case atStart => exact ⟨0, Nat.zero_le _, rfl, fun p hp => by omega⟩
  case round =>
    obtain ⟨i, hi, rfl, hb⟩ := hrel
    have HB := hid hb
    clear hb
    have hii : (i : Int) ≤ s.size := by omega
    obtain ⟨r, hr⟩ : ∃ r, Lib.index (s.data.toList.drop i) [40, 63] = r := ⟨_, rfl⟩
    have HI : Hid (Calls Try.prog 12 #[.string (s.extract i s.size), .string ⟨#[40, 63]⟩] w fun e w' => e = .returned (.int .i64 r) ∧ w' = w) := by
      have := Try.strings_Index_shaped (s.extract i s.size) ⟨#[40, 63]⟩ w HSH.out (by rw [ByteArray.size_extract]; omega)
      rw [show Lib.index (s.extract i s.size).data.toList (ByteArray.mk #[40, 63]).data.toList = r by rw [← hr, ← Lib.extract_to_end s i]] at this
      exact this
    by_cases hneg : r < 0
    · have HF := hid (none_from (by have := HZ.out; omega) HB.out (by rw [hr]; exact hneg))
      clear hr
      go_wp2_with (go_at_call 12; refine HI.out.mono ?_; rintro e w' ⟨rfl, hw⟩; rw [hw]; clear hw)
      go_ret
      exact ⟨s.size, rfl, by rw [HZ.out]; exact HF.out, rfl⟩
    · obtain ⟨k, rfl⟩ : ∃ k : Nat, r = k := ⟨r.toNat, by omega⟩
      obtain ⟨f1, f2, f3, f4⟩ := some_from HB.out hr
      rw [← HZ.out] at f3
      have HF := hid (And.intro f1 (And.intro f2 f4))
      clear f1 f2 f4 hr hneg
      have z1 : (i : Int) + (k + 2) ≤ s.size := by omega
      go_wp2_with (go_at_call 12; refine HI.out.mono ?_; rintro e w' ⟨rfl, hw⟩; rw [hw]; clear hw)
      go_loop [5] (fun v => ∃ j : Nat, i + (k + 2) ≤ j ∧ j ≤ s.size ∧ v = .int .i64 j ∧ Scan s.data.toList (i + (k + 2)) j) (fun v => s.size - (intOf v).toNat)
      case atStart => exact ⟨i + (k + 2), Nat.le_refl _, by omega, by go_num, Scan.start (by have := HZ.out; omega)⟩
      case round =>
        obtain ⟨j, hj1, hj2, rfl, hsc⟩ := hrel
        have HS := hid hsc
        clear hsc
        have y1 : (i : Int) + (k + 2) ≤ j := by omega
        have y2 : (j : Int) ≤ s.size := by omega
        -- what the run's end decides
        have HEND : Hid ((∀ b, s.data.toList[j]? = some b → flag b = false) → (Lib.indexByte (s.extract (i + (k + 2)) j).data.toList 105 = -1 ∧ ∀ p, p < i + (k + 2) → ¬ good s.data.toList p) ∨ ∃ q : Nat, Lib.indexByte (s.extract (i + (k + 2)) j).data.toList 105 = q ∧ FF s.data.toList (i + k)) := by
          intro hend
          have htw := HS.out.stop hend
          have hx : (s.extract (i + (k + 2)) j).data.toList = (s.data.toList.drop (i + k + 2)).takeWhile flag := by
            rw [Lib.extract_data, show i + k + 2 = i + (k + 2) by omega, htw]
          rw [hx]
          rcases indexByte_cases ((s.data.toList.drop (i + k + 2)).takeWhile flag) 105 with ⟨h1, h2⟩ | ⟨q, h1, h2⟩
          · exact Or.inl ⟨h1, fun p hp => next_from HF.out.1 HF.out.2.1 HF.out.2.2 h2 p (by omega)⟩
          · exact Or.inr ⟨q, h1, Or.inl ⟨by have := HZ.out; omega, ⟨HF.out.1, HF.out.2.1, h2⟩, HF.out.2.2⟩⟩
        have HX : Hid (∀ v, Lib.indexByte (s.extract (i + (k + 2)) j).data.toList 105 = v → Calls Try.prog 13 #[.string (s.extract (i + (k + 2)) j), .int .u8 105] w fun e w' => e = .returned (.int .i64 v) ∧ w' = w) := fun v hv => by
          have := Try.strings_IndexByte (s.extract (i + (k + 2)) j) 105 w
          rw [show (105 : Int).toNat.toUInt8 = 105 from rfl, hv] at this
          exact this
        by_cases hlt : j < s.size
        · have y3 : (j : Int) < s.size := by omega
          obtain ⟨x, hx⟩ : ∃ x, s[j] = x := ⟨_, rfl⟩
          have HXJ := hid (Lib.data_getElem? s j hlt)
          rw [hx] at HXJ
          obtain ⟨v, hv⟩ : ∃ v, Lib.indexByte [105, 109, 115, 85, 45] x = v := ⟨_, rfl⟩
          have hfl : flag x = decide (0 ≤ v) := by rw [← hv]; exact Lib.contains_iff_indexByte _ _
          have HC : Hid (Calls Try.prog 13 #[.string ⟨#[105, 109, 115, 85, 45]⟩, .int .u8 x.toNat] w fun e w' => e = .returned (.int .i64 v) ∧ w' = w) := by
            have := Try.strings_IndexByte ⟨#[105, 109, 115, 85, 45]⟩ x.toNat w
            rw [show (x.toNat : Int).toNat.toUInt8 = x by simp, show (ByteArray.mk #[105, 109, 115, 85, 45]).data.toList = [105, 109, 115, 85, 45] from rfl, hv] at this
            exact this
          clear hv
          by_cases hv0 : 0 ≤ v
          · have HE := hid (HS.out.step HXJ.out (by rw [hfl]; exact decide_eq_true hv0))
            clear hfl
            go_wp2_with (go_at_call 13; refine HC.out.mono ?_; rintro e w' ⟨rfl, hw⟩; rw [hw]; clear hw)
            go_round
            case rel => exact ⟨j + 1, by omega, by omega, by go_num, HE.out⟩
            case measure => simp [intOf]; omega
          · have hend : ∀ b, s.data.toList[j]? = some b → flag b = false := fun b hb => by
              rw [HXJ.out] at hb; cases hb; rw [hfl]; exact decide_eq_false hv0
            rcases HEND.out hend with ⟨h1, h2⟩ | ⟨q, h1, h2⟩
            · have HX1 := hid (HX.out (-1) h1)
              have H2 := hid h2
              clear hfl hend h1 h2 HX HEND
              go_wp2_with (first | (go_at_call_of 13 (Value.int IntKind.u8 105); refine HX1.out.mono ?_; rintro e w' ⟨rfl, hw⟩; rw [hw]; clear hw) | (go_at_call 13; refine HC.out.mono ?_; rintro e w' ⟨rfl, hw⟩; rw [hw]; clear hw))
              go_round
              case rel => exact ⟨i + (k + 2), by omega, by go_num, H2.out⟩
              case measure => simp [intOf]; omega
            · have HX1 := hid (HX.out q h1)
              have H2 := hid h2
              have hq0 : (0 : Int) ≤ q := by omega
              clear hfl hend h1 h2 HX HEND
              go_wp2_with (first | (go_at_call_of 13 (Value.int IntKind.u8 105); refine HX1.out.mono ?_; rintro e w' ⟨rfl, hw⟩; rw [hw]; clear hw) | (go_at_call 13; refine HC.out.mono ?_; rintro e w' ⟨rfl, hw⟩; rw [hw]; clear hw))
              go_ret
              exact ⟨i + k, ret_int (by omega), H2.out, rfl⟩
        · have y3 : ¬ (j : Int) < s.size := by omega
          have hend : ∀ b, s.data.toList[j]? = some b → flag b = false := fun b hb => by
            rw [List.getElem?_eq_none (by have := HZ.out; omega)] at hb; cases hb
          rcases HEND.out hend with ⟨h1, h2⟩ | ⟨q, h1, h2⟩
          · have HX1 := hid (HX.out (-1) h1)
            have H2 := hid h2
            clear hend h1 h2 HX HEND
            go_wp2_with (go_at_call 13; refine HX1.out.mono ?_; rintro e w' ⟨rfl, hw⟩; rw [hw]; clear hw)
            go_round
            case rel => exact ⟨i + (k + 2), by omega, by go_num, H2.out⟩
            case measure => simp [intOf]; omega
          · have HX1 := hid (HX.out q h1)
            have H2 := hid h2
            have hq0 : (0 : Int) ≤ q := by omega
            clear hend h1 h2 HX HEND
            go_wp2_with (go_at_call 13; refine HX1.out.mono ?_; rintro e w' ⟨rfl, hw⟩; rw [hw]; clear hw)
            go_ret
            exact ⟨i + k, ret_int (by omega), H2.out, rfl⟩

set_option maxHeartbeats 1000000 in
theorem zzfold_any (s : ByteArray) (w : World) (hsh : w.ShapedOpen Try.prog) (hs : s.size ≤ 1048576) : Calls Try.prog 6 #[.string s] w fun e w' => ∃ r : Nat, e = .returned (.int .i64 r) ∧ FF s.data.toList r ∧ w' = w := by
  have HC := hid (fold_any s w hsh hs)
  clear hsh
  go_enter Try.func6, Try.ntmps6
  go_wp2_with (go_at_call 10; refine HC.out.mono ?_; rintro e w' ⟨r, rfl, hr, hw⟩; rw [hw]; have HR := hid hr; clear hw hr)
  go_ret
  exact ⟨r, rfl, HR.out, rfl⟩

set_option maxHeartbeats 8000000 in
set_option maxRecDepth 100000 in
theorem first_any (s : ByteArray) (w : World) (hs : s.size ≤ 1048576) : Calls Try.prog 7 #[.string s] w fun e w' => ∃ r : Nat, e = .returned (.int .i64 r) ∧ FF s.data.toList r ∧ w' = w := by
  have HZ := hid (Lib.size_eq s)
  go_enter Try.func7, Try.ntmps7
  go_wp2
  go_loop [3] (fun v => ∃ i : Nat, i ≤ s.size ∧ v = .int .i64 i ∧ ∀ p, p < i → ¬ good s.data.toList p) (fun v => s.size - (intOf v).toNat)
  case atStart => exact ⟨0, Nat.zero_le _, rfl, fun p hp => by omega⟩
  case round =>
    obtain ⟨i, hi, rfl, hb⟩ := hrel
    have HB := hid hb
    clear hb
    by_cases hlt : i + 1 < s.size
    · have z1 : (i : Int) + 1 < s.size := by omega
      have z2 : (i : Int) < s.size := by omega
      have hlt0 : i < s.size := by omega
      obtain ⟨x, hx⟩ : ∃ x, s[i] = x := ⟨_, rfl⟩
      obtain ⟨y, hy⟩ : ∃ y, s[i + 1] = y := ⟨_, rfl⟩
      have HX := hid (Lib.data_getElem? s i hlt0)
      rw [hx] at HX
      have HY := hid (Lib.data_getElem? s (i + 1) hlt)
      rw [hy] at HY
      by_cases hc : x = 40
      · have q1 : ((x.toNat : Int) != 40) = false := by rw [show (40 : Int) = ((40 : UInt8).toNat : Int) from rfl, neN]; simpa using hc
        rw [hc] at HX
        clear hc
        by_cases hd : y = 63
        · have q2 : ((y.toNat : Int) != 63) = false := by rw [show (63 : Int) = ((63 : UInt8).toNat : Int) from rfl, neN]; simpa using hd
          rw [hd] at HY
          clear hd
          go_wp2
          go_loop [4] (fun v => ∃ j : Nat, i + 2 ≤ j ∧ j ≤ s.size ∧ v = .int .i64 j ∧ Scan s.data.toList (i + 2) j ∧ (105 : UInt8) ∉ (s.data.toList.drop (i + 2)).take (j - (i + 2))) (fun v => s.size - (intOf v).toNat)
          case atStart => exact ⟨i + 2, Nat.le_refl _, by omega, by go_num, Scan.start (by have := HZ.out; omega), by simp⟩
          case round =>
            obtain ⟨j, hj1, hj2, rfl, hsc, hno⟩ := hrel
            have HS := hid hsc
            have HN := hid hno
            clear hsc hno
            have HEND : Hid ((∀ b, s.data.toList[j]? = some b → flag b = false) → ∀ p, p < i + 1 → ¬ good s.data.toList p) := by
              intro hend p hp
              exact next_from HX.out HY.out HB.out (by rw [HS.out.stop hend]; exact HN.out) p (by omega)
            by_cases hjl : j < s.size
            · have y3 : (j : Int) < s.size := by omega
              obtain ⟨u, hu⟩ : ∃ u, s[j] = u := ⟨_, rfl⟩
              have HU := hid (Lib.data_getElem? s j hjl)
              rw [hu] at HU
              have HC := hid (flag_any u w)
              cases hf : flag u
              · rw [hf] at HC
                have H2 := hid (HEND.out (fun b hb => by rw [HU.out] at hb; cases hb; exact hf))
                clear hf HEND
                go_wp2_with (go_at_call 11; refine HC.out.mono ?_; rintro e w' ⟨rfl, hw⟩; rw [hw]; clear hw)
                go_round
                case rel => exact ⟨i + 1, by omega, by go_num, H2.out⟩
                case measure => simp [intOf]; omega
              · rw [hf] at HC
                have HE := hid (HS.out.step HU.out hf)
                clear hf HEND
                have hget : (s.data.toList.drop (i + 2))[j - (i + 2)]? = some u := by rw [List.getElem?_drop, show i + 2 + (j - (i + 2)) = j by omega]; exact HU.out
                have hkl : j - (i + 2) < (s.data.toList.drop (i + 2)).length := by
                  rcases Nat.lt_or_ge (j - (i + 2)) (s.data.toList.drop (i + 2)).length with h | h
                  · exact h
                  · rw [List.getElem?_eq_none h] at hget; simp at hget
                have htk : (s.data.toList.drop (i + 2)).take (j + 1 - (i + 2)) = (s.data.toList.drop (i + 2)).take (j - (i + 2)) ++ [u] := by
                  rw [show j + 1 - (i + 2) = (j - (i + 2)) + 1 by omega, List.take_succ_eq_append_getElem hkl]
                  rw [List.getElem?_eq_getElem hkl] at hget
                  rw [Option.some.inj hget]
                have HTK := hid htk
                clear hget hkl htk
                by_cases hi5 : u = 105
                · have q3 : ((u.toNat : Int) == 105) = true := by rw [show (105 : Int) = ((105 : UInt8).toNat : Int) from rfl, eqN]; simpa using hi5
                  have H2 : Hid (FF s.data.toList i) := by
                    refine Or.inl ⟨by have := HZ.out; omega, ⟨HX.out, HY.out, ?_⟩, HB.out⟩
                    -- the run holds u
                    have hpre : (s.data.toList.drop (i + 2)).take (j + 1 - (i + 2)) <+: (s.data.toList.drop (i + 2)).takeWhile flag := by
                      have hall : ∀ b ∈ (s.data.toList.drop (i + 2)).take (j + 1 - (i + 2)), flag b = true := by
                        intro b hb
                        obtain ⟨m, hm, e⟩ := List.getElem_of_mem hb
                        rw [List.length_take] at hm
                        rw [List.getElem_take, List.getElem_drop] at e
                        have hmm : i + 2 + m < s.data.toList.length := by rw [List.length_drop] at hm; omega
                        exact HE.out.2.2 (i + 2 + m) b (by omega) (by omega) (by rw [List.getElem?_eq_getElem hmm, e])
                      exact take_prefix_tw hall
                    exact hpre.subset (by rw [HTK.out]; simp [hi5])
                  clear hi5
                  go_wp2_with (go_at_call 11; refine HC.out.mono ?_; rintro e w' ⟨rfl, hw⟩; rw [hw]; clear hw)
                  go_ret
                  exact ⟨i, rfl, H2.out, rfl⟩
                · have q3 : ((u.toNat : Int) == 105) = false := by rw [show (105 : Int) = ((105 : UInt8).toNat : Int) from rfl, eqN]; simpa using hi5
                  have H2 : Hid ((105 : UInt8) ∉ (s.data.toList.drop (i + 2)).take (j + 1 - (i + 2))) := by
                    rw [HTK.out]
                    intro hm
                    rcases List.mem_append.1 hm with h | h
                    · exact HN.out h
                    · simp at h; exact hi5 h.symm
                  clear hi5
                  go_wp2_with (go_at_call 11; refine HC.out.mono ?_; rintro e w' ⟨rfl, hw⟩; rw [hw]; clear hw)
                  go_round
                  case rel => exact ⟨j + 1, by omega, by omega, by go_num, HE.out, H2.out⟩
                  case measure => simp [intOf]; omega
            · have y3 : ¬ (j : Int) < s.size := by omega
              have H2 := hid (HEND.out (fun b hb => by rw [List.getElem?_eq_none (by have := HZ.out; omega)] at hb; cases hb))
              clear HEND
              go_wp2
              go_round
              case rel => exact ⟨i + 1, by omega, by go_num, H2.out⟩
              case measure => simp [intOf]; omega
        · have q2 : ((y.toNat : Int) != 63) = true := by rw [show (63 : Int) = ((63 : UInt8).toNat : Int) from rfl, neN]; simpa using hd
          have H2 : Hid (∀ p, p < i + 1 → ¬ good s.data.toList p) := by
            intro p hp hg
            rcases Nat.lt_or_ge p i with h | h
            · exact HB.out p h hg
            · obtain rfl : p = i := by omega
              have := hg.2.1
              rw [HY.out] at this
              exact hd (Option.some.inj this)
          clear hd
          go_wp2
          go_round
          case rel => exact ⟨i + 1, by omega, by go_num, H2.out⟩
          case measure => simp [intOf]; omega
      · have q1 : ((x.toNat : Int) != 40) = true := by rw [show (40 : Int) = ((40 : UInt8).toNat : Int) from rfl, neN]; simpa using hc
        have H2 : Hid (∀ p, p < i + 1 → ¬ good s.data.toList p) := by
          intro p hp hg
          rcases Nat.lt_or_ge p i with h | h
          · exact HB.out p h hg
          · obtain rfl : p = i := by omega
            have := hg.1
            rw [HX.out] at this
            exact hc (Option.some.inj this)
        clear hc
        go_wp2
        go_round
        case rel => exact ⟨i + 1, by omega, by go_num, H2.out⟩
        case measure => simp [intOf]; omega
    · have z1 : ¬ (i : Int) + 1 < s.size := by omega
      have H2 : Hid (FF s.data.toList s.size) := by
        refine Or.inr ⟨HZ.out, fun p hg => ?_⟩
        have h1 := good_lt hg
        exact HB.out p (by have := HZ.out; omega) hg
      go_wp2
      go_ret
      exact ⟨s.size, rfl, H2.out, rfl⟩

set_option maxHeartbeats 400000 in
theorem bytes5_ok (s : ByteArray) (w : World) (hm : s.size ≤ 1048576) : Calls Try.prog 5 #[.string s] w fun e w' => e = .returned (.bool true) ∧ w' = w := by
  go_enter Try.func5, Try.ntmps5
  go_wp2
  go_ret
  exact ⟨rfl, rfl⟩
set_option maxHeartbeats 400000 in
theorem bytes5_no (s : ByteArray) (w : World) (hm : 1048576 < s.size) : Calls Try.prog 5 #[.string s] w fun e w' => e = .returned (.bool false) ∧ w' = w := by
  go_enter Try.func5, Try.ntmps5
  go_wp2
  go_ret
  exact ⟨rfl, rfl⟩

end Go.Proofs.Qxb6604457a.Fo
