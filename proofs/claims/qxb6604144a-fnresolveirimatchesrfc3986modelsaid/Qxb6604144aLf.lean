/-
  THE LEAVES: strings.Cut at a separator of one byte, zzIsLetter, zzValidScheme, isScheme, each by a contract.
-/
import Derived.Test.Qxb6604144aSp
import Derived.Test.Qxb6604144aShelf
import Derived.WalkKit
import Derived.WalkSpells
import Derived.WalkSmall
import Derived.Below
import Derived.OwnWalk
import Derived.RegionTactic
import Derived.Deep.QuietTactic
import Derived.BigQuiet
import Derived.Outline
import Derived.Deep.DeepCutAuto
namespace Go.Proofs.Qxb6604144a.Iri
open Go.RowKit

theorem hid {p : Prop} (h : p) : Hid p := h
theorem ret_bool {a b : Bool} (h : a = b) : Ending.returned (.bool a) = .returned (.bool b) := by rw [h]

set_option maxHeartbeats 1000000 in
theorem scut_one (s : ByteArray) (c : UInt8) (w : World) (hs : s.size ≤ 9223372036854775807) :
    Calls Try.prog 52 #[.string s, .string ⟨#[c]⟩] w fun e w' => ∃ (a b : ByteArray) (f : Bool), e = .returned (.tuple #[.string a, .string b, .bool f]) ∧ cut1 c s.data.toList = (a.data.toList, b.data.toList, f) ∧ ∃ n, w' = w.drewN n := by
  have HC := hid (Try.stringslite_Index_one s c w)
  have hsz := Lib.size_eq s
  rcases indexByte_cases s.data.toList c with ⟨e, _⟩ | ⟨k, e, _, hk, _⟩
  · have HF := hid (cut_miss (l := s.data.toList) (c := c) (by omega)).1
    rw [e] at HC
    clear e hsz
    go_enter Try.func52, Try.ntmps52
    go_wp2_with (go_at_call 55; refine HC.out.mono ?_; rintro e w' ⟨rfl, rfl⟩)
    go_ret3
    exact ⟨s, ⟨#[]⟩, false, rfl, HF.out, 0, rfl⟩
  · have HF := hid (cut_hit e).2.1
    rw [e] at HC
    rw [← hsz] at hk
    clear e hsz
    have c1 : (0 : Int) ≤ ↑k := by omega
    have c2 : (↑k : Int) ≤ ↑s.size := by omega
    have c4 : (↑k + 1 : Int) ≤ ↑s.size := by omega
    go_enter Try.func52, Try.ntmps52
    go_wp2_with (go_at_call 55; refine HC.out.mono ?_; rintro e w' ⟨rfl, rfl⟩)
    go_region
    all_goals
      go_wp2
      go_ret3
      refine ⟨_, _, _, rfl, ?_, 1, rfl⟩
      rw [HF.out, Lib.extract_data, Lib.extract_to_end]
      simp

set_option maxHeartbeats 1000000 in
theorem cut_one (s : ByteArray) (c : UInt8) (w : World) (hs : s.size ≤ 9223372036854775807) :
    Calls Try.prog 38 #[.string s, .string ⟨#[c]⟩] w fun e w' => ∃ (a b : ByteArray) (f : Bool), e = .returned (.tuple #[.string a, .string b, .bool f]) ∧ cut1 c s.data.toList = (a.data.toList, b.data.toList, f) ∧ ∃ n, w' = w.drewN n := by
  go_enter Try.func38, Try.ntmps38
  go_wp2_with (go_at_call 52; refine (scut_one s c w hs).mono ?_; rintro e w' ⟨a, b, f, rfl, hf, n, rfl⟩)
  go_ret3
  exact ⟨a, b, f, rfl, hf, n, rfl⟩

set_option maxHeartbeats 1000000 in
theorem letter_yes (c : UInt8) (w : World) (h : letter c = true) : Calls Try.prog 40 #[.int .u8 c.toNat] w fun e w' => e = .returned (.bool true) ∧ w' = w := by
  have hc := c.toNat_lt
  simp only [letter, decide_eq_true_eq] at h
  obtain ⟨n, hn⟩ : ∃ n, c.toNat = n := ⟨_, rfl⟩
  rw [hn] at h hc ⊢
  clear hn
  have h4 : (97 ≤ (n : Int) ∧ (n : Int) ≤ 122) ∨ ((n : Int) < 97 ∧ 65 ≤ (n : Int) ∧ (n : Int) ≤ 90) := by omega
  clear h
  rcases h4 with ⟨h1, h2⟩ | ⟨h1, h2, h3⟩
  all_goals
    go_enter Try.func40, Try.ntmps40
    go_wp2
    go_ret
    exact ⟨rfl, rfl⟩

set_option maxHeartbeats 1000000 in
theorem letter_no (c : UInt8) (w : World) (h : letter c = false) : Calls Try.prog 40 #[.int .u8 c.toNat] w fun e w' => e = .returned (.bool false) ∧ w' = w := by
  have hc := c.toNat_lt
  simp only [letter, decide_eq_false_iff_not] at h
  obtain ⟨n, hn⟩ : ∃ n, c.toNat = n := ⟨_, rfl⟩
  rw [hn] at h hc ⊢
  clear hn
  have h4 : 122 < (n : Int) ∨ ((n : Int) < 97 ∧ 90 < (n : Int)) ∨ ((n : Int) < 97 ∧ (n : Int) < 65) := by omega
  clear h
  rcases h4 with h1 | ⟨h1, h2⟩ | ⟨h1, h2⟩
  all_goals
    go_enter Try.func40, Try.ntmps40
    go_wp2
    go_ret
    exact ⟨ret_bool (by first | rfl | (simp; omega)), rfl⟩

/-- What zzValidScheme and isScheme ask of each byte behind the first. -/
theorem schc_cases (n : Nat) (c : UInt8) (hc : c.toNat = n) : (schc c = true ↔ letter c = true ∨ (48 ≤ n ∧ n ≤ 57) ∨ n = 43 ∨ n = 45 ∨ n = 46) := by
  unfold schc
  rw [hc]
  cases letter c <;> simp

theorem valid_snoc (l : List UInt8) (k : Nat) (hk : k < l.length) (hk1 : 1 ≤ k) : valid (l.take (k + 1)) = (valid (l.take k) && schc l[k]) := by
  rw [List.take_succ_eq_append_getElem hk]
  match l, hk with
  | a :: r, hk =>
    obtain ⟨k, rfl⟩ : ∃ j, k = j + 1 := ⟨k - 1, by omega⟩
    have hr : k < r.length := by simpa using hk
    have e1 : List.take (k + 1) (a :: r) = a :: List.take k r := rfl
    have e2 : (a :: r)[k + 1] = r[k] := rfl
    rw [e1, e2]
    simp only [List.cons_append, valid, List.all_append, List.all_cons, List.all_nil, Bool.and_true, Bool.and_assoc]

theorem valid_take_false {l : List UInt8} : ∀ {k : Nat}, 1 ≤ k → valid (l.take k) = false → ∀ j, k ≤ j → valid (l.take j) = false := by
  intro k hk h j hj
  induction j with
  | zero => omega
  | succ j ih =>
    by_cases e : k = j + 1
    · subst e; exact h
    · have ih := ih (by omega)
      by_cases hl : j < l.length
      · rw [valid_snoc l j hl (by omega), ih]; rfl
      · rw [List.take_of_length_le (by omega)]; rw [List.take_of_length_le (by omega)] at ih; exact ih

set_option maxHeartbeats 2000000 in
theorem valid_any (s : ByteArray) (w : World) (hs : s.size ≤ 1048576) : Calls Try.prog 25 #[.string s] w fun e w' => e = .returned (.bool (valid s.data.toList)) ∧ w' = w := by
  have hsz := Lib.size_eq s
  by_cases h0 : s.size = 0
  · have e0 : s.data.toList = [] := List.length_eq_zero_iff.1 (by omega)
    have hb : ((s.size : Int) == 0) = true := by simp [h0]
    rw [e0]
    clear hsz e0
    go_enter Try.func25, Try.ntmps25
    go_wp2
    go_ret
    exact ⟨rfl, rfl⟩
  have hb : ((s.size : Int) == 0) = false := by rw [beq_eq_false_iff_ne]; omega
  have hp : (0 : Int) < s.size := by omega
  have hpn : 0 < s.size := by omega
  obtain ⟨c, hc⟩ : ∃ c, s[0]'hpn = c := ⟨_, rfl⟩
  have hl0 : s.data.toList[0]? = some c := by rw [← hc]; exact Lib.data_getElem? s 0 hpn
  have hv1 : valid (s.data.toList.take 1) = letter c := by
    match hl : s.data.toList with
    | [] => rw [hl] at hl0; simp at hl0
    | a :: r => rw [hl] at hl0; simp at hl0; subst hl0; simp [valid]
  cases hlt : letter c
  · rw [hlt] at hv1
    have hv : valid s.data.toList = false := by
      have := valid_take_false (Nat.le_refl 1) hv1 s.data.toList.length (by omega)
      rw [List.take_length] at this
      exact this
    rw [hv]
    have HC := hid (letter_no c w hlt)
    clear hv hv1 hl0 hsz hlt
    go_enter Try.func25, Try.ntmps25
    go_wp2_with (go_at_call 40; refine HC.out.mono ?_; rintro e w' ⟨rfl, rfl⟩)
    go_ret
    exact ⟨rfl, rfl⟩
  · rw [hlt] at hv1
    have HC := hid (letter_yes c w hlt)
    have HV := hid hv1
    have HZ := hid hsz
    clear hv1 hl0 hlt hsz
    go_enter Try.func25, Try.ntmps25
    go_wp2_with (go_at_call 40; refine HC.out.mono ?_; rintro e w' ⟨rfl, rfl⟩)
    clear hc HC hb
    go_loop [3] (fun i => ∃ k : Nat, 1 ≤ k ∧ k ≤ s.size ∧ i = .int .i64 k ∧ valid (s.data.toList.take k) = true) (fun i => s.size - (intOf i).toNat)
    case atStart => exact ⟨1, Nat.le_refl _, by omega, rfl, HV.out⟩
    case round =>
      obtain ⟨k, hk1, hk2, rfl, hv⟩ := hrel
      by_cases hlt : k < s.size
      · obtain ⟨d, hd⟩ : ∃ d, s[k] = d := ⟨_, rfl⟩
        have hll : k < s.data.toList.length := by rw [← HZ.out]; exact hlt
        have hsn := valid_snoc s.data.toList k hll hk1
        have hel : s.data.toList[k] = d := by
          have := Lib.data_getElem? s k hlt
          rw [List.getElem?_eq_getElem hll, hd] at this
          exact Option.some.inj this
        rw [hel, hv, Bool.true_and] at hsn
        have HS := hid hsn
        clear hsn hel hll hv
        cases hlc : letter d
        · obtain ⟨n, hn⟩ : ∃ n, d.toNat = n := ⟨_, rfl⟩
          have hn256 := d.toNat_lt
          have hsc := schc_cases n d hn
          rw [hn] at hn256
          have HC := hid (letter_no d w' hlc)
          rw [hn] at HC
          rw [hlc] at hsc
          by_cases hgood : (48 ≤ n ∧ n ≤ 57) ∨ n = 43 ∨ n = 45 ∨ n = 46
          · have HG := hid (hsc.2 (Or.inr hgood))
            clear hsc hlc
            rcases hgood with ⟨g1, g2⟩ | g | g | g
            · go_wp2_with (go_at_call 40; refine HC.out.mono ?_; rintro e w' ⟨rfl, rfl⟩)
              go_round
              case rel => exact ⟨k + 1, by omega, by omega, by go_num, by rw [HS.out, HG.out]⟩
              case measure => simp [intOf]; omega
            all_goals
              subst g
              go_wp2_with (go_at_call 40; refine HC.out.mono ?_; rintro e w' ⟨rfl, rfl⟩)
              go_round
              case rel => exact ⟨k + 1, by omega, by omega, by go_num, by rw [HS.out, HG.out]⟩
              case measure => simp [intOf]; omega
          · have hbad : schc d = false := by
              cases h : schc d
              · rfl
              · exact absurd (hsc.1 h) (by simp; omega)
            have HB : Hid (valid s.data.toList = false) := by
              have e1 := HS.out
              rw [hbad] at e1
              have := valid_take_false (by omega) e1 s.data.toList.length (by have := HZ.out; omega)
              rw [List.take_length] at this
              exact this
            clear hsc hlc hbad
            have q1 : ((n : Int) != 43) = true := by simp; omega
            have q2 : ((n : Int) != 45) = true := by simp; omega
            have q3 : ((n : Int) != 46) = true := by simp; omega
            have h5 : n < 48 ∨ 57 < n := by omega
            clear hgood
            rcases h5 with h5 | h5
            · have q4 : decide ((48 : Int) ≤ n) = false := by simp; omega
              go_wp2_with (go_at_call 40; refine HC.out.mono ?_; rintro e w' ⟨rfl, rfl⟩)
              go_ret
              exact ⟨by rw [HB.out]; rfl, rfl⟩
            · have q4 : decide ((48 : Int) ≤ n) = true := by simp; omega
              have q5 : decide ((n : Int) ≤ 57) = false := by simp; omega
              go_wp2_with (go_at_call 40; refine HC.out.mono ?_; rintro e w' ⟨rfl, rfl⟩)
              go_ret
              exact ⟨by rw [HB.out]; rfl, rfl⟩
        · have HC := hid (letter_yes d w' hlc)
          have HG := hid ((schc_cases d.toNat d rfl).2 (Or.inl hlc))
          clear hlc
          go_wp2_with (go_at_call 40; refine HC.out.mono ?_; rintro e w' ⟨rfl, rfl⟩)
          go_round
          case rel => exact ⟨k + 1, by omega, by omega, by go_num, by rw [HS.out, HG.out]⟩
          case measure => simp [intOf]; omega
      · have e : k = s.size := by omega
        have HB : Hid (valid s.data.toList = true) := by
          rw [List.take_of_length_le (by rw [← HZ.out]; omega)] at hv; exact hv
        clear hv
        go_wp2
        go_ret
        exact ⟨by rw [HB.out]; rfl, rfl⟩

end Go.Proofs.Qxb6604144a.Iri
