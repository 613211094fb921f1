/-
  isScheme, strings.IndexAny at ":/?#" and whatever text, by their contracts.
-/
import Derived.Test.Qxb6604144aLf
import Derived.Lib.ConvBytes
import Derived.Laws.RangeAny
import Derived.Laws.Runes
namespace Go.Proofs.Qxb6604144a.Iri
open Go.RowKit

/-- '[]byte(s)': a new row with the string's bytes. -/
theorem bytes_of (s : ByteArray) (w : World) : ∃ (cap : Nat) (w1 : World), (convert 9 35 (.string s)).run Try.prog w = .ok (.slice (some ⟨w.heap.size, 0, none⟩) s.size cap) w1 ∧
    (∀ j (h : j < s.size), w1.cell? ⟨w.heap.size, j, none⟩ = some (.int .u8 ((s[j]'h).toNat : Int))) ∧ Below w.heap.size w w1 := by
  refine ⟨_, _, Lib.run_convert_string_bytes (P := Try.prog) w 9 35 5 s Try.underlying9 Try.underlying35 Try.underlying5, fun j h => ?_, ?_⟩
  · rw [Lib.bytesWorld_cell w 5 s j h]
    have := Lib.data_getElem? s j h
    rw [List.getD, this]; rfl
  · exact ⟨rfl, rfl, rfl, by rw [Lib.bytesWorld_size]; omega, fun k hk => Lib.bytesWorld_at_old w 5 s k hk⟩

set_option maxRecDepth 100000 in
theorem or_lo : ∀ n : Nat, n < 256 → ((97 ≤ bits BinOp.or IntKind.u8 (n : Int) 32 ∧ bits BinOp.or IntKind.u8 (n : Int) 32 ≤ 122) ↔ ((97 ≤ n ∧ n ≤ 122) ∨ (65 ≤ n ∧ n ≤ 90))) := by decide +kernel

set_option maxHeartbeats 2000000 in
theorem isScheme_any (s : ByteArray) (w : World) (hs : s.size ≤ 1048576) (h0 : 0 < s.size) : Calls Try.prog 37 #[.string s] w fun e w' => e = .returned (.bool (valid s.data.toList)) ∧ Below w.heap.size w w' := by
  have HZ := hid (Lib.size_eq s)
  obtain ⟨cap, w1, hrun, hcell, hbel⟩ := bytes_of s w
  have HB := hid hbel
  clear hbel
  go_enter Try.func37, Try.ntmps37
  go_wp2
  clear hrun
  go_loop [9] (fun i => ∃ k : Nat, k ≤ s.size ∧ i = .int .i64 k ∧ (1 ≤ k → valid (s.data.toList.take k) = true)) (fun i => s.size - (intOf i).toNat)
  case atStart => exact ⟨0, Nat.zero_le _, rfl, fun h => by omega⟩
  case round =>
    obtain ⟨k, hk2, rfl, hv⟩ := hrel
    by_cases hlt : k < s.size
    · obtain ⟨d, hd⟩ : ∃ d, s[k] = d := ⟨_, rfl⟩
      obtain ⟨n, hn⟩ : ∃ n, d.toNat = n := ⟨_, rfl⟩
      have hn256 := d.toNat_lt
      rw [hn] at hn256
      have hc := hcell k hlt
      rw [hd, hn] at hc
      clear hcell
      have hll : k < s.data.toList.length := by rw [← HZ.out]; exact hlt
      have hel : s.data.toList[k] = d := by
        have := Lib.data_getElem? s k hlt
        rw [List.getElem?_eq_getElem hll, hd] at this
        exact Option.some.inj this
      obtain ⟨m, hm⟩ : ∃ m, bits BinOp.or IntKind.u8 (n : Int) 32 = m := ⟨_, rfl⟩
      have hor := or_lo n hn256
      rw [hm] at hor
      have hsc := schc_cases n d hn
      have hle : letter d = true ↔ (97 ≤ m ∧ m ≤ 122) := by rw [hor, ← hn]; simp [letter]
      -- what becomes of 'valid' at the next byte
      have hnext : valid (s.data.toList.take (k + 1)) = if k = 0 then letter d else schc d := by
        by_cases e : k = 0
        · subst e
          rw [if_pos rfl]
          match hl : s.data.toList with
          | [] => rw [hl] at hll; simp at hll
          | a :: r =>
            have : a = d := by simp [hl] at hel; exact hel
            subst this; simp [valid]
        · rw [if_neg e, valid_snoc s.data.toList k hll (by omega), hel, hv (by omega), Bool.true_and]
      have HX := hid hnext
      have HF : Hid (valid (s.data.toList.take (k + 1)) = false → valid s.data.toList = false) := fun e1 => by
        have := valid_take_false (by omega) e1 s.data.toList.length (by have := HZ.out; omega)
        rw [List.take_length] at this
        exact this
      clear hnext hel hll hv hd hor
      by_cases hL : 97 ≤ m ∧ m ≤ 122
      · have HL := hid (hle.2 hL)
        have HS := hid (hsc.2 (Or.inl HL.out))
        obtain ⟨l1, l2⟩ := hL
        clear hle hsc
        go_wp2
        go_round
        case rel => exact ⟨k + 1, by omega, by go_num, fun _ => by rw [HX.out, HL.out, HS.out]; split <;> rfl⟩
        case measure => simp [intOf]; omega
      · have HL : Hid (letter d = false) := by
          cases h : letter d
          · exact rfl
          · exact absurd (hle.1 h) hL
        have hL' : m < 97 ∨ (97 ≤ m ∧ 122 < m) := by omega
        rw [HL.out] at hsc
        clear hle hL
        by_cases hk0 : k = 0
        · have hk1 : ((k : Int) == 0) = true := by simp [hk0]
          have HR : Hid (valid s.data.toList = false) := HF.out (by rw [HX.out, if_pos hk0, HL.out])
          clear hk0 hsc
          rcases hL' with l1 | ⟨l1, l2⟩
          · have q1 : decide (97 ≤ m) = false := by simp; omega
            go_wp2
            go_ret
            exact ⟨by rw [HR.out]; rfl, HB.out⟩
          · have q1 : decide (97 ≤ m) = true := by simp; omega
            have q2 : decide (m ≤ 122) = false := by simp; omega
            go_wp2
            go_ret
            exact ⟨by rw [HR.out]; rfl, HB.out⟩
        · have hk1 : ((k : Int) == 0) = false := by rw [beq_eq_false_iff_ne]; omega
          have HK := hid hk0
          clear hk0
          have qm : (decide (97 ≤ m) = false) ∨ (decide (97 ≤ m) = true ∧ decide (m ≤ 122) = false) := by simp; omega
          clear hL'
          by_cases hgood : (48 ≤ n ∧ n ≤ 57) ∨ n = 43 ∨ n = 45 ∨ n = 46
          · have HG := hid (hsc.2 (Or.inr hgood))
            clear hsc
            have hg : ((48 : Int) ≤ n ∧ (n : Int) ≤ 57) ∨ (decide ((48 : Int) ≤ n) = false ∧ ((n : Int) == 43) = true) ∨ (decide ((48 : Int) ≤ n) = false ∧ ((n : Int) == 43) = false ∧ ((n : Int) == 45) = true) ∨ (decide ((48 : Int) ≤ n) = false ∧ ((n : Int) == 43) = false ∧ ((n : Int) == 45) = false ∧ ((n : Int) == 46) = true) := by
              simp only [decide_eq_false_iff_not, beq_iff_eq, beq_eq_false_iff_ne]; omega
            clear hgood
            rcases hg with ⟨g1, g2⟩ | ⟨g1, g2⟩ | ⟨g1, g2, g3⟩ | ⟨g1, g2, g3, g4⟩
            · rcases qm with q1 | ⟨q1, q2⟩
              all_goals
                go_wp2
                go_round
                case rel => exact ⟨k + 1, by omega, by go_num, fun _ => by rw [HX.out, if_neg HK.out, HG.out]⟩
                case measure => simp [intOf]; omega
            all_goals
              rcases qm with q1 | ⟨q1, q2⟩
              all_goals
                go_wp2
                go_round
                case rel => exact ⟨k + 1, by omega, by go_num, fun _ => by rw [HX.out, if_neg HK.out, HG.out]⟩
                case measure => simp [intOf]; omega
          · have HR : Hid (valid s.data.toList = false) := by
              have hbad : schc d = false := by
                cases h : schc d
                · rfl
                · exact absurd (hsc.1 h) (by simp; omega)
              exact HF.out (by rw [HX.out, if_neg HK.out, hbad])
            clear hsc
            have q3 : ((n : Int) == 43) = false := by rw [beq_eq_false_iff_ne]; omega
            have q4 : ((n : Int) == 45) = false := by rw [beq_eq_false_iff_ne]; omega
            have q5 : ((n : Int) == 46) = false := by rw [beq_eq_false_iff_ne]; omega
            have h5 : (decide ((48 : Int) ≤ n) = false) ∨ (decide ((48 : Int) ≤ n) = true ∧ decide ((n : Int) ≤ 57) = false) := by simp; omega
            clear hgood
            rcases h5 with h5 | ⟨h5, h6⟩ <;> rcases qm with q1 | ⟨q1, q2⟩
            all_goals
              go_wp2
              go_ret
              exact ⟨by rw [HR.out]; rfl, HB.out⟩
    · have e : k = s.size := by omega
      have HV : Hid (valid s.data.toList = true) := by
        have := hv (by omega)
        rw [List.take_of_length_le (by rw [← HZ.out]; omega)] at this; exact this
      clear hv hcell
      go_wp2
      go_ret
      exact ⟨by rw [HV.out]; rfl, HB.out⟩

end Go.Proofs.Qxb6604144a.Iri
