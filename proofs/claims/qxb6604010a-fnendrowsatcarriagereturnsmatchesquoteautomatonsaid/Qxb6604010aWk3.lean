/-
  THE WALK of 'endRowsAtCarriageReturns' (function 27): the rewriting in place.
-/
import Derived.Test.Qxb6604010aWk
namespace Go.Proofs.Qxb6604010a.Cr
open Go.RowKit

theorem hid {p : Prop} (h : p) : Hid p := h

set_option maxRecDepth 100000 in
set_option maxHeartbeats 1000000 in
theorem end_any (b n : Nat) (zs : List Int) (w : World) (hm : n ≤ 1048576) (hz : zs.length = n) (hw : ∀ j : Nat, 0 ≤ zs[j]?.getD 0 ∧ zs[j]?.getD 0 ≤ 255) (hr0 : RowAt w b zs) :
    Calls Try.prog 27 #[.slice (some ⟨b, 0, none⟩) n n] w fun e w' => e = .returned (.tuple #[]) ∧ RowAt w' b (mo zs n) ∧ Below b w w' := by
  go_enter Try.func27, Try.ntmps27
  go_wp2
  go_loopw [2] (fun i wr => ∃ k : Nat, k ≤ n ∧ i = .int .i64 k ∧ Out zs k ∧ RowAt wr b (mo zs k) ∧ Below b w wr) (fun i _ => n - (intOf i).toNat)
  case atStart => exact ⟨0, Nat.zero_le _, rfl, Or.inl rfl, hr0, Below.refl _ _⟩
  case round =>
    clear hr0
    obtain ⟨k, hk, rfl, ho, hr, hbl⟩ := hrel
    by_cases hlt : k < n
    · obtain ⟨v, hv⟩ : ∃ v, zs[k]?.getD 0 = v := ⟨_, rfl⟩
      obtain ⟨vn, hvn⟩ : ∃ v, zs[k + 1]?.getD 0 = v := ⟨_, rfl⟩
      obtain ⟨vp, hvp⟩ : ∃ v, (mo zs k)[k - 1]?.getD 0 = v := ⟨_, rfl⟩
      have hml : (mo zs k).length = n := by rw [mo_length, hz]
      have g1 : wr.cell? ⟨b, k, none⟩ = some (.int .u8 v) := by rw [← hv, ← mo_ge zs k k (Nat.le_refl _)]; exact hr.1 k (by omega)
      have gn : k + 1 < n → wr.cell? ⟨b, k + 1, none⟩ = some (.int .u8 vn) := fun h => by rw [← hvn, ← mo_ge zs k (k + 1) (by omega)]; exact hr.1 (k + 1) (by omega)
      have gp : wr.cell? ⟨b, k - 1, none⟩ = some (.int .u8 vp) := by rw [← hvp]; exact hr.1 (k - 1) (by omega)
      have g3 := hr.2 k
      have hs := hr.store k (by omega) 10
      have hb2 := hbl.setCell (p := ⟨b, k, none⟩) (Nat.le_refl _) (.int .u8 10)
      have HR : Hid (RowAt wr b (mo zs k) ∧ Below b w wr) := ⟨hr, hbl⟩
      have HS : Hid (RowAt (wr.setCell ⟨b, k, none⟩ (.int .u8 10)) b ((mo zs k).set k 10) ∧ Below b w (wr.setCell ⟨b, k, none⟩ (.int .u8 10))) := ⟨hs, hb2⟩
      have HV : Hid (zs[k]?.getD 0 = v ∧ zs[k + 1]?.getD 0 = vn ∧ (mo zs k)[k - 1]?.getD 0 = vp ∧ zs.length = n) := ⟨hv, hvn, hvp, hz⟩
      have HO : Hid (Out zs k) := ho
      have HW : Hid (∀ j : Nat, 0 ≤ zs[j]?.getD 0 ∧ zs[j]?.getD 0 ≤ 255) := hw
      clear hs hb2 hr hbl hv hvn hvp hml hz ho hw
      by_cases q : (v == 13) = true
      · have HQ : Hid (v = 13) := show v = 13 by simpa using q
        by_cases qn : k + 1 = n
        · have qn1 : ((k : Int) + 1 == n) = true := by simp; omega
          have HN : Hid (k + 1 = n) := qn
          clear qn
          go_wp2
          go_roundw
          case rel =>
            have F := out_cr HO.out (HV.out.1.trans HQ.out) (Or.inl (HN.out.trans HV.out.2.2.2.symm))
            exact ⟨k + 1, by omega, by go_num, Or.inl F.1, by rw [F.2]; exact HS.out.1, HS.out.2⟩
          case measure => simp [intOf]; omega
        · have qn1 : ((k : Int) + 1 == n) = false := by simp; omega
          have qn2 : (k : Int) + 1 < n := by omega
          have gn1 := gn (by omega)
          by_cases qx : (vn != 10) = true
          · go_wp2
            go_roundw
            case rel =>
              have F := out_cr HO.out (HV.out.1.trans HQ.out) (Or.inr (by rw [HV.out.2.1]; simpa using qx))
              exact ⟨k + 1, by omega, by go_num, Or.inl F.1, by rw [F.2]; exact HS.out.1, HS.out.2⟩
            case measure => simp [intOf]; omega
          · have qx1 : (vn != 10) = false := by simpa using qx
            clear qx
            go_wp2
            go_roundw
            case rel =>
              have F := out_crlf HO.out (HV.out.1.trans HQ.out) (fun e => qn (e.trans HV.out.2.2.2)) (HV.out.2.1.trans (by simpa using qx1))
              exact ⟨k + 1, by omega, by go_num, Or.inl F.1, by rw [F.2]; exact HR.out.1, HR.out.2⟩
            case measure => simp [intOf]; omega
      · have q13 : (v == 13) = false := by simpa using q
        clear q
        by_cases q : (v == 34) = true
        · have HQ : Hid (v = 34) := show v = 34 by simpa using q
          by_cases hst : 0 < k ∧ vp ≠ 44 ∧ vp ≠ 10
          · have q02 : (0 : Int) < k := by omega
            have qa : (vp != 44) = true := by simpa using hst.2.1
            have qb : (vp != 10) = true := by simpa using hst.2.2
            have HN : Hid (k ≠ 0) := (by omega : k ≠ 0)
            clear hst
            go_wp2
            go_roundw
            case rel =>
              have F := in_stray HO.out (by rw [HV.out.2.2.2]; omega) (HV.out.1.trans HQ.out) HN.out (by rw [HV.out.2.2.1]; simpa using qa) (by rw [HV.out.2.2.1]; simpa using qb)
              exact ⟨k + 1, by omega, by go_num, Or.inl F.1, by rw [F.2]; exact HR.out.1, HR.out.2⟩
            case measure => simp [intOf]; omega
          · have HP : Hid (st zs (k + 1) = 1 ∧ mo zs (k + 1) = mo zs k) := in_open HO.out (by rw [HV.out.2.2.2]; omega) (HV.out.1.trans HQ.out) (by rw [HV.out.2.2.1]; omega)
            have hd : (¬ (0 : Int) < k) ∨ ((0 : Int) < k ∧ (vp != 44) = false) ∨ ((0 : Int) < k ∧ (vp != 44) = true ∧ (vp != 10) = false) := by
              simp only [bne_eq_false_iff_eq, bne_iff_ne]; omega
            clear hst
            rcases hd with q0 | ⟨q0, qa⟩ | ⟨q0, qa, qb⟩ <;> go_wp2
            all_goals
              go_loop [2] (fun i => ∃ j : Nat, k ≤ j ∧ j < n ∧ i = .int .i64 j ∧ st zs (j + 1) = 1 ∧ mo zs (j + 1) = mo zs k) (fun i => n - (intOf i).toNat)
              case atStart => exact ⟨k, Nat.le_refl _, hlt, rfl, HP.out.1, HP.out.2⟩
              case round =>
                obtain ⟨j, hkj, hjn, rfl, h1, h2⟩ := hrel
                have H12 : Hid (st zs (j + 1) = 1 ∧ mo zs (j + 1) = mo zs k) := ⟨h1, h2⟩
                clear h1 h2 g1 gn gp g3
                by_cases hj1 : j + 1 < n
                · have gc : ∀ i, i < n - (j + 1) → wr.cell? ⟨b, j + 1 + i, none⟩ = some (.int .u8 ((zs.drop (j + 1)).getD i 0)) := fun i hi => by
                    have e1 := HR.out.1.1 (j + 1 + i) (by rw [mo_length, HV.out.2.2.2]; omega)
                    rw [← H12.out.2, mo_ge zs (j + 1) (j + 1 + i) (by omega)] at e1
                    rw [e1]; simp
                  have C := Try.bytes_IndexByte b (j + 1) (n - (j + 1)) (n - (j + 1)) (zs.drop (j + 1)) 34 wr (by rw [List.length_drop, HV.out.2.2.2]) gc
                  clear gc
                  obtain ⟨r, hr⟩ : ∃ r, Lib.indexByte (Lib.bytesOf (zs.drop (j + 1))) (34 : Int).toNat.toUInt8 = r := ⟨_, rfl⟩
                  rw [hr] at C
                  by_cases hneg : r < 0
                  · have HE : Hid (mo zs n = mo zs k) := by
                      have F := run_in H12.out.1 (n - (j + 1)) (fun i h1 h2 => none_from (by rw [hr]; exact hneg) i h1 (by rw [HV.out.2.2.2]; omega))
                      rw [show j + 1 + (n - (j + 1)) = n by omega] at F
                      exact F.2.trans H12.out.2
                    have HC := hid C
                    clear hr C
                    go_wp2_with (go_at_call 32; refine HC.out.mono ?_; rintro e w' ⟨rfl, rfl⟩)
                    exact bodyPost_ret (results_none rfl _ _ _) rfl ⟨rfl, by rw [HE.out]; exact HR.out.1, HR.out.2⟩
                  · obtain ⟨o, rfl⟩ : ∃ o : Nat, r = o := ⟨r.toNat, by omega⟩
                    obtain ⟨f1, f2, f3⟩ := some_from HW.out hr
                    rw [HV.out.2.2.2] at f1
                    have F := run_in H12.out.1 o f3
                    have G := in_quote F.1 f2
                    have HG : Hid (st zs (j + (1 + o) + 1) = 2 ∧ mo zs (j + (1 + o) + 1) = mo zs k) := by
                      rw [show j + (1 + o) + 1 = j + 1 + o + 1 by omega]; exact ⟨G.1, G.2.trans (F.2.trans H12.out.2)⟩
                    have HC := hid C
                    obtain ⟨vq, hvq⟩ : ∃ v, zs[j + (1 + o) + 1]?.getD 0 = v := ⟨_, rfl⟩
                    have gq : j + (1 + o) + 1 < n → wr.cell? ⟨b, j + (1 + o) + 1, none⟩ = some (.int .u8 vq) := fun h => by
                      have e1 := HR.out.1.1 (j + (1 + o) + 1) (by rw [mo_length, HV.out.2.2.2]; omega)
                      rw [← HG.out.2, mo_ge zs _ _ (Nat.le_refl _), hvq] at e1
                      exact e1
                    have HVQ : Hid (zs[j + (1 + o) + 1]?.getD 0 = vq) := hvq
                    clear hr C f2 f3 F G hneg hvq
                    by_cases qn : j + (1 + o) + 1 = n
                    · have qn1 : ((j : Int) + (1 + o) + 1 == n) = true := by simp; omega
                      have HN : Hid (j + (1 + o) + 1 = n) := qn
                      clear qn
                      go_wp2_with (go_at_call 32; refine HC.out.mono ?_; rintro e w' ⟨rfl, rfl⟩)
                      go_roundw
                      case rel => exact ⟨j + (1 + o) + 1, by omega, by go_num, Or.inr ⟨HG.out.1, by have := HN.out; rw [List.getElem?_eq_none (by rw [HV.out.2.2.2]; omega)]; decide⟩, by rw [HG.out.2]; exact HR.out.1, HR.out.2⟩
                      case measure => simp [intOf]; omega
                    · have qn1 : ((j : Int) + (1 + o) + 1 == n) = false := by simp; omega
                      have qn2 : (j : Int) + (1 + o) + 1 < n := by omega
                      have gq1 := gq (by omega)
                      by_cases qx : (vq != 34) = true
                      · go_wp2_with (go_at_call 32; refine HC.out.mono ?_; rintro e w' ⟨rfl, rfl⟩)
                        go_roundw
                        case rel => exact ⟨j + (1 + o) + 1, by omega, by go_num, Or.inr ⟨HG.out.1, by rw [HVQ.out]; simpa using qx⟩, by rw [HG.out.2]; exact HR.out.1, HR.out.2⟩
                        case measure => simp [intOf]; omega
                      · have qx1 : (vq != 34) = false := by simpa using qx
                        clear qx
                        go_wp2_with (go_at_call 32; refine HC.out.mono ?_; rintro e w' ⟨rfl, rfl⟩)
                        go_round
                        case rel =>
                          have F := seen_quote HG.out.1 (HVQ.out.trans (by simpa using qx1))
                          exact ⟨j + (1 + o) + 1, by omega, by omega, by go_num, F.1, F.2.trans HG.out.2⟩
                        case measure => simp [intOf]; omega
                · obtain rfl : n = j + 1 := by omega
                  have gc : ∀ i, i < 0 → wr.cell? ⟨b, 0 + i, none⟩ = some (.int .u8 (([] : List Int).getD i 0)) := fun i hi => by omega
                  have C := Try.bytes_IndexByte b 0 0 0 [] 34 wr rfl gc
                  have er : Lib.indexByte (Lib.bytesOf []) (34 : Int).toNat.toUInt8 = -1 := by decide
                  rw [er] at C
                  have HC := hid C
                  clear gc C er
                  go_wp2_with (go_at_call 32; refine HC.out.mono ?_; rintro e w' ⟨rfl, rfl⟩)
                  exact bodyPost_ret (results_none rfl _ _ _) rfl ⟨rfl, by rw [H12.out.2]; exact HR.out.1, HR.out.2⟩
        · have q34 : (v == 34) = false := by simpa using q
          clear q
          go_wp2
          go_roundw
          case rel =>
            have F := out_plain HO.out (by rw [HV.out.1]; simpa using q13) (by rw [HV.out.1]; simpa using q34)
            exact ⟨k + 1, by omega, by go_num, Or.inl F.1, by rw [F.2]; exact HR.out.1, HR.out.2⟩
          case measure => simp [intOf]; omega
    · have e : k = n := by omega
      subst e
      go_wp2
      go_end0
      exact ⟨rfl, hr, hbl⟩

set_option maxHeartbeats 400000 in
theorem end_nil (w : World) : Calls Try.prog 27 #[.slice none 0 0] w fun e w' => e = .returned (.tuple #[]) ∧ w' = w := by
  go_enter Try.func27, Try.ntmps27
  go_wp2
  go_loop [2] (fun i => i = .int .i64 0) (fun _ => 0)
  case atStart => rfl
  case round =>
    obtain rfl := hrel
    go_wp2
    go_end0
    exact ⟨rfl, rfl⟩

set_option maxHeartbeats 400000 in
/-- 'ZZEndRowsAtCarriageReturns' hands on. -/
theorem zzend_any (b n : Nat) (zs : List Int) (w : World) (hm : n ≤ 1048576) (hz : zs.length = n) (hw : ∀ j : Nat, 0 ≤ zs[j]?.getD 0 ∧ zs[j]?.getD 0 ≤ 255) (hr0 : RowAt w b zs) :
    Calls Try.prog 9 #[.slice (some ⟨b, 0, none⟩) n n] w fun e w' => e = .returned (.tuple #[]) ∧ RowAt w' b (mo zs n) ∧ Below b w w' := by
  have HC := hid (end_any b n zs w hm hz hw hr0)
  clear hw hr0 hz
  go_enter Try.func9, Try.ntmps9
  go_wp2_with (go_at_call 27; refine HC.out.mono ?_; rintro e w1 ⟨rfl, hr, hb⟩)
  go_end0
  exact ⟨rfl, hr, hb⟩

set_option maxHeartbeats 400000 in
theorem zzend_nil (w : World) : Calls Try.prog 9 #[.slice none 0 0] w fun e w' => e = .returned (.tuple #[]) ∧ w' = w := by
  go_enter Try.func9, Try.ntmps9
  go_wp2_with (go_at_call 27; refine (end_nil w).mono ?_; rintro e w1 ⟨rfl, rfl⟩)
  go_end0
  exact ⟨rfl, rfl⟩

end Go.Proofs.Qxb6604010a.Cr
