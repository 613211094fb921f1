/-
  THE WALKS of 'zzCRModel' (function 11): the byte automaton.
-/
import Derived.Test.Qxb6604010aWk
namespace Go.Proofs.Qxb6604010a.Cr
open Go.RowKit

set_option maxHeartbeats 1000000 in
theorem model_any (x : Addr) (b off n c : Nat) (hx : 0 < n → x = ⟨b, off, none⟩) (zs : List Int) (w : World) (hm : n ≤ 1048576) (hz : zs.length = n) (hb : n = 0 ∨ b < w.heap.size)
    (hc : ∀ i, i < n → w.cell? ⟨b, off + i, none⟩ = some (.int .u8 (zs[i]?.getD 0))) :
    Calls Try.prog 11 #[.slice (some x) n c] w fun e w' => e = .returned (.slice (some ⟨w.heap.size, 0, none⟩) n n) ∧ RowAt w' w.heap.size (mo zs n) ∧ Below w.heap.size w w' := by
  go_enter Try.func11, Try.ntmps11
  go_wp2_with (go_at_call 8; refine (clone_any x b off n c hx zs w hm hz hb hc).mono ?_; rintro e w1 ⟨rfl, hrow, hbel, _⟩)
  go_loopw [4, 5] (fun s i wr => ∃ k : Nat, k ≤ n ∧ i = .int .i64 k ∧ s = .int .i64 (st zs k) ∧ RowAt wr w.heap.size (mo zs k) ∧ Below w.heap.size w wr) (fun _ i _ => n - (intOf i).toNat)
  case atStart => exact ⟨0, Nat.zero_le _, rfl, rfl, hrow, hbel⟩
  case round =>
    clear hrow hbel
    obtain ⟨k, hk, rfl, rfl, hr, hbl⟩ := hrel
    by_cases hlt : k < n
    · obtain rfl := hx (by omega)
      clear hx
      obtain ⟨v, hv⟩ : ∃ v, zs[k]?.getD 0 = v := ⟨_, rfl⟩
      obtain ⟨vn, hvn⟩ : ∃ v, zs[k + 1]?.getD 0 = v := ⟨_, rfl⟩
      obtain ⟨vp, hvp⟩ : ∃ v, zs[k - 1]?.getD 0 = v := ⟨_, rfl⟩
      have gc : ∀ i, i < n → wr.cell? ⟨b, off + i, none⟩ = some (.int .u8 (zs[i]?.getD 0)) := fun i hi => by
        rw [hbl.cell (p := ⟨b, off + i, none⟩) (by simp only; omega)]; exact hc i hi
      have g1 : wr.cell? ⟨b, off + k, none⟩ = some (.int .u8 v) := by rw [← hv]; exact gc k hlt
      have gn : k + 1 < n → wr.cell? ⟨b, off + (k + 1), none⟩ = some (.int .u8 vn) := fun h => by rw [← hvn]; exact gc (k + 1) h
      have gp : wr.cell? ⟨b, off + (k - 1), none⟩ = some (.int .u8 vp) := by rw [← hvp]; exact gc (k - 1) (by omega)
      have hml : (mo zs k).length = n := by rw [mo_length, hz]
      obtain ⟨u, g2⟩ : ∃ u, wr.cell? ⟨w.heap.size, k, none⟩ = some u := ⟨_, hr.1 k (by omega)⟩
      have g3 := hr.2 k
      have hs := hr.store k (by omega) 10
      have hb2 := hbl.setCell (p := ⟨w.heap.size, k, none⟩) (Nat.le_refl _) (.int .u8 10)
      have HR : Hid (RowAt wr w.heap.size (mo zs k) ∧ Below w.heap.size w wr) := ⟨hr, hbl⟩
      have HS : Hid (RowAt (wr.setCell ⟨w.heap.size, k, none⟩ (.int .u8 10)) w.heap.size ((mo zs k).set k 10) ∧ Below w.heap.size w (wr.setCell ⟨w.heap.size, k, none⟩ (.int .u8 10))) := ⟨hs, hb2⟩
      have HV : Hid (zs[k]?.getD 0 = v ∧ zs[k + 1]?.getD 0 = vn ∧ zs[k - 1]?.getD 0 = vp ∧ zs.length = n) := ⟨hv, hvn, hvp, hz⟩
      clear hs hb2 hr hbl hc gc hv hvn hvp hml hz
      have hsl := st_le zs k
      obtain ⟨s, hss⟩ : ∃ s, st zs k = s := ⟨_, rfl⟩
      rw [hss] at hsl ⊢
      have HSS : Hid (st zs k = s) := hss
      clear hss
      have h3 : s = 1 ∨ s = 2 ∨ s = 0 := by omega
      clear hsl
      rcases h3 with rfl | rfl | rfl
      · by_cases q : (v == 34) = true
        · go_wp2
          go_roundw
          case rel =>
            have F := in_quote HSS.out (HV.out.1.trans (by simpa using q))
            exact ⟨k + 1, by omega, by go_num, by rw [F.1] <;> rfl, by rw [F.2]; exact HR.out.1, HR.out.2⟩
          case measure => simp [intOf]; omega
        · have q' : (v == 34) = false := by simpa using q
          clear q
          go_wp2
          go_roundw
          case rel =>
            have F := in_plain HSS.out (by rw [HV.out.1]; simpa using q')
            exact ⟨k + 1, by omega, by go_num, by rw [F.1] <;> rfl, by rw [F.2]; exact HR.out.1, HR.out.2⟩
          case measure => simp [intOf]; omega
      · by_cases q : (v == 13) = true
        · have HO : Hid (Out zs k) := Or.inr ⟨HSS.out, by rw [HV.out.1, show v = 13 by simpa using q]; decide⟩
          have HQ : Hid (v = 13) := show v = 13 by simpa using q
          have q34 : (v == 34) = false := by have := HQ.out; simp [this]
          by_cases qn : k + 1 = n
          · have qn1 : ((k : Int) + 1 == n) = true := by simp; omega
            have HN : Hid (k + 1 = n) := qn
            clear qn
            go_wp2
            go_roundw
            case rel =>
              have F := out_cr HO.out (HV.out.1.trans HQ.out) (Or.inl (HN.out.trans HV.out.2.2.2.symm))
              exact ⟨k + 1, by omega, by go_num, by rw [F.1] <;> rfl, by rw [F.2]; exact HS.out.1, HS.out.2⟩
            case measure => simp [intOf]; omega
          · have qn1 : ((k : Int) + 1 == n) = false := by simp; omega
            have qn2 : (k : Int) + 1 < n := by omega
            have gn1 := gn (by omega)
            by_cases qx : (vn != 10) = true
            · go_wp2
              go_roundw
              case rel =>
                have F := out_cr HO.out (HV.out.1.trans HQ.out) (Or.inr (by rw [HV.out.2.1]; simpa using qx))
                exact ⟨k + 1, by omega, by go_num, by rw [F.1] <;> rfl, by rw [F.2]; exact HS.out.1, HS.out.2⟩
              case measure => simp [intOf]; omega
            · have qx1 : (vn != 10) = false := by simpa using qx
              clear qx
              go_wp2
              go_roundw
              case rel =>
                have F := out_crlf HO.out (HV.out.1.trans HQ.out) (fun e => qn (e.trans HV.out.2.2.2)) (HV.out.2.1.trans (by simpa using qx1))
                exact ⟨k + 1, by omega, by go_num, by rw [F.1] <;> rfl, by rw [F.2]; exact HR.out.1, HR.out.2⟩
              case measure => simp [intOf]; omega
        · have q13 : (v == 13) = false := by simpa using q
          clear q
          by_cases q : (v == 34) = true
          · go_wp2
            go_roundw
            case rel =>
              have F := seen_quote HSS.out (HV.out.1.trans (by simpa using q))
              exact ⟨k + 1, by omega, by go_num, by rw [F.1] <;> rfl, by rw [F.2]; exact HR.out.1, HR.out.2⟩
            case measure => simp [intOf]; omega
          · have q34 : (v == 34) = false := by simpa using q
            clear q
            have HO : Hid (Out zs k) := Or.inr ⟨HSS.out, by rw [HV.out.1]; simpa using q34⟩
            go_wp2
            go_roundw
            case rel =>
              have F := out_plain HO.out (by rw [HV.out.1]; simpa using q13) (by rw [HV.out.1]; simpa using q34)
              exact ⟨k + 1, by omega, by go_num, by rw [F.1] <;> rfl, by rw [F.2]; exact HR.out.1, HR.out.2⟩
            case measure => simp [intOf]; omega
      · by_cases q : (v == 13) = true
        · have HO : Hid (Out zs k) := Or.inl HSS.out
          have HQ : Hid (v = 13) := show v = 13 by simpa using q
          have q34 : (v == 34) = false := by have := HQ.out; simp [this]
          by_cases qn : k + 1 = n
          · have qn1 : ((k : Int) + 1 == n) = true := by simp; omega
            have HN : Hid (k + 1 = n) := qn
            clear qn
            go_wp2
            go_roundw
            case rel =>
              have F := out_cr HO.out (HV.out.1.trans HQ.out) (Or.inl (HN.out.trans HV.out.2.2.2.symm))
              exact ⟨k + 1, by omega, by go_num, by rw [F.1] <;> rfl, by rw [F.2]; exact HS.out.1, HS.out.2⟩
            case measure => simp [intOf]; omega
          · have qn1 : ((k : Int) + 1 == n) = false := by simp; omega
            have qn2 : (k : Int) + 1 < n := by omega
            have gn1 := gn (by omega)
            by_cases qx : (vn != 10) = true
            · go_wp2
              go_roundw
              case rel =>
                have F := out_cr HO.out (HV.out.1.trans HQ.out) (Or.inr (by rw [HV.out.2.1]; simpa using qx))
                exact ⟨k + 1, by omega, by go_num, by rw [F.1] <;> rfl, by rw [F.2]; exact HS.out.1, HS.out.2⟩
              case measure => simp [intOf]; omega
            · have qx1 : (vn != 10) = false := by simpa using qx
              clear qx
              go_wp2
              go_roundw
              case rel =>
                have F := out_crlf HO.out (HV.out.1.trans HQ.out) (fun e => qn (e.trans HV.out.2.2.2)) (HV.out.2.1.trans (by simpa using qx1))
                exact ⟨k + 1, by omega, by go_num, by rw [F.1] <;> rfl, by rw [F.2]; exact HR.out.1, HR.out.2⟩
              case measure => simp [intOf]; omega
        · have q13 : (v == 13) = false := by simpa using q
          clear q
          by_cases q : (v == 34) = true
          · have HO : Hid (Out zs k) := Or.inl HSS.out
            have HQ : Hid (v = 34) := show v = 34 by simpa using q
            by_cases q0 : k = 0
            · have q01 : ((k : Int) == 0) = true := by simp; omega
              have HN : Hid (k = 0) := q0
              clear q0
              go_wp2
              go_roundw
              case rel =>
                have F := out_open HO.out (HV.out.1.trans HQ.out) (Or.inl HN.out)
                exact ⟨k + 1, by omega, by go_num, by rw [F.1] <;> rfl, by rw [F.2]; exact HR.out.1, HR.out.2⟩
              case measure => simp [intOf]; omega
            · have q01 : ((k : Int) == 0) = false := by simp; omega
              have q02 : (0 : Int) < k := by omega
              by_cases qa : (vp == 44) = true
              · go_wp2
                go_roundw
                case rel =>
                  have F := out_open HO.out (HV.out.1.trans HQ.out) (Or.inr (Or.inl (HV.out.2.2.1.trans (by simpa using qa))))
                  exact ⟨k + 1, by omega, by go_num, by rw [F.1] <;> rfl, by rw [F.2]; exact HR.out.1, HR.out.2⟩
                case measure => simp [intOf]; omega
              · have qa1 : (vp == 44) = false := by simpa using qa
                clear qa
                by_cases qb : (vp == 10) = true
                · go_wp2
                  go_roundw
                  case rel =>
                    have F := out_open HO.out (HV.out.1.trans HQ.out) (Or.inr (Or.inr (Or.inl (HV.out.2.2.1.trans (by simpa using qb)))))
                    exact ⟨k + 1, by omega, by go_num, by rw [F.1] <;> rfl, by rw [F.2]; exact HR.out.1, HR.out.2⟩
                  case measure => simp [intOf]; omega
                · have qb1 : (vp == 10) = false := by simpa using qb
                  clear qb
                  by_cases qc : (vp == 13) = true
                  · go_wp2
                    go_roundw
                    case rel =>
                      have F := out_open HO.out (HV.out.1.trans HQ.out) (Or.inr (Or.inr (Or.inr (HV.out.2.2.1.trans (by simpa using qc)))))
                      exact ⟨k + 1, by omega, by go_num, by rw [F.1] <;> rfl, by rw [F.2]; exact HR.out.1, HR.out.2⟩
                    case measure => simp [intOf]; omega
                  · have qc1 : (vp == 13) = false := by simpa using qc
                    clear qc
                    go_wp2
                    go_roundw
                    case rel =>
                      have F := out_stray HO.out (HV.out.1.trans HQ.out) (by rw [HV.out.2.2.1]; simp at qa1 qb1 qc1; rintro (e | e | e | e) <;> contradiction)
                      exact ⟨k + 1, by omega, by go_num, by rw [F.1] <;> rfl, by rw [F.2]; exact HR.out.1, HR.out.2⟩
                    case measure => simp [intOf]; omega
          · have q34 : (v == 34) = false := by simpa using q
            clear q
            have HO : Hid (Out zs k) := Or.inl HSS.out
            go_wp2
            go_roundw
            case rel =>
              have F := out_plain HO.out (by rw [HV.out.1]; simpa using q13) (by rw [HV.out.1]; simpa using q34)
              exact ⟨k + 1, by omega, by go_num, by rw [F.1] <;> rfl, by rw [F.2]; exact HR.out.1, HR.out.2⟩
            case measure => simp [intOf]; omega
    · have e : k = n := by omega
      subst e
      go_wp2
      go_ret
      exact ⟨rfl, hr, hbl⟩

set_option maxHeartbeats 400000 in
theorem model_nil (w : World) : Calls Try.prog 11 #[.slice none 0 0] w fun e w' => e = .returned (.slice none 0 0) ∧ w' = w := by
  go_enter Try.func11, Try.ntmps11
  go_wp2_with (go_at_call 8; refine (clone_nil w).mono ?_; rintro e w1 ⟨rfl, rfl⟩)
  go_loop [5] (fun i => i = .int .i64 0) (fun _ => 0)
  case atStart => rfl
  case round =>
    obtain rfl := hrel
    go_wp2
    go_ret
    exact ⟨rfl, rfl⟩

end Go.Proofs.Qxb6604010a.Cr
