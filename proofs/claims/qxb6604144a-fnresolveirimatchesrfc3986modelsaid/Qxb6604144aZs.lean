/-
  zzSplit (function 13) by its contract.
-/
import Derived.Test.Qxb6604144aBk
import Derived.Test.Qxb6604144aSc
import Derived.Deep.CutBlock
namespace Go.Proofs.Qxb6604144a.Iri
open Go.RowKit

/-- The two blocks of zzSplit: the result, still empty, and p. -/
abbrev W2 (w : World) (a b c d f : ByteArray) (x y z : Bool) : World := (w.alloc (.cells zeros8 27)).alloc (.cells (cells8 a b c d f x y z) 27)

theorem byteAt (s : ByteArray) (i : Nat) (h : i < s.size) : s.data.toList[i]? = some (s[i]'h) := Lib.data_getElem? s i h
theorem sl_to' (s : ByteArray) (k : Nat) : (s.extract 0 k).data.toList = s.data.toList.take k := by rw [Lib.extract_data]; simp

theorem is_split {l : List UInt8} {a b c d f : ByteArray} {x y z : Bool} {pos pos2 e pos4 : Nat} (h1 : sch l = (a.data.toList, l.drop pos)) (h2 : au (l.drop pos) = (x, b.data.toList, l.drop pos2)) (h3 : Stop p2 l pos2 e) (hc : c.data.toList = (l.drop pos2).take (e - pos2))
    (h4 : qu (l.drop e) = (y, d.data.toList, l.drop pos4)) (h5 : fr (l.drop pos4) = (z, f.data.toList)) : Is (split l) a b c d f x y z := by
  unfold Is split
  simp only [h1, h2, h3.2.2.1, h3.2.2.2, hc, h4, h5, and_self]

set_option maxHeartbeats 20000000 in
set_option maxRecDepth 100000 in
theorem zzSplit_any (s : ByteArray) (w : World) (hs : s.size ≤ 1048576) :
    Calls Try.prog 13 #[.string s] w fun e w' => ∃ (a b c d f : ByteArray) (x y z : Bool), e = .returned (agg8 a b c d f x y z) ∧ Is (split s.data.toList) a b c d f x y z ∧ Below w.heap.size w w' := by
  have HZ := hid (Lib.size_eq s)
  go_enter Try.func13, Try.ntmps13
  go_upto_block 0 with fail
  go_cut [5] (fun s5 wx => wx = W2 w ⟨#[]⟩ ⟨#[]⟩ ⟨#[]⟩ ⟨#[]⟩ ⟨#[]⟩ false false false ∧ ∃ e : Nat, e ≤ s.size ∧ s5 = .int .i64 e ∧ Stop p4 s.data.toList 0 e)
  case first =>
    as_aux_lemma =>
      go_wp2_with fail
      go_loopg [5] (s.size - 0) (fun g si wx => wx = W2 w ⟨#[]⟩ ⟨#[]⟩ ⟨#[]⟩ ⟨#[]⟩ ⟨#[]⟩ false false false ∧ ∃ e : Nat, e ≤ s.size ∧ 0 ≤ e ∧ g = s.size - e ∧ si = .int .i64 e ∧ Scan p4 s.data.toList 0 e)
      case atStart => exact ⟨rfl, 0, Nat.zero_le _, Nat.le_refl _, rfl, by go_num, Scan.start (by have := HZ.out; omega)⟩
      case round =>
        obtain ⟨rfl, e, he, hge, rfl, rfl, hsc⟩ := hrel
        have HS := hid hsc
        clear hsc
        by_cases hlt : e < s.size
        · have hki : (e : Int) < s.size := by omega
          obtain ⟨x, hx⟩ : ∃ x, s[e] = x := ⟨_, rfl⟩
          have HX := hid (byteAt s e hlt)
          rw [hx] at HX
          cases hp : p4 x
          · have HE := hid (HS.out.stop (fun b hb => by rw [HX.out] at hb; cases hb; exact hp))
            rcases p4_no hp with q1 | ⟨q1, q2⟩ | ⟨q1, q2, q3⟩ | ⟨q1, q2, q3, q4⟩
            all_goals
              clear hp
              go_wp2
              go_meet
              exact ⟨rfl, e, he, rfl, HE.out⟩
          · obtain ⟨q1, q2, q3, q4⟩ := p4_yes hp
            have HE := hid (HS.out.step HX.out hp)
            clear hp
            go_wp2
            go_roundg (s.size - (e + 1))
            case measure => omega
            case rel => exact ⟨rfl, e + 1, by omega, by omega, rfl, by go_num, HE.out⟩
        · have HE := hid (HS.out.stop (fun b hb => by rw [List.getElem?_eq_none (by have := HZ.out; omega)] at hb; cases hb))
          have hki : ¬ (e : Int) < s.size := by omega
          go_wp2
          go_meet
          exact ⟨rfl, e, he, rfl, HE.out⟩
  case rest =>
    obtain ⟨rfl, k, hk, rfl, hstop⟩ := hcut
    have HS := hid (sch_stop hstop)
    clear hstop
    go_upto_region 7 with fail
    go_cut [54] (fun s54 wx => wx = W2 w ⟨#[]⟩ ⟨#[]⟩ ⟨#[]⟩ ⟨#[]⟩ ⟨#[]⟩ false false false ∧ ∃ b : Bool, s54 = .bool b ∧ (b = true ↔ s.data.toList[k]? = some 58 ∧ valid (s.data.toList.take k) = true))
    case first =>
      as_aux_lemma =>
        by_cases hlt : k < s.size
        · have hki : (k : Int) < s.size := by omega
          have hkl : (k : Int) ≤ s.size := by omega
          obtain ⟨x, hx⟩ : ∃ x, s[k] = x := ⟨_, rfl⟩
          have HX := hid (byteAt s k hlt)
          rw [hx] at HX
          by_cases hc : x = 58
          · have q1 : ((x.toNat : Int) == 58) = true := by rw [eq58]; simpa using hc
            have HV : Hid (∀ wx, Calls Try.prog 25 #[.string (s.extract 0 k)] wx fun e w' => e = .returned (.bool (valid (s.data.toList.take k))) ∧ w' = wx) := fun wx => by
              have := valid_any (s.extract 0 k) wx (by rw [ByteArray.size_extract]; omega)
              rw [sl_to'] at this
              exact this
            have HC := hid hc
            clear hc
            cases hv : valid (s.data.toList.take k)
            all_goals
              rw [hv] at HV
              have HVV := hid hv
              clear hv
              go_wp2_with (go_at_call 25; refine (HV.out _).mono ?_; rintro e w' ⟨rfl, hw⟩; rw [hw]; clear hw)
              go_meet
              exact ⟨rfl, _, rfl, by rw [HX.out, HVV.out, HC.out]; simp⟩
          · have q1 : ((x.toNat : Int) == 58) = false := by rw [eq58]; simpa using hc
            have HC := hid hc
            clear hc
            go_wp2
            go_meet
            exact ⟨rfl, false, rfl, by rw [HX.out]; simp [HC.out]⟩
        · have hki : ¬ (k : Int) < s.size := by omega
          go_wp2
          go_meet
          exact ⟨rfl, false, rfl, by rw [List.getElem?_eq_none (by have := HZ.out; omega)]; simp⟩
    case rest =>
      obtain ⟨rfl, b, rfl, hb⟩ := hcut
      have HB := hid hb
      clear hb
      go_upto_if 54 with fail
      go_cut [6] (fun s6 wx => ∃ (pos : Nat) (a : ByteArray), pos ≤ s.size ∧ s6 = .int .i64 pos ∧ wx = W2 w a ⟨#[]⟩ ⟨#[]⟩ ⟨#[]⟩ ⟨#[]⟩ false false false ∧ sch s.data.toList = (a.data.toList, s.data.toList.drop pos))
      case first =>
        as_aux_lemma =>
          have hkl : (k : Int) ≤ s.size := by omega
          cases b
          · go_wp2
            go_meet
            exact ⟨0, ⟨#[]⟩, Nat.zero_le _, rfl, rfl, by rw [HS.out, if_neg (fun h => Bool.false_ne_true (HB.out.2 h))]; rfl⟩
          · have HT := hid (HB.out.1 rfl)
            clear HB
            have hk1 : k + 1 ≤ s.size := by
              have := HT.out.1
              rcases Nat.lt_or_ge k s.data.toList.length with h | h
              · have := HZ.out; omega
              · rw [List.getElem?_eq_none h] at this; simp at this
            go_wp2
            go_meet
            exact ⟨k + 1, s.extract 0 k, hk1, by go_num, rfl, by rw [HS.out, if_pos HT.out, sl_to']⟩
      case rest =>
        obtain ⟨pos, a, hpos, rfl, rfl, h1⟩ := hcut
        have H1 := hid h1
        clear h1 HS HB hk
        go_upto_region 10 with fail
        go_cut [77] (fun s77 wx => wx = W2 w a ⟨#[]⟩ ⟨#[]⟩ ⟨#[]⟩ ⟨#[]⟩ false false false ∧ ∃ b : Bool, s77 = .bool b ∧ (b = true ↔ (s.data.toList.drop pos).take 2 = [47, 47]))
        case first =>
          as_aux_lemma =>
            by_cases hlt : pos + 1 < s.size
            · have hki : (pos : Int) + 1 < s.size := by omega
              have hki0 : (pos : Int) < s.size := by omega
              have hlt0 : pos < s.size := by omega
              obtain ⟨x, hx⟩ : ∃ x, s[pos] = x := ⟨_, rfl⟩
              obtain ⟨y, hy⟩ : ∃ y, s[pos + 1] = y := ⟨_, rfl⟩
              have HX := hid (byteAt s pos hlt0)
              rw [hx] at HX
              have HY := hid (byteAt s (pos + 1) hlt)
              rw [hy] at HY
              by_cases hc : x = 47
              · have q1 : ((x.toNat : Int) == 47) = true := by rw [eq47]; simpa using hc
                have HC := hid hc
                clear hc
                by_cases hd : y = 47
                · have q2 : ((y.toNat : Int) == 47) = true := by rw [eq47]; simpa using hd
                  have HD := hid hd
                  clear hd
                  go_wp2
                  go_meet
                  exact ⟨rfl, true, rfl, by rw [two_at, HX.out, HY.out, HC.out, HD.out]; simp⟩
                · have q2 : ((y.toNat : Int) == 47) = false := by rw [eq47]; simpa using hd
                  have HD := hid hd
                  clear hd
                  go_wp2
                  go_meet
                  exact ⟨rfl, false, rfl, by rw [two_at, HX.out, HY.out]; simp [HD.out]⟩
              · have q1 : ((x.toNat : Int) == 47) = false := by rw [eq47]; simpa using hc
                have HC := hid hc
                clear hc
                go_wp2
                go_meet
                exact ⟨rfl, false, rfl, by rw [two_at, HX.out]; simp [HC.out]⟩
            · have hki : ¬ (pos : Int) + 1 < s.size := by omega
              go_wp2
              go_meet
              exact ⟨rfl, false, rfl, by rw [two_at, List.getElem?_eq_none (i := pos + 1) (by have := HZ.out; omega)]; simp⟩
        case rest =>
          obtain ⟨rfl, b, rfl, hb⟩ := hcut
          have HB := hid hb
          clear hb
          go_upto_if 77 with fail
          go_cut [6, 7] (fun s6 _ wx => ∃ (pos2 : Nat) (bb : ByteArray) (hA : Bool), pos2 ≤ s.size ∧ s6 = .int .i64 pos2 ∧ wx = W2 w a bb ⟨#[]⟩ ⟨#[]⟩ ⟨#[]⟩ hA false false ∧ au (s.data.toList.drop pos) = (hA, bb.data.toList, s.data.toList.drop pos2))
          case first =>
            as_aux_lemma =>
              cases b
              · go_wp2
                go_meet
                exact ⟨pos, ⟨#[]⟩, false, hpos, rfl, rfl, au_none (fun h => Bool.false_ne_true (HB.out.2 h))⟩
              · have HBT := hid (HB.out.1 rfl)
                clear HB
                have hp2 : pos + 2 ≤ s.size := by
                  have := ((two_at).1 HBT.out).2
                  rcases Nat.lt_or_ge (pos + 1) s.data.toList.length with h | h
                  · have := HZ.out; omega
                  · rw [List.getElem?_eq_none h] at this; simp at this
                go_upto_block 2 with fail
                go_cut [7] (fun s7 wx => wx = W2 w a ⟨#[]⟩ ⟨#[]⟩ ⟨#[]⟩ ⟨#[]⟩ true false false ∧ ∃ e : Nat, e ≤ s.size ∧ s7 = .int .i64 e ∧ Stop p3 s.data.toList (pos + 2) e)
                case first =>
                  as_aux_lemma =>
                    go_wp2_with fail
                    go_loopg [7] (s.size - (pos + 2)) (fun g si wx => wx = W2 w a ⟨#[]⟩ ⟨#[]⟩ ⟨#[]⟩ ⟨#[]⟩ true false false ∧ ∃ e : Nat, e ≤ s.size ∧ (pos + 2) ≤ e ∧ g = s.size - e ∧ si = .int .i64 e ∧ Scan p3 s.data.toList (pos + 2) e)
                    case atStart => exact ⟨rfl, (pos + 2), hp2, Nat.le_refl _, rfl, by go_num, Scan.start (by have := HZ.out; omega)⟩
                    case round =>
                      obtain ⟨rfl, e, he, hge, rfl, rfl, hsc⟩ := hrel
                      have HS := hid hsc
                      clear hsc
                      by_cases hlt : e < s.size
                      · have hki : (e : Int) < s.size := by omega
                        obtain ⟨x, hx⟩ : ∃ x, s[e] = x := ⟨_, rfl⟩
                        have HX := hid (byteAt s e hlt)
                        rw [hx] at HX
                        cases hp : p3 x
                        · have HE := hid (HS.out.stop (fun b hb => by rw [HX.out] at hb; cases hb; exact hp))
                          rcases p3_no hp with q1 | ⟨q1, q2⟩ | ⟨q1, q2, q3⟩
                          all_goals
                            clear hp
                            go_wp2
                            go_meet
                            exact ⟨rfl, e, he, rfl, HE.out⟩
                        · obtain ⟨q1, q2, q3⟩ := p3_yes hp
                          have HE := hid (HS.out.step HX.out hp)
                          clear hp
                          go_wp2
                          go_roundg (s.size - (e + 1))
                          case measure => omega
                          case rel => exact ⟨rfl, e + 1, by omega, by omega, rfl, by go_num, HE.out⟩
                      · have HE := hid (HS.out.stop (fun b hb => by rw [List.getElem?_eq_none (by have := HZ.out; omega)] at hb; cases hb))
                        have hki : ¬ (e : Int) < s.size := by omega
                        go_wp2
                        go_meet
                        exact ⟨rfl, e, he, rfl, HE.out⟩
                case rest =>
                  obtain ⟨rfl, e, he, rfl, hst⟩ := hcut
                  have hge : pos + 2 ≤ e := hst.1
                  have HT := hid hst
                  clear hst
                  have z1 : (pos : Int) + 2 ≤ e := by omega
                  have z2 : (e : Int) ≤ s.size := by omega
                  go_wp2
                  go_meet
                  exact ⟨e, s.extract (pos + 2) e, true, he, rfl, rfl, by rw [au_stop HBT.out HT.out, Lib.extract_data]⟩
          case rest =>
            obtain ⟨pos2, bb, hA, hpos2, rfl, rfl, h2⟩ := hcut
            have H2 := hid h2
            clear h2 HB
            go_upto_block 4 with fail
            go_cut [8] (fun s8 wx => wx = W2 w a bb ⟨#[]⟩ ⟨#[]⟩ ⟨#[]⟩ hA false false ∧ ∃ e : Nat, e ≤ s.size ∧ s8 = .int .i64 e ∧ Stop p2 s.data.toList pos2 e)
            case first =>
              as_aux_lemma =>
                go_wp2_with fail
                go_loopg [8] (s.size - pos2) (fun g si wx => wx = W2 w a bb ⟨#[]⟩ ⟨#[]⟩ ⟨#[]⟩ hA false false ∧ ∃ e : Nat, e ≤ s.size ∧ pos2 ≤ e ∧ g = s.size - e ∧ si = .int .i64 e ∧ Scan p2 s.data.toList pos2 e)
                case atStart => exact ⟨rfl, pos2, hpos2, Nat.le_refl _, rfl, by go_num, Scan.start (by have := HZ.out; omega)⟩
                case round =>
                  obtain ⟨rfl, e, he, hge, rfl, rfl, hsc⟩ := hrel
                  have HS := hid hsc
                  clear hsc
                  by_cases hlt : e < s.size
                  · have hki : (e : Int) < s.size := by omega
                    obtain ⟨x, hx⟩ : ∃ x, s[e] = x := ⟨_, rfl⟩
                    have HX := hid (byteAt s e hlt)
                    rw [hx] at HX
                    cases hp : p2 x
                    · have HE := hid (HS.out.stop (fun b hb => by rw [HX.out] at hb; cases hb; exact hp))
                      rcases p2_no hp with q1 | ⟨q1, q2⟩
                      all_goals
                        clear hp
                        go_wp2
                        go_meet
                        exact ⟨rfl, e, he, rfl, HE.out⟩
                    · obtain ⟨q1, q2⟩ := p2_yes hp
                      have HE := hid (HS.out.step HX.out hp)
                      clear hp
                      go_wp2
                      go_roundg (s.size - (e + 1))
                      case measure => omega
                      case rel => exact ⟨rfl, e + 1, by omega, by omega, rfl, by go_num, HE.out⟩
                  · have HE := hid (HS.out.stop (fun b hb => by rw [List.getElem?_eq_none (by have := HZ.out; omega)] at hb; cases hb))
                    have hki : ¬ (e : Int) < s.size := by omega
                    go_wp2
                    go_meet
                    exact ⟨rfl, e, he, rfl, HE.out⟩
            case rest =>
              obtain ⟨rfl, e2, he2, rfl, hst⟩ := hcut
              have hge : pos2 ≤ e2 := hst.1
              have H3 := hid hst
              clear hst
              have z1 : (pos2 : Int) ≤ e2 := by omega
              have z2 : (e2 : Int) ≤ s.size := by omega
              go_upto_region 22 with fail
              have HP := hid (Lib.extract_data s pos2 e2)
              obtain ⟨pa, hpa⟩ : ∃ pa, s.extract pos2 e2 = pa := ⟨_, rfl⟩
              rw [hpa] at HP ⊢
              clear hpa
              go_cut [143] (fun s143 wx => wx = W2 w a bb pa ⟨#[]⟩ ⟨#[]⟩ hA false false ∧ ∃ b : Bool, s143 = .bool b ∧ (b = true ↔ s.data.toList[e2]? = some 63))
              case first =>
                as_aux_lemma =>
                  by_cases hlt : e2 < s.size
                  · have hki : (e2 : Int) < s.size := by omega
                    obtain ⟨x, hx⟩ : ∃ x, s[e2] = x := ⟨_, rfl⟩
                    have HX := hid (byteAt s e2 hlt)
                    rw [hx] at HX
                    by_cases hc : x = 63
                    · have q1 : ((x.toNat : Int) == 63) = true := by rw [eq63]; simpa using hc
                      go_wp2
                      go_meet
                      exact ⟨rfl, true, rfl, by rw [HX.out, hc]; simp⟩
                    · have q1 : ((x.toNat : Int) == 63) = false := by rw [eq63]; simpa using hc
                      have HC := hid hc
                      clear hc
                      go_wp2
                      go_meet
                      exact ⟨rfl, false, rfl, by rw [HX.out]; simpa using HC.out⟩
                  · have hki : ¬ (e2 : Int) < s.size := by omega
                    go_wp2
                    go_meet
                    exact ⟨rfl, false, rfl, by rw [List.getElem?_eq_none (by have := HZ.out; omega)]; simp⟩
              case rest =>
                obtain ⟨rfl, b, rfl, hb⟩ := hcut
                have HB := hid hb
                clear hb
                go_upto_if 143 with fail
                go_cut [6, 8] (fun s6 _ wx => ∃ (pos4 : Nat) (qq : ByteArray) (hQ : Bool), pos4 ≤ s.size ∧ s6 = .int .i64 pos4 ∧ wx = W2 w a bb pa qq ⟨#[]⟩ hA hQ false ∧ qu (s.data.toList.drop e2) = (hQ, qq.data.toList, s.data.toList.drop pos4))
                case first =>
                  as_aux_lemma =>
                    cases b
                    · go_wp2
                      go_meet
                      exact ⟨e2, ⟨#[]⟩, false, he2, rfl, rfl, qu_none (fun h => Bool.false_ne_true (HB.out.2 h))⟩
                    · have HBT := hid (HB.out.1 rfl)
                      clear HB
                      have hp2 : e2 + 1 ≤ s.size := by
                        have := HBT.out
                        rcases Nat.lt_or_ge e2 s.data.toList.length with h | h
                        · have := HZ.out; omega
                        · rw [List.getElem?_eq_none h] at this; simp at this
                      go_upto_block 6 with fail
                      go_cut [8] (fun s8 wx => wx = W2 w a bb pa ⟨#[]⟩ ⟨#[]⟩ hA true false ∧ ∃ e : Nat, e ≤ s.size ∧ s8 = .int .i64 e ∧ Stop p1 s.data.toList (e2 + 1) e)
                      case first =>
                        as_aux_lemma =>
                          go_wp2_with fail
                          go_loopg [8] (s.size - (e2 + 1)) (fun g si wx => wx = W2 w a bb pa ⟨#[]⟩ ⟨#[]⟩ hA true false ∧ ∃ e : Nat, e ≤ s.size ∧ (e2 + 1) ≤ e ∧ g = s.size - e ∧ si = .int .i64 e ∧ Scan p1 s.data.toList (e2 + 1) e)
                          case atStart => exact ⟨rfl, (e2 + 1), hp2, Nat.le_refl _, rfl, by go_num, Scan.start (by have := HZ.out; omega)⟩
                          case round =>
                            obtain ⟨rfl, e, he, hge, rfl, rfl, hsc⟩ := hrel
                            have HS := hid hsc
                            clear hsc
                            by_cases hlt : e < s.size
                            · have hki : (e : Int) < s.size := by omega
                              obtain ⟨x, hx⟩ : ∃ x, s[e] = x := ⟨_, rfl⟩
                              have HX := hid (byteAt s e hlt)
                              rw [hx] at HX
                              cases hp : p1 x
                              · have HE := hid (HS.out.stop (fun b hb => by rw [HX.out] at hb; cases hb; exact hp))
                                have q1 := p1_no hp
                                clear hp
                                go_wp2
                                go_meet
                                exact ⟨rfl, e, he, rfl, HE.out⟩
                              · have q1 := p1_yes hp
                                have HE := hid (HS.out.step HX.out hp)
                                clear hp
                                go_wp2
                                go_roundg (s.size - (e + 1))
                                case measure => omega
                                case rel => exact ⟨rfl, e + 1, by omega, by omega, rfl, by go_num, HE.out⟩
                            · have HE := hid (HS.out.stop (fun b hb => by rw [List.getElem?_eq_none (by have := HZ.out; omega)] at hb; cases hb))
                              have hki : ¬ (e : Int) < s.size := by omega
                              go_wp2
                              go_meet
                              exact ⟨rfl, e, he, rfl, HE.out⟩
                      case rest =>
                        obtain ⟨rfl, e, he, rfl, hst⟩ := hcut
                        have hge : e2 + 1 ≤ e := hst.1
                        have HT := hid hst
                        clear hst
                        have z1 : (e2 : Int) + 1 ≤ e := by omega
                        have z2 : (e : Int) ≤ s.size := by omega
                        go_wp2
                        go_meet
                        exact ⟨e, s.extract (e2 + 1) e, true, he, rfl, rfl, by rw [qu_stop HBT.out HT.out, Lib.extract_data]⟩
                case rest =>
                  obtain ⟨pos4, qq, hQ, hpos4, rfl, rfl, h4⟩ := hcut
                  have H4 := hid h4
                  clear h4 HB
                  go_upto_region 29 with fail
                  go_cut [173] (fun s173 wx => wx = W2 w a bb pa qq ⟨#[]⟩ hA hQ false ∧ ∃ b : Bool, s173 = .bool b ∧ (b = true ↔ s.data.toList[pos4]? = some 35))
                  case first =>
                    as_aux_lemma =>
                      by_cases hlt : pos4 < s.size
                      · have hki : (pos4 : Int) < s.size := by omega
                        obtain ⟨x, hx⟩ : ∃ x, s[pos4] = x := ⟨_, rfl⟩
                        have HX := hid (byteAt s pos4 hlt)
                        rw [hx] at HX
                        by_cases hc : x = 35
                        · have q1 : ((x.toNat : Int) == 35) = true := by rw [eq35]; simpa using hc
                          go_wp2
                          go_meet
                          exact ⟨rfl, true, rfl, by rw [HX.out, hc]; simp⟩
                        · have q1 : ((x.toNat : Int) == 35) = false := by rw [eq35]; simpa using hc
                          have HC := hid hc
                          clear hc
                          go_wp2
                          go_meet
                          exact ⟨rfl, false, rfl, by rw [HX.out]; simpa using HC.out⟩
                      · have hki : ¬ (pos4 : Int) < s.size := by omega
                        go_wp2
                        go_meet
                        exact ⟨rfl, false, rfl, by rw [List.getElem?_eq_none (by have := HZ.out; omega)]; simp⟩
                  case rest =>
                    obtain ⟨rfl, b, rfl, hb⟩ := hcut
                    have HB := hid hb
                    clear hb
                    cases b
                    · have H5 := hid (fr_none (l := s.data.toList) (pos := pos4) (fun h => Bool.false_ne_true (HB.out.2 h)))
                      clear HB
                      go_wp2
                      refine bodyPost_ret (v := agg8 a bb pa qq ⟨#[]⟩ hA hQ false) (res13 ((Blk.new w (cells8 a bb pa qq ⟨#[]⟩ hA hQ false) 27).alloc) rfl) rfl ?_
                      exact ⟨_, _, _, _, _, _, _, _, rfl, is_split H1.out H2.out H3.out HP.out H4.out H5.out, ((Below.refl _ w).alloc (Nat.le_refl _) _).alloc (by simp) _⟩
                    · have H5 : Hid (fr (s.data.toList.drop pos4) = (true, (s.extract (pos4 + 1) s.size).data.toList)) := by
                        rw [Lib.extract_to_end]; exact fr_yes (HB.out.1 rfl)
                      have hp5 : (pos4 : Int) + 1 ≤ s.size := by
                        have := HB.out.1 rfl
                        rcases Nat.lt_or_ge pos4 s.data.toList.length with h | h
                        · have := HZ.out; omega
                        · rw [List.getElem?_eq_none h] at this; simp at this
                      clear HB
                      go_wp2
                      refine bodyPost_ret (v := agg8 a bb pa qq (s.extract (pos4 + 1) s.size) hA hQ true) (res13 ((Blk.new w (cells8 a bb pa qq (s.extract (pos4 + 1) s.size) hA hQ true) 27).alloc) rfl) rfl ?_
                      exact ⟨_, _, _, _, _, _, _, _, rfl, is_split H1.out H2.out H3.out HP.out H4.out H5.out, ((Below.refl _ w).alloc (Nat.le_refl _) _).alloc (by simp) _⟩

end Go.Proofs.Qxb6604144a.Iri
