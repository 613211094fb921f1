/-
  ResolveIRI (function 19) by its contract: it writes 'join (res (split base) (split ref))'.
-/
import Derived.Test.Qxb6604144aRp
import Derived.Test.Qxb6604144aSi
import Derived.Test.Qxb6604144aRm
import Derived.Deep.CutBlock
import Derived.Deep.RegionWith
import Derived.Laws.CopyOwn
namespace Go.Proofs.Qxb6604144a.Iri
open Go.RowKit

theorem Try.size37 : (Try.prog.info? 37).map (·.size) = some 8 := by kernel_rfl
theorem one8 (a b c d f : ByteArray) (x y z : Bool) : (cells8 a b c d f x y z).all (·.oneCell') = true := by simp [Value.oneCell']
theorem St.row {w wx : World} {t : TypeId} {g1 g2 g3 : Nat} {k1 k2 k3 : Array Value} (h : St w wx t g1 g2 g3 k1 k2 k3) (k : Array Value) : St w (wx.setRow g2 k) t g1 g2 g3 k1 k k3 := by
  obtain ⟨⟨h1, h2, h3⟩, hb, hle, hne⟩ := h
  exact ⟨⟨(setRow_other wx g2 g1 k hne.1).trans h1, setRow_heap wx g2 k2 k t (0, 0) h2, (setRow_other wx g2 g3 k (Ne.symm hne.2.2)).trans h3⟩, below_setRow hb hle.2.1 k, hle, hne⟩

theorem St.make {w w2 w3 : World} {t : TypeId} {k1 k2 k3 : Array Value} {g5 : Nat} (h : Blk w2 g5 k1 t) (hb : Below w.heap.size w w2) (hle : w.heap.size ≤ g5)
    (h3 : Below (w2.alloc (.cells k2 t)).heap.size (w2.alloc (.cells k2 t)) w3) : St w (w3.alloc (.cells k3 t)) t g5 w2.heap.size w3.heap.size k1 k2 k3 := by
  have hz : (w2.alloc (.cells k2 t)).heap.size = w2.heap.size + 1 := World.size_alloc ..
  have hs := h3.size
  have hs0 := hb.size
  have hl := h.lt
  refine ⟨⟨((h.alloc (o := .cells k2 t)).below h3 (by omega)).alloc, ((Blk.new w2 k2 t).below h3 (by omega)).alloc, Blk.new w3 k3 t⟩, ((hb.alloc hs0 _).trans (h3.mono (by omega))).alloc (by omega) _, ⟨hle, hs0, by omega⟩, ⟨by omega, by omega, by omega⟩⟩

theorem contains_dot (c : ByteArray) : (decide (0 ≤ Lib.indexByte c.data.toList 46) = false ∧ (46 : UInt8) ∉ c.data.toList) ∨ decide (0 ≤ Lib.indexByte c.data.toList 46) = true := by
  rcases indexByte_cases c.data.toList 46 with ⟨e, h⟩ | ⟨k, e, _⟩
  · refine Or.inl ⟨by rw [e]; rfl, fun hm => ?_⟩
    obtain ⟨m, hm, e2⟩ := List.getElem_of_mem hm
    exact h m (by rw [List.getElem?_eq_getElem hm, e2])
  · exact Or.inr (by rw [e]; simp)

theorem slash_size (c : ByteArray) : (⟨#[47]⟩ ++ c : ByteArray).size = c.size + 1 := by rw [ByteArray.size_append, Nat.add_comm]; rfl
theorem slash_mg (c : ByteArray) : (⟨#[47]⟩ ++ c : ByteArray).data.toList = mg true [] c.data.toList := by
  rw [Joins.data_append]
  rfl
theorem rds_slash (c : ByteArray) (hc : c.size ≤ 524288) (wx : World) : Calls Try.prog 21 #[.string (⟨#[47]⟩ ++ c)] wx fun e w' => ∃ r : ByteArray, e = .returned (.string r) ∧ (r.data.toList = ans [] (mg true [] c.data.toList) ∧ r.size ≤ 4194304) ∧ Below wx.heap.size wx w' := by
  have hsz := slash_size c
  have hm := slash_mg c
  generalize (⟨#[47]⟩ ++ c : ByteArray) = s at *
  refine (rds_any s wx (by omega)).mono ?_
  rintro e w' ⟨r, h1, h2, h3⟩
  refine ⟨r, h1, ⟨by rw [h2, hm], ?_⟩, h3⟩
  have := ans_len s.data.toList
  rw [← h2, ← Lib.size_eq, ← Lib.size_eq] at this
  omega

theorem rds_merge (x' : Bool) (c' c : ByteArray) (n : Nat) (hc : c'.size ≤ 524288 ∧ c.size ≤ 524288) (hm : (c'.extract 0 n ++ c : ByteArray).data.toList = mg x' c'.data.toList c.data.toList) (wx : World) : Calls Try.prog 21 #[.string (c'.extract 0 n ++ c)] wx fun e w' => ∃ p : ByteArray, e = .returned (.string p) ∧ (p.data.toList = ans [] (mg x' c'.data.toList c.data.toList) ∧ p.size ≤ 4194304) ∧ Below wx.heap.size wx w' := by
  have hsz : (c'.extract 0 n ++ c : ByteArray).size ≤ c'.size + c.size := by rw [ByteArray.size_append, ByteArray.size_extract]; omega
  generalize (c'.extract 0 n ++ c : ByteArray) = s at *
  refine (rds_any s wx (by omega)).mono ?_
  rintro e w' ⟨r, h1, h2, h3⟩
  refine ⟨r, h1, ⟨by rw [h2, hm], ?_⟩, h3⟩
  have := ans_len s.data.toList
  rw [← h2, ← Lib.size_eq, ← Lib.size_eq] at this
  omega

theorem slash_head (c : ByteArray) : Lib.hasPrefix c.data.toList (ByteArray.mk #[47]).data.toList = true ↔ c.data.toList.head? = some 47 := by
  show Lib.hasPrefix c.data.toList [47] = true ↔ _
  constructor
  · intro h
    rw [pre_eq h]
    rfl
  · intro h
    cases hp : Lib.hasPrefix c.data.toList [47]
    · exact absurd (head_tail h) (pre_no hp _)
    · rfl

set_option maxHeartbeats 16000000 in
set_option maxRecDepth 100000 in
theorem resolve_any (s r : ByteArray) (w : World) (hs : s.size ≤ 524288 ∧ r.size ≤ 524288) :
    Calls Try.prog 19 #[.string s, .string r] w fun e w' => ∃ q : ByteArray, e = .returned (.string q) ∧ q.data.toList = join (res (split s.data.toList) (split r.data.toList)) ∧ Below w.heap.size w w' := by
  obtain ⟨hs1, hs2⟩ := hs
  have HSZ := hid (And.intro (Lib.size_eq s) (Lib.size_eq r))
  have HS1 : Hid (∀ wx, Calls Try.prog 24 #[.string r] wx fun e w' => ∃ (a b c d f : ByteArray) (x y z : Bool), e = .returned (agg8 a b c d f x y z) ∧ Is (split r.data.toList) a b c d f x y z ∧ Below wx.heap.size wx w') := fun wx => by
    have := splitIRI_any r wx (by omega)
    rw [split_split2] at this
    exact this
  have HS2 : Hid (∀ wx, Calls Try.prog 24 #[.string s] wx fun e w' => ∃ (a b c d f : ByteArray) (x y z : Bool), e = .returned (agg8 a b c d f x y z) ∧ Is (split s.data.toList) a b c d f x y z ∧ Below wx.heap.size wx w') := fun wx => by
    have := splitIRI_any s wx (by omega)
    rw [split_split2] at this
    exact this
  go_enter Try.func19, Try.ntmps19
  go_upto_region 1 with fail
  go_cut [5] (fun s5 wx => ∃ (g : Nat) (a b c d f : ByteArray) (x y z : Bool), s5 = .pointer (some ⟨g, 0, none⟩) ∧ Is (split r.data.toList) a b c d f x y z ∧ Blk wx g (cells8 a b c d f x y z) 37 ∧ Below w.heap.size w wx ∧ w.heap.size ≤ g)
  case first =>
    go_wp2_with (go_at_call 24; refine (HS1.out _).mono ?_; rintro e w1 ⟨a, b, c, d, f, x, y, z, rfl, his, hb1⟩; have HI := hid (And.intro his hb1); clear his hb1)
    go_meet
    exact ⟨w1.heap.size, a, b, c, d, f, x, y, z, rfl, HI.out.1, Blk.new w1 _ 37, HI.out.2.alloc HI.out.2.size _, HI.out.2.size⟩
  case rest =>
    obtain ⟨g5, a, b, c, d, f, x, y, z, rfl, his, hblk, hbel, hle5⟩ := hcut
    have HI := hid his
    have HK := hid (And.intro hblk hbel)
    have hn := is_len his (n := 524288) (by rw [← HSZ.out.2]; exact hs2)
    obtain ⟨n1, n2, n3, n4, n5⟩ := hn
    obtain ⟨c0, c1, c2, c3, c4, c5, c6, c7⟩ := cells_of hblk
    have hlt5 := hblk.lt
    clear his hblk hbel
    have HC : Hid (∀ wx, Calls Try.prog 28 #[.string c, .string ⟨#[46]⟩] wx fun e w' => e = .returned (.bool (decide (0 ≤ Lib.indexByte c.data.toList 46))) ∧ w' = wx) := fun wx => Try.strings_Contains_one c 46 wx
    by_cases hA : a.data.toList ≠ [] ∧ decide (0 ≤ Lib.indexByte c.data.toList 46) = false
    · have q := empty_no hA.1
      have HR : Hid (r.data.toList = join (res (split s.data.toList) (split r.data.toList))) := by
        rcases contains_dot c with ⟨_, h⟩ | h
        · exact (res_same HI.out hA.1 h).symm
        · rw [hA.2] at h; exact absurd h Bool.false_ne_true
      rw [hA.2] at HC
      clear hA
      go_wp2_with (go_at_call 28; refine (HC.out _).mono ?_; rintro e wz ⟨rfl, hw⟩; rw [hw]; clear hw wz)
      go_ret
      exact ⟨_, rfl, HR.out, HK.out.2⟩
    · have hq : a.toList.isEmpty = true ∨ (a.toList.isEmpty = false ∧ decide (0 ≤ Lib.indexByte c.data.toList 46) = true) := by
        by_cases h : a.data.toList = []
        · exact Or.inl (empty_yes h)
        · refine Or.inr ⟨empty_no h, ?_⟩
          cases hd : decide (0 ≤ Lib.indexByte c.data.toList 46)
          · exact absurd ⟨h, hd⟩ hA
          · rfl
      clear hA
      obtain ⟨w2, rfl⟩ : ∃ w2, w2 = wc := ⟨_, rfl⟩
      go_upto_region 2 with fail
      go_cut [18] (fun s18 wx => s18 = .bool false ∧ w2 = wx)
      case first =>
        rcases hq with q | ⟨q, q2⟩
        · go_wp2
          go_meet
          exact ⟨rfl, rfl⟩
        · rw [q2] at HC
          go_wp2_with (go_at_call 28; refine (HC.out _).mono ?_; rintro e wz ⟨rfl, hw⟩; rw [hw]; clear hw wz)
          go_meet
          exact ⟨rfl, rfl⟩
      case rest =>
        obtain ⟨rfl, rfl⟩ := hcut
        clear hq HC HS1
        go_upto_region 5 with fail
        go_cut [7] (fun s7 wx => ∃ (g7 : Nat) (a' b' c' d' f' : ByteArray) (x' y' z' : Bool), s7 = .pointer (some ⟨g7, 0, none⟩) ∧ Is (split s.data.toList) a' b' c' d' f' x' y' z' ∧ St w wx 37 g5 w2.heap.size g7 (cells8 a b c d f x y z) zeros8 (cells8 a' b' c' d' f' x' y' z'))
        case first =>
          clear c0 c1 c2 c3 c4 c5 c6 c7
          go_wp2_with (go_at_call 24; refine (HS2.out _).mono ?_; rintro e w3 ⟨a', b', c', d', f', x', y', z', rfl, his, hb1⟩; have HI2 := hid (And.intro his hb1); clear his hb1)
          go_meet
          exact ⟨w3.heap.size, a', b', c', d', f', x', y', z', rfl, HI2.out.1, St.make HK.out.1 HK.out.2 hle5 HI2.out.2⟩
        case rest =>
          obtain ⟨g7, a', b', c', d', f', x', y', z', rfl, his, hst⟩ := hcut
          have HI2 := hid his
          have HST := hid hst
          clear c0 c1 c2 c3 c4 c5 c6 c7 HK hlt5 hle5 HS2
          obtain ⟨m1, m2, m3, m4, m5⟩ := is_len his (n := 524288) (by rw [← HSZ.out.1]; exact hs1)
          obtain ⟨⟨hb5, hb6, hb7⟩, _, ⟨hle5, hle6, hle7⟩, h56, h57, h67⟩ := hst
          generalize w2.heap.size = g6 at *
          obtain ⟨c0, c1, c2, c3, c4, c5, c6, c7⟩ := cells_of hb5
          obtain ⟨d0, d1, d2, d3, d4, d5, d6, d7⟩ := cells_of hb7
          obtain ⟨e0, e1, e2, e3, e4, e5, e6, e7⟩ := cells_of hb6
          have hf6 := hb6.unfrozen
          have hl5 := hb5.lt
          have hl6 := hb6.lt
          have hl7 := hb7.lt
          have h65 := Ne.symm h56
          have h75 := Ne.symm h57
          have h76 := Ne.symm h67
          clear his hb5 hb6 hb7
          go_upto_block 0 with fail
          go_cut [] (fun wx => ∃ (ta tb tc td tf : ByteArray) (tx ty tz : Bool), St w wx 37 g5 g6 g7 (cells8 a b c d f x y z) (cells8 ta tb tc td tf tx ty tz) (cells8 a' b' c' d' f' x' y' z') ∧ Is (res (split s.data.toList) (split r.data.toList)) ta tb tc td f tx ty z ∧ ta.size ≤ 4194304 ∧ tb.size ≤ 4194304 ∧ tc.size ≤ 4194304 ∧ td.size ≤ 4194304)
          case first =>
            by_cases ha : a.data.toList = []
            · have q0 := empty_yes ha
              have HA := hid ha
              clear ha
              cases x
              · -- no authority: the base's, with the reference's query
                go_upto_region 6 with fail
                go_cut [] (fun wx => St w wx 37 g5 g6 g7 (cells8 a b c d f false y z) (cells8 a' b' c' d' f' x' y' z') (cells8 a' b' c' d' f' x' y' z'))
                case first =>
                  clear c0 c1 c2 c3 c4 c5 c6 c7 d0 d1 d2 d3 d4 d5 d6 d7 e0 e1 e2 e3 e4 e5 e6 e7 hf6
                  go_wp2_with (first | (refine wpList_load_row rfl 37 _ rfl g7 rfl 37 (cells8 a' b' c' d' f' x' y' z') (0, 0) _ HST.out.1.2.2 Try.underlying37 rfl Try.size37 ?_) | (refine wpList_store_row rfl 37 _ _ rfl g6 (cells8 a' b' c' d' f' x' y' z') rfl rfl 37 zeros8 HST.out.1.2.1 Try.size37 rfl (one8 ..) ?_))
                  go_meet
                  exact HST.out.row _
                case rest =>
                  have HS8 := hid hcut
                  clear hcut hl5 hl6 hl7
                  clear c0 c1 c2 c3 c4 c5 c6 c7 d0 d1 d2 d3 d4 d5 d6 d7 e0 e1 e2 e3 e4 e5 e6 e7 hf6
                  obtain ⟨⟨hb5, hb6, hb7⟩, _⟩ := HS8.out
                  obtain ⟨c0, c1, c2, c3, c4, c5, c6, c7⟩ := cells_of hb5
                  obtain ⟨d0, d1, d2, d3, d4, d5, d6, d7⟩ := cells_of hb7
                  obtain ⟨e0, e1, e2, e3, e4, e5, e6, e7⟩ := cells_of hb6
                  have hf6 := hb6.unfrozen
                  have hl5 := hb5.lt
                  have hl6 := hb6.lt
                  have hl7 := hb7.lt
                  clear hb5 hb6 hb7
                  go_upto_region 7 with fail
                  go_cut [] (fun wx => St w wx 37 g5 g6 g7 (cells8 a b c d f false y z) (cells8 a' b' c' d f' x' y z') (cells8 a' b' c' d' f' x' y' z'))
                  case first =>
                    go_region
                    all_goals
                      go_wp2
                      go_meet
                      repeat (first | (with_reducible exact HS8.out) | (with_reducible refine St.drew ?_) | (with_reducible refine St.drewN ?_ _) | (with_reducible refine St.set (k2 := cells8 a' b' c' d' f' x' y' z') ?_ rfl) | (with_reducible refine St.set (k2 := cells8 a' b' c' d f' x' y' z') ?_ rfl) | (with_reducible refine St.set (k2 := cells8 a' b' c' d' f' x' y z') ?_ rfl))
                  case rest =>
                    have HS7 := hid hcut
                    clear hcut hl5 hl6 hl7 HS8 HST
                    clear c0 c1 c2 c3 c4 c5 c6 c7 d0 d1 d2 d3 d4 d5 d6 d7 e0 e1 e2 e3 e4 e5 e6 e7 hf6
                    obtain ⟨⟨hb5, hb6, hb7⟩, _⟩ := HS7.out
                    obtain ⟨c0, c1, c2, c3, c4, c5, c6, c7⟩ := cells_of hb5
                    obtain ⟨d0, d1, d2, d3, d4, d5, d6, d7⟩ := cells_of hb7
                    obtain ⟨e0, e1, e2, e3, e4, e5, e6, e7⟩ := cells_of hb6
                    have hf6 := hb6.unfrozen
                    have hl5 := hb5.lt
                    have hl6 := hb6.lt
                    have hl7 := hb7.lt
                    clear hb5 hb6 hb7
                    by_cases hc0 : c.data.toList = []
                    · have q1 := empty_yes hc0
                      have HC0 := hid hc0
                      clear hc0
                      cases y
                      · as_aux_lemma =>
                          go_upto_region 10 with fail
                          go_region
                          all_goals
                            go_wp2
                            go_meet
                            refine ⟨a', b', c', d', f', x', y', z', ?_, res4 HI.out HI2.out HA.out HC0.out, by omega, by omega, by omega, by omega⟩
                            repeat (first | (with_reducible exact HS7.out) | (with_reducible refine St.drew ?_) | (with_reducible refine St.drewN ?_ _) | (with_reducible refine St.set (k2 := cells8 a' b' c' d f' x' false z') ?_ rfl) | (with_reducible refine St.set (k2 := cells8 a' b' c' d' f' x' false z') ?_ rfl) | (with_reducible refine St.set (k2 := cells8 a' b' c' d f' x' y' z') ?_ rfl))
                      · as_aux_lemma =>
                          go_wp2
                          go_meet
                          exact ⟨a', b', c', d, f', x', true, z', HS7.out, res3 HI.out HI2.out HA.out HC0.out, by omega, by omega, by omega, by omega⟩
                    · have q1 := empty_no hc0
                      have HC0 := hid hc0
                      clear hc0
                      have HPX : Hid (∀ wx, Calls Try.prog 29 #[.string c, .string ⟨#[47]⟩] wx fun e w' => e = .returned (.bool (Lib.hasPrefix c.data.toList (ByteArray.mk #[47]).data.toList)) ∧ w' = wx) := fun wx => Try.strings_HasPrefix c ⟨#[47]⟩ wx
                      have hh := slash_head c
                      obtain ⟨t, ht⟩ : ∃ t, Lib.hasPrefix c.data.toList (ByteArray.mk #[47]).data.toList = t := ⟨_, rfl⟩
                      rw [ht] at hh HPX
                      clear ht
                      cases t
                      · have HH : Hid (c.data.toList.head? ≠ some 47) := fun h => Bool.false_ne_true (hh.2 h)
                        clear hh
                        by_cases hx : x' = true ∧ c'.data.toList = []
                        · as_aux_lemma =>
                            have q2 := empty_yes hx.2
                            obtain ⟨rfl, hx2⟩ := hx
                            have HCA : Hid (∀ wx, Calls Try.prog 21 #[.string (⟨#[47]⟩ ++ c)] wx fun e w' => ∃ r : ByteArray, e = .returned (.string r) ∧ (r.data.toList = ans [] (mg true c'.data.toList c.data.toList) ∧ r.size ≤ 4194304) ∧ Below wx.heap.size wx w') := fun wx => by
                              rw [hx2]
                              exact rds_slash c (by omega) wx
                            clear hx2
                            go_upto_region 15 with (go_at_call 29; refine (HPX.out _).mono ?_; rintro e wz ⟨rfl, hw⟩; rw [hw]; clear hw wz)
                            clear c0 c1 c3 c4 c5 c6 c7 d0 d1 d2 d3 d4 d5 d6 d7 e0 e1 e2 e3 e4 e5 e6 e7 hf6 hl5 hl6 hl7 q0 q1 q2 HPX
                            go_wp2_with fail
                            refine (HCA.out _).mono ?_
                            rintro e w4 ⟨p, rfl, hp, hb4⟩
                            have HS9 := hid (HS7.out.call hb4)
                            have HP := hid hp
                            have e2 := (cells_of HS9.out.1.2.1).2.2.1
                            have hf6 := HS9.out.1.2.1.unfrozen
                            have hl6 := HS9.out.1.2.1.lt
                            clear hp hb4 c2 HCA
                            go_wp2
                            go_meet
                            exact ⟨a', b', p, d, f', true, y, z', HS9.out.set rfl, res6 HI.out HI2.out HA.out HC0.out HH.out HP.out.1, by omega, by omega, HP.out.2, by omega⟩
                        · as_aux_lemma =>
                            obtain ⟨n, hn1, hn2, hn3⟩ := last_up c'
                            have HM : Hid ((c'.extract 0 n ++ c : ByteArray).data.toList = mg x' c'.data.toList c.data.toList) := show (c'.extract 0 n ++ c : ByteArray).data.toList = mg x' c'.data.toList c.data.toList by
                              unfold mg
                              rw [if_neg hx, Joins.data_append, hn3, Lib.extract_data]
                              simp
                            have HLB : Hid (∀ wx, Calls Try.prog 30 #[.string c', .int .u8 47] wx fun e w' => e = .returned (.int .i64 ((n : Int) - 1)) ∧ w' = wx) := fun wx => by
                              have := Try.strings_LastIndexByte c' 47 (by omega) wx
                              rw [hn1] at this
                              exact this
                            have hq : x' = false ∨ (x' = true ∧ c'.toList.isEmpty = false) := by
                              cases x'
                              · exact Or.inl rfl
                              · exact Or.inr ⟨rfl, empty_no (fun h => hx ⟨rfl, h⟩)⟩
                            have z2 : (n : Int) - 1 + 1 = n := by omega
                            have z3 : (n : Int) ≤ c'.size := by omega
                            have z4 : IntKind.i64.wrap (n : Int) = n := IntWalk.i64_in n (by omega)
                            clear hx hn1 hn3
                            go_upto_region 14 with (go_at_call 29; refine (HPX.out _).mono ?_; rintro e wz ⟨rfl, hw⟩; rw [hw]; clear hw wz)
                            obtain ⟨w6, rfl⟩ : ∃ w6, w6 = wc := ⟨_, rfl⟩
                            go_cut [68] (fun s68 wx => s68 = .bool false ∧ w6 = wx)
                            case first =>
                              rcases hq with rfl | ⟨rfl, q2⟩
                              · go_wp2
                                go_meet
                                exact ⟨rfl, rfl⟩
                              · go_wp2
                                go_meet
                                exact ⟨rfl, rfl⟩
                            case rest =>
                              obtain ⟨rfl, rfl⟩ := hcut
                              go_upto_region 8 with fail
                              clear hq HPX c0 c1 c3 c4 c5 c6 c7 d0 d1 d3 d4 d5 d6 d7 e0 e1 e2 e3 e4 e5 e6 e7 hf6 hl5 hl6 hl7 q0 q1
                              have HRD : Hid (∀ wx, Calls Try.prog 21 #[.string (c'.extract 0 n ++ c)] wx fun e w' => ∃ p : ByteArray, e = .returned (.string p) ∧ (p.data.toList = ans [] (mg x' c'.data.toList c.data.toList) ∧ p.size ≤ 4194304) ∧ Below wx.heap.size wx w') := fun wx => rds_merge x' c' c n (by omega) HM.out wx
                              clear HM
                              go_region_with (first | (go_at_call 30; refine (HLB.out _).mono ?_; rintro e wz ⟨rfl, hw⟩; rw [hw]; clear hw wz) | (go_at_call 21; refine (HRD.out _).mono ?_; rintro e w4 ⟨p, rfl, hp, hb4⟩; have HS9 := hid (HS7.out.drew.call hb4); have HP := hid hp; have e2 := (cells_of HS9.out.1.2.1).2.2.1; have hf6 := HS9.out.1.2.1.unfrozen; have hl6 := HS9.out.1.2.1.lt; clear hp hb4))
                              all_goals
                                go_wp2
                                go_meet
                                exact ⟨a', b', p, d, f', x', y, z', HS9.out.set rfl, res6 HI.out HI2.out HA.out HC0.out HH.out HP.out.1, by omega, by omega, HP.out.2, by omega⟩
                      · as_aux_lemma =>
                          have HH := hid (hh.1 rfl)
                          clear hh
                          go_wp2_with (first | (go_at_call 29; refine (HPX.out _).mono ?_; rintro e wz ⟨rfl, hw⟩; rw [hw]; clear hw wz) | (go_at_call 21; refine (rds_any c _ (by omega)).mono ?_; rintro e w4 ⟨p, rfl, hp, hb4⟩; have HS9 := hid (HS7.out.call hb4); have HP := hid hp; have e2 := (cells_of HS9.out.1.2.1).2.2.1; have hf6 := HS9.out.1.2.1.unfrozen; have hl6 := HS9.out.1.2.1.lt; clear hp hb4))
                          go_meet
                          refine ⟨a', b', p, d, f', x', y, z', HS9.out.set rfl, res5 HI.out HI2.out HA.out HC0.out HH.out HP.out, by omega, by omega, ?_, by omega⟩
                          rw [Lib.size_eq, HP.out]; have := ans_len c.data.toList; rw [← Lib.size_eq] at this; omega
              · as_aux_lemma =>
                  go_upto_region 20 with fail
                  go_cut [] (fun wx => St w wx 37 g5 g6 g7 (cells8 a b c d f true y z) (cells8 a b c d f true y z) (cells8 a' b' c' d' f' x' y' z'))
                  case first =>
                    clear c0 c1 c2 c3 c4 c5 c6 c7 d0 d1 d2 d3 d4 d5 d6 d7 e0 e1 e2 e3 e4 e5 e6 e7 hf6
                    go_wp2_with (first | (refine wpList_load_row rfl 37 _ rfl g5 rfl 37 (cells8 a b c d f true y z) (0, 0) _ HST.out.1.1 Try.underlying37 rfl Try.size37 ?_) | (refine wpList_store_row rfl 37 _ _ rfl g6 (cells8 a b c d f true y z) rfl rfl 37 zeros8 HST.out.1.2.1 Try.size37 rfl (one8 ..) ?_))
                    go_meet
                    exact HST.out.row _
                  case rest =>
                    have HS8 := hid hcut
                    clear hcut hl5 hl6 hl7
                    clear c0 c1 c2 c3 c4 c5 c6 c7 d0 d1 d2 d3 d4 d5 d6 d7 e0 e1 e2 e3 e4 e5 e6 e7 hf6
                    obtain ⟨⟨hb5, hb6, hb7⟩, _⟩ := HS8.out
                    obtain ⟨c0, c1, c2, c3, c4, c5, c6, c7⟩ := cells_of hb5
                    obtain ⟨d0, d1, d2, d3, d4, d5, d6, d7⟩ := cells_of hb7
                    obtain ⟨e0, e1, e2, e3, e4, e5, e6, e7⟩ := cells_of hb6
                    have hf6 := hb6.unfrozen
                    have hl5 := hb5.lt
                    have hl6 := hb6.lt
                    have hl7 := hb7.lt
                    clear hb5 hb6 hb7
                    go_wp2_with (go_at_call 21; refine (rds_any c _ (by omega)).mono ?_; rintro e w4 ⟨p, rfl, hp, hb4⟩; have HS9 := hid ((HS8.out.set (k2' := cells8 a' b c d f true y z) rfl).call hb4); have HP := hid hp; have e2 := (cells_of HS9.out.1.2.1).2.2.1; have hf6 := HS9.out.1.2.1.unfrozen; have hl6 := HS9.out.1.2.1.lt; clear hp hb4)
                    go_meet
                    refine ⟨a', b, p, d, f, true, y, z, HS9.out.set rfl, res2 HI.out HI2.out HA.out HP.out, by omega, by omega, ?_, by omega⟩
                    rw [Lib.size_eq, HP.out]; have := ans_len c.data.toList; rw [← Lib.size_eq] at this; omega
            · as_aux_lemma =>
                have q := empty_no ha
                have HA := hid ha
                clear ha
                go_upto_region 17 with fail
                go_cut [] (fun wx => St w wx 37 g5 g6 g7 (cells8 a b c d f x y z) (cells8 a b c d f x y z) (cells8 a' b' c' d' f' x' y' z'))
                case first =>
                  clear c0 c1 c2 c3 c4 c5 c6 c7 d0 d1 d2 d3 d4 d5 d6 d7 e0 e1 e2 e3 e4 e5 e6 e7 hf6
                  go_wp2_with (first | (refine wpList_load_row rfl 37 _ rfl g5 rfl 37 (cells8 a b c d f x y z) (0, 0) _ HST.out.1.1 Try.underlying37 rfl Try.size37 ?_) | (refine wpList_store_row rfl 37 _ _ rfl g6 (cells8 a b c d f x y z) rfl rfl 37 zeros8 HST.out.1.2.1 Try.size37 rfl (one8 ..) ?_))
                  go_meet
                  exact HST.out.row _
                case rest =>
                  have HS8 := hid hcut
                  obtain ⟨⟨hb5, hb6, hb7⟩, _⟩ := hcut
                  clear c0 c1 c2 c3 c4 c5 c6 c7 d0 d1 d2 d3 d4 d5 d6 d7 e0 e1 e2 e3 e4 e5 e6 e7 hf6 hl5 hl6 hl7
                  have c2 := (cells_of hb5).2.2.1
                  clear hb5 hb6 hb7
                  go_wp2_with fail
                  refine (rds_any c _ (by omega)).mono ?_
                  rintro e w4 ⟨p, rfl, hp, hb4⟩
                  have hs9 := HS8.out.call hb4
                  have HS9 := hid hs9
                  have HP := hid hp
                  have hb6 := hs9.1.2.1
                  have e2 := (cells_of hb6).2.2.1
                  have hf6 := hb6.unfrozen
                  have hl6 := hb6.lt
                  clear hb6 hs9 hp hb4 c2
                  go_wp2
                  go_meet
                  refine ⟨a, b, p, d, f, x, y, z, HS9.out.set rfl, res1 HI.out HA.out HP.out, by omega, by omega, ?_, by omega⟩
                  rw [Lib.size_eq, HP.out]; have := ans_len c.data.toList; rw [← Lib.size_eq] at this; omega
          case rest =>
            obtain ⟨ta, tb, tc, td, tf, tx, ty, tz, hst, his, s1, s2, s3, s4⟩ := hcut
            have HIR := hid his
            have HST2 := hid hst
            clear c0 c1 c2 c3 c4 c5 c6 c7 d0 d1 d2 d3 d4 d5 d6 d7 e0 e1 e2 e3 e4 e5 e6 e7 hf6 hl5 hl6 hl7 HST
            obtain ⟨⟨hb5, hb6, hb7⟩, _, _, _, _, _⟩ := hst
            obtain ⟨c0, c1, c2, c3, c4, c5, c6, c7⟩ := cells_of hb5
            obtain ⟨e0, e1, e2, e3, e4, e5, e6, e7⟩ := cells_of hb6
            have hf6 := hb6.unfrozen
            have hl5 := hb5.lt
            have hl6 := hb6.lt
            clear his hb5 hb6 hb7
            go_upto_region 23 with fail
            go_cut [] (fun wx => St w wx 37 g5 g6 g7 (cells8 a b c d f x y z) (cells8 ta tb tc td f tx ty z) (cells8 a' b' c' d' f' x' y' z'))
            case first =>
              go_region
              all_goals
                go_wp2
                go_meet
                repeat (first | (with_reducible exact HST2.out) | (with_reducible refine St.drew ?_) | (with_reducible refine St.drewN ?_ _) | (with_reducible refine St.set (k2 := cells8 ta tb tc td tf tx ty tz) ?_ rfl) | (with_reducible refine St.set (k2 := cells8 ta tb tc td f tx ty tz) ?_ rfl) | (with_reducible refine St.set (k2 := cells8 ta tb tc td tf tx ty z) ?_ rfl))
            case rest =>
              have HST3 := hid hcut
              clear c0 c1 c2 c3 c4 c5 c6 c7 e0 e1 e2 e3 e4 e5 e6 e7 hf6 hl5 hl6 HST2
              obtain ⟨e0, e1, e2, e3, e4, e5, e6, e7⟩ := cells_of hcut.1.2.1
              clear hcut
              have HF : Hid (∀ wx, Calls Try.prog 26 #[agg8 ta tb tc td f tx ty z] wx fun e w' => ∃ q : ByteArray, e = .returned (.string q) ∧ q.data.toList = join (res (split s.data.toList) (split r.data.toList)) ∧ Below wx.heap.size wx w') := fun wx => by
                rw [join_is HIR.out]
                exact string_any ta tb tc td f tx ty z wx ⟨s1, s2, s3, s4, by omega⟩
              go_wp2_with (go_at_call 26; refine (HF.out _).mono ?_; rintro e w5 ⟨q, rfl, hq5, hb5⟩; have H5 := hid (And.intro hq5 (HST3.out.2.1.trans (hb5.mono HST3.out.2.1.size))); clear hq5 hb5)
              go_ret
              exact ⟨_, rfl, H5.out⟩

end Go.Proofs.Qxb6604144a.Iri
