/-
  zzResolve (function 20) by its contract: it writes 'join (res (split base) (split ref))'.
-/
import Derived.Test.Qxb6604144aRp
import Derived.Test.Qxb6604144aZs
import Derived.Test.Qxb6604144aJn
import Derived.Deep.CutBlock
import Derived.Laws.CopyOwn
namespace Go.Proofs.Qxb6604144a.Iri
open Go.RowKit

theorem Try.size27 : (Try.prog.info? 27).map (·.size) = some 8 := by kernel_rfl
theorem one8z (a b c d f : ByteArray) (x y z : Bool) : (cells8 a b c d f x y z).all (·.oneCell') = true := by simp [Value.oneCell']
theorem St.copy {w wx : World} {t : TypeId} {g1 g2 g3 : Nat} {k1 k2 k3 : Array Value} (h : St w wx t g1 g2 g3 k1 k2 k3) (k : Array Value) : St w (wx.setRow g2 k) t g1 g2 g3 k1 k k3 := by
  obtain ⟨⟨h1, h2, h3⟩, hb, hle, hne⟩ := h
  exact ⟨⟨(setRow_other wx g2 g1 k hne.1).trans h1, setRow_heap wx g2 k2 k t (0, 0) h2, (setRow_other wx g2 g3 k (Ne.symm hne.2.2)).trans h3⟩, below_setRow hb hle.2.1 k, hle, hne⟩

/-- Two blocks. -/
def Tw (w wx : World) (t : TypeId) (g1 g3 : Nat) (k1 k3 : Array Value) : Prop := Blk wx g1 k1 t ∧ Blk wx g3 k3 t ∧ Below w.heap.size w wx ∧ (w.heap.size ≤ g1 ∧ w.heap.size ≤ g3) ∧ g1 ≠ g3
theorem Tw.make {w w2 w3 : World} {t : TypeId} {g : Nat} {k1 k3 : Array Value} (h : Blk w2 g k1 t) (hb : Below w.heap.size w w2) (hle : w.heap.size ≤ g) (h3 : Below w2.heap.size w2 w3) : Tw w (w3.alloc (.cells k3 t)) t g w3.heap.size k1 k3 := by
  have hs := h3.size
  have hs0 := hb.size
  have hl := h.lt
  exact ⟨(h.below h3 hl).alloc, Blk.new w3 k3 t, (hb.trans (h3.mono hs0)).alloc (by omega) _, ⟨hle, by omega⟩, by omega⟩
theorem Tw.three {w wx : World} {t : TypeId} {g1 g3 : Nat} {k1 k3 : Array Value} (h : Tw w wx t g1 g3 k1 k3) (k2 : Array Value) : St w (wx.alloc (.cells k2 t)) t g1 wx.heap.size g3 k1 k2 k3 := by
  obtain ⟨h1, h3, hb, hle, hne⟩ := h
  have hs0 := hb.size
  have hl1 := h1.lt
  have hl3 := h3.lt
  exact ⟨⟨h1.alloc, Blk.new wx k2 t, h3.alloc⟩, hb.alloc hs0 _, ⟨hle.1, hs0, hle.2⟩, ⟨by omega, hne, by omega⟩⟩

set_option maxHeartbeats 16000000 in
set_option maxRecDepth 100000 in
theorem zzresolve_any (s r : ByteArray) (w : World) (hs : s.size ≤ 524288 ∧ r.size ≤ 524288) :
    Calls Try.prog 20 #[.string s, .string r] w fun e w' => ∃ q : ByteArray, e = .returned (.string q) ∧ q.data.toList = join (res (split s.data.toList) (split r.data.toList)) ∧ Below w.heap.size w w' := by
  obtain ⟨hs1, hs2⟩ := hs
  have HSZ := hid (And.intro (Lib.size_eq s) (Lib.size_eq r))
  have HS1 : Hid (∀ wx, Calls Try.prog 13 #[.string r] wx fun e w' => ∃ (a b c d f : ByteArray) (x y z : Bool), e = .returned (agg8 a b c d f x y z) ∧ Is (split r.data.toList) a b c d f x y z ∧ Below wx.heap.size wx w') := fun wx => zzSplit_any r wx (by omega)
  have HS2 : Hid (∀ wx, Calls Try.prog 13 #[.string s] wx fun e w' => ∃ (a b c d f : ByteArray) (x y z : Bool), e = .returned (agg8 a b c d f x y z) ∧ Is (split s.data.toList) a b c d f x y z ∧ Below wx.heap.size wx w') := fun wx => zzSplit_any s wx (by omega)
  go_enter Try.func20, Try.ntmps20
  go_upto_region 1 with fail
  go_cut [5] (fun s5 wx => ∃ (g : Nat) (a b c d f : ByteArray) (x y z : Bool), s5 = .pointer (some ⟨g, 0, none⟩) ∧ Is (split r.data.toList) a b c d f x y z ∧ Blk wx g (cells8 a b c d f x y z) 27 ∧ Below w.heap.size w wx ∧ w.heap.size ≤ g)
  case first =>
    go_wp2_with (go_at_call 13; refine (HS1.out _).mono ?_; rintro e w1 ⟨a, b, c, d, f, x, y, z, rfl, his, hb1⟩; have HI := hid (And.intro his hb1); clear his hb1)
    go_meet
    exact ⟨w1.heap.size, a, b, c, d, f, x, y, z, rfl, HI.out.1, Blk.new w1 _ 27, HI.out.2.alloc HI.out.2.size _, HI.out.2.size⟩
  case rest =>
    obtain ⟨g5, a, b, c, d, f, x, y, z, rfl, his, hblk, hbel, hle5⟩ := hcut
    have HI := hid his
    have HK := hid (And.intro (And.intro hblk hbel) hle5)
    obtain ⟨n1, n2, n3, n4, n5⟩ := is_len his (n := 524288) (by rw [← HSZ.out.2]; exact hs2)
    clear his hblk hbel HS1 hle5
    go_upto_region 2 with fail
    go_cut [6] (fun s6 wx => ∃ (g6 : Nat) (a' b' c' d' f' : ByteArray) (x' y' z' : Bool), s6 = .pointer (some ⟨g6, 0, none⟩) ∧ Is (split s.data.toList) a' b' c' d' f' x' y' z' ∧ Tw w wx 27 g5 g6 (cells8 a b c d f x y z) (cells8 a' b' c' d' f' x' y' z'))
    case first =>
      go_wp2_with (go_at_call 13; refine (HS2.out _).mono ?_; rintro e w3 ⟨a', b', c', d', f', x', y', z', rfl, his, hb1⟩; have HI2 := hid (And.intro his hb1); clear his hb1)
      go_meet
      exact ⟨w3.heap.size, a', b', c', d', f', x', y', z', rfl, HI2.out.1, Tw.make HK.out.1.1 HK.out.1.2 HK.out.2 HI2.out.2⟩
    case rest =>
      obtain ⟨g6, a', b', c', d', f', x', y', z', rfl, his, htw⟩ := hcut
      have HI2 := hid his
      have HTW := hid htw
      obtain ⟨m1, m2, m3, m4, m5⟩ := is_len his (n := 524288) (by rw [← HSZ.out.1]; exact hs1)
      clear his htw HK HS2
      go_upto_region 3 with fail
      go_cut [7] (fun s7 wx => ∃ g7 : Nat, s7 = .pointer (some ⟨g7, 0, none⟩) ∧ St w wx 27 g5 g7 g6 (cells8 a b c d f x y z) zeros8 (cells8 a' b' c' d' f' x' y' z'))
      case first =>
        obtain ⟨w3, rfl⟩ : ∃ w3, w3 = wc := ⟨_, rfl⟩
        go_wp2
        go_meet
        exact ⟨w3.heap.size, rfl, HTW.out.three _⟩
      case rest =>
        obtain ⟨g7, rfl, hst⟩ := hcut
        have HST := hid hst
        have h57 := hst.2.2.2.1
        have h56 := hst.2.2.2.2.1
        have h76 := hst.2.2.2.2.2
        have h75 := Ne.symm h57
        have h65 := Ne.symm h56
        have h67 := Ne.symm h76
        clear hst HTW
        obtain ⟨c0, c1, c2, c3, c4, c5, c6, c7⟩ := cells_of HST.out.1.1
        obtain ⟨d0, d1, d2, d3, d4, d5, d6, d7⟩ := cells_of HST.out.1.2.2
        obtain ⟨e0, e1, e2, e3, e4, e5, e6, e7⟩ := cells_of HST.out.1.2.1
        have hf7 := HST.out.1.2.1.unfrozen
        have hl5 := HST.out.1.1.lt
        have hl6 := HST.out.1.2.2.lt
        have hl7 := HST.out.1.2.1.lt
        go_upto_if 14 with fail
        go_cut [] (fun wx => ∃ (ta tb tc td tf : ByteArray) (tx ty tz : Bool), St w wx 27 g5 g7 g6 (cells8 a b c d f x y z) (cells8 ta tb tc td tf tx ty tz) (cells8 a' b' c' d' f' x' y' z') ∧ Is (res (split s.data.toList) (split r.data.toList)) ta tb tc td f tx ty z ∧ ta.size ≤ 4194304 ∧ tb.size ≤ 4194304 ∧ tc.size ≤ 4194304 ∧ td.size ≤ 4194304)
        case first =>
          by_cases ha : a.data.toList = []
          · have q0 : (!a.toList.isEmpty) = false := by rw [empty_yes ha]; rfl
            rw [q0]
            clear q0
            have HA := hid ha
            clear ha
            cases x
            · go_upto_region 13 with fail
              go_cut [] (fun wx => St w wx 27 g5 g7 g6 (cells8 a b c d f false y z) (cells8 a' b' ⟨#[]⟩ ⟨#[]⟩ ⟨#[]⟩ x' false false) (cells8 a' b' c' d' f' x' y' z'))
              case first =>
                go_wp2
                go_meet
                exact ((HST.out.set rfl).set rfl).set rfl
              case rest =>
                have HS8 := hid hcut
                clear hcut HST
                clear c0 c1 c2 c3 c4 c5 c6 c7 d0 d1 d2 d3 d4 d5 d6 d7 e0 e1 e2 e3 e4 e5 e6 e7 hf7 hl5 hl6 hl7
                obtain ⟨c0, c1, c2, c3, c4, c5, c6, c7⟩ := cells_of HS8.out.1.1
                obtain ⟨d0, d1, d2, d3, d4, d5, d6, d7⟩ := cells_of HS8.out.1.2.2
                obtain ⟨e0, e1, e2, e3, e4, e5, e6, e7⟩ := cells_of HS8.out.1.2.1
                have hf7 := HS8.out.1.2.1.unfrozen
                have hl5 := HS8.out.1.1.lt
                have hl6 := HS8.out.1.2.2.lt
                have hl7 := HS8.out.1.2.1.lt
                by_cases hc0 : c.data.toList = []
                · have q1 := empty_yes hc0
                  have HC0 := hid hc0
                  clear hc0
                  cases y
                  · as_aux_lemma =>
                      go_wp2
                      go_meet
                      exact ⟨a', b', c', d', ⟨#[]⟩, x', y', false, ((HS8.out.set rfl).set rfl).set rfl, res4 HI.out HI2.out HA.out HC0.out, by omega, by omega, by omega, by omega⟩
                  · as_aux_lemma =>
                      go_wp2
                      go_meet
                      exact ⟨a', b', c', d, ⟨#[]⟩, x', true, false, ((HS8.out.set rfl).set rfl).set rfl, res3 HI.out HI2.out HA.out HC0.out, by omega, by omega, by omega, by omega⟩
                · have q1 := empty_no hc0
                  have hpos : 0 < c.size := by
                    rw [Lib.size_eq]
                    exact List.length_pos_iff.2 hc0
                  have HC0 := hid hc0
                  clear hc0
                  have z1 : (0 : Int) < c.size := by omega
                  obtain ⟨u, hu⟩ : ∃ u, c[0] = u := ⟨_, rfl⟩
                  have HU : Hid (c.data.toList.head? = some u) := show c.data.toList.head? = some u by
                    have := Lib.data_getElem? c 0 hpos
                    rw [hu] at this
                    rw [List.head?_eq_getElem?]
                    exact this
                  by_cases h47 : u = 47
                  · as_aux_lemma =>
                      have q2 : ((u.toNat : Int) == 47) = true := by rw [h47]; rfl
                      rw [h47] at HU
                      clear h47
                      go_wp2_with (go_at_call 10; refine (zzrds_any c _ (by omega)).mono ?_; rintro e w4 ⟨p, rfl, hp, hb4⟩; have HS9 := hid (HS8.out.call hb4); have HP := hid hp; clear c0 c1 c2 c3 c4 c5 c6 c7 d0 d1 d2 d3 d4 d5 d6 d7 e0 e1 e2 e3 e4 e5 e6 e7 hf7 hl5 hl6 hl7; obtain ⟨c0, c1, c2, c3, c4, c5, c6, c7⟩ := cells_of HS9.out.1.1; obtain ⟨d0, d1, d2, d3, d4, d5, d6, d7⟩ := cells_of HS9.out.1.2.2; obtain ⟨e0, e1, e2, e3, e4, e5, e6, e7⟩ := cells_of HS9.out.1.2.1; have hf7 := HS9.out.1.2.1.unfrozen; have hl5 := HS9.out.1.1.lt; have hl6 := HS9.out.1.2.2.lt; have hl7 := HS9.out.1.2.1.lt; clear hp hb4)
                      go_meet
                      refine ⟨a', b', p, d, ⟨#[]⟩, x', y, false, ((HS9.out.set rfl).set rfl).set rfl, res5 HI.out HI2.out HA.out HC0.out HU.out HP.out, by omega, by omega, ?_, by omega⟩
                      rw [Lib.size_eq, HP.out]; have := ans_len c.data.toList; rw [← Lib.size_eq] at this; omega
                  · as_aux_lemma =>
                      have q2 : ((u.toNat : Int) == 47) = false := by
                        rw [beq_eq_false_iff_ne]
                        intro e
                        exact h47 (UInt8.toNat_inj.1 (by show _ = 47; omega))
                      have HH : Hid (c.data.toList.head? ≠ some 47) := fun h => h47 (Option.some.inj (HU.out.symm.trans h))
                      clear h47 HU
                      have HM : Hid (∀ wx, Calls Try.prog 31 #[agg8 a' b' c' d' f' x' y' z', .string c] wx fun e w' => ∃ m : ByteArray, e = .returned (.string m) ∧ (m.data.toList = mg x' c'.data.toList c.data.toList ∧ m.size ≤ 1048577) ∧ Below wx.heap.size wx w') := fun wx => by
                        refine (merge_any a' b' c' d' f' x' y' z' c wx (by omega)).mono ?_
                        rintro e w' ⟨m, h1, h2, h3⟩
                        refine ⟨m, h1, ⟨h2, ?_⟩, h3⟩
                        have := mg_len x' c'.data.toList c.data.toList
                        rw [← h2, ← Lib.size_eq, ← Lib.size_eq, ← Lib.size_eq] at this
                        omega
                      go_upto_region 23 with fail
                      clear c0 c1 c3 c4 c5 c6 c7 d0 d1 d2 d3 d4 d5 d6 d7 e0 e1 e2 e3 e4 e5 e6 e7 hf7 hl5 hl6 hl7
                      go_wp2_with (first | (refine wpList_load_row rfl 27 _ rfl g6 rfl 27 (cells8 a' b' c' d' f' x' y' z') (0, 0) _ HS8.out.1.2.2 Try.underlying27 rfl Try.size27 ?_) | (go_at_call 31; refine (HM.out _).mono ?_; rintro e w4 ⟨m, rfl, hm, hb4⟩; have HS9 := hid (HS8.out.call hb4); have HMM := hid hm.1; have hmz := hm.2; clear hm hb4) | (go_at_call 10; refine (zzrds_any m _ (by omega)).mono ?_; rintro e w5 ⟨p, rfl, hp, hb5⟩; have HS10 := hid (HS9.out.call hb5); have HP := hid hp; clear c2; obtain ⟨c0, c1, c2, c3, c4, c5, c6, c7⟩ := cells_of HS10.out.1.1; obtain ⟨d0, d1, d2, d3, d4, d5, d6, d7⟩ := cells_of HS10.out.1.2.2; obtain ⟨e0, e1, e2, e3, e4, e5, e6, e7⟩ := cells_of HS10.out.1.2.1; have hf7 := HS10.out.1.2.1.unfrozen; have hl5 := HS10.out.1.1.lt; have hl6 := HS10.out.1.2.2.lt; have hl7 := HS10.out.1.2.1.lt; clear hp hb5))
                      go_meet
                      refine ⟨a', b', p, d, ⟨#[]⟩, x', y, false, ((HS10.out.set rfl).set rfl).set rfl, res6 HI.out HI2.out HA.out HC0.out HH.out (HP.out.trans (congrArg (ans []) HMM.out)), by omega, by omega, ?_, by omega⟩
                      rw [Lib.size_eq, HP.out]; have := ans_len m.data.toList; rw [← Lib.size_eq] at this; omega
            · as_aux_lemma =>
                go_upto_region 8 with fail
                go_cut [] (fun wx => St w wx 27 g5 g7 g6 (cells8 a b c d f true y z) (cells8 a b c d f true y z) (cells8 a' b' c' d' f' x' y' z'))
                case first =>
                  clear c0 c1 c2 c3 c4 c5 c6 c7 d0 d1 d2 d3 d4 d5 d6 d7 e0 e1 e2 e3 e4 e5 e6 e7 hf7 hl5 hl6 hl7
                  go_wp2_with (first | (refine wpList_load_row rfl 27 _ rfl g5 rfl 27 (cells8 a b c d f true y z) (0, 0) _ HST.out.1.1 Try.underlying27 rfl Try.size27 ?_) | (refine wpList_store_row rfl 27 _ _ rfl g7 (cells8 a b c d f true y z) rfl rfl 27 zeros8 HST.out.1.2.1 Try.size27 rfl (one8z ..) ?_))
                  go_meet
                  exact HST.out.copy _
                case rest =>
                  have HS8 := hid hcut
                  clear hcut
                  clear c0 c1 c2 c3 c4 c5 c6 c7 d0 d1 d2 d3 d4 d5 d6 d7 e0 e1 e2 e3 e4 e5 e6 e7 hf7 hl5 hl6 hl7
                  obtain ⟨c0, c1, c2, c3, c4, c5, c6, c7⟩ := cells_of HS8.out.1.1
                  obtain ⟨d0, d1, d2, d3, d4, d5, d6, d7⟩ := cells_of HS8.out.1.2.2
                  obtain ⟨e0, e1, e2, e3, e4, e5, e6, e7⟩ := cells_of HS8.out.1.2.1
                  have hf7 := HS8.out.1.2.1.unfrozen
                  have hl5 := HS8.out.1.1.lt
                  have hl6 := HS8.out.1.2.2.lt
                  have hl7 := HS8.out.1.2.1.lt
                  go_wp2_with (go_at_call 10; refine (zzrds_any c _ (by omega)).mono ?_; rintro e w4 ⟨p, rfl, hp, hb4⟩; have HS9 := hid (HS8.out.call hb4); have HP := hid hp; clear c0 c1 c2 c3 c4 c5 c6 c7 d0 d1 d2 d3 d4 d5 d6 d7 e0 e1 e2 e3 e4 e5 e6 e7 hf7 hl5 hl6 hl7; obtain ⟨c0, c1, c2, c3, c4, c5, c6, c7⟩ := cells_of HS9.out.1.1; obtain ⟨d0, d1, d2, d3, d4, d5, d6, d7⟩ := cells_of HS9.out.1.2.2; obtain ⟨e0, e1, e2, e3, e4, e5, e6, e7⟩ := cells_of HS9.out.1.2.1; have hf7 := HS9.out.1.2.1.unfrozen; have hl5 := HS9.out.1.1.lt; have hl6 := HS9.out.1.2.2.lt; have hl7 := HS9.out.1.2.1.lt; clear hp hb4)
                  go_meet
                  refine ⟨a', b, p, d, f, true, y, z, (HS9.out.set rfl).set rfl, res2 HI.out HI2.out HA.out HP.out, by omega, by omega, ?_, by omega⟩
                  rw [Lib.size_eq, HP.out]; have := ans_len c.data.toList; rw [← Lib.size_eq] at this; omega
          · as_aux_lemma =>
              have q0 : (!a.toList.isEmpty) = true := by rw [empty_no ha]; rfl
              rw [q0]
              clear q0
              have HA := hid ha
              clear ha
              go_upto_region 5 with fail
              go_cut [] (fun wx => St w wx 27 g5 g7 g6 (cells8 a b c d f x y z) (cells8 a b c d f x y z) (cells8 a' b' c' d' f' x' y' z'))
              case first =>
                clear c0 c1 c2 c3 c4 c5 c6 c7 d0 d1 d2 d3 d4 d5 d6 d7 e0 e1 e2 e3 e4 e5 e6 e7 hf7 hl5 hl6 hl7
                go_wp2_with (first | (refine wpList_load_row rfl 27 _ rfl g5 rfl 27 (cells8 a b c d f x y z) (0, 0) _ HST.out.1.1 Try.underlying27 rfl Try.size27 ?_) | (refine wpList_store_row rfl 27 _ _ rfl g7 (cells8 a b c d f x y z) rfl rfl 27 zeros8 HST.out.1.2.1 Try.size27 rfl (one8z ..) ?_))
                go_meet
                exact HST.out.copy _
              case rest =>
                have HS8 := hid hcut
                clear hcut
                clear c0 c1 c2 c3 c4 c5 c6 c7 d0 d1 d2 d3 d4 d5 d6 d7 e0 e1 e2 e3 e4 e5 e6 e7 hf7 hl5 hl6 hl7
                obtain ⟨c0, c1, c2, c3, c4, c5, c6, c7⟩ := cells_of HS8.out.1.1
                obtain ⟨d0, d1, d2, d3, d4, d5, d6, d7⟩ := cells_of HS8.out.1.2.2
                obtain ⟨e0, e1, e2, e3, e4, e5, e6, e7⟩ := cells_of HS8.out.1.2.1
                have hf7 := HS8.out.1.2.1.unfrozen
                have hl5 := HS8.out.1.1.lt
                have hl6 := HS8.out.1.2.2.lt
                have hl7 := HS8.out.1.2.1.lt
                go_wp2_with (go_at_call 10; refine (zzrds_any c _ (by omega)).mono ?_; rintro e w4 ⟨p, rfl, hp, hb4⟩; have HS9 := hid (HS8.out.call hb4); have HP := hid hp; clear c0 c1 c2 c3 c4 c5 c6 c7 d0 d1 d2 d3 d4 d5 d6 d7 e0 e1 e2 e3 e4 e5 e6 e7 hf7 hl5 hl6 hl7; obtain ⟨c0, c1, c2, c3, c4, c5, c6, c7⟩ := cells_of HS9.out.1.1; obtain ⟨d0, d1, d2, d3, d4, d5, d6, d7⟩ := cells_of HS9.out.1.2.2; obtain ⟨e0, e1, e2, e3, e4, e5, e6, e7⟩ := cells_of HS9.out.1.2.1; have hf7 := HS9.out.1.2.1.unfrozen; have hl5 := HS9.out.1.1.lt; have hl6 := HS9.out.1.2.2.lt; have hl7 := HS9.out.1.2.1.lt; clear hp hb4)
                go_meet
                refine ⟨a, b, p, d, f, x, y, z, HS9.out.set rfl, res1 HI.out HA.out HP.out, by omega, by omega, ?_, by omega⟩
                rw [Lib.size_eq, HP.out]; have := ans_len c.data.toList; rw [← Lib.size_eq] at this; omega
        case rest =>
          obtain ⟨ta, tb, tc, td, tf, tx, ty, tz, hst, his, s1, s2, s3, s4⟩ := hcut
          have HIR := hid his
          have HST2 := hid hst
          clear his hst HST
          clear c0 c1 c2 c3 c4 c5 c6 c7 d0 d1 d2 d3 d4 d5 d6 d7 e0 e1 e2 e3 e4 e5 e6 e7 hf7 hl5 hl6 hl7
          obtain ⟨c0, c1, c2, c3, c4, c5, c6, c7⟩ := cells_of HST2.out.1.1
          obtain ⟨d0, d1, d2, d3, d4, d5, d6, d7⟩ := cells_of HST2.out.1.2.2
          obtain ⟨e0, e1, e2, e3, e4, e5, e6, e7⟩ := cells_of HST2.out.1.2.1
          have hf7 := HST2.out.1.2.1.unfrozen
          have hl5 := HST2.out.1.1.lt
          have hl6 := HST2.out.1.2.2.lt
          have hl7 := HST2.out.1.2.1.lt
          go_upto_region 27 with fail
          go_cut [] (fun wx => St w wx 27 g5 g7 g6 (cells8 a b c d f x y z) (cells8 ta tb tc td f tx ty z) (cells8 a' b' c' d' f' x' y' z'))
          case first =>
            go_wp2
            go_meet
            exact (HST2.out.set rfl).set rfl
          case rest =>
            have HST3 := hid hcut
            clear hcut HST2
            clear c0 c1 c2 c3 c4 c5 c6 c7 d0 d1 d2 d3 d4 d5 d6 d7 e0 e1 e2 e3 e4 e5 e6 e7 hf7 hl5 hl6 hl7
            obtain ⟨e0, e1, e2, e3, e4, e5, e6, e7⟩ := cells_of HST3.out.1.2.1
            have HF : Hid (∀ wx, Calls Try.prog 32 #[agg8 ta tb tc td f tx ty z] wx fun e w' => ∃ q : ByteArray, e = .returned (.string q) ∧ q.data.toList = join (res (split s.data.toList) (split r.data.toList)) ∧ Below wx.heap.size wx w') := fun wx => by
              rw [join_is HIR.out]
              exact join32_any ta tb tc td f tx ty z wx ⟨s1, s2, s3, s4, by omega⟩
            go_wp2_with (go_at_call 32; refine (HF.out _).mono ?_; rintro e w5 ⟨q, rfl, hq5, hb5⟩; have H5 := hid (And.intro hq5 (HST3.out.2.1.trans (hb5.mono HST3.out.2.1.size))); clear hq5 hb5)
            go_ret
            exact ⟨_, rfl, H5.out⟩

end Go.Proofs.Qxb6604144a.Iri
