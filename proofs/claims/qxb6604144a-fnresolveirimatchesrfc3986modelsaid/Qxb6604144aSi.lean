/-
  splitIRI (function 24) by its contract: it reads the parts that 'split2' says.
-/
import Derived.Test.Qxb6604144aBk
namespace Go.Proofs.Qxb6604144a.Iri
open Go.RowKit

theorem is_mk {l : List UInt8} {a t s1 s2 b c d f : ByteArray} {x y z : Bool} (h1 : sch l = (a.data.toList, t.data.toList)) (h2 : cut1 35 t.data.toList = (s1.data.toList, f.data.toList, z)) (h3 : cut1 63 s1.data.toList = (s2.data.toList, d.data.toList, y))
    (h4 : au2 s2.data.toList = (x, b.data.toList, c.data.toList)) : Is (split2 l) a b c d f x y z := by
  unfold Is split2
  simp [h1, h2, h3, h4]

theorem cutp_no (s : ByteArray) (w : World) (h : ¬ s.data.toList.take 2 = [47, 47]) :
    Calls Try.prog 39 #[.string s, .string ⟨#[47, 47]⟩] w fun e w' => ∃ t : ByteArray, e = .returned (.tuple #[.string t, .bool false]) ∧ w' = w := by
  have hp : Lib.hasPrefix s.data.toList [47, 47] = false := by
    cases h' : Lib.hasPrefix s.data.toList [47, 47]
    · rfl
    · exact absurd ((pre_two _).1 h') h
  refine (Try.strings_CutPrefix s ⟨#[47, 47]⟩ w).mono fun e w' ⟨h1, h2⟩ => ⟨⟨(Lib.trimPrefix s.data.toList [47, 47]).toArray⟩, ?_, h2⟩
  rw [h1, show (ByteArray.mk #[47, 47]).data.toList = [47, 47] from rfl, hp]

theorem cutp_yes (s : ByteArray) (w : World) (h : s.data.toList.take 2 = [47, 47]) :
    Calls Try.prog 39 #[.string s, .string ⟨#[47, 47]⟩] w fun e w' => ∃ t : ByteArray, e = .returned (.tuple #[.string t, .bool true]) ∧ t.data.toList = s.data.toList.drop 2 ∧ w' = w := by
  have hp : Lib.hasPrefix s.data.toList [47, 47] = true := (pre_two _).2 h
  refine (Try.strings_CutPrefix s ⟨#[47, 47]⟩ w).mono fun e w' ⟨h1, h2⟩ => ⟨⟨(s.data.toList.drop 2).toArray⟩, ?_, by simp, h2⟩
  rw [h1, show (ByteArray.mk #[47, 47]).data.toList = [47, 47] from rfl, hp]
  simp [Lib.trimPrefix, hp]

theorem sl_to (s : ByteArray) (k : Nat) : (s.extract 0 k).data.toList = s.data.toList.take k := by rw [Lib.extract_data]; simp

theorem au2_hit {l : List UInt8} {t : ByteArray} (h : l.take 2 = [47, 47]) (ht : t.data.toList = l.drop 2) {k : Nat} (hk : Lib.indexByte t.data.toList 47 = k) :
    au2 l = (true, (t.extract 0 k).data.toList, (t.extract k t.size).data.toList) := by
  obtain ⟨_, _, h1, h2⟩ := cut_hit hk
  have e : (fun b : UInt8 => b != 47) = ns := rfl
  rw [e] at h1 h2
  unfold au2
  rw [if_pos h, ← ht, h1, h2, sl_to, Lib.extract_to_end]

theorem au2_miss {l : List UInt8} {t : ByteArray} (h : l.take 2 = [47, 47]) (ht : t.data.toList = l.drop 2) (hk : Lib.indexByte t.data.toList 47 < 0) :
    au2 l = (true, t.data.toList, ByteArray.empty.data.toList) := by
  obtain ⟨_, h1, h2⟩ := cut_miss hk
  have e : (fun b : UInt8 => b != 47) = ns := rfl
  rw [e] at h1 h2
  unfold au2
  rw [if_pos h, ← ht, h1, h2]
  rfl

theorem au2_none {l : List UInt8} (h : ¬ l.take 2 = [47, 47]) : au2 l = (false, (ByteArray.mk #[]).data.toList, l) := by
  unfold au2
  rw [if_neg h]

set_option maxHeartbeats 8000000 in
set_option maxRecDepth 100000 in
theorem splitIRI_any (s : ByteArray) (w : World) (hs : s.size ≤ 1048576) :
    Calls Try.prog 24 #[.string s] w fun e w' => ∃ (a b c d f : ByteArray) (x y z : Bool), e = .returned (.agg #[.string a, .string b, .string c, .string d, .string f, .bool x, .bool y, .bool z]) ∧ Is (split2 s.data.toList) a b c d f x y z ∧ Below w.heap.size w w' := by
  have HZ := hid (Lib.size_eq s)
  obtain ⟨r, hr⟩ : ∃ r, Lib.indexAny s.data.toList [58, 47, 63, 35] = r := ⟨_, rfl⟩
  have HI : Hid (∀ wx, Calls Try.prog 36 #[.string s, .string ⟨#[58, 47, 63, 35]⟩] wx fun e w' => e = .returned (.int .i64 r) ∧ Below wx.heap.size wx w') := fun wx => by
    have := indexAny_any s wx hs
    rw [hr] at this
    exact this
  by_cases hr0 : r ≤ 0
  · have HT : Hid (sch s.data.toList = ((ByteArray.mk #[]).data.toList, s.data.toList)) := by
      by_cases h : r < 0
      · exact sch_miss (by rw [hr]; exact h)
      · refine sch_no (k := 0) (by rw [hr]; omega) ?_
        rintro ⟨_, hv⟩
        exact absurd hv (by simp [valid])
    clear hr
    go_enter Try.func24, Try.ntmps24
    go_wp2_with (go_at_call 36; refine (HI.out _).mono ?_; rintro e w1 ⟨rfl, hb1⟩; obtain ⟨hc, hf⟩ := bcell hb1; have h2b := two_blk hb1; have HK := hid h2b.1; have HBB := hid h2b.2.2.1; clear h2b; clear hb1)
    refine (cut_one s 35 _ (by have := hs; omega)).mono ?_
    rintro e wc ⟨s1, fg, zF, rfl, hq, nq1, hw⟩
    have hl1 : s1.size ≤ 1048576 := by
      have h1 := (cut1_len 35 s.data.toList).1
      rw [hq] at h1
      have h2 := Lib.size_eq s1
      have h3 := Lib.size_eq s
      simp only at h1
      have := hs
      omega
    have HQ1 := hid hq
    rw [hw]
    clear hq hw wc
    go_wp2_with fail
    refine (cut_one s1 63 _ (by omega)).mono ?_
    rintro e wc ⟨s2, qy, yQ, rfl, hq, nq2, hw⟩
    have hl2 : s2.size ≤ 1048576 := by
      have h1 := (cut1_len 63 s1.data.toList).1
      rw [hq] at h1
      have h2 := Lib.size_eq s2
      have h3 := Lib.size_eq s1
      simp only at h1
      omega
    have HQ2 := hid hq
    rw [hw]
    clear hq hw wc
    go_wp2_with fail
    by_cases hpre : s2.data.toList.take 2 = [47, 47]
    · refine (cutp_yes s2 _ hpre).mono ?_
      rintro e wc ⟨t2, rfl, ht2, hw⟩
      rw [hw]
      have hl3 : t2.size ≤ 1048576 := by
        have h2 := Lib.size_eq s2
        have h3 := Lib.size_eq t2
        rw [ht2, List.length_drop] at h3
        omega
      have HP := hid (And.intro hpre ht2)
      clear hpre ht2 hw wc
      rcases indexByte_cases t2.data.toList 47 with ⟨e1, _⟩ | ⟨k2, e1, _, hk2, _⟩
      · have HU := hid (au2_miss HP.out.1 HP.out.2 (by omega))
        have HX : Hid (∀ wx, Calls Try.prog 34 #[.string t2, .int .u8 47] wx fun e w' => e = .returned (.int .i64 (-1)) ∧ w' = wx) := fun wx => by
          have := Try.strings_IndexByte t2 47 wx
          rw [show (47 : Int).toNat.toUInt8 = 47 from rfl, e1] at this
          exact this
        clear e1
        go_wp2_with (go_at_call 34; refine (HX.out _).mono ?_; rintro e wc ⟨rfl, hw⟩; rw [hw]; clear hw wc)
        go_region
        all_goals
          go_wp2
          refine bodyPost_ret (v := .agg #[.string (ByteArray.mk #[]), .string t2, .string ByteArray.empty, .string qy, .string fg, .bool true, .bool yQ, .bool zF]) (res24 ?_ rfl) rfl ?_
          · repeat (first | (with_reducible exact HK.out) | (with_reducible refine Blk.drew ?_) | (with_reducible refine stored8 (cs := zeros8) ?_ rfl) | (with_reducible refine Blk.drewN ?_) | (with_reducible refine Blk.other ?_ (by simp)))
          refine ⟨_, _, _, _, _, _, _, _, rfl, is_mk HT.out HQ1.out HQ2.out HU.out, ?_⟩
          repeat (first | (with_reducible exact HBB.out) | (with_reducible refine Below.drew ?_) | (with_reducible refine below_drewN ?_ _) | (with_reducible refine Below.setCell ?_ (by simp) _))
      · have HU := hid (au2_hit HP.out.1 HP.out.2 e1)
        have HX : Hid (∀ wx, Calls Try.prog 34 #[.string t2, .int .u8 47] wx fun e w' => e = .returned (.int .i64 k2) ∧ w' = wx) := fun wx => by
          have := Try.strings_IndexByte t2 47 wx
          rw [show (47 : Int).toNat.toUInt8 = 47 from rfl, e1] at this
          exact this
        rw [← Lib.size_eq] at hk2
        clear e1
        have kk : (k2 : Int) ≤ (t2.size : Int) := by omega
        go_wp2_with (go_at_call 34; refine (HX.out _).mono ?_; rintro e wc ⟨rfl, hw⟩; rw [hw]; clear hw wc)
        go_region
        all_goals
          go_wp2
          refine bodyPost_ret (v := .agg #[.string (ByteArray.mk #[]), .string (t2.extract 0 k2), .string (t2.extract k2 t2.size), .string qy, .string fg, .bool true, .bool yQ, .bool zF]) (res24 ?_ rfl) rfl ?_
          · repeat (first | (with_reducible exact HK.out) | (with_reducible refine Blk.drew ?_) | (with_reducible refine stored8 (cs := zeros8) ?_ rfl) | (with_reducible refine Blk.drewN ?_) | (with_reducible refine Blk.other ?_ (by simp)))
          refine ⟨_, _, _, _, _, _, _, _, rfl, is_mk HT.out HQ1.out HQ2.out HU.out, ?_⟩
          repeat (first | (with_reducible exact HBB.out) | (with_reducible refine Below.drew ?_) | (with_reducible refine below_drewN ?_ _) | (with_reducible refine Below.setCell ?_ (by simp) _))
    · refine (cutp_no s2 _ hpre).mono ?_
      rintro e wc ⟨t2, rfl, hw⟩
      rw [hw]
      have HU := hid (au2_none hpre)
      clear hpre hw wc
      go_wp2
      refine bodyPost_ret (v := .agg #[.string (ByteArray.mk #[]), .string ⟨#[]⟩, .string s2, .string qy, .string fg, .bool false, .bool yQ, .bool zF]) (res24 ?_ rfl) rfl ?_
      · repeat (first | (with_reducible exact HK.out) | (with_reducible refine Blk.drew ?_) | (with_reducible refine stored8 (cs := zeros8) ?_ rfl) | (with_reducible refine Blk.drewN ?_) | (with_reducible refine Blk.other ?_ (by simp)))
      refine ⟨_, _, _, _, _, _, _, _, rfl, is_mk HT.out HQ1.out HQ2.out HU.out, ?_⟩
      repeat (first | (with_reducible exact HBB.out) | (with_reducible refine Below.drew ?_) | (with_reducible refine below_drewN ?_ _) | (with_reducible refine Below.setCell ?_ (by simp) _))

  · obtain ⟨k, rfl⟩ : ∃ k : Nat, r = k := ⟨r.toNat, by omega⟩
    obtain ⟨hk, _, _⟩ := sch_hit hr
    rw [← HZ.out] at hk
    obtain ⟨x, hx⟩ : ∃ x, s[k] = x := ⟨_, rfl⟩
    have hxl : s.data.toList[k]? = some x := by rw [← hx]; exact Lib.data_getElem? s k hk
    have hk0 : (0 : Int) < k := by omega
    have hki : (k : Int) < s.size := by omega
    have hkl : (k : Int) ≤ s.size := by omega
    have hkl1 : (k : Int) + 1 ≤ s.size := by omega
    by_cases h58 : x = 58
    · subst h58
      have q1 : (((58 : UInt8).toNat : Int) == 58) = true := rfl
      have HV : Hid (∀ wx, Calls Try.prog 37 #[.string (s.extract 0 k)] wx fun e w' => e = .returned (.bool (valid (s.data.toList.take k))) ∧ Below wx.heap.size wx w') := fun wx => by
        have := isScheme_any (s.extract 0 k) wx (by rw [ByteArray.size_extract]; omega) (by rw [ByteArray.size_extract]; omega)
        rw [sl_to] at this
        exact this
      cases hv : valid (s.data.toList.take k)
      · have HT : Hid (sch s.data.toList = ((ByteArray.mk #[]).data.toList, s.data.toList)) := sch_no hr (fun h => by rw [hv] at h; exact Bool.false_ne_true h.2)
        rw [hv] at HV
        clear hr hv hxl
        go_enter Try.func24, Try.ntmps24
        go_wp2_with (first | (go_at_call 36; refine (HI.out _).mono ?_; rintro e w1 ⟨rfl, hb1⟩; obtain ⟨hc, hf⟩ := bcell hb1; have h2b := two_blk hb1; have HK := hid h2b.1; have HBB := hid h2b.2.2.1; have HB1 := hid hb1; clear h2b hb1) | (go_at_call 37; refine (HV.out _).mono ?_; rintro e w2 ⟨rfl, hb2⟩; have hb12 := HB1.out.trans (hb2.mono HB1.out.size); clear hc hf HK HBB HB1 hb2; obtain ⟨hc, hf⟩ := bcell hb12; have h2b := two_blk hb12; have HK := hid h2b.1; have HBB := hid h2b.2.2.1; clear h2b hb12))
        refine (cut_one s 35 _ (by have := hs; omega)).mono ?_
        rintro e wc ⟨s1, fg, zF, rfl, hq, nq1, hw⟩
        have hl1 : s1.size ≤ 1048576 := by
          have h1 := (cut1_len 35 s.data.toList).1
          rw [hq] at h1
          have h2 := Lib.size_eq s1
          have h3 := Lib.size_eq s
          simp only at h1
          have := hs
          omega
        have HQ1 := hid hq
        rw [hw]
        clear hq hw wc
        go_wp2_with fail
        refine (cut_one s1 63 _ (by omega)).mono ?_
        rintro e wc ⟨s2, qy, yQ, rfl, hq, nq2, hw⟩
        have hl2 : s2.size ≤ 1048576 := by
          have h1 := (cut1_len 63 s1.data.toList).1
          rw [hq] at h1
          have h2 := Lib.size_eq s2
          have h3 := Lib.size_eq s1
          simp only at h1
          omega
        have HQ2 := hid hq
        rw [hw]
        clear hq hw wc
        go_wp2_with fail
        by_cases hpre : s2.data.toList.take 2 = [47, 47]
        · refine (cutp_yes s2 _ hpre).mono ?_
          rintro e wc ⟨t2, rfl, ht2, hw⟩
          rw [hw]
          have hl3 : t2.size ≤ 1048576 := by
            have h2 := Lib.size_eq s2
            have h3 := Lib.size_eq t2
            rw [ht2, List.length_drop] at h3
            omega
          have HP := hid (And.intro hpre ht2)
          clear hpre ht2 hw wc
          rcases indexByte_cases t2.data.toList 47 with ⟨e1, _⟩ | ⟨k2, e1, _, hk2, _⟩
          · have HU := hid (au2_miss HP.out.1 HP.out.2 (by omega))
            have HX : Hid (∀ wx, Calls Try.prog 34 #[.string t2, .int .u8 47] wx fun e w' => e = .returned (.int .i64 (-1)) ∧ w' = wx) := fun wx => by
              have := Try.strings_IndexByte t2 47 wx
              rw [show (47 : Int).toNat.toUInt8 = 47 from rfl, e1] at this
              exact this
            clear e1
            go_wp2_with (go_at_call 34; refine (HX.out _).mono ?_; rintro e wc ⟨rfl, hw⟩; rw [hw]; clear hw wc)
            go_region
            all_goals
              go_wp2
              refine bodyPost_ret (v := .agg #[.string (ByteArray.mk #[]), .string t2, .string ByteArray.empty, .string qy, .string fg, .bool true, .bool yQ, .bool zF]) (res24 ?_ rfl) rfl ?_
              · repeat (first | (with_reducible exact HK.out) | (with_reducible refine Blk.drew ?_) | (with_reducible refine stored8 (cs := zeros8) ?_ rfl) | (with_reducible refine Blk.drewN ?_) | (with_reducible refine Blk.other ?_ (by simp)))
              refine ⟨_, _, _, _, _, _, _, _, rfl, is_mk HT.out HQ1.out HQ2.out HU.out, ?_⟩
              repeat (first | (with_reducible exact HBB.out) | (with_reducible refine Below.drew ?_) | (with_reducible refine below_drewN ?_ _) | (with_reducible refine Below.setCell ?_ (by simp) _))
          · have HU := hid (au2_hit HP.out.1 HP.out.2 e1)
            have HX : Hid (∀ wx, Calls Try.prog 34 #[.string t2, .int .u8 47] wx fun e w' => e = .returned (.int .i64 k2) ∧ w' = wx) := fun wx => by
              have := Try.strings_IndexByte t2 47 wx
              rw [show (47 : Int).toNat.toUInt8 = 47 from rfl, e1] at this
              exact this
            rw [← Lib.size_eq] at hk2
            clear e1
            have kk : (k2 : Int) ≤ (t2.size : Int) := by omega
            go_wp2_with (go_at_call 34; refine (HX.out _).mono ?_; rintro e wc ⟨rfl, hw⟩; rw [hw]; clear hw wc)
            go_region
            all_goals
              go_wp2
              refine bodyPost_ret (v := .agg #[.string (ByteArray.mk #[]), .string (t2.extract 0 k2), .string (t2.extract k2 t2.size), .string qy, .string fg, .bool true, .bool yQ, .bool zF]) (res24 ?_ rfl) rfl ?_
              · repeat (first | (with_reducible exact HK.out) | (with_reducible refine Blk.drew ?_) | (with_reducible refine stored8 (cs := zeros8) ?_ rfl) | (with_reducible refine Blk.drewN ?_) | (with_reducible refine Blk.other ?_ (by simp)))
              refine ⟨_, _, _, _, _, _, _, _, rfl, is_mk HT.out HQ1.out HQ2.out HU.out, ?_⟩
              repeat (first | (with_reducible exact HBB.out) | (with_reducible refine Below.drew ?_) | (with_reducible refine below_drewN ?_ _) | (with_reducible refine Below.setCell ?_ (by simp) _))
        · refine (cutp_no s2 _ hpre).mono ?_
          rintro e wc ⟨t2, rfl, hw⟩
          rw [hw]
          have HU := hid (au2_none hpre)
          clear hpre hw wc
          go_wp2
          refine bodyPost_ret (v := .agg #[.string (ByteArray.mk #[]), .string ⟨#[]⟩, .string s2, .string qy, .string fg, .bool false, .bool yQ, .bool zF]) (res24 ?_ rfl) rfl ?_
          · repeat (first | (with_reducible exact HK.out) | (with_reducible refine Blk.drew ?_) | (with_reducible refine stored8 (cs := zeros8) ?_ rfl) | (with_reducible refine Blk.drewN ?_) | (with_reducible refine Blk.other ?_ (by simp)))
          refine ⟨_, _, _, _, _, _, _, _, rfl, is_mk HT.out HQ1.out HQ2.out HU.out, ?_⟩
          repeat (first | (with_reducible exact HBB.out) | (with_reducible refine Below.drew ?_) | (with_reducible refine below_drewN ?_ _) | (with_reducible refine Below.setCell ?_ (by simp) _))

      · have HT : Hid (sch s.data.toList = ((s.extract 0 k).data.toList, (s.extract (k + 1) s.size).data.toList)) := by
          have h1 : sch s.data.toList = _ := sch_yes hr hxl hv
          rw [sl_to, Lib.extract_to_end]; exact h1
        rw [hv] at HV
        clear hr hv hxl
        go_enter Try.func24, Try.ntmps24
        go_wp2_with (first | (go_at_call 36; refine (HI.out _).mono ?_; rintro e w1 ⟨rfl, hb1⟩; obtain ⟨hc, hf⟩ := bcell hb1; have h2b := two_blk hb1; have HK := hid h2b.1; have HBB := hid h2b.2.2.1; have HB1 := hid hb1; clear h2b hb1) | (go_at_call 37; refine (HV.out _).mono ?_; rintro e w2 ⟨rfl, hb2⟩; have hb12 := HB1.out.trans (hb2.mono HB1.out.size); clear hc hf HK HBB HB1 hb2; obtain ⟨hc, hf⟩ := bcell hb12; have h2b := two_blk hb12; have HK := hid h2b.1; have HBB := hid h2b.2.2.1; clear h2b hb12))
        go_region
        all_goals
          go_wp2_with fail
          refine (cut_one (s.extract (k + 1) s.size) 35 _ (by rw [ByteArray.size_extract]; omega)).mono ?_
          rintro e wc ⟨s1, fg, zF, rfl, hq, nq1, hw⟩
          have hl1 : s1.size ≤ 1048576 := by
            have h1 := (cut1_len 35 (s.extract (k + 1) s.size).data.toList).1
            rw [hq] at h1
            have h2 := Lib.size_eq s1
            have h3 := Lib.size_eq (s.extract (k + 1) s.size)
            simp only at h1
            rw [ByteArray.size_extract] at h3
            omega
          have HQ1 := hid hq
          rw [hw]
          clear hq hw wc
          go_wp2_with fail
          refine (cut_one s1 63 _ (by omega)).mono ?_
          rintro e wc ⟨s2, qy, yQ, rfl, hq, nq2, hw⟩
          have hl2 : s2.size ≤ 1048576 := by
            have h1 := (cut1_len 63 s1.data.toList).1
            rw [hq] at h1
            have h2 := Lib.size_eq s2
            have h3 := Lib.size_eq s1
            simp only at h1
            omega
          have HQ2 := hid hq
          rw [hw]
          clear hq hw wc
          go_wp2_with fail
          by_cases hpre : s2.data.toList.take 2 = [47, 47]
          · refine (cutp_yes s2 _ hpre).mono ?_
            rintro e wc ⟨t2, rfl, ht2, hw⟩
            rw [hw]
            have hl3 : t2.size ≤ 1048576 := by
              have h2 := Lib.size_eq s2
              have h3 := Lib.size_eq t2
              rw [ht2, List.length_drop] at h3
              omega
            have HP := hid (And.intro hpre ht2)
            clear hpre ht2 hw wc
            rcases indexByte_cases t2.data.toList 47 with ⟨e1, _⟩ | ⟨k2, e1, _, hk2, _⟩
            · have HU := hid (au2_miss HP.out.1 HP.out.2 (by omega))
              have HX : Hid (∀ wx, Calls Try.prog 34 #[.string t2, .int .u8 47] wx fun e w' => e = .returned (.int .i64 (-1)) ∧ w' = wx) := fun wx => by
                have := Try.strings_IndexByte t2 47 wx
                rw [show (47 : Int).toNat.toUInt8 = 47 from rfl, e1] at this
                exact this
              clear e1
              go_wp2_with (go_at_call 34; refine (HX.out _).mono ?_; rintro e wc ⟨rfl, hw⟩; rw [hw]; clear hw wc)
              go_region
              all_goals
                go_wp2
                refine bodyPost_ret (v := .agg #[.string (s.extract 0 k), .string t2, .string ByteArray.empty, .string qy, .string fg, .bool true, .bool yQ, .bool zF]) (res24 ?_ rfl) rfl ?_
                · repeat (first | (with_reducible exact HK.out) | (with_reducible refine Blk.drew ?_) | (with_reducible refine stored8 (cs := zeros8) ?_ rfl) | (with_reducible refine Blk.drewN ?_) | (with_reducible refine Blk.other ?_ (by simp)))
                refine ⟨_, _, _, _, _, _, _, _, rfl, is_mk HT.out HQ1.out HQ2.out HU.out, ?_⟩
                repeat (first | (with_reducible exact HBB.out) | (with_reducible refine Below.drew ?_) | (with_reducible refine below_drewN ?_ _) | (with_reducible refine Below.setCell ?_ (by simp) _))
            · have HU := hid (au2_hit HP.out.1 HP.out.2 e1)
              have HX : Hid (∀ wx, Calls Try.prog 34 #[.string t2, .int .u8 47] wx fun e w' => e = .returned (.int .i64 k2) ∧ w' = wx) := fun wx => by
                have := Try.strings_IndexByte t2 47 wx
                rw [show (47 : Int).toNat.toUInt8 = 47 from rfl, e1] at this
                exact this
              rw [← Lib.size_eq] at hk2
              clear e1
              have kk : (k2 : Int) ≤ (t2.size : Int) := by omega
              go_wp2_with (go_at_call 34; refine (HX.out _).mono ?_; rintro e wc ⟨rfl, hw⟩; rw [hw]; clear hw wc)
              go_region
              all_goals
                go_wp2
                refine bodyPost_ret (v := .agg #[.string (s.extract 0 k), .string (t2.extract 0 k2), .string (t2.extract k2 t2.size), .string qy, .string fg, .bool true, .bool yQ, .bool zF]) (res24 ?_ rfl) rfl ?_
                · repeat (first | (with_reducible exact HK.out) | (with_reducible refine Blk.drew ?_) | (with_reducible refine stored8 (cs := zeros8) ?_ rfl) | (with_reducible refine Blk.drewN ?_) | (with_reducible refine Blk.other ?_ (by simp)))
                refine ⟨_, _, _, _, _, _, _, _, rfl, is_mk HT.out HQ1.out HQ2.out HU.out, ?_⟩
                repeat (first | (with_reducible exact HBB.out) | (with_reducible refine Below.drew ?_) | (with_reducible refine below_drewN ?_ _) | (with_reducible refine Below.setCell ?_ (by simp) _))
          · refine (cutp_no s2 _ hpre).mono ?_
            rintro e wc ⟨t2, rfl, hw⟩
            rw [hw]
            have HU := hid (au2_none hpre)
            clear hpre hw wc
            go_wp2
            refine bodyPost_ret (v := .agg #[.string (s.extract 0 k), .string ⟨#[]⟩, .string s2, .string qy, .string fg, .bool false, .bool yQ, .bool zF]) (res24 ?_ rfl) rfl ?_
            · repeat (first | (with_reducible exact HK.out) | (with_reducible refine Blk.drew ?_) | (with_reducible refine stored8 (cs := zeros8) ?_ rfl) | (with_reducible refine Blk.drewN ?_) | (with_reducible refine Blk.other ?_ (by simp)))
            refine ⟨_, _, _, _, _, _, _, _, rfl, is_mk HT.out HQ1.out HQ2.out HU.out, ?_⟩
            repeat (first | (with_reducible exact HBB.out) | (with_reducible refine Below.drew ?_) | (with_reducible refine below_drewN ?_ _) | (with_reducible refine Below.setCell ?_ (by simp) _))

    · have q1 : ((x.toNat : Int) == 58) = false := by
        rw [beq_eq_false_iff_ne]
        intro e
        apply h58
        have : x.toNat = 58 := by omega
        exact UInt8.toNat_inj.1 this
      have HT : Hid (sch s.data.toList = ((ByteArray.mk #[]).data.toList, s.data.toList)) := sch_no hr (fun h => by rw [hxl] at h; exact h58 (Option.some.inj h.1))
      clear hr h58 hxl
      go_enter Try.func24, Try.ntmps24
      go_wp2_with (go_at_call 36; refine (HI.out _).mono ?_; rintro e w1 ⟨rfl, hb1⟩; obtain ⟨hc, hf⟩ := bcell hb1; have h2b := two_blk hb1; have HK := hid h2b.1; have HBB := hid h2b.2.2.1; have HB1 := hid hb1; clear h2b hb1)
      refine (cut_one s 35 _ (by have := hs; omega)).mono ?_
      rintro e wc ⟨s1, fg, zF, rfl, hq, nq1, hw⟩
      have hl1 : s1.size ≤ 1048576 := by
        have h1 := (cut1_len 35 s.data.toList).1
        rw [hq] at h1
        have h2 := Lib.size_eq s1
        have h3 := Lib.size_eq s
        simp only at h1
        have := hs
        omega
      have HQ1 := hid hq
      rw [hw]
      clear hq hw wc
      go_wp2_with fail
      refine (cut_one s1 63 _ (by omega)).mono ?_
      rintro e wc ⟨s2, qy, yQ, rfl, hq, nq2, hw⟩
      have hl2 : s2.size ≤ 1048576 := by
        have h1 := (cut1_len 63 s1.data.toList).1
        rw [hq] at h1
        have h2 := Lib.size_eq s2
        have h3 := Lib.size_eq s1
        simp only at h1
        omega
      have HQ2 := hid hq
      rw [hw]
      clear hq hw wc
      go_wp2_with fail
      by_cases hpre : s2.data.toList.take 2 = [47, 47]
      · refine (cutp_yes s2 _ hpre).mono ?_
        rintro e wc ⟨t2, rfl, ht2, hw⟩
        rw [hw]
        have hl3 : t2.size ≤ 1048576 := by
          have h2 := Lib.size_eq s2
          have h3 := Lib.size_eq t2
          rw [ht2, List.length_drop] at h3
          omega
        have HP := hid (And.intro hpre ht2)
        clear hpre ht2 hw wc
        rcases indexByte_cases t2.data.toList 47 with ⟨e1, _⟩ | ⟨k2, e1, _, hk2, _⟩
        · have HU := hid (au2_miss HP.out.1 HP.out.2 (by omega))
          have HX : Hid (∀ wx, Calls Try.prog 34 #[.string t2, .int .u8 47] wx fun e w' => e = .returned (.int .i64 (-1)) ∧ w' = wx) := fun wx => by
            have := Try.strings_IndexByte t2 47 wx
            rw [show (47 : Int).toNat.toUInt8 = 47 from rfl, e1] at this
            exact this
          clear e1
          go_wp2_with (go_at_call 34; refine (HX.out _).mono ?_; rintro e wc ⟨rfl, hw⟩; rw [hw]; clear hw wc)
          go_region
          all_goals
            go_wp2
            refine bodyPost_ret (v := .agg #[.string (ByteArray.mk #[]), .string t2, .string ByteArray.empty, .string qy, .string fg, .bool true, .bool yQ, .bool zF]) (res24 ?_ rfl) rfl ?_
            · repeat (first | (with_reducible exact HK.out) | (with_reducible refine Blk.drew ?_) | (with_reducible refine stored8 (cs := zeros8) ?_ rfl) | (with_reducible refine Blk.drewN ?_) | (with_reducible refine Blk.other ?_ (by simp)))
            refine ⟨_, _, _, _, _, _, _, _, rfl, is_mk HT.out HQ1.out HQ2.out HU.out, ?_⟩
            repeat (first | (with_reducible exact HBB.out) | (with_reducible refine Below.drew ?_) | (with_reducible refine below_drewN ?_ _) | (with_reducible refine Below.setCell ?_ (by simp) _))
        · have HU := hid (au2_hit HP.out.1 HP.out.2 e1)
          have HX : Hid (∀ wx, Calls Try.prog 34 #[.string t2, .int .u8 47] wx fun e w' => e = .returned (.int .i64 k2) ∧ w' = wx) := fun wx => by
            have := Try.strings_IndexByte t2 47 wx
            rw [show (47 : Int).toNat.toUInt8 = 47 from rfl, e1] at this
            exact this
          rw [← Lib.size_eq] at hk2
          clear e1
          have kk : (k2 : Int) ≤ (t2.size : Int) := by omega
          go_wp2_with (go_at_call 34; refine (HX.out _).mono ?_; rintro e wc ⟨rfl, hw⟩; rw [hw]; clear hw wc)
          go_region
          all_goals
            go_wp2
            refine bodyPost_ret (v := .agg #[.string (ByteArray.mk #[]), .string (t2.extract 0 k2), .string (t2.extract k2 t2.size), .string qy, .string fg, .bool true, .bool yQ, .bool zF]) (res24 ?_ rfl) rfl ?_
            · repeat (first | (with_reducible exact HK.out) | (with_reducible refine Blk.drew ?_) | (with_reducible refine stored8 (cs := zeros8) ?_ rfl) | (with_reducible refine Blk.drewN ?_) | (with_reducible refine Blk.other ?_ (by simp)))
            refine ⟨_, _, _, _, _, _, _, _, rfl, is_mk HT.out HQ1.out HQ2.out HU.out, ?_⟩
            repeat (first | (with_reducible exact HBB.out) | (with_reducible refine Below.drew ?_) | (with_reducible refine below_drewN ?_ _) | (with_reducible refine Below.setCell ?_ (by simp) _))
      · refine (cutp_no s2 _ hpre).mono ?_
        rintro e wc ⟨t2, rfl, hw⟩
        rw [hw]
        have HU := hid (au2_none hpre)
        clear hpre hw wc
        go_wp2
        refine bodyPost_ret (v := .agg #[.string (ByteArray.mk #[]), .string ⟨#[]⟩, .string s2, .string qy, .string fg, .bool false, .bool yQ, .bool zF]) (res24 ?_ rfl) rfl ?_
        · repeat (first | (with_reducible exact HK.out) | (with_reducible refine Blk.drew ?_) | (with_reducible refine stored8 (cs := zeros8) ?_ rfl) | (with_reducible refine Blk.drewN ?_) | (with_reducible refine Blk.other ?_ (by simp)))
        refine ⟨_, _, _, _, _, _, _, _, rfl, is_mk HT.out HQ1.out HQ2.out HU.out, ?_⟩
        repeat (first | (with_reducible exact HBB.out) | (with_reducible refine Below.drew ?_) | (with_reducible refine below_drewN ?_ _) | (with_reducible refine Below.setCell ?_ (by simp) _))


end Go.Proofs.Qxb6604144a.Iri
