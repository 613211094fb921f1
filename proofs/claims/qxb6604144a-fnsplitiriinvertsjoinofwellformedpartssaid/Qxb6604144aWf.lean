/-
  zzHasByte (27), zzWellFormedParts (17) by their contracts: where zzWellFormedParts says true the parts are well formed.
-/
import Derived.Test.Qxb6604144aSl
import Derived.Test.Qxb6604144aSc
import Derived.Test.Qxb6604144aLf
import Derived.Deep.CutBlock
import Derived.Deep.LoopGhost
import Derived.Deep.RegionWith
namespace Go.Proofs.Qxb6604144a.Iri
open Go.RowKit

set_option maxHeartbeats 2000000 in
set_option maxRecDepth 100000 in
theorem hasByte_any (s : ByteArray) (c : UInt8) (m : Int) (hm : (c.toNat : Int) = m) (w : World) (hs : s.size ≤ 1048576) : Calls Try.prog 27 #[.string s, .int .u8 m] w fun e w' => e = .returned (.bool (s.data.toList.contains c)) ∧ w' = w := by
  have HM := hid hm
  have HZ := hid (Lib.size_eq s)
  clear hm
  obtain ⟨t, ht⟩ : ∃ t, s.data.toList.contains c = t := ⟨_, rfl⟩
  rw [ht]
  go_enter Try.func27, Try.ntmps27
  go_wp2
  go_loop [5] (fun i => ∃ k : Nat, k ≤ s.size ∧ i = .int .i64 k ∧ (s.data.toList.take k).contains c = false) (fun i => s.size - (intOf i).toNat)
  case atStart => exact ⟨0, Nat.zero_le _, rfl, by simp⟩
  case round =>
    obtain ⟨k, hk, rfl, hno⟩ := hrel
    have HN := hid hno
    clear hno
    by_cases hlt : k < s.size
    · have hki : (k : Int) < s.size := by omega
      obtain ⟨x, hx⟩ : ∃ x, s[k] = x := ⟨_, rfl⟩
      have HX := hid (Lib.data_getElem? s k hlt)
      rw [hx] at HX
      by_cases hc : x = c
      · have q : ((x.toNat : Int) == m) = true := by rw [← HM.out, eqN]; simpa using hc
        have HC : s.data.toList.contains c = true := by
          rw [List.contains_iff_mem, ← hc]; exact List.mem_of_getElem? HX.out
        obtain rfl : t = true := ht.symm.trans HC
        clear hc HC ht
        go_wp2
        go_ret
        exact ⟨rfl, rfl⟩
      · have q : ((x.toNat : Int) == m) = false := by rw [← HM.out, eqN]; simpa using hc
        have HC : Hid ((s.data.toList.take (k + 1)).contains c = false) := by
          have hl : k < s.data.toList.length := by rw [← HZ.out]; exact hlt
          rw [List.take_succ_eq_append_getElem hl]
          have e := HX.out
          rw [List.getElem?_eq_getElem hl] at e
          rw [Option.some.inj e]
          have h1 := HN.out
          rw [← Bool.not_eq_true, List.contains_iff_mem] at h1 ⊢
          intro hm
          rcases List.mem_append.1 hm with h | h
          · exact h1 h
          · simp at h; exact hc h.symm
        clear hc ht
        go_wp2
        go_round
        case rel => exact ⟨k + 1, by omega, by go_num, HC.out⟩
        case measure => simp [intOf]; omega
    · have hki : ¬ (k : Int) < s.size := by omega
      have HC : s.data.toList.contains c = false := by
        have h1 := HN.out
        rw [List.take_of_length_le (by have := HZ.out; omega)] at h1
        exact h1
      obtain rfl : t = false := ht.symm.trans HC
      clear HC ht
      go_wp2
      go_ret
      exact ⟨rfl, rfl⟩

theorem not_has {l : List UInt8} {c : UInt8} (h : l.contains c = false) : ∀ x ∈ l, x ≠ c := by
  intro x hx e
  subst e
  have : l.contains x = true := List.contains_iff_mem.2 hx
  rw [h] at this
  exact Bool.false_ne_true this

/-- Up to the first colon or slash. -/
def ps (c : UInt8) : Bool := c != 58 && c != 47
theorem ps_yes {x : UInt8} (h : ps x = true) : ((x.toNat : Int) != 58) = true ∧ ((x.toNat : Int) != 47) = true := by
  rw [ne58, ne47]
  simpa [ps] using h
theorem ps_no {x : UInt8} (h : ps x = false) : ((x.toNat : Int) != 58) = false ∨ (((x.toNat : Int) != 58) = true ∧ ((x.toNat : Int) != 47) = false) := by
  rw [ne58, ne47]
  unfold ps at h
  revert h
  cases (x != 58) <;> cases (x != 47) <;> decide

theorem ps_p4 {l : List UInt8} (h : ∀ c ∈ l, p2 c = true) : l.takeWhile p4 = l.takeWhile ps ∧ l.dropWhile p4 = l.dropWhile ps := by
  induction l with
  | nil => exact ⟨rfl, rfl⟩
  | cons a t ih =>
    have ih := ih (fun c hc => h c (by simp [hc]))
    have ha := h a (by simp)
    have e : p4 a = ps a := by
      unfold p2 at ha
      unfold p4 ps
      rw [Bool.and_eq_true] at ha
      rw [ha.1, ha.2]
      simp
    cases hp : ps a <;> simp [e, hp, ih.1, ih.2]

theorem sch_path {l : List UInt8} {k : Nat} (h2 : ∀ c ∈ l, p2 c = true) (hs : Stop ps l 0 k) : ((l.dropWhile p4).head? = some 58 ∧ valid (l.takeWhile p4) = true) ↔ (l[k]? = some 58 ∧ valid (l.take k) = true) := by
  obtain ⟨_, _, h3, h4⟩ := hs
  simp only [List.drop_zero, Nat.sub_zero] at h3 h4
  rw [(ps_p4 h2).1, (ps_p4 h2).2, h3, h4, head_drop]

set_option maxHeartbeats 40000000 in
set_option maxRecDepth 100000 in
theorem wellFormed_any (a b c d f : ByteArray) (x y z : Bool) (w : World) (hs : a.size ≤ 1048576 ∧ b.size ≤ 1048576 ∧ c.size ≤ 1048576 ∧ d.size ≤ 1048576 ∧ f.size ≤ 1048576) :
    Calls Try.prog 17 #[.string a, .string b, .string c, .string d, .string f, .bool x, .bool y, .bool z] w fun e w' => ∃ t : Bool, e = .returned (.bool t) ∧ w' = w ∧ (t = true → Wf ⟨a.data.toList, b.data.toList, c.data.toList, d.data.toList, f.data.toList, x, y, z⟩) := by
  obtain ⟨hs1, hs2, hs3, hs4, hs5⟩ := hs
  have HZc := hid (Lib.size_eq c)
  go_enter Try.func17, Try.ntmps17
  go_upto_region 1 with fail
  go_cut [24] (fun v wx => w = wx ∧ ∃ t : Bool, v = .bool t ∧ (t = false → (a.data.toList ≠ [] → valid a.data.toList = true)))
  case first =>
    as_aux_lemma =>
      by_cases h : a.data.toList = []
      · have q : (!a.toList.isEmpty) = false := by rw [Lib.toList_data, h]; rfl
        have HE := hid h
        clear h
        go_wp2
        go_meet
        exact ⟨rfl, false, rfl, fun _ h' => absurd HE.out h'⟩
      · have q : (!a.toList.isEmpty) = true := by
          rw [Lib.toList_data]
          cases h' : a.data.toList with
          | nil => exact absurd h' h
          | cons _ _ => rfl
        have HV := hid (valid_any a w (by omega))
        clear h
        cases hv : valid a.data.toList
        all_goals
          rw [hv] at HV
          have HVV := hid hv
          clear hv
          go_wp2_with (go_at_call 25; refine HV.out.mono ?_; rintro e w' ⟨rfl, hw⟩; rw [hw]; clear hw)
          go_meet
          first
            | exact ⟨rfl, true, rfl, fun h => by cases h⟩
            | exact ⟨rfl, false, rfl, fun _ _ => HVV.out⟩
  case rest =>
    obtain ⟨rfl, t, rfl, ht⟩ := hcut
    cases t
    · have F1 := hid (ht rfl)
      clear ht
      go_upto_region 3 with fail
      go_cut [30] (fun v wx => w = wx ∧ ∃ t : Bool, v = .bool t ∧ (t = false → (x = false → b.data.toList = [])))
      case first =>
        as_aux_lemma =>
          cases x
          · by_cases h : b.data.toList = []
            · have q : (!b.toList.isEmpty) = false := by rw [Lib.toList_data, h]; rfl
              have HE := hid h
              clear h
              go_wp2
              go_meet
              exact ⟨rfl, false, rfl, fun _ _ => HE.out⟩
            · have q : (!b.toList.isEmpty) = true := by
                rw [Lib.toList_data]
                cases h' : b.data.toList with
                | nil => exact absurd h' h
                | cons _ _ => rfl
              clear h
              go_wp2
              go_meet
              exact ⟨rfl, true, rfl, fun h => by cases h⟩
          · go_wp2
            go_meet
            exact ⟨rfl, false, rfl, fun _ h => by cases h⟩
      case rest =>
        obtain ⟨rfl, t, rfl, ht⟩ := hcut
        cases t
        · have F2 := hid (ht rfl)
          clear ht
          go_upto_region 5 with fail
          go_cut [40] (fun v wx => w = wx ∧ ∃ t : Bool, v = .bool t ∧ (t = false → (∀ k ∈ b.data.toList, p3 k = true)))
          case first =>
            as_aux_lemma =>
              have HB47 : Hid (∀ wx, Calls Try.prog 27 #[.string b, .int .u8 47] wx fun e w' => e = .returned (.bool (b.data.toList.contains 47)) ∧ w' = wx) := fun wx => hasByte_any b 47 47 rfl wx (by omega)
              have HB63 : Hid (∀ wx, Calls Try.prog 27 #[.string b, .int .u8 63] wx fun e w' => e = .returned (.bool (b.data.toList.contains 63)) ∧ w' = wx) := fun wx => hasByte_any b 63 63 rfl wx (by omega)
              have HB35 : Hid (∀ wx, Calls Try.prog 27 #[.string b, .int .u8 35] wx fun e w' => e = .returned (.bool (b.data.toList.contains 35)) ∧ w' = wx) := fun wx => hasByte_any b 35 35 rfl wx (by omega)
              cases h47 : b.data.toList.contains 47
              · rw [h47] at HB47
                have HC47 := hid h47
                clear h47
                cases h63 : b.data.toList.contains 63
                · rw [h63] at HB63
                  have HC63 := hid h63
                  clear h63
                  cases h35 : b.data.toList.contains 35
                  · rw [h35] at HB35
                    have HC35 := hid h35
                    clear h35
                    go_wp2_with (first | (go_at_call_of 27 (Value.int IntKind.u8 47); refine (HB47.out _).mono ?_; rintro e w' ⟨rfl, hw⟩; rw [hw]; clear hw) | (go_at_call_of 27 (Value.int IntKind.u8 63); refine (HB63.out _).mono ?_; rintro e w' ⟨rfl, hw⟩; rw [hw]; clear hw) | (go_at_call_of 27 (Value.int IntKind.u8 35); refine (HB35.out _).mono ?_; rintro e w' ⟨rfl, hw⟩; rw [hw]; clear hw))
                    go_meet
                    exact ⟨rfl, false, rfl, fun _ => fun k hk => by simp [p3, not_has HC47.out k hk, not_has HC63.out k hk, not_has HC35.out k hk]⟩
                  · rw [h35] at HB35
                    clear h35
                    go_wp2_with (first | (go_at_call_of 27 (Value.int IntKind.u8 47); refine (HB47.out _).mono ?_; rintro e w' ⟨rfl, hw⟩; rw [hw]; clear hw) | (go_at_call_of 27 (Value.int IntKind.u8 63); refine (HB63.out _).mono ?_; rintro e w' ⟨rfl, hw⟩; rw [hw]; clear hw) | (go_at_call_of 27 (Value.int IntKind.u8 35); refine (HB35.out _).mono ?_; rintro e w' ⟨rfl, hw⟩; rw [hw]; clear hw))
                    go_meet
                    exact ⟨rfl, true, rfl, fun h => by cases h⟩
                · rw [h63] at HB63
                  clear h63
                  go_wp2_with (first | (go_at_call_of 27 (Value.int IntKind.u8 47); refine (HB47.out _).mono ?_; rintro e w' ⟨rfl, hw⟩; rw [hw]; clear hw) | (go_at_call_of 27 (Value.int IntKind.u8 63); refine (HB63.out _).mono ?_; rintro e w' ⟨rfl, hw⟩; rw [hw]; clear hw) | (go_at_call_of 27 (Value.int IntKind.u8 35); refine (HB35.out _).mono ?_; rintro e w' ⟨rfl, hw⟩; rw [hw]; clear hw))
                  go_meet
                  exact ⟨rfl, true, rfl, fun h => by cases h⟩
              · rw [h47] at HB47
                clear h47
                go_wp2_with (first | (go_at_call_of 27 (Value.int IntKind.u8 47); refine (HB47.out _).mono ?_; rintro e w' ⟨rfl, hw⟩; rw [hw]; clear hw) | (go_at_call_of 27 (Value.int IntKind.u8 63); refine (HB63.out _).mono ?_; rintro e w' ⟨rfl, hw⟩; rw [hw]; clear hw) | (go_at_call_of 27 (Value.int IntKind.u8 35); refine (HB35.out _).mono ?_; rintro e w' ⟨rfl, hw⟩; rw [hw]; clear hw))
                go_meet
                exact ⟨rfl, true, rfl, fun h => by cases h⟩
          case rest =>
            obtain ⟨rfl, t, rfl, ht⟩ := hcut
            cases t
            · have F3 := hid (ht rfl)
              clear ht
              go_upto_region 7 with fail
              go_cut [46] (fun v wx => w = wx ∧ ∃ t : Bool, v = .bool t ∧ (t = false → (∀ k ∈ c.data.toList, p2 k = true)))
              case first =>
                as_aux_lemma =>
                  have HB63 : Hid (∀ wx, Calls Try.prog 27 #[.string c, .int .u8 63] wx fun e w' => e = .returned (.bool (c.data.toList.contains 63)) ∧ w' = wx) := fun wx => hasByte_any c 63 63 rfl wx (by omega)
                  have HB35 : Hid (∀ wx, Calls Try.prog 27 #[.string c, .int .u8 35] wx fun e w' => e = .returned (.bool (c.data.toList.contains 35)) ∧ w' = wx) := fun wx => hasByte_any c 35 35 rfl wx (by omega)
                  cases h63 : c.data.toList.contains 63
                  · rw [h63] at HB63
                    have HC63 := hid h63
                    clear h63
                    cases h35 : c.data.toList.contains 35
                    · rw [h35] at HB35
                      have HC35 := hid h35
                      clear h35
                      go_wp2_with (first | (go_at_call_of 27 (Value.int IntKind.u8 63); refine (HB63.out _).mono ?_; rintro e w' ⟨rfl, hw⟩; rw [hw]; clear hw) | (go_at_call_of 27 (Value.int IntKind.u8 35); refine (HB35.out _).mono ?_; rintro e w' ⟨rfl, hw⟩; rw [hw]; clear hw))
                      go_meet
                      exact ⟨rfl, false, rfl, fun _ => fun k hk => by simp [p2, not_has HC63.out k hk, not_has HC35.out k hk]⟩
                    · rw [h35] at HB35
                      clear h35
                      go_wp2_with (first | (go_at_call_of 27 (Value.int IntKind.u8 63); refine (HB63.out _).mono ?_; rintro e w' ⟨rfl, hw⟩; rw [hw]; clear hw) | (go_at_call_of 27 (Value.int IntKind.u8 35); refine (HB35.out _).mono ?_; rintro e w' ⟨rfl, hw⟩; rw [hw]; clear hw))
                      go_meet
                      exact ⟨rfl, true, rfl, fun h => by cases h⟩
                  · rw [h63] at HB63
                    clear h63
                    go_wp2_with (first | (go_at_call_of 27 (Value.int IntKind.u8 63); refine (HB63.out _).mono ?_; rintro e w' ⟨rfl, hw⟩; rw [hw]; clear hw) | (go_at_call_of 27 (Value.int IntKind.u8 35); refine (HB35.out _).mono ?_; rintro e w' ⟨rfl, hw⟩; rw [hw]; clear hw))
                    go_meet
                    exact ⟨rfl, true, rfl, fun h => by cases h⟩
              case rest =>
                obtain ⟨rfl, t, rfl, ht⟩ := hcut
                cases t
                · have F4 := hid (ht rfl)
                  clear ht
                  go_upto_region 9 with fail
                  go_cut [56] (fun v wx => w = wx ∧ ∃ t : Bool, v = .bool t ∧ (t = false → (x = true → c.data.toList ≠ [] → c.data.toList.head? = some 47)))
                  case first =>
                    as_aux_lemma =>
                      cases x
                      · go_wp2
                        go_meet
                        exact ⟨rfl, false, rfl, fun _ h => by cases h⟩
                      · by_cases h : c.data.toList = []
                        · have q : (!c.toList.isEmpty) = false := by rw [Lib.toList_data, h]; rfl
                          have HE := hid h
                          clear h
                          go_wp2
                          go_meet
                          exact ⟨rfl, false, rfl, fun _ _ h => absurd HE.out h⟩
                        · have q : (!c.toList.isEmpty) = true := by
                            rw [Lib.toList_data]
                            cases h' : c.data.toList with
                            | nil => exact absurd h' h
                            | cons _ _ => rfl
                          have hp : 0 < c.size := by
                            rw [Lib.size_eq]
                            cases h' : c.data.toList with
                            | nil => exact absurd h' h
                            | cons _ _ => simp
                          have hpi : (0 : Int) < c.size := by omega
                          obtain ⟨u, hu⟩ : ∃ u, c[0] = u := ⟨_, rfl⟩
                          have HU := hid (Lib.data_getElem? c 0 hp)
                          rw [hu] at HU
                          clear h
                          by_cases hc : u = 47
                          · have q1 : ((u.toNat : Int) != 47) = false := by rw [ne47]; simpa using hc
                            have HC := hid hc
                            clear hc
                            go_wp2
                            go_meet
                            exact ⟨rfl, false, rfl, fun _ _ _ => by rw [List.head?_eq_getElem?, HU.out, HC.out]⟩
                          · have q1 : ((u.toNat : Int) != 47) = true := by rw [ne47]; simpa using hc
                            clear hc
                            go_wp2
                            go_meet
                            exact ⟨rfl, true, rfl, fun h => by cases h⟩
                  case rest =>
                    obtain ⟨rfl, t, rfl, ht⟩ := hcut
                    cases t
                    · have F5 := hid (ht rfl)
                      clear ht
                      go_upto_region 11 with fail
                      go_cut [73] (fun v wx => w = wx ∧ ∃ t : Bool, v = .bool t ∧ (t = false → (x = false → c.data.toList.take 2 ≠ [47, 47])))
                      case first =>
                        as_aux_lemma =>
                          cases x
                          · by_cases h2 : 2 ≤ c.size
                            · have z0 : (2 : Int) ≤ c.size := by omega
                              have z1 : (0 : Int) < c.size := by omega
                              have z2 : (1 : Int) < c.size := by omega
                              have y1 : 0 < c.size := by omega
                              have y2 : 1 < c.size := by omega
                              obtain ⟨u, hu⟩ : ∃ u, c[0] = u := ⟨_, rfl⟩
                              obtain ⟨v, hv⟩ : ∃ v, c[1] = v := ⟨_, rfl⟩
                              have HU := hid (Lib.data_getElem? c 0 y1)
                              rw [hu] at HU
                              have HV := hid (Lib.data_getElem? c 1 y2)
                              rw [hv] at HV
                              have HT := hid (two_at (l := c.data.toList) (pos := 0))
                              by_cases hc : u = 47
                              · have q1 : ((u.toNat : Int) == 47) = true := by rw [eq47]; simpa using hc
                                clear hc
                                by_cases hd : v = 47
                                · have q2 : ((v.toNat : Int) == 47) = true := by rw [eq47]; simpa using hd
                                  clear hd
                                  go_wp2
                                  go_meet
                                  exact ⟨rfl, true, rfl, fun h => by cases h⟩
                                · have q2 : ((v.toNat : Int) == 47) = false := by rw [eq47]; simpa using hd
                                  have HD := hid hd
                                  clear hd
                                  go_wp2
                                  go_meet
                                  exact ⟨rfl, false, rfl, fun _ _ h => by
                                    have h1 := (HT.out.1 (by simpa using h)).2
                                    rw [HV.out] at h1
                                    exact HD.out (Option.some.inj h1)⟩
                              · have q1 : ((u.toNat : Int) == 47) = false := by rw [eq47]; simpa using hc
                                have HD := hid hc
                                clear hc
                                go_wp2
                                go_meet
                                exact ⟨rfl, false, rfl, fun _ _ h => by
                                  have h1 := (HT.out.1 (by simpa using h)).1
                                  rw [HU.out] at h1
                                  exact HD.out (Option.some.inj h1)⟩
                            · have z0 : ¬ (2 : Int) ≤ c.size := by omega
                              have HS := hid (Lib.size_eq c)
                              go_wp2
                              go_meet
                              exact ⟨rfl, false, rfl, fun _ _ h => by
                                have h1 := congrArg List.length h
                                rw [List.length_take] at h1
                                have := HS.out
                                simp only [List.length_cons, List.length_nil] at h1
                                omega⟩
                          · go_wp2
                            go_meet
                            exact ⟨rfl, false, rfl, fun _ h => by cases h⟩
                      case rest =>
                        obtain ⟨rfl, t, rfl, ht⟩ := hcut
                        cases t
                        · have F6 := hid (ht rfl)
                          clear ht
                          go_upto_region 13 with fail
                          go_cut [79] (fun v wx => w = wx ∧ ∃ t : Bool, v = .bool t ∧ (t = false → (a.data.toList = [] → x = false → ¬ ((c.data.toList.dropWhile p4).head? = some 58 ∧ valid (c.data.toList.takeWhile p4) = true))))
                          case first =>
                            as_aux_lemma =>
                              by_cases h : a.data.toList = []
                              · have q : a.toList.isEmpty = true := by rw [Lib.toList_data, h]; rfl
                                have HE := hid h
                                clear h
                                cases x
                                · go_wp2
                                  go_meet
                                  exact ⟨rfl, true, rfl, fun h => by cases h⟩
                                · go_wp2
                                  go_meet
                                  exact ⟨rfl, false, rfl, fun _ _ h => by cases h⟩
                              · have q : a.toList.isEmpty = false := by
                                  rw [Lib.toList_data]
                                  cases h' : a.data.toList with
                                  | nil => exact absurd h' h
                                  | cons _ _ => rfl
                                have HE := hid h
                                clear h
                                go_wp2
                                go_meet
                                exact ⟨rfl, false, rfl, fun _ h _ => absurd h HE.out⟩
                          case rest =>
                            obtain ⟨rfl, t, rfl, ht⟩ := hcut
                            cases t
                            · have F7 := hid (ht rfl)
                              clear ht
                              go_upto_region 19 with fail
                              go_cut [119] (fun v wx => w = wx ∧ ∃ t : Bool, v = .bool t ∧ (t = false → (y = false → d.data.toList = [])))
                              case first =>
                                as_aux_lemma =>
                                  cases y
                                  · by_cases h : d.data.toList = []
                                    · have q : (!d.toList.isEmpty) = false := by rw [Lib.toList_data, h]; rfl
                                      have HE := hid h
                                      clear h
                                      go_wp2
                                      go_meet
                                      exact ⟨rfl, false, rfl, fun _ _ => HE.out⟩
                                    · have q : (!d.toList.isEmpty) = true := by
                                        rw [Lib.toList_data]
                                        cases h' : d.data.toList with
                                        | nil => exact absurd h' h
                                        | cons _ _ => rfl
                                      clear h
                                      go_wp2
                                      go_meet
                                      exact ⟨rfl, true, rfl, fun h => by cases h⟩
                                  · go_wp2
                                    go_meet
                                    exact ⟨rfl, false, rfl, fun _ h => by cases h⟩
                              case rest =>
                                obtain ⟨rfl, t, rfl, ht⟩ := hcut
                                cases t
                                · have F8 := hid (ht rfl)
                                  clear ht
                                  go_upto_region 21 with fail
                                  go_cut [121] (fun v wx => w = wx ∧ ∃ t : Bool, v = .bool t ∧ (t = false → (∀ k ∈ d.data.toList, p1 k = true)))
                                  case first =>
                                    as_aux_lemma =>
                                      have HB35 : Hid (∀ wx, Calls Try.prog 27 #[.string d, .int .u8 35] wx fun e w' => e = .returned (.bool (d.data.toList.contains 35)) ∧ w' = wx) := fun wx => hasByte_any d 35 35 rfl wx (by omega)
                                      cases h35 : d.data.toList.contains 35
                                      · rw [h35] at HB35
                                        have HC35 := hid h35
                                        clear h35
                                        go_wp2_with (first | (go_at_call_of 27 (Value.int IntKind.u8 35); refine (HB35.out _).mono ?_; rintro e w' ⟨rfl, hw⟩; rw [hw]; clear hw))
                                        go_meet
                                        exact ⟨rfl, false, rfl, fun _ => fun k hk => by simp [p1, not_has HC35.out k hk]⟩
                                      · rw [h35] at HB35
                                        clear h35
                                        go_wp2_with (first | (go_at_call_of 27 (Value.int IntKind.u8 35); refine (HB35.out _).mono ?_; rintro e w' ⟨rfl, hw⟩; rw [hw]; clear hw))
                                        go_meet
                                        exact ⟨rfl, true, rfl, fun h => by cases h⟩
                                  case rest =>
                                    obtain ⟨rfl, t, rfl, ht⟩ := hcut
                                    cases t
                                    · have F9 := hid (ht rfl)
                                      clear ht
                                      go_upto_region 23 with fail
                                      go_cut [127] (fun v wx => w = wx ∧ ∃ t : Bool, v = .bool t ∧ (t = false → (z = false → f.data.toList = [])))
                                      case first =>
                                        as_aux_lemma =>
                                          cases z
                                          · by_cases h : f.data.toList = []
                                            · have q : (!f.toList.isEmpty) = false := by rw [Lib.toList_data, h]; rfl
                                              have HE := hid h
                                              clear h
                                              go_wp2
                                              go_meet
                                              exact ⟨rfl, false, rfl, fun _ _ => HE.out⟩
                                            · have q : (!f.toList.isEmpty) = true := by
                                                rw [Lib.toList_data]
                                                cases h' : f.data.toList with
                                                | nil => exact absurd h' h
                                                | cons _ _ => rfl
                                              clear h
                                              go_wp2
                                              go_meet
                                              exact ⟨rfl, true, rfl, fun h => by cases h⟩
                                          · go_wp2
                                            go_meet
                                            exact ⟨rfl, false, rfl, fun _ h => by cases h⟩
                                      case rest =>
                                        obtain ⟨rfl, t, rfl, ht⟩ := hcut
                                        cases t
                                        · have F10 := hid (ht rfl)
                                          clear ht
                                          go_wp2
                                          go_ret
                                          exact ⟨true, rfl, rfl, fun _ => ⟨F1.out, F2.out, F3.out, F4.out, F5.out, F6.out, F7.out, F8.out, F9.out, F10.out⟩⟩
                                        · clear ht
                                          go_wp2
                                          go_ret
                                          exact ⟨false, rfl, rfl, fun h => by cases h⟩
                                    · clear ht
                                      go_wp2
                                      go_ret
                                      exact ⟨false, rfl, rfl, fun h => by cases h⟩
                                · clear ht
                                  go_wp2
                                  go_ret
                                  exact ⟨false, rfl, rfl, fun h => by cases h⟩
                            · clear ht
                              go_upto_block 0 with fail
                              go_cut [17] (fun v wx => w = wx ∧ ∃ e : Nat, e ≤ c.size ∧ v = .int .i64 e ∧ Stop ps c.data.toList 0 e)
                              case first =>
                                as_aux_lemma =>
                                  go_wp2_with fail
                                  go_loopg [17] c.size (fun g si wx => w = wx ∧ ∃ e : Nat, e ≤ c.size ∧ g = c.size - e ∧ si = .int .i64 e ∧ Scan ps c.data.toList 0 e)
                                  case atStart => exact ⟨rfl, 0, Nat.zero_le _, rfl, rfl, Scan.start (Nat.zero_le _)⟩
                                  case round =>
                                    obtain ⟨rfl, e, he, rfl, rfl, hsc⟩ := hrel
                                    have HS := hid hsc
                                    clear hsc
                                    by_cases hlt : e < c.size
                                    · have hki : (e : Int) < c.size := by omega
                                      obtain ⟨u, hu⟩ : ∃ u, c[e] = u := ⟨_, rfl⟩
                                      have HX := hid (Lib.data_getElem? c e hlt)
                                      rw [hu] at HX
                                      cases hp : ps u
                                      · have HE := hid (HS.out.stop (fun b hb => by rw [HX.out] at hb; cases hb; exact hp))
                                        rcases ps_no hp with q1 | ⟨q1, q2⟩
                                        all_goals
                                          clear hp
                                          go_wp2
                                          go_meet
                                          exact ⟨rfl, e, he, rfl, HE.out⟩
                                      · obtain ⟨q1, q2⟩ := ps_yes hp
                                        have HE := hid (HS.out.step HX.out hp)
                                        clear hp
                                        go_wp2
                                        go_roundg (c.size - (e + 1))
                                        case measure => omega
                                        case rel => exact ⟨rfl, e + 1, by omega, rfl, by go_num, HE.out⟩
                                    · have HE := hid (HS.out.stop (fun b hb => by rw [List.getElem?_eq_none (by have := HZc.out; omega)] at hb; cases hb))
                                      have hki : ¬ (e : Int) < c.size := by omega
                                      go_wp2
                                      go_meet
                                      exact ⟨rfl, e, he, rfl, HE.out⟩
                              case rest =>
                                obtain ⟨rfl, k, hk, rfl, hst⟩ := hcut
                                have SP := hid (sch_path F4.out hst)
                                clear hst
                                go_upto_region 17 with fail
                                go_cut [113] (fun v wx => w = wx ∧ ∃ t : Bool, v = .bool t ∧ (t = false → (a.data.toList = [] → x = false → ¬ ((c.data.toList.dropWhile p4).head? = some 58 ∧ valid (c.data.toList.takeWhile p4) = true))))
                                case first =>
                                  as_aux_lemma =>
                                    by_cases hlt : k < c.size
                                    · have hki : (k : Int) < c.size := by omega
                                      have hkl : (k : Int) ≤ c.size := by omega
                                      obtain ⟨u, hu⟩ : ∃ u, c[k] = u := ⟨_, rfl⟩
                                      have HX := hid (Lib.data_getElem? c k hlt)
                                      rw [hu] at HX
                                      by_cases hc : u = 58
                                      · have q1 : ((u.toNat : Int) == 58) = true := by rw [eq58]; simpa using hc
                                        have HV : Hid (∀ wx, Calls Try.prog 25 #[.string (c.extract 0 k)] wx fun e w' => e = .returned (.bool (valid (c.data.toList.take k))) ∧ w' = wx) := fun wx => by
                                          have := valid_any (c.extract 0 k) wx (by rw [ByteArray.size_extract]; omega)
                                          rw [Lib.extract_data, List.drop_zero, Nat.sub_zero] at this
                                          exact this
                                        clear hc
                                        cases hv : valid (c.data.toList.take k)
                                        all_goals
                                          rw [hv] at HV
                                          have HVV := hid hv
                                          clear hv
                                          go_wp2_with (go_at_call 25; refine (HV.out _).mono ?_; rintro e w' ⟨rfl, hw⟩; rw [hw]; clear hw)
                                          go_meet
                                          first
                                            | exact ⟨rfl, true, rfl, fun h => by cases h⟩
                                            | exact ⟨rfl, false, rfl, fun _ _ _ h => by have h1 := (SP.out.1 h).2; rw [HVV.out] at h1; exact Bool.false_ne_true h1⟩
                                      · have q1 : ((u.toNat : Int) == 58) = false := by rw [eq58]; simpa using hc
                                        have HC := hid hc
                                        clear hc
                                        go_wp2
                                        go_meet
                                        exact ⟨rfl, false, rfl, fun _ _ _ h => by have h1 := (SP.out.1 h).1; rw [HX.out] at h1; exact HC.out (Option.some.inj h1)⟩
                                    · have hki : ¬ (k : Int) < c.size := by omega
                                      go_wp2
                                      go_meet
                                      exact ⟨rfl, false, rfl, fun _ _ _ h => by have h1 := (SP.out.1 h).1; rw [List.getElem?_eq_none (by have := HZc.out; omega)] at h1; cases h1⟩
                                case rest =>
                                  obtain ⟨rfl, t, rfl, ht⟩ := hcut
                                  cases t
                                  · have F7 := hid (ht rfl)
                                    clear ht SP hk
                                    go_upto_region 19 with fail
                                    go_cut [119] (fun v wx => w = wx ∧ ∃ t : Bool, v = .bool t ∧ (t = false → (y = false → d.data.toList = [])))
                                    case first =>
                                      as_aux_lemma =>
                                        cases y
                                        · by_cases h : d.data.toList = []
                                          · have q : (!d.toList.isEmpty) = false := by rw [Lib.toList_data, h]; rfl
                                            have HE := hid h
                                            clear h
                                            go_wp2
                                            go_meet
                                            exact ⟨rfl, false, rfl, fun _ _ => HE.out⟩
                                          · have q : (!d.toList.isEmpty) = true := by
                                              rw [Lib.toList_data]
                                              cases h' : d.data.toList with
                                              | nil => exact absurd h' h
                                              | cons _ _ => rfl
                                            clear h
                                            go_wp2
                                            go_meet
                                            exact ⟨rfl, true, rfl, fun h => by cases h⟩
                                        · go_wp2
                                          go_meet
                                          exact ⟨rfl, false, rfl, fun _ h => by cases h⟩
                                    case rest =>
                                      obtain ⟨rfl, t, rfl, ht⟩ := hcut
                                      cases t
                                      · have F8 := hid (ht rfl)
                                        clear ht
                                        go_upto_region 21 with fail
                                        go_cut [121] (fun v wx => w = wx ∧ ∃ t : Bool, v = .bool t ∧ (t = false → (∀ k ∈ d.data.toList, p1 k = true)))
                                        case first =>
                                          as_aux_lemma =>
                                            have HB35 : Hid (∀ wx, Calls Try.prog 27 #[.string d, .int .u8 35] wx fun e w' => e = .returned (.bool (d.data.toList.contains 35)) ∧ w' = wx) := fun wx => hasByte_any d 35 35 rfl wx (by omega)
                                            cases h35 : d.data.toList.contains 35
                                            · rw [h35] at HB35
                                              have HC35 := hid h35
                                              clear h35
                                              go_wp2_with (first | (go_at_call_of 27 (Value.int IntKind.u8 35); refine (HB35.out _).mono ?_; rintro e w' ⟨rfl, hw⟩; rw [hw]; clear hw))
                                              go_meet
                                              exact ⟨rfl, false, rfl, fun _ => fun k hk => by simp [p1, not_has HC35.out k hk]⟩
                                            · rw [h35] at HB35
                                              clear h35
                                              go_wp2_with (first | (go_at_call_of 27 (Value.int IntKind.u8 35); refine (HB35.out _).mono ?_; rintro e w' ⟨rfl, hw⟩; rw [hw]; clear hw))
                                              go_meet
                                              exact ⟨rfl, true, rfl, fun h => by cases h⟩
                                        case rest =>
                                          obtain ⟨rfl, t, rfl, ht⟩ := hcut
                                          cases t
                                          · have F9 := hid (ht rfl)
                                            clear ht
                                            go_upto_region 23 with fail
                                            go_cut [127] (fun v wx => w = wx ∧ ∃ t : Bool, v = .bool t ∧ (t = false → (z = false → f.data.toList = [])))
                                            case first =>
                                              as_aux_lemma =>
                                                cases z
                                                · by_cases h : f.data.toList = []
                                                  · have q : (!f.toList.isEmpty) = false := by rw [Lib.toList_data, h]; rfl
                                                    have HE := hid h
                                                    clear h
                                                    go_wp2
                                                    go_meet
                                                    exact ⟨rfl, false, rfl, fun _ _ => HE.out⟩
                                                  · have q : (!f.toList.isEmpty) = true := by
                                                      rw [Lib.toList_data]
                                                      cases h' : f.data.toList with
                                                      | nil => exact absurd h' h
                                                      | cons _ _ => rfl
                                                    clear h
                                                    go_wp2
                                                    go_meet
                                                    exact ⟨rfl, true, rfl, fun h => by cases h⟩
                                                · go_wp2
                                                  go_meet
                                                  exact ⟨rfl, false, rfl, fun _ h => by cases h⟩
                                            case rest =>
                                              obtain ⟨rfl, t, rfl, ht⟩ := hcut
                                              cases t
                                              · have F10 := hid (ht rfl)
                                                clear ht
                                                go_wp2
                                                go_ret
                                                exact ⟨true, rfl, rfl, fun _ => ⟨F1.out, F2.out, F3.out, F4.out, F5.out, F6.out, F7.out, F8.out, F9.out, F10.out⟩⟩
                                              · clear ht
                                                go_wp2
                                                go_ret
                                                exact ⟨false, rfl, rfl, fun h => by cases h⟩
                                          · clear ht
                                            go_wp2
                                            go_ret
                                            exact ⟨false, rfl, rfl, fun h => by cases h⟩
                                      · clear ht
                                        go_wp2
                                        go_ret
                                        exact ⟨false, rfl, rfl, fun h => by cases h⟩
                                  · clear ht
                                    go_wp2
                                    go_ret
                                    exact ⟨false, rfl, rfl, fun h => by cases h⟩
                        · clear ht
                          go_wp2
                          go_ret
                          exact ⟨false, rfl, rfl, fun h => by cases h⟩
                    · clear ht
                      go_wp2
                      go_ret
                      exact ⟨false, rfl, rfl, fun h => by cases h⟩
                · clear ht
                  go_wp2
                  go_ret
                  exact ⟨false, rfl, rfl, fun h => by cases h⟩
            · clear ht
              go_wp2
              go_ret
              exact ⟨false, rfl, rfl, fun h => by cases h⟩
        · clear ht
          go_wp2
          go_ret
          exact ⟨false, rfl, rfl, fun h => by cases h⟩
    · clear ht
      go_wp2
      go_ret
      exact ⟨false, rfl, rfl, fun h => by cases h⟩

end Go.Proofs.Qxb6604144a.Iri
