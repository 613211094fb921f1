/-
  zzRDS (function 10) by its contract: the segment stack.
-/
import Derived.Test.Qxb6604144aRm
import Derived.Lib.AppendStr
import Derived.Deep.CutBlock
namespace Go.Proofs.Qxb6604144a.Iri
open Go.RowKit

theorem Try.info5 : (Try.prog.info? 5).map (fun i => (i.zero, i.size, i.bytes)) = some (some (.int .u8 0), 1, 1) := by kernel_rfl

/-- The pieces' lengths and their number add up to one more than the text's length. -/
theorem segs_total : ∀ l : Bs, ((segsOf l).map List.length).sum + (segsOf l).length = l.length + 1
  | [] => rfl
  | c :: r => by
    have ih := segs_total r
    by_cases hc : c = 47
    · subst hc
      rw [segs_slash]; simp only [List.map_cons, List.sum_cons, List.length_cons, List.length_nil]; omega
    · obtain ⟨s', t', e1, e2⟩ := segs_cons c r hc
      rw [e1] at ih
      rw [e2]; simp only [List.map_cons, List.sum_cons, List.length_cons] at ih ⊢; omega

/-- The weight of the first k pieces. -/
def wt (segs : List ByteArray) (k : Nat) : Nat := ((segs.take k).map (·.size)).sum + k

theorem wt_succ (segs : List ByteArray) (k : Nat) (x : ByteArray) (h : segs[k]? = some x) : wt segs (k + 1) = wt segs k + x.size + 1 := by
  have hk : k < segs.length := by
    rcases Nat.lt_or_ge k segs.length with h' | h'
    · exact h'
    · rw [List.getElem?_eq_none h'] at h; simp at h
  rw [List.getElem?_eq_getElem hk] at h
  unfold wt
  rw [List.take_succ_eq_append_getElem hk, Option.some.inj h]
  simp
  omega

theorem wt_all (segs : List ByteArray) (l : Bs) (h : segs.map (·.data.toList) = segsOf l) : wt segs segs.length = l.length + 1 := by
  have ht := segs_total l
  rw [← h, List.length_map, List.map_map] at ht
  unfold wt
  rw [List.take_length]
  have e : segs.map (·.size) = segs.map (List.length ∘ fun x : ByteArray => x.data.toList) := by
    apply List.map_congr_left
    intro a _
    exact Lib.size_eq a
  rw [e]
  exact ht

theorem wt_mono (segs : List ByteArray) (k : Nat) (hk : k ≤ segs.length) : wt segs k ≤ wt segs segs.length := by
  obtain ⟨d, hd⟩ : ∃ d, segs.length = k + d := ⟨segs.length - k, by omega⟩
  unfold wt
  rw [List.take_length]
  have : segs = segs.take k ++ segs.drop k := (List.take_append_drop k segs).symm
  have e : (segs.map (·.size)).sum = ((segs.take k).map (·.size)).sum + ((segs.drop k).map (·.size)).sum := by
    conv => lhs; rw [this]
    rw [List.map_append, List.sum_append]
  omega

theorem drop_cons {S : List Bs} {segs : List ByteArray} (h : segs.map (·.data.toList) = S) {k : Nat} {x : ByteArray} (hx : segs[k]? = some x) : S.drop k = x.data.toList :: S.drop (k + 1) := by
  have hk : k < segs.length := by
    rcases Nat.lt_or_ge k segs.length with h' | h'
    · exact h'
    · rw [List.getElem?_eq_none h'] at hx; simp at hx
  have hk2 : k < S.length := by rw [← h, List.length_map]; exact hk
  rw [List.drop_eq_getElem_cons hk2]
  congr 1
  rw [List.getElem?_eq_getElem hk] at hx
  simp only [← h, List.getElem_map, Option.some.inj hx]

/-- The slice value of a row that the call owns, and what its cells hold. -/
theorem Owns.shape {w : World} {B : Nat} {v : Value} {xs : List ByteArray} (h : Owns w B v xs) : ∃ a cap, v = .slice a xs.length cap ∧ xs.length ≤ cap ∧ (0 < xs.length → ∃ g, a = some ⟨g, 0, none⟩ ∧ g < w.heap.size ∧ ∀ (j : Nat) x, xs[j]? = some x → w.cell? ⟨g, j, none⟩ = some (.string x)) := by
  have h2 := h.2
  rcases h2 with ⟨hv, h0⟩ | ⟨g, cap, cur, hv, hg, hh, hn, _⟩
  · exact ⟨none, 0, by rw [hv, h0], by omega, fun hp => by omega⟩
  · subst hv
    refine ⟨some ⟨g, 0, none⟩, cap, rfl, hn, fun _ => ⟨g, rfl, (h.lt g rfl).2, fun j x hx => ?_⟩⟩
    have := h.cells (g := g) rfl j (.string x) (by rw [List.getElem?_map, hx]; rfl)
    rw [add_at, Nat.zero_add] at this
    exact this

abbrev bv (l : Bs) : List Value := l.map fun b => Value.int .u8 b.toNat

/-- 'string(b)' of a row of bytes that the call owns. -/
theorem bytes_back {w : World} {B : Nat} {v : Value} {l : Bs} (h : w.ownsRow B 5 1 v l.length (bv l)) : (convert 35 9 v).run Try.prog w = .ok (.string ⟨l.toArray⟩) w := by
  rcases h.2 with ⟨hv, h0⟩ | ⟨g, cap, cur, hv, _⟩
  · have he : l = [] := List.length_eq_zero_iff.1 h0
    subst he
    subst hv
    rw [run_convert_bytes_string w 35 9 5 none 0 0 Try.underlying35 Try.underlying5 Try.underlying9]
    rfl
  · subst hv
    refine run_convert_bytes_back w 35 9 5 ⟨g, 0, none⟩ cap l Try.underlying35 Try.underlying5 Try.underlying9 (fun j hj => ?_)
    exact h.cells (g := g) rfl j _ (by rw [List.getElem?_map, List.getElem?_eq_getElem hj]; rfl)

theorem flat_take {outs : List ByteArray} {j : Nat} {x : ByteArray} (h : outs[j]? = some x) : ((outs.take (j + 1)).map (·.data.toList)).flatten = ((outs.take j).map (·.data.toList)).flatten ++ x.data.toList := by
  have hk : j < outs.length := by
    rcases Nat.lt_or_ge j outs.length with h' | h'
    · exact h'
    · rw [List.getElem?_eq_none h'] at h; simp at h
  rw [List.getElem?_eq_getElem hk] at h
  rw [List.take_succ_eq_append_getElem hk, Option.some.inj h]
  simp

theorem flat_take_le (outs : List ByteArray) (j : Nat) : ((outs.take j).map (·.data.toList)).flatten.length ≤ (outs.map (·.size)).sum := by
  rw [flat_len]
  have : outs = outs.take j ++ outs.drop j := (List.take_append_drop j outs).symm
  conv => rhs; rw [this]
  rw [List.map_append, List.sum_append]
  omega

set_option maxHeartbeats 40000000 in
set_option maxRecDepth 100000 in
theorem zzrds_any (s : ByteArray) (w : World) (hs : s.size ≤ 1048578) :
    Calls Try.prog 10 #[.string s] w fun e w' => ∃ r : ByteArray, e = .returned (.string r) ∧ r.data.toList = ans [] s.data.toList ∧ Below w.heap.size w w' := by
  obtain ⟨i0, hi, hz0, hz1, hz2⟩ := info_parts Try.info9
  obtain ⟨i5, hi5, hy0, hy1, hy2⟩ := info_parts Try.info5
  have HTL := hid (Lib.toList_data s)
  have HZ := hid (Lib.size_eq s)
  by_cases z : s.data.toList = []
  · have q0 : s.toList.isEmpty = true := by rw [HTL.out, z]; rfl
    have HR : Hid (([] : Bs) = ans [] s.data.toList) := by rw [z]; rfl
    clear z
    go_enter Try.func10, Try.ntmps10
    go_wp2
    go_ret
    exact ⟨_, rfl, HR.out, Below.refl _ _⟩
  have q0 : s.toList.isEmpty = false := by
    rw [HTL.out]
    cases h : s.data.toList with
    | nil => exact absurd h z
    | cons _ _ => rfl
  have hpos : 0 < s.size := by
    have := HZ.out
    cases h : s.data.toList with
    | nil => exact absurd h z
    | cons a b => rw [h] at this; simp at this; omega
  have hposi : (0 : Int) < s.size := by omega
  clear z
  obtain ⟨R, hR⟩ : ∃ R, R = ans [] s.data.toList := ⟨_, rfl⟩
  have HSL := hid (slash_any s w (by omega))
  go_enter Try.func10, Try.ntmps10
  go_wp2_with fail
  refine HSL.out.mono ?_
  rintro e w2 ⟨vs, segs, rfl, hmap, hlen, hown, hbel⟩
  clear HSL
  obtain ⟨S, hS⟩ : ∃ S, S = segsOf s.data.toList := ⟨_, rfl⟩
  rw [← hS] at hmap
  obtain ⟨n, hn⟩ : ∃ n, segs.length = n := ⟨_, rfl⟩
  have hSn : S.length = n := by rw [← hmap, List.length_map]; exact hn
  have hn1 : 1 ≤ n := by
    have := segsOf_ne s.data.toList
    rw [← hS] at this
    cases h : S with
    | nil => exact absurd h this
    | cons a b => rw [h] at hSn; simp at hSn; omega
  obtain ⟨a, cap, hv, _, hcs⟩ := hown.shape
  obtain ⟨gs, ha, hgs, hcell⟩ := hcs (by omega)
  rw [ha, hn] at hv
  rw [hv]
  rw [hn] at hlen
  have HW : Hid (∀ k, k ≤ n → wt segs k ≤ s.size + 1) := fun k hk => by
    have h1 := wt_all segs s.data.toList (hmap.trans hS)
    have h2 := wt_mono segs k (by omega)
    have := HZ.out
    omega
  have HCELL := hid hcell
  have HM := hid (And.intro hmap (And.intro hSn hn))
  have HS := hid hS
  have HR := hid hR
  have HBEL := hid hbel
  obtain ⟨B2, hB2⟩ : ∃ B2, B2 = w2.heap.size := ⟨_, rfl⟩
  have hB2s : w.heap.size ≤ B2 := by rw [hB2]; exact hbel.size
  have hgB : gs < B2 := by rw [hB2]; exact hgs
  have HB2 := hid hB2
  clear hown hcs hcell hmap hS hR hbel hSn hn ha hv hgs hB2
  -- a piece, and its cell in a later world
  have PIECE : Hid (∀ k, k < n → ∃ x : ByteArray, segs[k]? = some x ∧ S.drop k = x.data.toList :: S.drop (k + 1) ∧ (∀ wx, Below B2 w2 wx → wx.cell? ⟨gs, k, none⟩ = some (.string x))) := fun k hk => by
    obtain ⟨x, hx⟩ : ∃ x, segs[k]? = some x := ⟨_, List.getElem?_eq_getElem (by rw [HM.out.2.2]; exact hk)⟩
    exact ⟨x, hx, drop_cons HM.out.1 hx, fun wx hb => (hb.cell (p := ⟨gs, k, none⟩) hgB).trans (HCELL.out k x hx)⟩
  have DROP : Hid (∀ k, k < n → (S.drop (k + 1) = [] ↔ k + 1 = n)) := fun k hk => by
    rw [List.drop_eq_nil_iff, HM.out.2.1]; omega
  obtain ⟨x0, hx0⟩ : ∃ x, s[0] = x := ⟨_, rfl⟩
  have HX0 := hid (Lib.data_getElem? s 0 hpos)
  rw [hx0] at HX0
  go_upto_if 21 with fail
  go_cut [5, 6, 7] (fun s5 s6 _ wx => ∃ (outs : List ByteArray) (rest : Nat), 1 ≤ rest ∧ rest ≤ n ∧ s6 = .int .i64 rest ∧ Owns wx B2 s5 outs ∧ Below B2 w2 wx ∧ (stk (outs.map (·.data.toList)) (S.drop rest)).flatten = R ∧ outs.length ≤ rest ∧ (outs.map (·.size)).sum ≤ wt segs rest)
  case first =>
    by_cases hc : x0 = 47
    · have q1 : ((x0.toNat : Int) != 47) = false := by rw [ne47]; simpa using hc
      have HA : Hid ((stk [] (S.drop 1)).flatten = R) := by
        rw [HR.out, HS.out]
        have h1 := HX0.out
        rw [hc] at h1
        match h : s.data.toList with
        | [] => rw [h] at h1; simp at h1
        | c :: r =>
          rw [h] at h1
          simp at h1
          subst h1
          rw [ans_abs, segs_slash]; rfl
      clear hc
      go_wp2
      go_meet
      exact ⟨[], 1, Nat.le_refl _, hn1, rfl, World.ownsRow_nil _ _ _ _, Below.refl _ _, HA.out, by simp, by simp⟩
    · have q1 : ((x0.toNat : Int) != 47) = true := by rw [ne47]; simpa using hc
      have HA : Hid (lead (S.drop 0) = R) := by
        have h1 := lead_ans s.data.toList
        rw [← HR.out, ← HS.out] at h1
        exact h1
      clear hc HX0
      rw [q1]
      go_upto_block 0 with fail
      go_cut [7] (fun s7 wx => w2 = wx ∧ ∃ (i : Nat) (x : ByteArray), i < n ∧ s7 = .int .i64 i ∧ segs[i]? = some x ∧ lead (S.drop i) = R ∧ (i + 1 = n ∨ dot x.data.toList = false))
      case first =>
        go_wp2_with fail
        go_loopg [7] n (fun g s7 wx => w2 = wx ∧ ∃ i : Nat, i < n ∧ g = n - i ∧ s7 = .int .i64 i ∧ lead (S.drop i) = R)
        case atStart => exact ⟨rfl, 0, by omega, rfl, rfl, HA.out⟩
        case round =>
          obtain ⟨rfl, i, hin, rfl, rfl, hld⟩ := hrel
          have HLD := hid hld
          clear hld
          obtain ⟨x, hx, hdx, hcx⟩ := PIECE.out i hin
          have c1 := hcx _ (Below.refl _ _)
          have HX := hid (And.intro hx hdx)
          clear hx hdx hcx
          have HD := hid (isDot_any x)
          have k1 : (i : Int) < n := by omega
          by_cases hlast : i + 1 = n
          · have k2 : decide ((i : Int) < (n : Int) - 1) = false := by simp; omega
            have k3 : ¬ (i : Int) < (n : Int) - 1 := by omega
            go_wp2
            go_meet
            exact ⟨rfl, i, x, hin, rfl, HX.out.1, HLD.out, Or.inl hlast⟩
          · have k2 : (i : Int) < (n : Int) - 1 := by omega
            cases hdt : dot x.data.toList
            · rw [hdt] at HD
              have HDT := hid hdt
              clear hdt
              go_wp2_with (go_at_call 23; refine (HD.out _).mono ?_; rintro e w' ⟨rfl, hw⟩; rw [hw]; clear hw)
              go_meet
              exact ⟨rfl, i, x, hin, rfl, HX.out.1, HLD.out, Or.inr HDT.out⟩
            · rw [hdt] at HD
              have HN : Hid (lead (S.drop (i + 1)) = R) := by
                have h1 := HLD.out
                rw [HX.out.2, lead, if_neg (fun h => hlast ((DROP.out i hin).1 h)), if_pos hdt] at h1
                exact h1
              clear hdt
              go_wp2_with (go_at_call 23; refine (HD.out _).mono ?_; rintro e w' ⟨rfl, hw⟩; rw [hw]; clear hw)
              go_roundg (n - (i + 1))
              case measure => omega
              case rel => exact ⟨rfl, i + 1, by omega, rfl, by go_num, HN.out⟩
      case rest =>
        obtain ⟨rfl, i, x, hin, rfl, hx, hld, hor⟩ := hcut
        obtain ⟨x', hx', hdx, hcx⟩ := PIECE.out i hin
        obtain rfl : x' = x := Option.some.inj (hx'.symm.trans hx)
        have c1 := hcx _ (Below.refl _ _)
        have HX := hid (And.intro hx (And.intro hdx (And.intro hld hor)))
        clear hx hx' hdx hcx hld hor
        have HD := hid (isDot_any x')
        have k1 : (i : Int) < n := by omega
        by_cases hlast : i + 1 = n
        · have k2 : ((i : Int) == (n : Int) - 1) = true := by rw [beq_iff_eq]; omega
          have HE : Hid ((if dot x'.data.toList = true then [] else x'.data.toList) = R) := by
            have h1 := HX.out.2.2.1
            rw [HX.out.2.1, lead, if_pos ((DROP.out i hin).2 hlast)] at h1
            exact h1
          cases hdt : dot x'.data.toList
          all_goals
            rw [hdt] at HD HE
            have HDT := hid hdt
            clear hdt
            go_wp2_with (go_at_call 23; refine (HD.out _).mono ?_; rintro e w' ⟨rfl, hw⟩; rw [hw]; clear hw)
            go_ret
            exact ⟨_, rfl, by rw [← HR.out, ← HE.out]; rfl, HBEL.out⟩
        · have k2 : ((i : Int) == (n : Int) - 1) = false := by rw [beq_eq_false_iff_ne]; omega
          have HE : Hid ((stk (if x'.data.toList = [] then [] else [x'.data.toList]) (S.drop (i + 1))).flatten = R) := by
            have h1 := HX.out.2.2.1
            rcases HX.out.2.2.2 with h | h
            · exact absurd h hlast
            · rw [HX.out.2.1, lead, if_neg (fun h => hlast ((DROP.out i hin).1 h)), h] at h1
              exact h1
          have HTX := hid (Lib.toList_data x')
          have hws := wt_succ segs i x' HX.out.1
          have HWS := hid hws
          have hw2 : B2 ≤ w2.heap.size := by rw [HB2.out]; exact Nat.le_refl _
          clear hws
          by_cases hxe : x'.data.toList = []
          · have q2 : (!x'.toList.isEmpty) = false := by rw [HTX.out, hxe]; rfl
            rw [if_pos hxe] at HE
            clear hxe
            go_wp2
            go_meet
            exact ⟨[], i + 1, by omega, by omega, by go_num, World.ownsRow_nil _ _ _ _, Below.refl _ _, HE.out, by simp, by simp⟩
          · have q2 : (!x'.toList.isEmpty) = true := by
              rw [HTX.out]
              cases h : x'.data.toList with
              | nil => exact absurd h hxe
              | cons _ _ => rfl
            rw [if_neg hxe] at HE
            clear hxe
            have hnil : w2.ownsRow B2 9 1 (.slice none 0 0) 0 [] := World.ownsRow_nil _ _ _ _
            go_wp2_with (at_builtin; refine wpList_append_own _ rfl _ _ 33 rfl B2 9 i0 (.string ⟨#[]⟩) 1 16 Try.underlying33 hi hz0 hz1 hz2 rfl (by decide) _ _ _ rfl (hnil.alloc _) ⟨w2.heap.size, 0, none⟩ 1 1 [.string x'] rfl rfl (one_new _ _ _) (fun x hx => by simp at hx; subst hx; rfl) (by unfold maxLen; omega) (by omega) (by simp; omega) ?_; intro v1 w1 hown1 hgrow1 _; have HO1 := hid (And.intro hown1 hgrow1); clear hown1 hgrow1)
            go_wp2
            go_meet
            refine ⟨[x'], i + 1, by omega, by omega, by go_num, HO1.out.1, ((Below.refl B2 w2).alloc hw2 _).grown HO1.out.2 (by simp; omega) (fun k hk => by cases hk), HE.out, by simp, ?_⟩
            rw [HWS.out]
            simp
            omega
  case rest =>
    obtain ⟨outs, rest, hr1, hrn, rfl, hown, hbl, hstk, hol, hos⟩ := hcut
    have HI := hid (And.intro hown (And.intro hbl (And.intro hstk (And.intro hol hos))))
    clear hown hbl hstk hol hos
    clear HX0 hx0
    go_wp2_with fail
    go_loopg [5, 8, 9, 10] (n - rest) (fun g s5 s8 _ _ wx => ∃ (outs : List ByteArray) (k : Nat), k ≤ n ∧ g = n - k ∧ s8 = .int .i64 k ∧ Owns wx B2 s5 outs ∧ Below B2 w2 wx ∧ (stk (outs.map (·.data.toList)) (S.drop k)).flatten = R ∧ outs.length ≤ k ∧ (outs.map (·.size)).sum ≤ wt segs k)
    case atStart => exact ⟨outs, rest, hrn, rfl, rfl, HI.out.1, HI.out.2.1, HI.out.2.2.1, HI.out.2.2.2.1, HI.out.2.2.2.2⟩
    case round =>
      clear HI
      obtain ⟨outs, k, hkn, rfl, rfl, hown, hbl, hstk, hol, hos⟩ := hrel
      have HI := hid (And.intro hbl (And.intro hstk hos))
      have hsz : B2 ≤ wr.heap.size := by have := hbl.size; rw [HB2.out]; exact this
      by_cases hlt : k < n
      · as_aux_lemma =>
          obtain ⟨x, hx, hdx, hcx⟩ := PIECE.out k hlt
          have c1 := hcx _ hbl
          have HX := hid (And.intro hx hdx)
          have hws := wt_succ segs k x hx
          have hw1 := HW.out (k + 1) (by omega)
          have HWS := hid hws
          have hosn : outs.length ≤ 1048580 := by omega
          clear hx hdx hcx hbl hstk hos hws
          have HTX := hid (Lib.toList_data x)
          have hxs : x.size ≤ 1048580 := by have := HWS.out; omega
          have k1 : (k : Int) < n := by omega
          have kL : (((k : Int) == (n : Int) - 1) = true ∧ S.drop (k + 1) = [] ∧ k + 1 = n) ∨ (((k : Int) == (n : Int) - 1) = false ∧ S.drop (k + 1) ≠ [] ∧ k + 1 ≠ n) := by
            by_cases h : k + 1 = n
            · exact Or.inl ⟨by rw [beq_iff_eq]; omega, (DROP.out k hlt).2 h, h⟩
            · exact Or.inr ⟨by rw [beq_eq_false_iff_ne]; omega, fun h' => h ((DROP.out k hlt).1 h'), h⟩
          by_cases h46 : x.data.toList = [46]
          · have q2 : (x.toList == [46]) = true := by rw [HTX.out, h46]; rfl
            have HST : Hid ((stk (if S.drop (k + 1) = [] then outs.map (·.data.toList) ++ [[47]] else outs.map (·.data.toList)) (S.drop (k + 1))).flatten = R) := by
              have h1 := HI.out.2.1
              rw [HX.out.2, stk, if_pos h46] at h1
              exact h1
            clear h46
            rcases kL with ⟨kb, kd, ke⟩ | ⟨kb, kd, ke⟩
            · rw [if_pos kd] at HST
              have HKE := hid ke
              clear kd ke
              go_wp2_with (at_builtin; refine wpList_append_own _ rfl _ _ 33 rfl B2 9 i0 (.string ⟨#[]⟩) 1 16 Try.underlying33 hi hz0 hz1 hz2 rfl (by decide) _ _ _ rfl (hown.alloc _) ⟨wr.heap.size, 0, none⟩ 1 1 [.string ⟨#[47]⟩] rfl rfl (one_new _ _ _) (fun x hx => by simp at hx; subst hx; rfl) (by unfold maxLen; omega) (by omega) (by simp; omega) ?_; intro v1 w1 hown1 hgrow1 _; have HO1 := hid (And.intro hown1 hgrow1); clear hown1 hgrow1)
              go_wp2
              go_roundg (n - (k + 1))
              case measure => omega
              case rel =>
                refine ⟨outs ++ [⟨#[47]⟩], k + 1, by omega, rfl, by go_num, Owns.snoc HO1.out.1, (HI.out.1.alloc hsz _).grown HO1.out.2 (by simp; omega) (fun k hk => (hown.lt k hk).1), ?_, by simp; omega, ?_⟩
                · rw [List.map_append]; exact HST.out
                · have h1 := HI.out.2.2; rw [HWS.out, List.map_append, List.sum_append]; show _ + (1 + 0) ≤ _; omega
            · rw [if_neg kd] at HST
              have HKE := hid ke
              clear kd ke
              go_wp2
              go_roundg (n - (k + 1))
              case measure => omega
              case rel =>
                exact ⟨outs, k + 1, by omega, rfl, by go_num, hown, HI.out.1, HST.out, by omega, by have h1 := HI.out.2.2; rw [HWS.out]; omega⟩
          have q2 : (x.toList == [46]) = false := by rw [HTX.out, beq_eq_false_iff_ne]; exact h46
          by_cases h46b : x.data.toList = [46, 46]
          · have q3 : (x.toList == [46, 46]) = true := by rw [HTX.out, h46b]; rfl
            have HST : Hid ((stk (if S.drop (k + 1) = [] then (outs.map (·.data.toList)).dropLast ++ [[47]] else (outs.map (·.data.toList)).dropLast) (S.drop (k + 1))).flatten = R) := by
              have h1 := HI.out.2.1
              rw [HX.out.2, stk, if_neg h46, if_pos h46b] at h1
              exact h1
            rw [← List.map_dropLast] at HST
            have HSD : Hid ((outs.dropLast.map (·.size)).sum ≤ (outs.map (·.size)).sum) := by
              have := sum_drop (outs.map (·.size)); rw [← List.map_dropLast] at this; exact this
            clear h46 h46b
            obtain ⟨a5, cap5, hv5, hcap5, hsh5⟩ := hown.shape
            by_cases hemp : outs.length = 0
            · have he : outs = [] := List.length_eq_zero_iff.1 hemp
              subst he
              clear hsh5 hemp
              rw [hv5] at hown ⊢
              simp only [List.length_nil] at hown hv5 hcap5 ⊢
              clear hv5
              rcases kL with ⟨kb, kd, ke⟩ | ⟨kb, kd, ke⟩
              · rw [if_pos kd] at HST
                have HKE := hid ke
                clear kd ke
                go_wp2_with (at_builtin; refine wpList_append_own _ rfl _ _ 33 rfl B2 9 i0 (.string ⟨#[]⟩) 1 16 Try.underlying33 hi hz0 hz1 hz2 rfl (by decide) _ _ _ rfl (hown.alloc _) ⟨wr.heap.size, 0, none⟩ 1 1 [.string ⟨#[47]⟩] rfl rfl (one_new _ _ _) (fun x hx => by simp at hx; subst hx; rfl) (by unfold maxLen; omega) (by omega) (by simp; omega) ?_; intro v1 w1 hown1 hgrow1 _; have HO1 := hid (And.intro hown1 hgrow1); clear hown1 hgrow1)
                go_wp2
                go_roundg (n - (k + 1))
                case measure => omega
                case rel =>
                  refine ⟨[⟨#[47]⟩], k + 1, by omega, rfl, by go_num, HO1.out.1, (HI.out.1.alloc hsz _).grown HO1.out.2 (by simp; omega) (fun k hk => (hown.lt k hk).1), HST.out, by simp, ?_⟩
                  rw [HWS.out]; show (1 + 0) ≤ _; omega
              · rw [if_neg kd] at HST
                have HKE := hid ke
                clear kd ke
                go_wp2
                go_roundg (n - (k + 1))
                case measure => omega
                case rel =>
                  exact ⟨[], k + 1, by omega, rfl, by go_num, hown, HI.out.1, HST.out, by simp, by simp⟩
            · obtain ⟨m, hm⟩ : ∃ m, outs.length = m + 1 := ⟨outs.length - 1, by omega⟩
              obtain ⟨g5, ha5, _, _⟩ := hsh5 (by omega)
              rw [ha5, hm] at hv5
              have hpop : Owns wr B2 (.slice (some ⟨g5, 0, none⟩) m cap5) outs.dropLast := by
                have e1 : outs.dropLast.length = m := by simp [hm]
                obtain ⟨y, hy⟩ : ∃ y, outs = outs.dropLast ++ [y] := ⟨outs.getLast (by intro e; simp [e] at hm), (List.dropLast_concat_getLast _).symm⟩
                have h2 := hown
                unfold Owns at h2
                rw [hm, hv5] at h2
                have h3 : outs.map Value.string = outs.dropLast.map Value.string ++ [Value.string y] := by
                  conv => lhs; rw [hy]
                  simp
                rw [h3] at h2
                have := ownsRow_pop (n := m) (xs := outs.dropLast.map Value.string) (last := [Value.string y]) (by simp [hm]) h2
                unfold Owns
                rw [e1]
                exact this
              have hm1 : outs.dropLast.length = m := by simp [hm]
              have hcm : m + 1 ≤ cap5 := by omega
              have hpop' : wr.ownsRow B2 9 1 (.slice (some ⟨g5, 0, none⟩) m cap5) m (outs.dropLast.map Value.string) := by
                have h2 := hpop
                unfold Owns at h2
                rw [hm1] at h2
                exact h2
              have HM1 := hid hm1
              rw [hv5]
              clear hown hsh5 hemp hv5 ha5 hm1 hcap5
              have hmk : m + 1 ≤ k := by omega
              clear hol hosn hm
              have hmb : m ≤ 1048580 := by omega
              rcases kL with ⟨kb, kd, ke⟩ | ⟨kb, kd, ke⟩
              · rw [if_pos kd] at HST
                have HKE := hid ke
                clear kd ke
                go_wp2_with (at_builtin; refine wpList_append_own _ rfl _ _ 33 rfl B2 9 i0 (.string ⟨#[]⟩) 1 16 Try.underlying33 hi hz0 hz1 hz2 rfl (by decide) _ _ _ rfl (hpop'.alloc _) ⟨wr.heap.size, 0, none⟩ 1 1 [.string ⟨#[47]⟩] rfl rfl (one_new _ _ _) (fun x hx => by simp at hx; subst hx; rfl) (by unfold maxLen; omega) (by omega) (by simp; omega) ?_; intro v1 w1 hown1 hgrow1 _; have HO1 := hid (And.intro hown1 hgrow1); clear hown1 hgrow1)
                go_wp2
                go_roundg (n - (k + 1))
                case measure => omega
                case rel =>
                  have ho2 : Owns w1 B2 v1 (outs.dropLast ++ [⟨#[47]⟩]) := Owns.snoc (by rw [HM1.out]; exact HO1.out.1)
                  refine ⟨outs.dropLast ++ [⟨#[47]⟩], k + 1, by omega, rfl, by go_num, ho2, (HI.out.1.alloc hsz _).grown HO1.out.2 (by simp; omega) (fun k hk => (hpop.lt k hk).1), ?_, by rw [List.length_append, HM1.out]; simp; omega, ?_⟩
                  · rw [List.map_append]; exact HST.out
                  · have h1 := HI.out.2.2; have h2 := HSD.out; rw [HWS.out, List.map_append, List.sum_append]; show _ + (1 + 0) ≤ _; omega
              · rw [if_neg kd] at HST
                have HKE := hid ke
                clear kd ke
                go_wp2
                go_roundg (n - (k + 1))
                case measure => omega
                case rel =>
                  exact ⟨outs.dropLast, k + 1, by omega, rfl, by go_num, hpop, HI.out.1, HST.out, by rw [HM1.out]; omega, by have h1 := HI.out.2.2; have h2 := HSD.out; rw [HWS.out]; omega⟩
          have q3 : (x.toList == [46, 46]) = false := by rw [HTX.out, beq_eq_false_iff_ne]; exact h46b
          have HST : Hid ((stk (outs.map (·.data.toList) ++ [47 :: x.data.toList]) (S.drop (k + 1))).flatten = R) := by
            have h1 := HI.out.2.1
            rw [HX.out.2, stk, if_neg h46, if_neg h46b] at h1
            exact h1
          clear h46 h46b kL
          go_wp2_with (at_builtin; refine wpList_append_own _ rfl _ _ 33 rfl B2 9 i0 (.string ⟨#[]⟩) 1 16 Try.underlying33 hi hz0 hz1 hz2 rfl (by decide) _ _ _ rfl (hown.alloc _) ⟨wr.heap.size, 0, none⟩ 1 1 [.string (⟨#[47]⟩ ++ x)] rfl rfl (one_new _ _ _) (fun x hx => by simp at hx; subst hx; rfl) (by unfold maxLen; omega) (by omega) (by simp; omega) ?_; intro v1 w1 hown1 hgrow1 _; have HO1 := hid (And.intro hown1 hgrow1); clear hown1 hgrow1)
          go_wp2
          go_roundg (n - (k + 1))
          case measure => omega
          case rel =>
            refine ⟨outs ++ [⟨#[47]⟩ ++ x], k + 1, by omega, rfl, by go_num, Owns.snoc HO1.out.1, (HI.out.1.alloc hsz _).grown HO1.out.2 (by simp; omega) (fun k hk => (hown.lt k hk).1), ?_, by simp; omega, ?_⟩
            · rw [List.map_append, List.map_cons, List.map_nil, Joins.data_append]; exact HST.out
            · have h1 := HI.out.2.2
              rw [HWS.out, List.map_append, List.sum_append, List.map_cons, List.map_nil, ByteArray.size_append]
              show _ + (1 + x.size + 0) ≤ _
              omega
      · as_aux_lemma =>
          obtain rfl : k = n := by omega
          obtain ⟨w3, rfl⟩ : ∃ w3, w3 = wr := ⟨_, rfl⟩
          have HFL : Hid ((outs.map (·.data.toList)).flatten = R) := by
            have h1 := hstk
            rw [List.drop_eq_nil_iff.2 (by rw [HM.out.2.1]; exact Nat.le_refl _)] at h1
            exact h1
          have hsum : (outs.map (·.size)).sum ≤ 1048580 := by have := HW.out k (Nat.le_refl _); omega
          have holb : outs.length ≤ 1048580 := by omega
          obtain ⟨a5, cap5, hv5, _, hsh5⟩ := hown.shape
          have HSH := hid hsh5
          have HB3 := hid (HBEL.out.trans (hbl.mono hB2s))
          rw [hv5]
          obtain ⟨B3, hB3⟩ : ∃ B3, B3 = w3.heap.size := ⟨_, rfl⟩
          have hB3s : w.heap.size ≤ B3 := by omega
          have HB3e := hid hB3
          clear hstk hos hown hbl hv5 hsh5 hB3
          have kx : ¬ (k : Int) < k := by omega
          go_wp2
          go_loopg [11, 12] outs.length (fun g s11 s12 wx => ∃ (j : Nat), j ≤ outs.length ∧ g = outs.length - j ∧ s12 = .int .i64 j ∧ wx.ownsRow B3 5 1 s11 ((outs.take j).map (·.data.toList)).flatten.length (bv ((outs.take j).map (·.data.toList)).flatten) ∧ Below B3 w3 wx)
          case atStart => exact ⟨0, Nat.zero_le _, rfl, rfl, World.ownsRow_nil _ _ _ _, Below.refl _ _⟩
          case round =>
            obtain ⟨j, hj, rfl, rfl, hob, hbb⟩ := hrel
            by_cases hjl : j < outs.length
            · obtain ⟨g5, ha5, hg5, hc5⟩ := HSH.out (by omega)
              obtain ⟨y, hy⟩ : ∃ y, outs[j]? = some y := ⟨_, List.getElem?_eq_getElem hjl⟩
              have c2 : wr.cell? ⟨g5, j, none⟩ = some (.string y) := (hbb.cell (p := ⟨g5, j, none⟩) (by rw [HB3e.out]; exact hg5)).trans (hc5 j y hy)
              have HY := hid (flat_take hy)
              have hfl := flat_take_le outs j
              have hfl1 := flat_take_le outs (j + 1)
              have hys : y.size ≤ 1048580 := by rw [flat_take hy, List.length_append, ← Lib.size_eq] at hfl1; omega
              have hsb : B3 ≤ wr.heap.size := by have := hbb.size; rw [HB3e.out]; exact this
              have HBB := hid hbb
              clear hc5 hy hfl1 hbb
              subst ha5
              have jj : (j : Int) < outs.length := by omega
              obtain ⟨F, hF⟩ : ∃ F, F = ((outs.take j).map (·.data.toList)).flatten := ⟨_, rfl⟩
              rw [← hF] at hob HY hfl
              have HFF := hid hF
              clear hF
              go_wp2_with (at_builtin; refine Lib.wpList_append_own_string _ rfl _ _ 35 9 rfl B3 5 i5 Try.underlying35 Try.underlying9 hi5 hy0 hy1 hy2 _ _ _ rfl hob y rfl (by unfold maxLen; omega) (by omega) hsb ?_; intro v1 w1 hown1 hgrow1 _; have HO1 := hid (And.intro hown1 hgrow1); clear hown1 hgrow1)
              go_wp2
              go_roundg (outs.length - (j + 1))
              case measure => omega
              case rel =>
                refine ⟨j + 1, by omega, rfl, by go_num, ?_, HBB.out.grown HO1.out.2 hsb (fun k hk => (hob.lt k hk).1)⟩
                rw [HY.out]
                have e1 : (F ++ y.data.toList).length = F.length + y.size := by rw [List.length_append, Lib.size_eq]
                have e2 : bv (F ++ y.data.toList) = bv F ++ Lib.strCells y := by simp [bv, Lib.strCells]
                rw [e1, e2]
                exact HO1.out.1
            · obtain rfl : j = outs.length := by omega
              rw [List.take_length, HFL.out] at hob
              have hcv := bytes_back hob
              have HBB := hid hbb
              clear hob hbb
              have jj : ¬ (outs.length : Int) < outs.length := by omega
              go_wp2
              go_ret
              exact ⟨_, rfl, by rw [← HR.out], HB3.out.trans (HBB.out.mono hB3s)⟩

end Go.Proofs.Qxb6604144a.Iri
