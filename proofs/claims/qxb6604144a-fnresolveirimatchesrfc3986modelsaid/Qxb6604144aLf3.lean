/-
  strings.IndexRune at a rune from 128 on and four ASCII bytes; strings.IndexAny at ":/?#" and whatever text: by their contracts. (The shelf's contract for IndexAny asks that a text of at most eight bytes be ASCII: here it need not be.)
-/
import Derived.Test.Qxb6604144aLf2
import Derived.Lib.OthersKept
import Derived.Deep.LoopGhost
import Derived.WalkMore
namespace Go.Proofs.Qxb6604144a.Iri
open Go.RowKit

theorem get_in (s : ByteArray) (i : Nat) (h : i < s.size) : s.get! i = s[i]'h := by
  simp [ByteArray.get!, getElem!_pos, h]
  rfl

/-- What 'range' eats at a byte from 128 on: bytes from 128 on alone; and what it hands out is a valid rune. -/
theorem decode_span (s : ByteArray) (pos : Nat) (h : pos < s.size) (ha : 128 ≤ (s[pos]'h).toNat) :
    pos + (Utf8.decode s pos).2 ≤ s.size ∧ Utf8.valid (Utf8.decode s pos).1 = true ∧ ∀ j (hj : j < s.size), pos ≤ j → j < pos + (Utf8.decode s pos).2 → 128 ≤ (s[j]'hj).toNat := by
  have hn : ¬ (s[pos]'h).toNat < 128 := by omega
  have h0 := (s[pos]'h).toNat_lt
  have key : ∀ k, (decide (pos + k < s.size) && (s.get! (pos + k)).toNat / 64 == 2) = true → ∃ hk : pos + k < s.size, 128 ≤ (s[pos + k]'hk).toNat := by
    intro k hk
    rw [Bool.and_eq_true, decide_eq_true_eq] at hk
    refine ⟨hk.1, ?_⟩
    have := hk.2
    rw [get_in s _ hk.1, beq_iff_eq] at this
    omega
  have b1 := (s.get! (pos + 1)).toNat_lt
  have b2 := (s.get! (pos + 2)).toNat_lt
  have b3 := (s.get! (pos + 3)).toNat_lt
  have one : pos + 1 ≤ s.size ∧ Utf8.valid ((Utf8.runeError : Nat) : Int) = true ∧ ∀ j (hj : j < s.size), pos ≤ j → j < pos + 1 → 128 ≤ (s[j]'hj).toNat := by
    refine ⟨by omega, by decide, fun j hj h1 h2 => ?_⟩
    obtain rfl : j = pos := by omega
    exact ha
  simp only [Utf8.decode, get_at s pos h, hn, if_false]
  split
  · rename_i c
    rw [Bool.and_eq_true] at c
    obtain ⟨q1, r1⟩ := key 1 c.2
    split
    · refine ⟨by omega, ?_, fun j hj h1 h2 => ?_⟩
      · simp [Utf8.valid]; omega
      · have : j = pos ∨ j = pos + 1 := by omega
        rcases this with rfl | rfl
        · exact ha
        · exact r1
    · exact one
  · split
    · rename_i c
      rw [Bool.and_eq_true, Bool.and_eq_true] at c
      obtain ⟨q1, r1⟩ := key 1 c.1.2
      obtain ⟨q2, r2⟩ := key 2 c.2
      split
      · rename_i d
        rw [Bool.and_eq_true] at d
        refine ⟨by omega, d.2, fun j hj h1 h2 => ?_⟩
        have : j = pos ∨ j = pos + 1 ∨ j = pos + 2 := by omega
        rcases this with rfl | rfl | rfl
        · exact ha
        · exact r1
        · exact r2
      · exact one
    · split
      · rename_i c
        rw [Bool.and_eq_true, Bool.and_eq_true, Bool.and_eq_true] at c
        obtain ⟨q1, r1⟩ := key 1 c.1.1.2
        obtain ⟨q2, r2⟩ := key 2 c.1.2
        obtain ⟨q3, r3⟩ := key 3 c.2
        split
        · rename_i d
          rw [Bool.and_eq_true] at d
          refine ⟨by omega, d.2, fun j hj h1 h2 => ?_⟩
          have : j = pos ∨ j = pos + 1 ∨ j = pos + 2 ∨ j = pos + 3 := by omega
          rcases this with rfl | rfl | rfl | rfl
          · exact ha
          · exact r1
          · exact r2
          · exact r3
        · exact one
      · exact one

set_option maxHeartbeats 4000000 in
set_option maxRecDepth 100000 in
/-- IndexRune at RuneError: a range over the four bytes. -/
theorem indexRune_err (cs : ByteArray) (w : World) (h4 : cs.size = 4) (hascii : ∀ i (h : i < cs.size), (cs[i]'h).toNat < 128) :
    Calls Try.prog 48 #[.string cs, .int .i32 65533] w fun e w' => e = .returned (.int .i64 (-1)) ∧ Below w.heap.size w w' := by
  have HA := hid hascii
  clear hascii
  go_enter Try.func48, Try.ntmps48
  go_wp2
  go_loopg [5, 6] 4 (fun g _ _ wx => ∃ i : Nat, i + g = 4 ∧ wx = w.iter cs i)
  case atStart => exact ⟨0, by omega, rfl⟩
  case round =>
    obtain ⟨i, hig, rfl⟩ := hrel
    cases gk with
    | zero =>
      obtain rfl : i = 4 := by omega
      have hnx := fun ty => run_next_end (P := Try.prog) w cs 4 ty (by omega)
      go_wp2
      go_ret
      exact ⟨rfl, (Below.refl _ _).alloc (Nat.le_refl _) _⟩
    | succ g =>
      have hi : i < cs.size := by omega
      have hx := HA.out i hi
      have hnx := fun ty => run_next_ascii (P := Try.prog) w cs i ty hi hx
      obtain ⟨x, hxx⟩ : ∃ x : Nat, (cs[i]'hi).toNat = x := ⟨_, rfl⟩
      rw [hxx] at hnx hx
      have hne : ((x : Int) == 65533) = false := by rw [beq_eq_false_iff_ne]; omega
      clear hxx
      go_wp2
      go_roundg g
      case measure => omega
      case rel => exact ⟨i + 1, by omega, rfl⟩

set_option maxHeartbeats 4000000 in
set_option maxRecDepth 100000 in
/-- IndexRune at another rune from 128 on: its last byte is none of the four. -/
theorem indexRune_high (cs : ByteArray) (r : Int) (w : World) (h4 : cs.size = 4) (hascii : ∀ i (h : i < cs.size), (cs[i]'h).toNat < 128) (h128 : 128 ≤ r) (hne : r ≠ 65533) (hval : Utf8.valid r = true) :
    Calls Try.prog 48 #[.string cs, .int .i32 r] w fun e w' => e = .returned (.int .i64 (-1)) ∧ Below w.heap.size w w' := by
  have HA := hid hascii
  obtain ⟨e1, e2, e3⟩ := encode_facts r hval h128
  obtain ⟨E, hE⟩ : ∃ E, Utf8.encode r = E := ⟨_, rfl⟩
  rw [hE] at e1 e2 e3
  have hr1 : (r == 65533) = false := by rw [beq_eq_false_iff_ne]; exact hne
  have hr2 : ¬ r < 128 := by omega
  have HV := hid (Try.utf8_ValidRune r w)
  have hvr : Lib.validRune r = true := by
    have h := hval
    rw [validRune_eq] at h
    exact h
  rw [hvr] at HV
  have H3 := hid e3
  clear hascii hval hvr hne e3
  go_enter Try.func48, Try.ntmps48
  go_wp2_with (go_at_call 58; refine HV.out.mono ?_; rintro e w' ⟨rfl, rfl⟩)
  go_step3
  go_wp2
  have hb1 : E.size - 1 < cs.size := by omega
  have hb2 : E.size - 1 < E.size := by omega
  have hdA := HA.out (E.size - 1) hb1
  have hcA := H3.out hb2
  obtain ⟨d, hd⟩ : ∃ d, cs[E.size - 1]'hb1 = d := ⟨_, rfl⟩
  obtain ⟨c, hc⟩ : ∃ c, E[E.size - 1]'hb2 = c := ⟨_, rfl⟩
  rw [hd] at hdA
  rw [hc] at hcA
  have hne : ((d.toNat : Int) != (c.toNat : Int)) = true := by simp only [bne_iff_ne]; omega
  have k1 : (0 : Int) ≤ (E.size : Int) - 1 := by omega
  have k2 : (E.size : Int) - 1 < 4 := by omega
  have k3 : (E.size : Int) - 1 < (E.size : Int) := by omega
  have hno : Lib.indexByte (cs.extract E.size 4).data.toList (c.toNat : Int).toNat.toUInt8 = -1 := by
    have he : (c.toNat : Int).toNat.toUInt8 = c := by simp
    rw [he]
    rcases indexByte_cases (cs.extract E.size 4).data.toList c with h | ⟨k, _, h, _, _⟩
    · exact h.1
    · exfalso
      have hm : c ∈ (cs.extract E.size 4).data.toList := List.mem_of_getElem? h
      have hm2 := mem_extract hm
      obtain ⟨i, hi, e⟩ := List.getElem_of_mem hm2
      have hi' : i < cs.size := by rw [Lib.size_eq]; exact hi
      have := HA.out i hi'
      have e2 := Lib.data_getElem? cs i hi'
      rw [List.getElem?_eq_getElem hi, e] at e2
      rw [← Option.some.inj e2] at this
      omega
  have HI : Hid (∀ wx, Calls Try.prog 34 #[.string (cs.extract E.size 4), .int .u8 c.toNat] wx fun e w' => e = .returned (.int .i64 (-1)) ∧ w' = wx) := fun wx => by
    have := Try.strings_IndexByte (cs.extract E.size 4) c.toNat wx
    rw [hno] at this
    exact this
  clear hno
  go_loop [9] (fun i => i = .int .i64 ((E.size : Int) - 1)) (fun _ => 0)
  case atStart => rfl
  case round =>
    obtain rfl := hrel
    go_wp2
    go_step3
    go_wp2
    go_quiet (fail)
    go_wp2
    go_quiet ((go_at_call 34; exact (HI.out _).mono (fun _ _ h => ⟨h.1, _, h.2⟩)))
    go_wp2
    rw [Exit.noGoto_ret]
    refine bodyPost_ret (P := Try.prog) (fn := Try.f48) (R := fun e w'' => e = .returned (.int .i64 (-1)) ∧ Below w'.heap.size w' w'') (results_tmp rfl _ _ _) rfl ?_
    exact ⟨rfl, below_drewN (Below.refl _ _) _⟩

set_option maxHeartbeats 4000000 in
set_option maxRecDepth 100000 in
/-- IndexAny at a text of at most eight bytes, WHATEVER THEY ARE, and four ASCII bytes. -/
theorem indexAny_short (s cs : ByteArray) (w : World) (h4 : cs.size = 4) (h8 : s.size ≤ 8) (hascii : ∀ i (h : i < cs.size), (cs[i]'h).toNat < 128) :
    Calls Try.prog 36 #[.string s, .string cs] w fun e w' => e = .returned (.int .i64 (Lib.indexAny s.data.toList cs.data.toList)) ∧ Below w.heap.size w w' := by
  have HA := hid hascii
  have HI : Hid (∀ (r : Int) (wx : World), 128 ≤ r → Utf8.valid r = true → Calls Try.prog 48 #[.string cs, .int .i32 r] wx fun e w' => e = .returned (.int .i64 (-1)) ∧ Below wx.heap.size wx w') := fun r wx h1 h2 => by
    by_cases e : r = 65533
    · subst e; exact indexRune_err cs wx h4 hascii
    · exact indexRune_high cs r wx h4 hascii h1 e h2
  have HZ := hid (Lib.size_eq s)
  have HZc := hid (Lib.size_eq cs)
  have hemp : cs.toList.isEmpty = false := by
    rw [Lib.toList_data]
    cases h : cs.data.toList with
    | nil => have := Lib.size_eq cs; rw [h, List.length_nil] at this; omega
    | cons _ _ => rfl
  clear hascii
  have hn1 : ((cs.size : Int) == 1) = false := beq_eq_false_iff_ne.2 (by omega)
  have h8z : decide ((8 : Int) < (s.size : Int)) = false := decide_eq_false (by omega)
  have HS := hid (Try.strings_shouldUseASCIISet s.size w)
  rw [h8z] at HS
  clear h8z
  go_enter Try.func36, Try.ntmps36
  go_wp2_with (go_at_call 49; refine HS.out.mono ?_; rintro e w' ⟨rfl, hw⟩; rw [hw]; clear hw)
  clear HS hemp
  go_loopg [9, 10] s.size (fun g _ _ wx => ∃ i : Nat, i + g = s.size ∧ wx.heap[w.heap.size]? = some (.stringIter s i) ∧ Below w.heap.size w wx ∧ Lib.NoAny s.data.toList cs.data.toList i)
  case atStart => exact ⟨0, by omega, World.iter_heap w s 0, (Below.refl _ _).alloc (Nat.le_refl _) _, Lib.NoAny.zero _ _⟩
  case round =>
    obtain ⟨i, hig, hk, hbl, hno⟩ := hrel
    have HN := hid hno
    have HB := hid hbl
    have HK := hid hk
    clear hno hbl
    cases gk with
    | zero =>
      obtain rfl : i = s.size := by omega
      have hnx := fun ty => Lib.run_next_end_at (P := Try.prog) wr w.heap.size s s.size ty hk (by omega)
      clear hk
      go_wp2
      go_ret
      exact ⟨by rw [Lib.indexAny_none (by rw [← HZ.out]; exact HN.out)]; rfl, HB.out⟩
    | succ g =>
      have hi : i < s.size := by omega
      have hnx := fun ty => Lib.run_next_any_at (P := Try.prog) wr w.heap.size s i ty hk hi
      have hkl : w.heap.size < wr.heap.size := (Array.getElem?_eq_some_iff.1 hk).1
      have hk2 := fun p => Lib.iterAt_heap wr w.heap.size s i p hk
      have hz2 := fun p => Lib.iterAt_size wr w.heap.size s p
      obtain ⟨x, hx⟩ : ∃ x : UInt8, s[i]'hi = x := ⟨_, rfl⟩
      have hxl : s.data.toList[i]? = some x := by rw [← hx]; exact Lib.data_getElem? s i hi
      have HX := hid hxl
      clear hk hxl
      by_cases hx128 : x.toNat < 128
      · have hd := decode_ascii s i hi (by rw [hx]; exact hx128)
        rw [hd, hx] at hnx
        have hb2 := Lib.below_iterAt HB.out (Nat.le_refl _) s (i + 1)
        have HB2 := hid (And.intro hb2 (hk2 (i + 1)))
        have hcon := Lib.contains_iff_indexByte cs.data.toList x
        have HC := hid (Try.strings_IndexRune_ascii cs x.toNat (wr.iterAt w.heap.size s (i + 1)) (by omega) (by omega))
        have hback : ((x.toNat : Int)).toNat.toUInt8 = x := by simp
        rw [hback] at HC
        clear hb2 hk2 hz2 hd hx hback
        obtain ⟨q, hq⟩ : ∃ q, Lib.indexByte cs.data.toList x = q := ⟨_, rfl⟩
        rw [hq] at HC hcon
        clear hq
        cases hin : cs.data.toList.contains x
        · rw [hin] at hcon
          have hlt : ¬ ((0 : Int) ≤ q) := of_decide_eq_false hcon.symm
          have HIN := hid hin
          clear hcon hin
          go_wp2_with (go_at_call 48; refine HC.out.mono ?_; rintro e w' ⟨rfl, hw⟩; rw [hw]; clear hw)
          go_roundg g
          case measure => omega
          case rel => exact ⟨i + 1, by omega, HB2.out.2, HB2.out.1, HN.out.succ HX.out HIN.out⟩
        · rw [hin] at hcon
          have hge : (0 : Int) ≤ q := of_decide_eq_true hcon.symm
          have HIN := hid hin
          clear hcon hin
          go_wp2_with (go_at_call 48; refine HC.out.mono ?_; rintro e w' ⟨rfl, hw⟩; rw [hw]; clear hw)
          go_ret
          exact ⟨by rw [Lib.indexAny_hit HN.out HX.out HIN.out]; rfl, HB2.out.1⟩
      · have ha : 128 ≤ (s[i]'hi).toNat := by rw [hx]; omega
        obtain ⟨d1, d2, d3⟩ := decode_span s i hi ha
        obtain ⟨d4, d5⟩ := decode_high s i hi ha
        obtain ⟨r, hr⟩ : ∃ r, (Utf8.decode s i).1 = r := ⟨_, rfl⟩
        obtain ⟨d, hd⟩ : ∃ d, (Utf8.decode s i).2 = d := ⟨_, rfl⟩
        rw [hd] at d1 d3 d5 hnx
        rw [hr] at d2 d4 hnx
        have HNO : Hid (Lib.NoAny s.data.toList cs.data.toList (i + d)) := by
          intro j b hj hb
          by_cases hji : j < i
          · exact HN.out j b hji hb
          · have hjs : j < s.size := by omega
            have h128 := d3 j hjs (by omega) hj
            have e2 := Lib.data_getElem? s j hjs
            rw [hb] at e2
            rw [← Option.some.inj e2] at h128
            cases hc : cs.data.toList.contains b
            · rfl
            · exfalso
              obtain ⟨m, hm, e3⟩ := List.getElem_of_mem (List.contains_iff_mem.1 hc)
              have hm' : m < cs.size := by rw [HZc.out]; exact hm
              have h5 := HA.out m hm'
              have e4 := Lib.data_getElem? cs m hm'
              rw [List.getElem?_eq_getElem hm, e3] at e4
              rw [← Option.some.inj e4] at h5
              omega
        have hb2 := Lib.below_iterAt HB.out (Nat.le_refl _) s (i + d)
        have HB2 := hid (And.intro hb2 (And.intro (hk2 (i + d)) (hz2 (i + d))))
        have HC := hid (HI.out r (wr.iterAt w.heap.size s (i + d)) (by omega) d2)
        clear hb2 hk2 hz2 hr hd d2 d3 ha hx
        go_wp2_with (go_at_call 48; refine HC.out.mono ?_; rintro e w' ⟨rfl, hw⟩; have HW := hid hw; clear hw)
        go_roundg (s.size - (i + d))
        case measure => omega
        case rel =>
          have h1 := HW.out.block w.heap.size (by rw [HB2.out.2.2]; exact hkl)
          exact ⟨i + d, by omega, h1.trans HB2.out.2.1, HB2.out.1.trans (HW.out.mono (by rw [HB2.out.2.2]; omega)), HNO.out⟩

theorem Try.info63 : (Try.prog.info? 63).map (fun i => (i.zero, i.size)) = some (some (.agg (Array.replicate 256 (.bool false))), 256) := by kernel_rfl

/-- IndexAny(s, ":/?#"), s WHATEVER. -/
theorem indexAny_any (s : ByteArray) (w : World) (hs : s.size ≤ 1048576) :
    Calls Try.prog 36 #[.string s, .string ⟨#[58, 47, 63, 35]⟩] w fun e w' => e = .returned (.int .i64 (Lib.indexAny s.data.toList [58, 47, 63, 35])) ∧ Below w.heap.size w w' := by
  by_cases h8 : s.size ≤ 8
  · refine indexAny_short s ⟨#[58, 47, 63, 35]⟩ w rfl h8 ?_
    intro i h
    have h : i < 4 := h
    match i, h with
    | 0, _ => show (58 : UInt8).toNat < 128; decide
    | 1, _ => show (47 : UInt8).toNat < 128; decide
    | 2, _ => show (63 : UInt8).toNat < 128; decide
    | 3, _ => show (35 : UInt8).toNat < 128; decide
  · refine (Try.strings_IndexAny_long (zero_of_info Try.info63).1 s ⟨#[58, 47, 63, 35]⟩ w (by decide) (by omega) (by omega) (by decide) ?_).mono fun e w' ⟨h1, h2⟩ => ⟨h1, ?_⟩
    · intro j b hb
      match j, hb with
      | 0, hb => simp at hb; subst hb; decide
      | 1, hb => simp at hb; subst hb; decide
      | 2, hb => simp at hb; subst hb; decide
      | 3, hb => simp at hb; subst hb; decide
      | n + 4, hb => simp at hb
    · rw [h2]
      exact ((Below.refl _ _).alloc (Nat.le_refl _) _).alloc (by simp) _

end Go.Proofs.Qxb6604144a.Iri
