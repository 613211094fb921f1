/-
  removeDotSegments (function 21) by its contract.
-/
import Derived.Test.Qxb6604144aDr
namespace Go.Proofs.Qxb6604144a.Iri
open Go.RowKit

theorem add_at (g o j : Nat) : (⟨g, o, none⟩ : Addr).add j = ⟨g, o + j, none⟩ := by
  unfold Addr.add
  split
  · rename_i h; subst h; rfl
  · rfl

theorem join_flat : ∀ xs : List (List UInt8), Lib.join xs [] = xs.flatten
  | [] => rfl
  | [x] => by simp [Lib.join, List.intercalate]
  | x :: y :: r => by
    have ih := join_flat (y :: r)
    simp only [Lib.join, List.intercalate] at ih ⊢
    simp [List.intersperse, ih]

theorem sum_drop (xs : List Nat) : xs.dropLast.sum ≤ xs.sum := by
  induction xs with
  | nil => simp
  | cons a l ih =>
    cases l with
    | nil => simp
    | cons b r => simp only [List.dropLast_cons_cons, List.sum_cons] at ih ⊢; omega

theorem flat_len (xs : List ByteArray) : (xs.map (·.data.toList)).flatten.length = (xs.map (·.size)).sum := by
  induction xs with
  | nil => rfl
  | cons a l ih => simp only [List.map_cons, List.flatten_cons, List.length_append, List.sum_cons, ih, Lib.size_eq]

/-- strings.Join of the row that the call owns, with nothing between. -/
theorem joinOwn (v : Value) (out : List ByteArray) (w : World) (B : Nat) (hown : Owns w B v out) (hN : out.length ≤ 2097152) (hS : (out.map (·.size)).sum ≤ 2097152) :
    Calls Try.prog 35 #[v, .string ⟨#[]⟩] w fun e w' => ∃ r : ByteArray, e = .returned (.string r) ∧ r.data.toList = (out.map (·.data.toList)).flatten ∧ Below w.heap.size w w' := by
  rcases Joins.ownsRow_forms hown with ⟨rfl, h0⟩ | ⟨g, cap, rfl⟩
  · have he : out = [] := List.length_eq_zero_iff.1 h0
    subst he
    exact (Try.strings_Join_none none 0 ⟨#[]⟩ w).mono fun e w' ⟨h1, h2⟩ => ⟨_, h1, rfl, h2 ▸ Below.refl _ _⟩
  · have hcap : out.length ≤ cap := by
      rcases hown.2 with ⟨h, _⟩ | ⟨_, _, _, hv, _, _, hc, _⟩
      · cases h
      · cases hv; exact hc
    have hg : g < w.heap.size := (hown.lt g rfl).2
    have hj := Try.strings_Join g 0 cap out ⟨#[]⟩ w (fun j x hx => by
      have := hown.cells (g := g) rfl j (.string x) (by rw [List.getElem?_map, hx]; rfl)
      rw [add_at] at this
      exact this) hg (by omega) hcap (by
        rw [show (ByteArray.mk #[]).data.toList = [] from rfl, join_flat, flat_len]; omega)
    refine hj.mono fun e w' ⟨h1, h2⟩ => ⟨_, h1, ?_, h2⟩
    show (Lib.join (out.map (·.data.toList)) (ByteArray.mk #[]).data.toList) = _
    rw [show (ByteArray.mk #[]).data.toList = [] from rfl, join_flat]

set_option maxHeartbeats 16000000 in
set_option maxRecDepth 100000 in
theorem rds_any (s : ByteArray) (w : World) (hs : s.size ≤ 1048578) :
    Calls Try.prog 21 #[.string s] w fun e w' => ∃ r : ByteArray, e = .returned (.string r) ∧ r.data.toList = ans [] s.data.toList ∧ Below w.heap.size w w' := by
  obtain ⟨i0, hi, hz0, hz1, hz2⟩ := info_parts Try.info9
  have HP : Hid (∀ (p : ByteArray) (c : List UInt8) wx, Calls Try.prog 29 #[.string p, .string ⟨c.toArray⟩] wx fun e w' => e = .returned (.bool (Lib.hasPrefix p.data.toList c)) ∧ w' = wx) := fun p c wx => Try.strings_HasPrefix p ⟨c.toArray⟩ wx
  have HC := hid (Try.strings_Contains_one s 46 w)
  rcases indexByte_cases s.data.toList 46 with ⟨e1, hno⟩ | ⟨k, e1, h46, hkl, _⟩
  · rw [e1] at HC
    have HA : Hid (ans [] s.data.toList = s.data.toList) := ans_plain _ (fun h => by obtain ⟨j, hj, e⟩ := List.getElem_of_mem h; exact hno j (by rw [List.getElem?_eq_getElem hj, e]))
    clear e1 hno
    go_enter Try.func21, Try.ntmps21
    go_wp2_with (go_at_call 28; refine HC.out.mono ?_; rintro e w' ⟨rfl, hw⟩; rw [hw]; clear hw)
    go_ret
    exact ⟨_, rfl, HA.out.symm, Below.refl _ _⟩
  · rw [e1] at HC
    have hd : decide ((0 : Int) ≤ (k : Int)) = true := by simp
    rw [hd] at HC
    clear e1 h46 hd hkl
    go_enter Try.func21, Try.ntmps21
    go_wp2_with (go_at_call 28; refine HC.out.mono ?_; rintro e w' ⟨rfl, hw⟩; rw [hw]; clear hw)
    go_loopg [0, 3] s.size (fun g s0 s3 wr => ∃ (p : ByteArray) (out : List ByteArray), s0 = .string p ∧ g = p.size ∧ out.length + p.size ≤ s.size ∧ (out.map (·.size)).sum + p.size ≤ s.size ∧ Owns wr w.heap.size s3 out ∧ Below w.heap.size w wr ∧
      ans (out.map (·.data.toList)) p.data.toList = ans [] s.data.toList ∧ Ready (out.map (·.data.toList)) p.data.toList)
    case atStart => exact ⟨s, [], rfl, rfl, by simp, by simp, World.ownsRow_nil _ _ _ _, Below.refl _ _, rfl, Or.inl rfl⟩
    case round =>
      obtain ⟨p, out, rfl, rfl, hl1, hl2, hown, hbl, hans, hrdy⟩ := hrel
      have HR := hid (And.intro hans (And.intro hrdy hbl))
      have HL := hid hl2
      have HZ := hid (Lib.size_eq p)
      have HTL := hid (Lib.toList_data p)
      have hsz := hbl.size
      clear hans hrdy hbl hl2 HC
      by_cases z : p.data.toList = []
      · have q0 : (!p.toList.isEmpty) = false := by rw [HTL.out, z]; rfl
        have HJ := hid (joinOwn u3 out wr w.heap.size hown (by omega) (by have := HL.out; omega))
        have HE : Hid ((out.map (·.data.toList)).flatten = ans [] s.data.toList) := by
          have := HR.out.1
          rw [z, ans_nil] at this
          exact this
        clear z hown
        go_wp2_with (go_at_call 35; refine HJ.out.mono ?_; rintro e w' ⟨r, rfl, hr1, hr2⟩; have HF := hid (And.intro hr1 hr2); clear hr1 hr2)
        go_ret
        exact ⟨_, rfl, HF.out.1.trans HE.out, HR.out.2.2.trans (HF.out.2.mono hsz)⟩
      · have q0 : (!p.toList.isEmpty) = true := by
          rw [HTL.out]
          cases h : p.data.toList with
          | nil => exact absurd h z
          | cons _ _ => rfl
        have HN := hid z
        clear z
        cases h1 : Lib.hasPrefix p.data.toList [46, 46, 47] with
        | true =>
          have HF := hid (c_up h1 HR.out.2.1)
          have z1 : (3 : Int) ≤ p.size := by have := HF.out.1; have := HZ.out; omega
          go_wp2_with (first | (go_at_call 29; refine (HP.out _ _ _).mono ?_; rintro e w' ⟨rfl, hw⟩; rw [hw]; clear hw) | fail)
          go_roundg ((p.extract 3 p.size).size)
          case measure => rw [ByteArray.size_extract]; omega
          case rel => exact ⟨p.extract 3 p.size, out, rfl, rfl, by rw [ByteArray.size_extract]; omega, by have := HL.out; rw [ByteArray.size_extract]; omega, hown, HR.out.2.2, by rw [Lib.extract_to_end, ← HF.out.2.1]; exact HR.out.1, by rw [Lib.extract_to_end]; exact HF.out.2.2⟩
        | false =>
        cases h2 : Lib.hasPrefix p.data.toList [46, 47] with
        | true =>
          have HF := hid (c_here h2 HR.out.2.1)
          have z1 : (2 : Int) ≤ p.size := by have := HF.out.1; have := HZ.out; omega
          go_wp2_with (first | (go_at_call 29; refine (HP.out _ _ _).mono ?_; rintro e w' ⟨rfl, hw⟩; rw [hw]; clear hw) | fail)
          go_roundg ((p.extract 2 p.size).size)
          case measure => rw [ByteArray.size_extract]; omega
          case rel => exact ⟨p.extract 2 p.size, out, rfl, rfl, by rw [ByteArray.size_extract]; omega, by have := HL.out; rw [ByteArray.size_extract]; omega, hown, HR.out.2.2, by rw [Lib.extract_to_end, ← HF.out.2.1]; exact HR.out.1, by rw [Lib.extract_to_end]; exact HF.out.2.2⟩
        | false =>
        cases h3 : Lib.hasPrefix p.data.toList [47, 46, 47] with
        | true =>
          have HF := hid (c_mid (out := out.map (·.data.toList)) h3)
          have z1 : (2 : Int) ≤ p.size := by have := HF.out.1; have := HZ.out; omega
          go_wp2_with (first | (go_at_call 29; refine (HP.out _ _ _).mono ?_; rintro e w' ⟨rfl, hw⟩; rw [hw]; clear hw) | fail)
          go_roundg ((p.extract 2 p.size).size)
          case measure => rw [ByteArray.size_extract]; omega
          case rel => exact ⟨p.extract 2 p.size, out, rfl, rfl, by rw [ByteArray.size_extract]; omega, by have := HL.out; rw [ByteArray.size_extract]; omega, hown, HR.out.2.2, by rw [Lib.extract_to_end, ← HF.out.2.1]; exact HR.out.1, by rw [Lib.extract_to_end]; exact HF.out.2.2⟩
        | false =>
        by_cases e4 : p.data.toList = [47, 46]
        · have q4 : (p.toList == [47, 46]) = true := by rw [HTL.out, e4]; rfl
          have hp2 : p.size = 2 := by rw [HZ.out, e4]; rfl
          have HF : Hid (ans (out.map (·.data.toList)) p.data.toList = ans (out.map (·.data.toList)) [47]) := by rw [e4]; exact t_end _
          have HP2 := hid hp2
          clear e4 hp2
          go_wp2_with (first | (go_at_call 29; refine (HP.out _ _ _).mono ?_; rintro e w' ⟨rfl, hw⟩; rw [hw]; clear hw) | fail)
          go_roundg 1
          case measure => have := HP2.out; omega
          case rel =>
            have h2 := HP2.out
            exact ⟨⟨#[47]⟩, out, rfl, rfl, by show out.length + 1 ≤ _; omega, by have := HL.out; show _ + 1 ≤ _; omega, hown, HR.out.2.2, by rw [← HR.out.1, HF.out], Or.inr (Or.inr rfl)⟩
        have q4 : (p.toList == [47, 46]) = false := by rw [HTL.out, beq_eq_false_iff_ne]; exact e4
        have H4 := hid e4
        clear e4
        cases h5 : Lib.hasPrefix p.data.toList [47, 46, 46, 47] with
        | true =>
          have HF := hid (c_midup (out := out.map (·.data.toList)) h5)
          have z1 : (3 : Int) ≤ p.size := by have := HF.out.1; have := HZ.out; omega
          have HD := hid (drop_any u3 out wr w.heap.size hown (by omega))
          go_wp2_with (first | (go_at_call 29; refine (HP.out _ _ _).mono ?_; rintro e w' ⟨rfl, hw⟩; rw [hw]; clear hw) | (go_at_call 33; refine HD.out.mono ?_; rintro e w' ⟨v', rfl, hw, hown'⟩; rw [hw]; have HO := hid hown'; clear hw hown') | fail)
          go_roundg ((p.extract 3 p.size).size)
          case measure => rw [ByteArray.size_extract]; omega
          case rel =>
            have hsd := sum_drop (out.map (·.size))
            rw [← List.map_dropLast] at hsd
            exact ⟨p.extract 3 p.size, out.dropLast, rfl, rfl, by rw [ByteArray.size_extract, List.length_dropLast]; omega, by have := HL.out; rw [ByteArray.size_extract]; omega, HO.out, HR.out.2.2, by rw [Lib.extract_to_end, List.map_dropLast, ← HF.out.2.1]; exact HR.out.1, by rw [Lib.extract_to_end, List.map_dropLast]; exact HF.out.2.2⟩
        | false =>
        by_cases e6 : p.data.toList = [47, 46, 46]
        · have q6 : (p.toList == [47, 46, 46]) = true := by rw [HTL.out, e6]; rfl
          have hp2 : p.size = 3 := by rw [HZ.out, e6]; rfl
          have HF : Hid (ans (out.map (·.data.toList)) p.data.toList = ans (out.map (·.data.toList)).dropLast [47]) := by rw [e6]; exact t_endup _
          have HP2 := hid hp2
          have HD := hid (drop_any u3 out wr w.heap.size hown (by omega))
          clear e6 hp2
          go_wp2_with (first | (go_at_call 29; refine (HP.out _ _ _).mono ?_; rintro e w' ⟨rfl, hw⟩; rw [hw]; clear hw) | (go_at_call 33; refine HD.out.mono ?_; rintro e w' ⟨v', rfl, hw, hown'⟩; rw [hw]; have HO := hid hown'; clear hw hown') | fail)
          go_roundg 1
          case measure => have := HP2.out; omega
          case rel =>
            have h2 := HP2.out
            have hsd := sum_drop (out.map (·.size))
            rw [← List.map_dropLast] at hsd
            exact ⟨⟨#[47]⟩, out.dropLast, rfl, rfl, by rw [List.length_dropLast]; show _ + 1 ≤ _; omega, by have := HL.out; show _ + 1 ≤ _; omega, HO.out, HR.out.2.2, by rw [← HR.out.1, HF.out, List.map_dropLast], Or.inr (Or.inr rfl)⟩
        have q6 : (p.toList == [47, 46, 46]) = false := by rw [HTL.out, beq_eq_false_iff_ne]; exact e6
        have H6 := hid e6
        clear e6
        by_cases e7 : p.data.toList = [46]
        · have q7 : (p.toList == [46]) = true := by rw [HTL.out, e7]; rfl
          have hp2 : p.size = 1 := by rw [HZ.out, e7]; rfl
          have HF := hid (c_dot (Or.inl e7) HR.out.2.1)
          have HP2 := hid hp2
          clear e7 hp2
          go_wp2_with (first | (go_at_call 29; refine (HP.out _ _ _).mono ?_; rintro e w' ⟨rfl, hw⟩; rw [hw]; clear hw) | fail)
          go_roundg 0
          case measure => have := HP2.out; omega
          case rel =>
            have h2 := HP2.out
            exact ⟨⟨#[]⟩, out, rfl, rfl, by show _ + 0 ≤ _; omega, by have := HL.out; show _ + 0 ≤ _; omega, hown, HR.out.2.2, by rw [← HR.out.1, HF.out.1], HF.out.2⟩
        have q7 : (p.toList == [46]) = false := by rw [HTL.out, beq_eq_false_iff_ne]; exact e7
        have H7 := hid e7
        clear e7
        by_cases e8 : p.data.toList = [46, 46]
        · have q8 : (p.toList == [46, 46]) = true := by rw [HTL.out, e8]; rfl
          have hp2 : p.size = 2 := by rw [HZ.out, e8]; rfl
          have HF := hid (c_dot (Or.inr e8) HR.out.2.1)
          have HP2 := hid hp2
          clear e8 hp2
          go_wp2_with (first | (go_at_call 29; refine (HP.out _ _ _).mono ?_; rintro e w' ⟨rfl, hw⟩; rw [hw]; clear hw) | fail)
          go_roundg 0
          case measure => have := HP2.out; omega
          case rel =>
            have h2 := HP2.out
            exact ⟨⟨#[]⟩, out, rfl, rfl, by show _ + 0 ≤ _; omega, by have := HL.out; show _ + 0 ≤ _; omega, hown, HR.out.2.2, by rw [← HR.out.1, HF.out.1], HF.out.2⟩
        have q8 : (p.toList == [46, 46]) = false := by rw [HTL.out, beq_eq_false_iff_ne]; exact e8
        have H8 := hid e8
        clear e8
        have HK := hid (fun k hk => c_keep HN.out h1 h2 h3 H4.out h5 H6.out H7.out H8.out HR.out.2.1 k hk)
        have hpos : 1 ≤ p.size := by
          have := HZ.out
          cases h : p.data.toList with
          | nil => exact absurd h HN.out
          | cons a b => rw [h] at this; simp at this; omega
        have z1 : (1 : Int) ≤ p.size := by omega
        have hx1 : (p.extract 1 p.size).data.toList = p.data.toList.drop 1 := Lib.extract_to_end p 1
        rcases indexByte_cases (p.extract 1 p.size).data.toList 47 with ⟨e1, _⟩ | ⟨j, e1, _, hjl, _⟩
        · have HX : Hid (∀ wx, Calls Try.prog 34 #[.string (p.extract 1 p.size), .int .u8 47] wx fun e w' => e = .returned (.int .i64 (-1)) ∧ w' = wx) := fun wx => by
            have := Try.strings_IndexByte (p.extract 1 p.size) 47 wx
            rw [show (47 : Int).toNat.toUInt8 = 47 from rfl, e1] at this
            exact this
          have htw := (cut_miss (l := (p.extract 1 p.size).data.toList) (c := 47) (by omega)).2.1
          rw [hx1, show (fun b : UInt8 => b != 47) = nsl from rfl] at htw
          have HF := hid (HK.out p.size (by rw [htw, List.length_drop, ← HZ.out]; omega))
          clear e1 htw hx1
          go_wp2_with (first | (go_at_call 29; refine (HP.out _ _ _).mono ?_; rintro e w' ⟨rfl, hw⟩; rw [hw]; clear hw) | (go_at_call 34; refine (HX.out _).mono ?_; rintro e w' ⟨rfl, hw⟩; rw [hw]; clear hw) | (at_builtin; refine wpList_append_own _ rfl _ _ 33 rfl w.heap.size 9 i0 (.string ⟨#[]⟩) 1 16 Try.underlying33 hi hz0 hz1 hz2 rfl (by decide) _ _ _ rfl (hown.alloc _) ⟨wr.heap.size, 0, none⟩ 1 1 [.string p] rfl rfl (one_new _ _ _) (fun x hx => by simp at hx; subst hx; rfl) (by unfold maxLen; omega) (by omega) (by simp; omega) ?_; intro v1 w1 hown1 hgrow1 _; have HO1 := hid (And.intro hown1 hgrow1); clear hown1 hgrow1))
          go_wp2
          go_roundg 0
          case measure => omega
          case rel =>
            have e0 : p.data.toList.drop p.size = [] := by rw [HZ.out, List.drop_length]
            have e9 : p.data.toList.take p.size = p.data.toList := by rw [HZ.out, List.take_length]
            have f1 := HF.out.2.2.1
            have f2 := HF.out.2.2.2
            rw [e0, e9] at f1 f2
            refine ⟨ByteArray.empty, out ++ [p], rfl, rfl, by simp; omega, by have := HL.out; simp; omega, Owns.snoc HO1.out.1, (HR.out.2.2.alloc hsz _).grown HO1.out.2 (by simp; omega) (fun k hk => (hown.lt k hk).1), ?_, ?_⟩
            · rw [List.map_append]; exact f1.symm.trans HR.out.1
            · rw [List.map_append]; exact f2
        · have HX : Hid (∀ wx, Calls Try.prog 34 #[.string (p.extract 1 p.size), .int .u8 47] wx fun e w' => e = .returned (.int .i64 j) ∧ w' = wx) := fun wx => by
            have := Try.strings_IndexByte (p.extract 1 p.size) 47 wx
            rw [show (47 : Int).toNat.toUInt8 = 47 from rfl, e1] at this
            exact this
          have htw := (cut_hit e1).2.2.1
          rw [hx1, show (fun b : UInt8 => b != 47) = nsl from rfl] at htw
          rw [hx1, List.length_drop, ← HZ.out] at hjl
          have HF := hid (HK.out (j + 1) (by rw [htw, List.length_take, List.length_drop, ← HZ.out]; omega))
          clear e1 htw hx1
          have y0 : ((j : Int) + 1 == 0) = false := by rw [beq_eq_false_iff_ne]; omega
          have y1 : (j : Int) + 1 ≤ p.size := by omega
          go_wp2_with (first | (go_at_call 29; refine (HP.out _ _ _).mono ?_; rintro e w' ⟨rfl, hw⟩; rw [hw]; clear hw) | (go_at_call 34; refine (HX.out _).mono ?_; rintro e w' ⟨rfl, hw⟩; rw [hw]; clear hw) | (at_builtin; refine wpList_append_own _ rfl _ _ 33 rfl w.heap.size 9 i0 (.string ⟨#[]⟩) 1 16 Try.underlying33 hi hz0 hz1 hz2 rfl (by decide) _ _ _ rfl (hown.alloc _) ⟨wr.heap.size, 0, none⟩ 1 1 [.string (p.extract 0 (j + 1))] rfl rfl (one_new _ _ _) (fun x hx => by simp at hx; subst hx; rfl) (by unfold maxLen; omega) (by omega) (by simp; omega) ?_; intro v1 w1 hown1 hgrow1 _; have HO1 := hid (And.intro hown1 hgrow1); clear hown1 hgrow1))
          go_wp2
          go_roundg ((p.extract (j + 1) p.size).size)
          case measure => rw [ByteArray.size_extract]; omega
          case rel =>
            have f1 := HF.out.2.2.1
            have f2 := HF.out.2.2.2
            have x1 : (p.extract 0 (j + 1)).data.toList = p.data.toList.take (j + 1) := by rw [Lib.extract_data]; simp
            have x2 : (p.extract (j + 1) p.size).data.toList = p.data.toList.drop (j + 1) := Lib.extract_to_end p (j + 1)
            refine ⟨p.extract (j + 1) p.size, out ++ [p.extract 0 (j + 1)], rfl, rfl, ?_, ?_, Owns.snoc HO1.out.1, (HR.out.2.2.alloc hsz _).grown HO1.out.2 (by simp; omega) (fun k hk => (hown.lt k hk).1), ?_, ?_⟩
            · rw [List.length_append, ByteArray.size_extract]; simp; omega
            · have := HL.out; rw [List.map_append, List.sum_append, ByteArray.size_extract]; simp [ByteArray.size_extract]; omega
            · rw [List.map_append, List.map_cons, List.map_nil, x1, x2]; exact f1.symm.trans HR.out.1
            · rw [List.map_append, List.map_cons, List.map_nil, x1, x2]; exact f2

end Go.Proofs.Qxb6604144a.Iri
