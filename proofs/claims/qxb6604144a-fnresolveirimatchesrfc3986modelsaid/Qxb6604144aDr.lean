/-
  THE PIECES of the dot segments' roads: dropLast (33), zzIsDot (23), zzSplitSlash (22), each by a contract.
-/
import Derived.Test.Qxb6604144aRd
import Derived.Test.Qxb6604144aSc
import Derived.Test.Qxb6604144aLf
import Derived.Lib.SmallJoins
import Derived.Deep.LoopGhost
namespace Go.Proofs.Qxb6604144a.Iri
open Go.RowKit

theorem Try.info9 : (Try.prog.info? 9).map (fun i => (i.zero, i.size, i.bytes)) = some (some (.string ⟨#[]⟩), 1, 16) := by kernel_rfl

/-- A slice of strings that the call owns, from block B on. -/
abbrev Owns (w : World) (B : Nat) (v : Value) (xs : List ByteArray) : Prop := w.ownsRow B 9 1 v xs.length (xs.map Value.string)

theorem one_new (w : World) (v : Value) (t : TypeId) : ∀ j u, [v][j]? = some u → (w.alloc (.cells #[v] t)).cell? ((⟨w.heap.size, 0, none⟩ : Addr).add j) = some u := by
  intro j u hj
  match j, hj with
  | 0, hj => simp at hj; subst hj; simp [Addr.add]
  | j + 1, hj => simp at hj

theorem Owns.snoc {w : World} {B : Nat} {v : Value} {xs : List ByteArray} {x : ByteArray} (h : w.ownsRow B 9 1 v (xs.length + 1) (xs.map Value.string ++ [Value.string x])) : Owns w B v (xs ++ [x]) := by
  unfold Owns
  rw [List.length_append, List.map_append]
  exact h

set_option maxHeartbeats 1000000 in
theorem drop_any (v : Value) (out : List ByteArray) (w : World) (B : Nat) (hown : Owns w B v out) (hl : out.length ≤ 2097152) :
    Calls Try.prog 33 #[v] w fun e w' => ∃ v', e = .returned v' ∧ w' = w ∧ Owns w B v' out.dropLast := by
  rcases Joins.ownsRow_forms hown with ⟨rfl, h0⟩ | ⟨g, cap, rfl⟩
  · have he : out = [] := List.length_eq_zero_iff.1 h0
    have HO := hid hown
    clear hown
    go_enter Try.func33, Try.ntmps33
    go_wp2
    go_ret
    exact ⟨_, rfl, rfl, by rw [he] at HO ⊢; exact HO.out⟩
  · by_cases h0 : out.length = 0
    · have he : out = [] := List.length_eq_zero_iff.1 h0
      subst he
      have HO := hid hown
      clear hown
      go_enter Try.func33, Try.ntmps33
      go_wp2
      go_ret
      exact ⟨_, rfl, rfl, HO.out⟩
    · obtain ⟨n, hn⟩ : ∃ n, out.length = n + 1 := ⟨out.length - 1, by omega⟩
      have hcap : out.length ≤ cap := by
        rcases hown.2 with ⟨h, _⟩ | ⟨_, _, _, hv, _, _, hc, _⟩
        · cases h
        · cases hv; exact hc
      have HO : Hid (Owns w B (.slice (some ⟨g, 0, none⟩) n cap) out.dropLast) := by
        have e1 : out.dropLast.length = n := by simp [hn]
        obtain ⟨x, hx⟩ : ∃ x, out = out.dropLast ++ [x] := ⟨out.getLast (by intro e; simp [e] at hn), (List.dropLast_concat_getLast _).symm⟩
        have h2 := hown
        unfold Owns at h2
        rw [hn] at h2
        have h3 : out.map Value.string = out.dropLast.map Value.string ++ [Value.string x] := by
          conv => lhs; rw [hx]
          simp
        rw [h3] at h2
        have := ownsRow_pop (n := n) (xs := out.dropLast.map Value.string) (last := [Value.string x]) (by simp [hn]) h2
        unfold Owns
        rw [e1]
        exact this
      rw [hn] at hcap hl ⊢
      clear hown h0 hn
      go_enter Try.func33, Try.ntmps33
      go_wp2
      go_ret
      exact ⟨_, rfl, rfl, HO.out⟩

theorem ba_eq_iff (s : ByteArray) (l : List UInt8) : s = ⟨l.toArray⟩ ↔ s.data.toList = l := by
  constructor
  · rintro rfl; simp
  · intro h; cases s; simp at h; rw [← h]

set_option maxHeartbeats 1000000 in
theorem isDot_any (s : ByteArray) (w : World) : Calls Try.prog 23 #[.string s] w fun e w' => e = .returned (.bool (dot s.data.toList)) ∧ w' = w := by
  go_enter Try.func23, Try.ntmps23
  go_wp2
  all_goals
    go_ret
    exact ⟨ret_bool (by simp_all [dot, Lib.toList_data]), rfl⟩

theorem segs_stop {l : List UInt8} {st i : Nat} (h : Stop nsl l st i) : segsOf (l.drop st) = (l.drop st).take (i - st) :: (match l.drop i with | [] => [] | _ :: t => segsOf t) := by
  rw [segs_tw, h.2.2.1, h.2.2.2]
  cases l.drop i <;> rfl

theorem segs_hit {l : List UInt8} {st i : Nat} (h : Scan nsl l st i) (hi : l[i]? = some 47) : segsOf (l.drop st) = (l.drop st).take (i - st) :: segsOf (l.drop (i + 1)) := by
  have hs := h.stop (fun b hb => by rw [hi] at hb; cases hb; rfl)
  rw [segs_stop hs]
  have hl : i < l.length := by
    rcases Nat.lt_or_ge i l.length with h' | h'
    · exact h'
    · rw [List.getElem?_eq_none h'] at hi; simp at hi
  rw [List.drop_eq_getElem_cons hl]

theorem segs_last {l : List UInt8} {st i : Nat} (h : Scan nsl l st i) (hi : i = l.length) : segsOf (l.drop st) = [l.drop st] := by
  have hs := h.stop (fun b hb => by rw [List.getElem?_eq_none (by omega)] at hb; cases hb)
  rw [segs_stop hs, hi, List.drop_length, List.take_of_length_le (by rw [List.length_drop]; omega)]

set_option maxHeartbeats 4000000 in
set_option maxRecDepth 100000 in
theorem slash_any (s : ByteArray) (w : World) (hs : s.size ≤ 2097152) :
    Calls Try.prog 22 #[.string s] w fun e w' => ∃ (v : Value) (segs : List ByteArray), e = .returned v ∧ segs.map (·.data.toList) = segsOf s.data.toList ∧ segs.length ≤ s.size + 1 ∧ Owns w' w.heap.size v segs ∧ Below w.heap.size w w' := by
  obtain ⟨i0, hi, hz0, hz1, hz2⟩ := info_parts Try.info9
  have HZ := hid (Lib.size_eq s)
  go_enter Try.func22, Try.ntmps22
  go_wp2
  go_loopg [3, 4, 5] s.size (fun g s3 s4 s5 wr => ∃ (done : List ByteArray) (st i : Nat), i ≤ s.size ∧ st ≤ i ∧ g = s.size - i ∧ s4 = .int .i64 st ∧ s5 = .int .i64 i ∧ done.length ≤ i ∧ Owns wr w.heap.size s3 done ∧ Below w.heap.size w wr ∧
    done.map (·.data.toList) ++ segsOf (s.data.toList.drop st) = segsOf s.data.toList ∧ Scan nsl s.data.toList st i)
  case atStart => exact ⟨[], 0, 0, Nat.zero_le _, Nat.le_refl _, rfl, rfl, rfl, Nat.le_refl _, World.ownsRow_nil _ _ _ _, Below.refl _ _, rfl, Scan.start (Nat.zero_le _)⟩
  case round =>
    obtain ⟨done, st, i, hile, hst, rfl, rfl, rfl, hdl, hown, hbl, hseg, hsc⟩ := hrel
    have HR := hid (And.intro hseg (And.intro hsc hbl))
    clear hseg hsc
    have hsz := hbl.size
    clear hbl
    by_cases hlt : i < s.size
    · have hki : (i : Int) < s.size := by omega
      obtain ⟨x, hx⟩ : ∃ x, s[i] = x := ⟨_, rfl⟩
      have HX := hid (Lib.data_getElem? s i hlt)
      rw [hx] at HX
      by_cases hc : x = 47
      · have q1 : ((x.toNat : Int) == 47) = true := by rw [eq47]; simpa using hc
        rw [hc] at HX
        clear hc
        have z1 : (st : Int) ≤ i := by omega
        have z2 : (i : Int) ≤ s.size := by omega
        go_wp2_with (at_builtin; refine wpList_append_own _ rfl _ _ 33 rfl w.heap.size 9 i0 (.string ⟨#[]⟩) 1 16 Try.underlying33 hi hz0 hz1 hz2 rfl (by decide) _ _ _ rfl (hown.alloc _) ⟨wr.heap.size, 0, none⟩ 1 1 [.string (s.extract st i)] rfl rfl (one_new _ _ _) (fun x hx => by simp at hx; subst hx; rfl) (by unfold maxLen; omega) (by omega) (by simp; omega) ?_; intro v1 w1 hown1 hgrow1 _)
        have HO1 := hid (And.intro hown1 hgrow1)
        clear hown1 hgrow1
        go_wp2
        go_roundg (s.size - (i + 1))
        case measure => omega
        case rel =>
          refine ⟨done ++ [s.extract st i], i + 1, i + 1, by omega, Nat.le_refl _, rfl, by go_num, by go_num, by simp; omega, Owns.snoc HO1.out.1, ?_, ?_, Scan.start (by have := HZ.out; omega)⟩
          · exact (HR.out.2.2.alloc hsz _).grown HO1.out.2 (by simp; omega) (fun k hk => (hown.lt k hk).1)
          · rw [List.map_append, List.append_assoc, ← HR.out.1, segs_hit HR.out.2.1 HX.out]
            simp
      · have q1 : ((x.toNat : Int) == 47) = false := by rw [eq47]; simpa using hc
        have HN := hid (HR.out.2.1.step HX.out (show nsl x = true by simpa [nsl] using hc))
        clear hc
        go_wp2
        go_roundg (s.size - (i + 1))
        case measure => omega
        case rel => exact ⟨done, st, i + 1, by omega, by omega, rfl, rfl, by go_num, by omega, hown, HR.out.2.2, HR.out.1, HN.out⟩
    · have hki : ¬ (i : Int) < s.size := by omega
      have z1 : (st : Int) ≤ s.size := by omega
      go_wp2_with (at_builtin; refine wpList_append_own _ rfl _ _ 33 rfl w.heap.size 9 i0 (.string ⟨#[]⟩) 1 16 Try.underlying33 hi hz0 hz1 hz2 rfl (by decide) _ _ _ rfl (hown.alloc _) ⟨wr.heap.size, 0, none⟩ 1 1 [.string (s.extract st s.size)] rfl rfl (one_new _ _ _) (fun x hx => by simp at hx; subst hx; rfl) (by unfold maxLen; omega) (by omega) (by simp; omega) ?_; intro v1 w1 hown1 hgrow1 _)
      have HO1 := hid (And.intro hown1 hgrow1)
      clear hown1 hgrow1
      go_wp2
      go_ret
      refine ⟨_, rfl, done ++ [s.extract st s.size], ?_, by simp; omega, Owns.snoc HO1.out.1, ?_⟩
      · rw [List.map_append, ← HR.out.1, segs_last HR.out.2.1 (by have := HZ.out; omega), List.map_cons, List.map_nil, Lib.extract_to_end]
      · exact (HR.out.2.2.alloc hsz _).grown HO1.out.2 (by simp; omega) (fun k hk => (hown.lt k hk).1)

end Go.Proofs.Qxb6604144a.Iri
