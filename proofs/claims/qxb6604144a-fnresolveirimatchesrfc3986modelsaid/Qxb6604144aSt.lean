/-
  (iriParts).String (function 26) and ZZJoinIRI (15) by their contracts: they write 'join'.
-/
import Derived.Test.Qxb6604144aBk
import Derived.Deep.CutBlock
namespace Go.Proofs.Qxb6604144a.Iri
open Go.RowKit

/-- The builder in block b = B holds the bytes l. -/
abbrev Bld (w : World) (b : Nat) (l : List UInt8) : Prop := Lib.IsBuilder 54 5 b b (Lib.byteCells l) w

theorem write_any (b : Nat) (l : List UInt8) (s : ByteArray) (w : World) (h : Bld w b l) (hlen : l.length + s.size ≤ 140737488355328) (hBw : b ≤ w.heap.size) :
    Calls Try.prog 41 #[.pointer (some ⟨b, 0, none⟩), .string s] w fun e w' => e = .returned (.tuple #[.int .i64 s.size, .nilIface]) ∧ Bld w' b (l ++ s.data.toList) ∧ Below b w w' := by
  have h1 : Calls Try.prog 41 #[.pointer (some ⟨b, 0, none⟩), .string s] w fun e w' => e = .returned (.tuple #[.int .i64 s.size, .nilIface]) ∧ (Lib.BuilderAt 54 5 b b (.pointer (some ⟨b, 0, none⟩)) (Lib.byteCells l ++ Lib.strCells s) w' ∧ Below b w w') :=
    Any.Builder_WriteString { Try.lays156 with } Try.Builder_Extra_156 b b (Lib.byteCells l) s w h (by rw [Lib.byteCells_length]; exact hlen) hBw
  refine h1.mono fun e w' ⟨he, h2, h3⟩ => ⟨he, ?_, h3⟩
  have e1 : Lib.byteCells (l ++ s.data.toList) = Lib.byteCells l ++ Lib.strCells s := by simp [Lib.byteCells, Lib.strCells]
  unfold Bld
  rw [e1]
  exact Or.inr h2

theorem text_any (b : Nat) (l : List UInt8) (w : World) (h : Bld w b l) (hBw : b ≤ w.heap.size) : Calls Try.prog 42 #[.pointer (some ⟨b, 0, none⟩)] w fun e w' => e = .returned (.string ⟨l.toArray⟩) ∧ Below b w w' :=
  Try.Builder_String_any b b l w h hBw

theorem Bld.lt {w : World} {b : Nat} {l : List UInt8} (h : Bld w b l) : b < w.heap.size := by
  rcases h with ⟨_, v, hb, _⟩ | ⟨_, v, hb, _⟩ <;> exact (Array.getElem?_eq_some_iff.1 hb).1

theorem Bld.fresh (w : World) : Bld (w.alloc (.cells #[.pointer none, .slice none 0 0] 54)) w.heap.size [] := by
  refine Or.inl ⟨Nat.le_refl _, .slice none 0 0, ?_, World.ownsRow_nil _ _ _ _, by simp [Value.ownBlock]⟩
  show (w.heap.push _)[w.heap.size]? = _
  simp

/-- What stands at each join of the ways: the parts in their box, the builder behind it, l written. -/
def Wr (w wx : World) (a b c d f : ByteArray) (x y z : Bool) (l : List UInt8) : Prop :=
  Blk wx w.heap.size (cells8 a b c d f x y z) 37 ∧ Bld wx (w.heap.size + 1) l ∧ Below w.heap.size w wx

theorem Wr.cells {w wx : World} {a b c d f : ByteArray} {x y z : Bool} {l : List UInt8} (h : Wr w wx a b c d f x y z l) :
    wx.cell? ⟨w.heap.size, 0, none⟩ = some (.string a) ∧ wx.cell? ⟨w.heap.size, 1, none⟩ = some (.string b) ∧ wx.cell? ⟨w.heap.size, 2, none⟩ = some (.string c) ∧ wx.cell? ⟨w.heap.size, 3, none⟩ = some (.string d) ∧ wx.cell? ⟨w.heap.size, 4, none⟩ = some (.string f) ∧
    wx.cell? ⟨w.heap.size, 5, none⟩ = some (.bool x) ∧ wx.cell? ⟨w.heap.size, 6, none⟩ = some (.bool y) ∧ wx.cell? ⟨w.heap.size, 7, none⟩ = some (.bool z) := by
  have hc := h.1.cell
  exact ⟨hc 0, hc 1, hc 2, hc 3, hc 4, hc 5, hc 6, hc 7⟩

theorem Wr.next {w wx wy : World} {a b c d f : ByteArray} {x y z : Bool} {l l' : List UInt8} (h : Wr w wx a b c d f x y z l) (h1 : Bld wy (w.heap.size + 1) l') (h2 : Below (w.heap.size + 1) wx wy) : Wr w wy a b c d f x y z l' :=
  ⟨h.1.below h2 (by omega), h1, h.2.2.trans (h2.mono (by omega))⟩

def j1 (a : ByteArray) : List UInt8 := if a.data.toList ≠ [] then a.data.toList ++ [58] else []
def j2 (x : Bool) (b : ByteArray) : List UInt8 := if x = true then [47, 47] ++ b.data.toList else []
def j4 (y : Bool) (d : ByteArray) : List UInt8 := if y = true then 63 :: d.data.toList else []
def j5 (z : Bool) (f : ByteArray) : List UInt8 := if z = true then 35 :: f.data.toList else []
theorem j1_len (a : ByteArray) : (j1 a).length ≤ a.size + 1 := by unfold j1; split <;> simp
theorem j2_len (x : Bool) (a : ByteArray) : (j2 x a).length ≤ a.size + 2 := by unfold j2; split <;> simp
theorem j4_len (x : Bool) (a : ByteArray) : (j4 x a).length ≤ a.size + 1 := by unfold j4; split <;> simp
theorem j5_len (x : Bool) (a : ByteArray) : (j5 x a).length ≤ a.size + 1 := by unfold j5; split <;> simp

theorem join_is {p : Pt} {a b c d f : ByteArray} {x y z : Bool} (h : Is p a b c d f x y z) : join p = j1 a ++ j2 x b ++ c.data.toList ++ j4 y d ++ j5 z f := by
  obtain ⟨h1, h2, h3, h4, h5, h6, h7, h8⟩ := h
  unfold join j1 j2 j4 j5
  rw [h1, h2, h3, h4, h5, h6, h7, h8]

set_option maxHeartbeats 16000000 in
set_option maxRecDepth 100000 in
theorem string_any (a b c d f : ByteArray) (x y z : Bool) (w : World) (hs : a.size ≤ 4194304 ∧ b.size ≤ 4194304 ∧ c.size ≤ 4194304 ∧ d.size ≤ 4194304 ∧ f.size ≤ 4194304) :
    Calls Try.prog 26 #[agg8 a b c d f x y z] w fun e w' => ∃ r : ByteArray, e = .returned (.string r) ∧ r.data.toList = j1 a ++ j2 x b ++ c.data.toList ++ j4 y d ++ j5 z f ∧ Below w.heap.size w w' := by
  obtain ⟨hs1, hs2, hs3, hs4, hs5⟩ := hs
  have HT := hid (Lib.toList_data a)
  have hz1 := j1_len a
  have hz2 := j2_len x b
  have hz4 := j4_len y d
  have hz5 := j5_len z f
  have HZ := hid (Lib.size_eq c)
  go_enter Try.func26, Try.ntmps26
  go_upto_if 6 with fail
  have W0 : Wr w ((w.alloc (.cells (cells8 a b c d f x y z) 37)).alloc (.cells #[.pointer none, .slice none 0 0] 54)) a b c d f x y z [] := by
    refine ⟨(Blk.new w _ 37).alloc, ?_, ((Below.refl _ w).alloc (Nat.le_refl _) _).alloc (by simp) _⟩
    have := Bld.fresh (w.alloc (.cells (cells8 a b c d f x y z) 37))
    rw [World.size_alloc] at this
    exact this
  have HW0 := hid W0
  clear W0
  go_cut [] (fun wx => Wr w wx a b c d f x y z (j1 a))
  case first =>
    by_cases h : a.data.toList = []
    · have q : (!a.toList.isEmpty) = false := by rw [HT.out, h]; rfl
      have HE : Hid (j1 a = []) := show j1 a = [] by unfold j1; rw [if_neg (by simpa using h)]
      rw [q]
      clear h
      go_wp2
      go_meet
      rw [HE.out]
      exact HW0.out
    · have q : (!a.toList.isEmpty) = true := by
        rw [HT.out]
        cases h' : a.data.toList with
        | nil => exact absurd h' h
        | cons _ _ => rfl
      have HE : Hid (j1 a = [] ++ (a ++ ⟨#[58]⟩).data.toList) := by unfold j1; rw [if_pos h, Joins.data_append]; rfl
      rw [q]
      clear h
      have hsa : (a ++ ⟨#[58]⟩ : ByteArray).size = a.size + 1 := by rw [ByteArray.size_append]; rfl
      have HC := hid (write_any (w.heap.size + 1) [] (a ++ ⟨#[58]⟩) _ HW0.out.2.1 (by rw [hsa]; simp; omega) (by have := HW0.out.2.1.lt; omega))
      clear hsa
      go_wp2_with (go_at_call 41; refine HC.out.mono ?_; rintro e w1 ⟨rfl, h1, h2⟩; have HN := hid (HW0.out.next h1 h2); clear h1 h2)
      go_meet
      rw [HE.out]
      exact HN.out
  case rest =>
    have HW1 := hid hcut
    obtain ⟨c0, c1, c2, c3, c4, c5, c6, c7⟩ := hcut.cells
    have hlt := hcut.2.1.lt
    clear hcut HW0
    go_upto_if 12 with fail
    go_cut [] (fun wx => Wr w wx a b c d f x y z (j1 a ++ j2 x b))
    case first =>
      cases x
      · go_wp2
        go_meet
        have e : j1 a ++ j2 false b = j1 a := by simp [j2]
        rw [e]
        exact HW1.out
      · have hsa : (⟨#[47, 47]⟩ ++ b : ByteArray).size = b.size + 2 := by rw [ByteArray.size_append]; show 2 + b.size = _; omega
        have HC := hid (write_any (w.heap.size + 1) (j1 a) (⟨#[47, 47]⟩ ++ b) _ HW1.out.2.1 (by rw [hsa]; omega) (by omega))
        clear hsa
        go_wp2_with (go_at_call 41; refine HC.out.mono ?_; rintro e w1 ⟨rfl, h1, h2⟩; have HN := hid (HW1.out.next h1 h2); clear h1 h2)
        go_meet
        have e : j1 a ++ j2 true b = j1 a ++ (⟨#[47, 47]⟩ ++ b : ByteArray).data.toList := by rw [Joins.data_append]; simp [j2]
        rw [e]
        exact HN.out
    case rest =>
      have HW2 := hid hcut
      clear c0 c1 c2 c3 c4 c5 c6 c7 hlt HW1
      obtain ⟨c0, c1, c2, c3, c4, c5, c6, c7⟩ := hcut.cells
      have hlt := hcut.2.1.lt
      clear hcut
      have HC := hid (write_any (w.heap.size + 1) (j1 a ++ j2 x b) c _ HW2.out.2.1 (by rw [List.length_append]; omega) (by omega))
      go_wp2_with fail
      refine HC.out.mono ?_
      rintro e w1 ⟨rfl, h1, h2⟩
      have HW3 := hid (HW2.out.next h1 h2)
      clear h1 h2 HC c0 c1 c2 c3 c4 c5 c6 c7 hlt HW2
      obtain ⟨c0, c1, c2, c3, c4, c5, c6, c7⟩ := HW3.out.cells
      have hlt := HW3.out.2.1.lt
      go_upto_if 21 with fail
      go_cut [] (fun wx => Wr w wx a b c d f x y z (j1 a ++ j2 x b ++ c.data.toList ++ j4 y d))
      case first =>
        cases y
        · go_wp2
          go_meet
          have e : j1 a ++ j2 x b ++ c.data.toList ++ j4 false d = j1 a ++ j2 x b ++ c.data.toList := by simp [j4]
          rw [e]
          exact HW3.out
        · have hsa : (⟨#[63]⟩ ++ d : ByteArray).size = d.size + 1 := by rw [ByteArray.size_append]; show 1 + d.size = _; omega
          have HC := hid (write_any (w.heap.size + 1) (j1 a ++ j2 x b ++ c.data.toList) (⟨#[63]⟩ ++ d) _ HW3.out.2.1 (by rw [hsa, List.length_append, List.length_append]; have := HZ.out; omega) (by omega))
          clear hsa
          go_wp2_with (go_at_call 41; refine HC.out.mono ?_; rintro e w1 ⟨rfl, h1, h2⟩; have HN := hid (HW3.out.next h1 h2); clear h1 h2)
          go_meet
          have e : j1 a ++ j2 x b ++ c.data.toList ++ j4 true d = j1 a ++ j2 x b ++ c.data.toList ++ (⟨#[63]⟩ ++ d : ByteArray).data.toList := by rw [Joins.data_append]; simp [j4]
          rw [e]
          exact HN.out
      case rest =>
        have HW4 := hid hcut
        clear c0 c1 c2 c3 c4 c5 c6 c7 hlt HW3
        obtain ⟨c0, c1, c2, c3, c4, c5, c6, c7⟩ := hcut.cells
        have hlt := hcut.2.1.lt
        clear hcut
        go_upto_if 27 with fail
        go_cut [] (fun wx => Wr w wx a b c d f x y z (j1 a ++ j2 x b ++ c.data.toList ++ j4 y d ++ j5 z f))
        case first =>
          cases z
          · go_wp2
            go_meet
            have e : j1 a ++ j2 x b ++ c.data.toList ++ j4 y d ++ j5 false f = j1 a ++ j2 x b ++ c.data.toList ++ j4 y d := by simp [j5]
            rw [e]
            exact HW4.out
          · have hsa : (⟨#[35]⟩ ++ f : ByteArray).size = f.size + 1 := by rw [ByteArray.size_append]; show 1 + f.size = _; omega
            have HC := hid (write_any (w.heap.size + 1) (j1 a ++ j2 x b ++ c.data.toList ++ j4 y d) (⟨#[35]⟩ ++ f) _ HW4.out.2.1 (by rw [hsa, List.length_append, List.length_append, List.length_append]; have := HZ.out; omega) (by omega))
            clear hsa
            go_wp2_with (go_at_call 41; refine HC.out.mono ?_; rintro e w1 ⟨rfl, h1, h2⟩; have HN := hid (HW4.out.next h1 h2); clear h1 h2)
            go_meet
            have e : j1 a ++ j2 x b ++ c.data.toList ++ j4 y d ++ j5 true f = j1 a ++ j2 x b ++ c.data.toList ++ j4 y d ++ (⟨#[35]⟩ ++ f : ByteArray).data.toList := by rw [Joins.data_append]; simp [j5]
            rw [e]
            exact HN.out
        case rest =>
          have HW5 := hid hcut
          clear c0 c1 c2 c3 c4 c5 c6 c7 hlt HW4
          have hlt := hcut.2.1.lt
          clear hcut
          have HC := hid (text_any (w.heap.size + 1) _ _ HW5.out.2.1 (by omega))
          go_wp2_with (go_at_call 42; refine HC.out.mono ?_; rintro e w1 ⟨rfl, h2⟩; have HN := hid (HW5.out.2.2.trans (h2.mono (by omega))); clear h2)
          go_ret
          exact ⟨_, rfl, by simp, HN.out⟩

set_option maxHeartbeats 4000000 in
set_option maxRecDepth 100000 in
theorem zzjoin_any (a b c d f : ByteArray) (x y z : Bool) (w : World) (hs : a.size ≤ 4194304 ∧ b.size ≤ 4194304 ∧ c.size ≤ 4194304 ∧ d.size ≤ 4194304 ∧ f.size ≤ 4194304) :
    Calls Try.prog 15 #[.string a, .string b, .string c, .string d, .string f, .bool x, .bool y, .bool z] w fun e w' => ∃ r : ByteArray, e = .returned (.string r) ∧ r.data.toList = j1 a ++ j2 x b ++ c.data.toList ++ j4 y d ++ j5 z f ∧ Below w.heap.size w w' := by
  have HC := hid (string_any a b c d f x y z w hs)
  clear hs
  go_enter Try.func15, Try.ntmps15
  go_wp2_with (go_at_call 26; refine HC.out.mono ?_; rintro e w1 ⟨r, rfl, h1, h2⟩; have HN := hid (And.intro h1 h2); clear h1 h2)
  go_ret
  exact ⟨_, rfl, HN.out⟩

end Go.Proofs.Qxb6604144a.Iri
