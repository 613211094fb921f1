/-
  zzJoin (function 32) by its contract: it writes 'join'.
-/
import Derived.Test.Qxb6604144aSt
import Derived.Test.Qxb6604144aZr
import Derived.Deep.CutBlock
namespace Go.Proofs.Qxb6604144a.Iri
open Go.RowKit
set_option linter.unusedSimpArgs false

/-- What stands at each join of the ways: the parts in their box, the row of bytes l behind it. -/
def Ap (w wx : World) (a b c d f : ByteArray) (x y z : Bool) (v : Value) (l : List UInt8) : Prop :=
  Blk wx w.heap.size (cells8 a b c d f x y z) 27 ∧ wx.ownsRow (w.heap.size + 1) 5 1 v l.length (bv l) ∧ Below w.heap.size w wx ∧ w.heap.size + 1 ≤ wx.heap.size

theorem Ap.cells {w wx : World} {a b c d f : ByteArray} {x y z : Bool} {v : Value} {l : List UInt8} (h : Ap w wx a b c d f x y z v l) :
    wx.cell? ⟨w.heap.size, 0, none⟩ = some (.string a) ∧ wx.cell? ⟨w.heap.size, 1, none⟩ = some (.string b) ∧ wx.cell? ⟨w.heap.size, 2, none⟩ = some (.string c) ∧ wx.cell? ⟨w.heap.size, 3, none⟩ = some (.string d) ∧ wx.cell? ⟨w.heap.size, 4, none⟩ = some (.string f) ∧
    wx.cell? ⟨w.heap.size, 5, none⟩ = some (.bool x) ∧ wx.cell? ⟨w.heap.size, 6, none⟩ = some (.bool y) ∧ wx.cell? ⟨w.heap.size, 7, none⟩ = some (.bool z) := by
  have hc := h.1.cell
  exact ⟨hc 0, hc 1, hc 2, hc 3, hc 4, hc 5, hc 6, hc 7⟩

theorem Ap.alloc {w wx : World} {a b c d f : ByteArray} {x y z : Bool} {v : Value} {l : List UInt8} (h : Ap w wx a b c d f x y z v l) (o : Obj) : Ap w (wx.alloc o) a b c d f x y z v l :=
  ⟨h.1.alloc, h.2.1.alloc _, h.2.2.1.alloc (by have := h.2.2.2; omega) _, by rw [World.size_alloc]; have := h.2.2.2; omega⟩

theorem Ap.more {w wx w1 : World} {a b c d f : ByteArray} {x y z : Bool} {v v1 : Value} {l m : List UInt8} {k : Nat} {us : List Value} (h : Ap w wx a b c d f x y z v l) (hg : wx.grownBy w1 v.ownBlock)
    (ho : w1.ownsRow (w.heap.size + 1) 5 1 v1 (l.length + k) (bv l ++ us)) (hk : k = m.length) (hu : us = bv m) : Ap w w1 a b c d f x y z v1 (l ++ m) := by
  have hb : Below (w.heap.size + 1) wx w1 := (Below.refl _ wx).grown hg h.2.2.2 (fun k hk => (h.2.1.lt k hk).1)
  subst hk hu
  refine ⟨h.1.below hb (by omega), ?_, h.2.2.1.trans (hb.mono (by omega)), Nat.le_trans h.2.2.2 hb.size⟩
  have e : bv (l ++ m) = bv l ++ bv m := by simp [bv]
  rw [List.length_append, e]
  exact ho

theorem Ap.str {w wx w1 : World} {a b c d f : ByteArray} {x y z : Bool} {v v1 : Value} {l : List UInt8} {s : ByteArray} (h : Ap w wx a b c d f x y z v l) (hg : wx.grownBy w1 v.ownBlock)
    (ho : w1.ownsRow (w.heap.size + 1) 5 1 v1 (l.length + s.size) (bv l ++ Lib.strCells s)) : Ap w w1 a b c d f x y z v1 (l ++ s.data.toList) :=
  h.more hg ho (Lib.size_eq s) (by simp [bv, Lib.strCells])

set_option maxHeartbeats 16000000 in
set_option maxRecDepth 100000 in
theorem join32_any (a b c d f : ByteArray) (x y z : Bool) (w : World) (hs : a.size ≤ 4194304 ∧ b.size ≤ 4194304 ∧ c.size ≤ 4194304 ∧ d.size ≤ 4194304 ∧ f.size ≤ 4194304) :
    Calls Try.prog 32 #[agg8 a b c d f x y z] w fun e w' => ∃ r : ByteArray, e = .returned (.string r) ∧ r.data.toList = j1 a ++ j2 x b ++ c.data.toList ++ j4 y d ++ j5 z f ∧ Below w.heap.size w w' := by
  obtain ⟨i5, hi5, hy0, hy1, hy2⟩ := info_parts Try.info5
  have HT := hid (Lib.toList_data a)
  have HL : Hid ((a.data.toList.length ≤ 4194304 ∧ b.data.toList.length ≤ 4194304 ∧ c.data.toList.length ≤ 4194304 ∧ d.data.toList.length ≤ 4194304 ∧ f.data.toList.length ≤ 4194304) ∧ ((j1 a).length ≤ 4194306 ∧ (j2 x b).length ≤ 4194306 ∧ (j4 y d).length ≤ 4194306 ∧ (j5 z f).length ≤ 4194306) ∧ (a.size ≤ 4194304 ∧ b.size ≤ 4194304 ∧ c.size ≤ 4194304 ∧ d.size ≤ 4194304 ∧ f.size ≤ 4194304)) := by
    have hz1 := j1_len a
    have hz2 := j2_len x b
    have hz4 := j4_len y d
    have hz5 := j5_len z f
    rw [← Lib.size_eq, ← Lib.size_eq, ← Lib.size_eq, ← Lib.size_eq, ← Lib.size_eq]
    exact ⟨hs, by omega, hs⟩
  clear hs
  go_enter Try.func32, Try.ntmps32
  go_upto_if 6 with fail
  have HW0 : Hid (Ap w (w.alloc (.cells (cells8 a b c d f x y z) 27)) a b c d f x y z (.slice none 0 0) []) :=
    ⟨Blk.new w _ 27, World.ownsRow_nil _ _ _ _, (Below.refl _ w).alloc (Nat.le_refl _) _, by rw [World.size_alloc]; exact Nat.le_refl _⟩
  go_cut [3] (fun s3 wx => Ap w wx a b c d f x y z s3 (j1 a))
  case first =>
    by_cases h : a.data.toList = []
    · have q : (!a.toList.isEmpty) = false := by rw [HT.out, h]; rfl
      have HE : Hid (j1 a = []) := show j1 a = [] by unfold j1; rw [if_neg (by simpa using h)]
      rw [q]
      clear h
      go_wp2
      go_meet
      rw [HE.out]
      exact HW0.out
    · have q : (!a.toList.isEmpty) = true := by
        rw [HT.out]
        cases h' : a.data.toList with
        | nil => exact absurd h' h
        | cons _ _ => rfl
      have HE : Hid (j1 a = [] ++ a.data.toList ++ [58]) := show j1 a = [] ++ a.data.toList ++ [58] by unfold j1; rw [if_pos h]; rfl
      rw [q]
      clear h
      go_wp2_with (at_builtin; first | (refine Lib.wpList_append_own_string _ rfl _ _ 35 9 rfl (w.heap.size + 1) 5 i5 Try.underlying35 Try.underlying9 hi5 hy0 hy1 hy2 _ _ _ rfl HW0.out.2.1 a rfl (by obtain ⟨⟨l1, l2, l3, l4, l5⟩, ⟨m1, m2, m4, m5⟩, k1, k2, k3, k4, k5⟩ := HL.out; (try simp only [List.length_append, List.length_nil, List.length_cons]); unfold maxLen; omega) (by obtain ⟨⟨l1, l2, l3, l4, l5⟩, ⟨m1, m2, m4, m5⟩, k1, k2, k3, k4, k5⟩ := HL.out; (try simp only [List.length_append, List.length_nil, List.length_cons]); omega) HW0.out.2.2.2 ?_; intro vw1 w1 hown1 hgrow1 _; have HA1 := hid (HW0.out.str hgrow1 hown1); clear hown1 hgrow1) | (refine wpList_append_own _ rfl _ _ 35 rfl (w.heap.size + 1) 5 i5 (.int .u8 0) 1 1 Try.underlying35 hi5 hy0 hy1 hy2 rfl (by decide) _ _ _ rfl (HA1.out.alloc _).2.1 ⟨w1.heap.size, 0, none⟩ 1 1 [.int .u8 58] rfl rfl (one_new _ _ _) (fun x hx => by simp at hx; subst hx; rfl) (by obtain ⟨⟨l1, l2, l3, l4, l5⟩, ⟨m1, m2, m4, m5⟩, k1, k2, k3, k4, k5⟩ := HL.out; (try simp only [List.length_append, List.length_nil, List.length_cons]); unfold maxLen; omega) (by obtain ⟨⟨l1, l2, l3, l4, l5⟩, ⟨m1, m2, m4, m5⟩, k1, k2, k3, k4, k5⟩ := HL.out; (try simp only [List.length_append, List.length_nil, List.length_cons]); omega) (HA1.out.alloc _).2.2.2 ?_; intro vw2 w2 hown1 hgrow1 _; have HA2 := hid ((HA1.out.alloc _).more (m := [58]) hgrow1 hown1 rfl rfl); clear hown1 hgrow1))
      go_meet
      rw [HE.out]
      exact HA2.out
  case rest =>
    rename_i v3 _
    have HW1 := hid hcut
    clear hcut HW0
    obtain ⟨c0, c1, c2, c3, c4, c5, c6, c7⟩ := HW1.out.cells
    have hlt := HW1.out.2.2.2
    go_upto_if 15 with fail
    go_cut [3] (fun s3 wx => Ap w wx a b c d f x y z s3 (j1 a ++ j2 x b))
    case first =>
      cases x
      · go_wp2
        go_meet
        have e : j1 a ++ j2 false b = j1 a := by simp [j2]
        rw [e]
        exact HW1.out
      · go_wp2_with (at_builtin; first | (refine wpList_append_own _ rfl _ _ 35 rfl (w.heap.size + 1) 5 i5 (.int .u8 0) 1 1 Try.underlying35 hi5 hy0 hy1 hy2 rfl (by decide) _ _ _ rfl (HW1.out.alloc _).2.1 ⟨wc.heap.size, 0, none⟩ 2 2 [.int .u8 47, .int .u8 47] rfl rfl (cell_two_new _ _ _ _) (fun x hx => by simp at hx; subst hx; rfl) (by obtain ⟨⟨l1, l2, l3, l4, l5⟩, ⟨m1, m2, m4, m5⟩, k1, k2, k3, k4, k5⟩ := HL.out; (try simp only [List.length_append, List.length_nil, List.length_cons]); unfold maxLen; omega) (by obtain ⟨⟨l1, l2, l3, l4, l5⟩, ⟨m1, m2, m4, m5⟩, k1, k2, k3, k4, k5⟩ := HL.out; (try simp only [List.length_append, List.length_nil, List.length_cons]); omega) (HW1.out.alloc _).2.2.2 ?_; intro vw1 w1 hown1 hgrow1 _; have HA1 := hid ((HW1.out.alloc _).more (m := [47, 47]) hgrow1 hown1 rfl rfl); clear hown1 hgrow1; clear c0 c1 c2 c3 c4 c5 c6 c7 hlt; obtain ⟨c0, c1, c2, c3, c4, c5, c6, c7⟩ := HA1.out.cells; have hlt := HA1.out.2.2.2) | (refine Lib.wpList_append_own_string _ rfl _ _ 35 9 rfl (w.heap.size + 1) 5 i5 Try.underlying35 Try.underlying9 hi5 hy0 hy1 hy2 _ _ _ rfl HA1.out.2.1 b rfl (by obtain ⟨⟨l1, l2, l3, l4, l5⟩, ⟨m1, m2, m4, m5⟩, k1, k2, k3, k4, k5⟩ := HL.out; (try simp only [List.length_append, List.length_nil, List.length_cons]); unfold maxLen; omega) (by obtain ⟨⟨l1, l2, l3, l4, l5⟩, ⟨m1, m2, m4, m5⟩, k1, k2, k3, k4, k5⟩ := HL.out; (try simp only [List.length_append, List.length_nil, List.length_cons]); omega) HA1.out.2.2.2 ?_; intro vw2 w2 hown1 hgrow1 _; have HA2 := hid (HA1.out.str hgrow1 hown1); clear hown1 hgrow1))
        go_meet
        have e : j1 a ++ j2 true b = j1 a ++ [47, 47] ++ b.data.toList := by simp [j2]
        rw [e]
        exact HA2.out
    case rest =>
      have HW2 := hid hcut
      clear hcut HW1
      clear c0 c1 c2 c3 c4 c5 c6 c7 hlt
      obtain ⟨c0, c1, c2, c3, c4, c5, c6, c7⟩ := HW2.out.cells
      have hlt := HW2.out.2.2.2
      go_upto_if 28 with (at_builtin; (refine Lib.wpList_append_own_string _ rfl _ _ 35 9 rfl (w.heap.size + 1) 5 i5 Try.underlying35 Try.underlying9 hi5 hy0 hy1 hy2 _ _ _ rfl HW2.out.2.1 c rfl (by obtain ⟨⟨l1, l2, l3, l4, l5⟩, ⟨m1, m2, m4, m5⟩, k1, k2, k3, k4, k5⟩ := HL.out; (try simp only [List.length_append, List.length_nil, List.length_cons]); unfold maxLen; omega) (by obtain ⟨⟨l1, l2, l3, l4, l5⟩, ⟨m1, m2, m4, m5⟩, k1, k2, k3, k4, k5⟩ := HL.out; (try simp only [List.length_append, List.length_nil, List.length_cons]); omega) HW2.out.2.2.2 ?_; intro vw3 w3 hown1 hgrow1 _; have HW3 := hid (HW2.out.str hgrow1 hown1); clear hown1 hgrow1; clear c0 c1 c2 c3 c4 c5 c6 c7 hlt; obtain ⟨c0, c1, c2, c3, c4, c5, c6, c7⟩ := HW3.out.cells; have hlt := HW3.out.2.2.2))
      go_cut [3] (fun s3 wx => Ap w wx a b c d f x y z s3 (j1 a ++ j2 x b ++ c.data.toList ++ j4 y d))
      case first =>
        cases y
        · go_wp2
          go_meet
          have e : j1 a ++ j2 x b ++ c.data.toList ++ j4 false d = j1 a ++ j2 x b ++ c.data.toList := by simp [j4]
          rw [e]
          exact HW3.out
        · go_wp2_with (at_builtin; first | (refine wpList_append_own _ rfl _ _ 35 rfl (w.heap.size + 1) 5 i5 (.int .u8 0) 1 1 Try.underlying35 hi5 hy0 hy1 hy2 rfl (by decide) _ _ _ rfl (HW3.out.alloc _).2.1 ⟨w3.heap.size, 0, none⟩ 1 1 [.int .u8 63] rfl rfl (one_new _ _ _) (fun x hx => by simp at hx; subst hx; rfl) (by obtain ⟨⟨l1, l2, l3, l4, l5⟩, ⟨m1, m2, m4, m5⟩, k1, k2, k3, k4, k5⟩ := HL.out; (try simp only [List.length_append, List.length_nil, List.length_cons]); unfold maxLen; omega) (by obtain ⟨⟨l1, l2, l3, l4, l5⟩, ⟨m1, m2, m4, m5⟩, k1, k2, k3, k4, k5⟩ := HL.out; (try simp only [List.length_append, List.length_nil, List.length_cons]); omega) (HW3.out.alloc _).2.2.2 ?_; intro vw1 w1 hown1 hgrow1 _; have HA1 := hid ((HW3.out.alloc _).more (m := [63]) hgrow1 hown1 rfl rfl); clear hown1 hgrow1; clear c0 c1 c2 c3 c4 c5 c6 c7 hlt; obtain ⟨c0, c1, c2, c3, c4, c5, c6, c7⟩ := HA1.out.cells; have hlt := HA1.out.2.2.2) | (refine Lib.wpList_append_own_string _ rfl _ _ 35 9 rfl (w.heap.size + 1) 5 i5 Try.underlying35 Try.underlying9 hi5 hy0 hy1 hy2 _ _ _ rfl HA1.out.2.1 d rfl (by obtain ⟨⟨l1, l2, l3, l4, l5⟩, ⟨m1, m2, m4, m5⟩, k1, k2, k3, k4, k5⟩ := HL.out; (try simp only [List.length_append, List.length_nil, List.length_cons]); unfold maxLen; omega) (by obtain ⟨⟨l1, l2, l3, l4, l5⟩, ⟨m1, m2, m4, m5⟩, k1, k2, k3, k4, k5⟩ := HL.out; (try simp only [List.length_append, List.length_nil, List.length_cons]); omega) HA1.out.2.2.2 ?_; intro vw2 w2 hown1 hgrow1 _; have HA2 := hid (HA1.out.str hgrow1 hown1); clear hown1 hgrow1))
          go_meet
          have e : j1 a ++ j2 x b ++ c.data.toList ++ j4 true d = j1 a ++ j2 x b ++ c.data.toList ++ [63] ++ d.data.toList := by simp [j4]
          rw [e]
          exact HA2.out
      case rest =>
        have HW4 := hid hcut
        clear hcut HW3
        clear c0 c1 c2 c3 c4 c5 c6 c7 hlt
        obtain ⟨c0, c1, c2, c3, c4, c5, c6, c7⟩ := HW4.out.cells
        have hlt := HW4.out.2.2.2
        go_upto_if 37 with fail
        go_cut [3] (fun s3 wx => Ap w wx a b c d f x y z s3 (j1 a ++ j2 x b ++ c.data.toList ++ j4 y d ++ j5 z f))
        case first =>
          cases z
          · go_wp2
            go_meet
            have e : j1 a ++ j2 x b ++ c.data.toList ++ j4 y d ++ j5 false f = j1 a ++ j2 x b ++ c.data.toList ++ j4 y d := by simp [j5]
            rw [e]
            exact HW4.out
          · go_wp2_with (at_builtin; first | (refine wpList_append_own _ rfl _ _ 35 rfl (w.heap.size + 1) 5 i5 (.int .u8 0) 1 1 Try.underlying35 hi5 hy0 hy1 hy2 rfl (by decide) _ _ _ rfl (HW4.out.alloc _).2.1 ⟨wc.heap.size, 0, none⟩ 1 1 [.int .u8 35] rfl rfl (one_new _ _ _) (fun x hx => by simp at hx; subst hx; rfl) (by obtain ⟨⟨l1, l2, l3, l4, l5⟩, ⟨m1, m2, m4, m5⟩, k1, k2, k3, k4, k5⟩ := HL.out; (try simp only [List.length_append, List.length_nil, List.length_cons]); unfold maxLen; omega) (by obtain ⟨⟨l1, l2, l3, l4, l5⟩, ⟨m1, m2, m4, m5⟩, k1, k2, k3, k4, k5⟩ := HL.out; (try simp only [List.length_append, List.length_nil, List.length_cons]); omega) (HW4.out.alloc _).2.2.2 ?_; intro vw1 w1 hown1 hgrow1 _; have HA1 := hid ((HW4.out.alloc _).more (m := [35]) hgrow1 hown1 rfl rfl); clear hown1 hgrow1; clear c0 c1 c2 c3 c4 c5 c6 c7 hlt; obtain ⟨c0, c1, c2, c3, c4, c5, c6, c7⟩ := HA1.out.cells; have hlt := HA1.out.2.2.2) | (refine Lib.wpList_append_own_string _ rfl _ _ 35 9 rfl (w.heap.size + 1) 5 i5 Try.underlying35 Try.underlying9 hi5 hy0 hy1 hy2 _ _ _ rfl HA1.out.2.1 f rfl (by obtain ⟨⟨l1, l2, l3, l4, l5⟩, ⟨m1, m2, m4, m5⟩, k1, k2, k3, k4, k5⟩ := HL.out; (try simp only [List.length_append, List.length_nil, List.length_cons]); unfold maxLen; omega) (by obtain ⟨⟨l1, l2, l3, l4, l5⟩, ⟨m1, m2, m4, m5⟩, k1, k2, k3, k4, k5⟩ := HL.out; (try simp only [List.length_append, List.length_nil, List.length_cons]); omega) HA1.out.2.2.2 ?_; intro vw2 w2 hown1 hgrow1 _; have HA2 := hid (HA1.out.str hgrow1 hown1); clear hown1 hgrow1))
            go_meet
            have e : j1 a ++ j2 x b ++ c.data.toList ++ j4 y d ++ j5 true f = j1 a ++ j2 x b ++ c.data.toList ++ j4 y d ++ [35] ++ f.data.toList := by simp [j5]
            rw [e]
            exact HA2.out
        case rest =>
          have HW5 := hid hcut
          clear hcut HW4
          clear c0 c1 c2 c3 c4 c5 c6 c7 hlt
          have hcv := bytes_back HW5.out.2.1
          go_wp2
          go_ret
          exact ⟨_, rfl, by simp, HW5.out.2.2.1⟩

end Go.Proofs.Qxb6604144a.Iri
