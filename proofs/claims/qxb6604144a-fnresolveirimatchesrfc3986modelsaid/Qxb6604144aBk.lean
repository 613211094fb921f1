/-
  BLOCKS OF EIGHT CELLS: what a struct of five strings and three bools is in memory; carried over stores, draws and calls.
-/
import Derived.Test.Qxb6604144aLf3
import Derived.Lib.SmallJoins
namespace Go.Proofs.Qxb6604144a.Iri
open Go.RowKit

theorem bcell {W w1 : World} (hb : Below W.heap.size W w1) : (∀ b o, b < W.heap.size → w1.cell? ⟨b, o, none⟩ = W.cell? ⟨b, o, none⟩) ∧ (∀ b o, b < W.heap.size → w1.frozen? ⟨b, o, none⟩ = W.frozen? ⟨b, o, none⟩) :=
  ⟨fun b o h => hb.cell (p := ⟨b, o, none⟩) h, fun b o h => hb.frozen (p := ⟨b, o, none⟩) h⟩

def Blk (W : World) (b : Nat) (cs : Array Value) (t : TypeId) : Prop := W.heap[b]? = some (.cells cs t (0, 0))

theorem Blk.cell {W : World} {b : Nat} {cs : Array Value} {t : TypeId} (h : Blk W b cs t) (i : Nat) : W.cell? ⟨b, i, none⟩ = cs[i]? := Joins.cell_of_block h i
theorem Blk.unfrozen {W : World} {b : Nat} {cs : Array Value} {t : TypeId} (h : Blk W b cs t) (i : Nat) : W.frozen? ⟨b, i, none⟩ = false := Joins.unfrozen_of_block h i
theorem Blk.lt {W : World} {b : Nat} {cs : Array Value} {t : TypeId} (h : Blk W b cs t) : b < W.heap.size := (Array.getElem?_eq_some_iff.1 h).1
theorem Blk.same {W : World} {b j : Nat} {cs : Array Value} {t : TypeId} (h : Blk W b cs t) (v : Value) : Blk (W.setCell ⟨b, j, none⟩ v) b (cs.setIfInBounds j v) t := Joins.block_setCell h v
theorem Blk.other {W : World} {b : Nat} {cs : Array Value} {t : TypeId} {a : Addr} {v : Value} (h : Blk W b cs t) (hne : b ≠ a.block) : Blk (W.setCell a v) b cs t := (Below.heap_setCell W a v b hne).trans h
theorem Blk.drew {W : World} {b : Nat} {cs : Array Value} {t : TypeId} (h : Blk W b cs t) : Blk W.drew b cs t := h
theorem Blk.drewN {W : World} {b : Nat} {cs : Array Value} {t : TypeId} {n : Nat} (h : Blk W b cs t) : Blk (W.drewN n) b cs t := h
theorem Blk.below {W W' : World} {B b : Nat} {cs : Array Value} {t : TypeId} (h : Blk W b cs t) (hb : Below B W W') (hB : b < B) : Blk W' b cs t := (hb.block b hB).trans h
theorem Blk.alloc {W : World} {b : Nat} {cs : Array Value} {t : TypeId} {o : Obj} (h : Blk W b cs t) : Blk (W.alloc o) b cs t := (Below.heap_alloc W o b h.lt).trans h
theorem Blk.new (W : World) (cs : Array Value) (t : TypeId) : Blk (W.alloc (.cells cs t)) W.heap.size cs t := by
  show (W.heap.push _)[W.heap.size]? = _
  simp

theorem stored8 {W : World} {b : Nat} {cs : Array Value} {t : TypeId} {v0 v1 v2 v3 v4 v5 v6 v7 : Value} (h : Blk W b cs t) (hs : cs.size = 8) :
    Blk ((((((((W.setCell ⟨b, 0, none⟩ v0).setCell ⟨b, 1, none⟩ v1).setCell ⟨b, 2, none⟩ v2).setCell ⟨b, 3, none⟩ v3).setCell ⟨b, 4, none⟩ v4).setCell ⟨b, 5, none⟩ v5).setCell ⟨b, 6, none⟩ v6).setCell ⟨b, 7, none⟩ v7) b #[v0, v1, v2, v3, v4, v5, v6, v7] t := by
  have h8 := (((((((h.same (j := 0) v0).same (j := 1) v1).same (j := 2) v2).same (j := 3) v3).same (j := 4) v4).same (j := 5) v5).same (j := 6) v6).same (j := 7) v7
  have e : (((((((cs.setIfInBounds 0 v0).setIfInBounds 1 v1).setIfInBounds 2 v2).setIfInBounds 3 v3).setIfInBounds 4 v4).setIfInBounds 5 v5).setIfInBounds 6 v6).setIfInBounds 7 v7 = #[v0, v1, v2, v3, v4, v5, v6, v7] := by
    obtain ⟨l⟩ := cs
    have hl : l.length = 8 := hs
    clear h8 h hs
    rcases l with _ | ⟨a0, l⟩
    · simp at hl
    rcases l with _ | ⟨a1, l⟩
    · simp at hl
    rcases l with _ | ⟨a2, l⟩
    · simp at hl
    rcases l with _ | ⟨a3, l⟩
    · simp at hl
    rcases l with _ | ⟨a4, l⟩
    · simp at hl
    rcases l with _ | ⟨a5, l⟩
    · simp at hl
    rcases l with _ | ⟨a6, l⟩
    · simp at hl
    rcases l with _ | ⟨a7, l⟩
    · simp at hl
    rcases l with _ | ⟨a8, l⟩
    · simp
    · simp at hl
  rw [e] at h8
  exact h8

def Is (p : Pt) (a b c d f : ByteArray) (x y z : Bool) : Prop :=
  p.scheme = a.data.toList ∧ p.auth = b.data.toList ∧ p.path = c.data.toList ∧ p.query = d.data.toList ∧ p.frag = f.data.toList ∧ p.hasA = x ∧ p.hasQ = y ∧ p.hasF = z

/-- The struct's value and its eight cells. -/
abbrev agg8 (a b c d f : ByteArray) (x y z : Bool) : Value := .agg #[.string a, .string b, .string c, .string d, .string f, .bool x, .bool y, .bool z]
abbrev cells8 (a b c d f : ByteArray) (x y z : Bool) : Array Value := #[.string a, .string b, .string c, .string d, .string f, .bool x, .bool y, .bool z]
abbrev zeros8 : Array Value := cells8 ⟨#[]⟩ ⟨#[]⟩ ⟨#[]⟩ ⟨#[]⟩ ⟨#[]⟩ false false false

theorem two_blk {w w1 : World} {t : TypeId} (hb : Below ((w.alloc (.cells zeros8 t)).alloc (.cells zeros8 t)).heap.size ((w.alloc (.cells zeros8 t)).alloc (.cells zeros8 t)) w1) :
    Blk w1 w.heap.size zeros8 t ∧ Blk w1 (w.heap.size + 1) zeros8 t ∧ Below w.heap.size w w1 ∧ w.heap.size + 1 < w1.heap.size := by
  have hz : ((w.alloc (.cells zeros8 t)).alloc (.cells zeros8 t)).heap.size = w.heap.size + 2 := by simp
  have hz1 : (w.alloc (.cells zeros8 t)).heap.size = w.heap.size + 1 := by simp
  have h1 := (Blk.new w zeros8 t).alloc (o := .cells zeros8 t)
  have h2 := Blk.new (w.alloc (.cells zeros8 t)) zeros8 t
  rw [hz1] at h2
  have hbel : Below w.heap.size w ((w.alloc (.cells zeros8 t)).alloc (.cells zeros8 t)) := ((Below.refl _ w).alloc (Nat.le_refl _) _).alloc (by omega) _
  have hs := hb.size
  exact ⟨h1.below hb (by omega), h2.below hb (by omega), hbel.trans (hb.mono (by omega)), by omega⟩

theorem res24 {W : World} {g : Nat} {a b c d f : ByteArray} {x y z : Bool} {tmps : Array Value} (h : Blk W g (cells8 a b c d f x y z) 37) (ht : tmps.getD 2 undef = .pointer (some ⟨g, 0, none⟩)) :
    (results Try.f24 tmps).run Try.prog W = .ok (agg8 a b c d f x y z) W := by
  have c0 := h.cell 0; have c1 := h.cell 1; have c2 := h.cell 2; have c3 := h.cell 3; have c4 := h.cell 4; have c5 := h.cell 5; have c6 := h.cell 6; have c7 := h.cell 7
  simp at c0 c1 c2 c3 c4 c5 c6 c7
  have ht2 : tmps[2]?.getD undef = .pointer (some ⟨g, 0, none⟩) := by simpa using ht
  clear h ht
  simp only [results, Try.results24]
  go_simp

theorem res13 {W : World} {g : Nat} {a b c d f : ByteArray} {x y z : Bool} {tmps : Array Value} (h : Blk W g (cells8 a b c d f x y z) 27) (ht : tmps.getD 2 undef = .pointer (some ⟨g, 0, none⟩)) :
    (results Try.f13 tmps).run Try.prog W = .ok (agg8 a b c d f x y z) W := by
  have c0 := h.cell 0; have c1 := h.cell 1; have c2 := h.cell 2; have c3 := h.cell 3; have c4 := h.cell 4; have c5 := h.cell 5; have c6 := h.cell 6; have c7 := h.cell 7
  simp at c0 c1 c2 c3 c4 c5 c6 c7
  have ht2 : tmps[2]?.getD undef = .pointer (some ⟨g, 0, none⟩) := by simpa using ht
  clear h ht
  simp only [results, Try.results13]
  go_simp

end Go.Proofs.Qxb6604144a.Iri
