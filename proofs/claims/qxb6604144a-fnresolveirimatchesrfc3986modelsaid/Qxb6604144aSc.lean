/-
  SCANNING: the loops of zzSplit over a text, said by places; the tests on one byte in the walk's own form.
-/
import Derived.Test.Qxb6604144aSp
namespace Go.Proofs.Qxb6604144a.Iri

theorem neN (x c : UInt8) : ((x.toNat : Int) != (c.toNat : Int)) = (x != c) := by
  by_cases h : x = c
  · subst h; simp
  · have h1 : (x != c) = true := by simpa using h
    rw [h1, bne_iff_ne]
    intro e
    exact h (UInt8.toNat_inj.1 (by omega))
theorem eqN (x c : UInt8) : ((x.toNat : Int) == (c.toNat : Int)) = (x == c) := by
  have := neN x c
  cases h1 : (x == c) <;> cases h2 : ((x.toNat : Int) == (c.toNat : Int)) <;> simp_all [bne]

theorem ne58 (x : UInt8) : ((x.toNat : Int) != 58) = (x != 58) := neN x 58
theorem ne47 (x : UInt8) : ((x.toNat : Int) != 47) = (x != 47) := neN x 47
theorem ne63 (x : UInt8) : ((x.toNat : Int) != 63) = (x != 63) := neN x 63
theorem ne35 (x : UInt8) : ((x.toNat : Int) != 35) = (x != 35) := neN x 35
theorem eq58 (x : UInt8) : ((x.toNat : Int) == 58) = (x == 58) := eqN x 58
theorem eq47 (x : UInt8) : ((x.toNat : Int) == 47) = (x == 47) := eqN x 47
theorem eq63 (x : UInt8) : ((x.toNat : Int) == 63) = (x == 63) := eqN x 63
theorem eq35 (x : UInt8) : ((x.toNat : Int) == 35) = (x == 35) := eqN x 35

theorem p4_yes {x : UInt8} (h : p4 x = true) : ((x.toNat : Int) != 58) = true ∧ ((x.toNat : Int) != 47) = true ∧ ((x.toNat : Int) != 63) = true ∧ ((x.toNat : Int) != 35) = true := by
  rw [ne58, ne47, ne63, ne35]
  simpa [p4, and_assoc] using h
theorem p4_no {x : UInt8} (h : p4 x = false) : ((x.toNat : Int) != 58) = false ∨ (((x.toNat : Int) != 58) = true ∧ ((x.toNat : Int) != 47) = false) ∨ (((x.toNat : Int) != 58) = true ∧ ((x.toNat : Int) != 47) = true ∧ ((x.toNat : Int) != 63) = false) ∨ (((x.toNat : Int) != 58) = true ∧ ((x.toNat : Int) != 47) = true ∧ ((x.toNat : Int) != 63) = true ∧ ((x.toNat : Int) != 35) = false) := by
  rw [ne58, ne47, ne63, ne35]
  unfold p4 at h
  revert h
  cases (x != 58) <;> cases (x != 47) <;> cases (x != 63) <;> cases (x != 35) <;> decide
theorem p3_yes {x : UInt8} (h : p3 x = true) : ((x.toNat : Int) != 47) = true ∧ ((x.toNat : Int) != 63) = true ∧ ((x.toNat : Int) != 35) = true := by
  rw [ne47, ne63, ne35]
  simpa [p3, and_assoc] using h
theorem p3_no {x : UInt8} (h : p3 x = false) : ((x.toNat : Int) != 47) = false ∨ (((x.toNat : Int) != 47) = true ∧ ((x.toNat : Int) != 63) = false) ∨ (((x.toNat : Int) != 47) = true ∧ ((x.toNat : Int) != 63) = true ∧ ((x.toNat : Int) != 35) = false) := by
  rw [ne47, ne63, ne35]
  unfold p3 at h
  revert h
  cases (x != 47) <;> cases (x != 63) <;> cases (x != 35) <;> decide
theorem p2_yes {x : UInt8} (h : p2 x = true) : ((x.toNat : Int) != 63) = true ∧ ((x.toNat : Int) != 35) = true := by
  rw [ne63, ne35]
  simpa [p2] using h
theorem p2_no {x : UInt8} (h : p2 x = false) : ((x.toNat : Int) != 63) = false ∨ (((x.toNat : Int) != 63) = true ∧ ((x.toNat : Int) != 35) = false) := by
  rw [ne63, ne35]
  unfold p2 at h
  revert h
  cases (x != 63) <;> cases (x != 35) <;> decide
theorem p1_yes {x : UInt8} (h : p1 x = true) : ((x.toNat : Int) != 35) = true := by
  rw [ne35]; exact h
theorem p1_no {x : UInt8} (h : p1 x = false) : ((x.toNat : Int) != 35) = false := by
  rw [ne35]; exact h

/-- From a on, as far as e, every byte passes p. -/
def Scan (p : UInt8 → Bool) (l : List UInt8) (a e : Nat) : Prop := a ≤ e ∧ e ≤ l.length ∧ ∀ (j : Nat) b, a ≤ j → j < e → l[j]? = some b → p b = true

theorem Scan.start {p : UInt8 → Bool} {l : List UInt8} {a : Nat} (h : a ≤ l.length) : Scan p l a a := ⟨Nat.le_refl _, h, fun j b h1 h2 => by omega⟩
theorem Scan.step {p : UInt8 → Bool} {l : List UInt8} {a e : Nat} {x : UInt8} (h : Scan p l a e) (hx : l[e]? = some x) (hp : p x = true) : Scan p l a (e + 1) := by
  have hl : e < l.length := by
    rcases Nat.lt_or_ge e l.length with h' | h'
    · exact h'
    · rw [List.getElem?_eq_none h'] at hx; simp at hx
  refine ⟨by have := h.1; omega, by omega, fun j b h1 h2 hb => ?_⟩
  by_cases e1 : j = e
  · subst e1; rw [hx] at hb; cases hb; exact hp
  · exact h.2.2 j b h1 (by omega) hb

/-- The scan's end. -/
def Stop (p : UInt8 → Bool) (l : List UInt8) (a e : Nat) : Prop := a ≤ e ∧ e ≤ l.length ∧ (l.drop a).takeWhile p = (l.drop a).take (e - a) ∧ (l.drop a).dropWhile p = l.drop e

theorem Scan.stop {p : UInt8 → Bool} {l : List UInt8} {a e : Nat} (h : Scan p l a e) (hend : ∀ b, l[e]? = some b → p b = false) : Stop p l a e := by
  obtain ⟨h1, h2, h3⟩ := h
  have := tw_of (p := p) (l := l.drop a) (k := e - a) (by rw [List.length_drop]; omega) (fun j b hj hb => h3 (a + j) b (by omega) (by omega) (by rw [List.getElem?_drop] at hb; exact hb))
    (fun b hb => hend b (by rw [List.getElem?_drop, show a + (e - a) = e by omega] at hb; exact hb))
  refine ⟨h1, h2, this.1, ?_⟩
  rw [this.2, List.drop_drop, show a + (e - a) = e by omega]

theorem sch_stop {l : List UInt8} {k : Nat} (h : Stop p4 l 0 k) : sch l = if l[k]? = some 58 ∧ valid (l.take k) = true then (l.take k, l.drop (k + 1)) else ([], l) := by
  obtain ⟨_, _, h1, h2⟩ := h
  simp only [List.drop_zero, Nat.sub_zero] at h1 h2
  unfold sch
  rw [h1, h2, head_drop, List.tail_drop]

theorem two_at {l : List UInt8} {pos : Nat} : (l.drop pos).take 2 = [47, 47] ↔ l[pos]? = some 47 ∧ l[pos + 1]? = some 47 := by
  rw [take_two]
  constructor
  · rintro ⟨t, ht⟩
    have h1 : (l.drop pos)[0]? = some 47 := by rw [ht]; rfl
    have h2 : (l.drop pos)[1]? = some 47 := by rw [ht]; rfl
    rw [List.getElem?_drop] at h1 h2
    exact ⟨by simpa using h1, h2⟩
  · rintro ⟨h1, h2⟩
    refine ⟨l.drop (pos + 2), ?_⟩
    have hl1 : pos + 1 < l.length := by
      rcases Nat.lt_or_ge (pos + 1) l.length with h' | h'
      · exact h'
      · rw [List.getElem?_eq_none h'] at h2; simp at h2
    rw [List.drop_eq_getElem_cons (by omega), List.drop_eq_getElem_cons hl1]
    rw [List.getElem?_eq_getElem (by omega)] at h1 h2
    rw [Option.some.inj h1, Option.some.inj h2]

theorem au_stop {l : List UInt8} {pos e : Nat} (h : (l.drop pos).take 2 = [47, 47]) (hs : Stop p3 l (pos + 2) e) : au (l.drop pos) = (true, (l.drop (pos + 2)).take (e - (pos + 2)), l.drop e) := by
  unfold au
  rw [if_pos h, List.drop_drop, hs.2.2.1, hs.2.2.2]
theorem au_none {l : List UInt8} {pos : Nat} (h : ¬ (l.drop pos).take 2 = [47, 47]) : au (l.drop pos) = (false, [], l.drop pos) := by
  unfold au
  rw [if_neg h]

theorem qu_stop {l : List UInt8} {pos e : Nat} (h : l[pos]? = some 63) (hs : Stop p1 l (pos + 1) e) : qu (l.drop pos) = (true, (l.drop (pos + 1)).take (e - (pos + 1)), l.drop e) := by
  unfold qu
  rw [head_drop, if_pos h, List.tail_drop, hs.2.2.1, hs.2.2.2]
theorem qu_none {l : List UInt8} {pos : Nat} (h : ¬ l[pos]? = some 63) : qu (l.drop pos) = (false, [], l.drop pos) := by
  unfold qu
  rw [head_drop, if_neg h]
theorem fr_yes {l : List UInt8} {pos : Nat} (h : l[pos]? = some 35) : fr (l.drop pos) = (true, l.drop (pos + 1)) := by
  unfold fr
  rw [head_drop, if_pos h, List.tail_drop]
theorem fr_none {l : List UInt8} {pos : Nat} (h : ¬ l[pos]? = some 35) : fr (l.drop pos) = (false, []) := by
  unfold fr
  rw [head_drop, if_neg h]

end Go.Proofs.Qxb6604144a.Iri
