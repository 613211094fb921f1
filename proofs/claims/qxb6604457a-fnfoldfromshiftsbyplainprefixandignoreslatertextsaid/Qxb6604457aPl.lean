/-
  THE PLAIN PART on foldFrom: 'good l p': a group "(?" begins at p and its run of flag bytes holds an 'i'; 'FF l r': r is the first such place, or the text's length where there is none. No Go here.
-/
import Derived.Lib.IndexLaws
import Derived.Lib.IndexAny
import Derived.Lib.Strings
namespace Go.Proofs.Qxb6604457a.Fo

abbrev Bs := List UInt8

def flag (c : UInt8) : Bool := ([105, 109, 115, 85, 45] : Bs).contains c
def good (l : Bs) (p : Nat) : Prop := l[p]? = some 40 ∧ l[p + 1]? = some 63 ∧ (105 : UInt8) ∈ (l.drop (p + 2)).takeWhile flag

def FF (l : Bs) (r : Nat) : Prop := (r < l.length ∧ good l r ∧ ∀ p, p < r → ¬ good l p) ∨ (r = l.length ∧ ∀ p, ¬ good l p)

theorem good_lt {l : Bs} {p : Nat} (h : good l p) : p + 1 < l.length := by
  rcases Nat.lt_or_ge (p + 1) l.length with h' | h'
  · exact h'
  · have := h.2.1; rw [List.getElem?_eq_none h'] at this; simp at this

theorem FF.unique {l : Bs} {r s : Nat} (h1 : FF l r) (h2 : FF l s) : r = s := by
  rcases h1 with ⟨a1, a2, a3⟩ | ⟨a1, a2⟩ <;> rcases h2 with ⟨b1, b2, b3⟩ | ⟨b1, b2⟩
  · rcases Nat.lt_trichotomy r s with h | h | h
    · exact absurd a2 (b3 r h)
    · exact h
    · exact absurd b2 (a3 s h)
  · exact absurd a2 (b2 r)
  · exact absurd b2 (a2 s)
  · omega

theorem FF.le {l : Bs} {r : Nat} (h : FF l r) : r ≤ l.length := by rcases h with ⟨h, _⟩ | ⟨h, _⟩ <;> omega

/-! ### occurrences of "(?" -/
theorem occ_iff (l : Bs) (p : Nat) : Lib.occAt l [40, 63] p = true ↔ (l[p]? = some 40 ∧ l[p + 1]? = some 63) := by
  unfold Lib.occAt
  rw [List.isPrefixOf_iff_prefix]
  constructor
  · rintro ⟨t, ht⟩
    have h1 : (l.drop p)[0]? = some 40 := by rw [← ht]; rfl
    have h2 : (l.drop p)[1]? = some 63 := by rw [← ht]; rfl
    rw [List.getElem?_drop] at h1 h2
    exact ⟨by simpa using h1, h2⟩
  · rintro ⟨h1, h2⟩
    have hl1 : p + 1 < l.length := by
      rcases Nat.lt_or_ge (p + 1) l.length with h' | h'
      · exact h'
      · rw [List.getElem?_eq_none h'] at h2; simp at h2
    refine ⟨l.drop (p + 2), ?_⟩
    have hl0 : p < l.length := by omega
    rw [List.drop_eq_getElem_cons hl0, List.drop_eq_getElem_cons hl1]
    rw [List.getElem?_eq_getElem hl0] at h1
    rw [List.getElem?_eq_getElem hl1] at h2
    rw [Option.some.inj h1, Option.some.inj h2]
    rfl

theorem index_cases (s sub : Bs) : (Lib.index s sub = -1 ∧ ∀ j, j ≤ s.length → Lib.occAt s sub j = false) ∨ ∃ k : Nat, Lib.index s sub = k ∧ k ≤ s.length ∧ Lib.occAt s sub k = true ∧ ∀ j, j < k → Lib.occAt s sub j = false := by
  by_cases h : ∃ k : Nat, k ≤ s.length ∧ Lib.occAt s sub k = true ∧ ∀ j, j < k → Lib.occAt s sub j = false
  · obtain ⟨k, h1, h2, h3⟩ := h
    exact Or.inr ⟨k, Lib.index_first h1 h2 h3, h1, h2, h3⟩
  · left
    have hno : ∀ k, k ≤ s.length + 1 → ∀ j, j < k → Lib.occAt s sub j = false := by
      intro k
      induction k with
      | zero => intro _ j hj; omega
      | succ k ih =>
        intro hk j hj
        have ih := ih (by omega)
        by_cases e : j = k
        · subst e
          cases ho : Lib.occAt s sub j
          · rfl
          · exact absurd ⟨j, by omega, ho, ih⟩ h
        · exact ih j (by omega)
    have hall : ∀ j, j ≤ s.length → Lib.occAt s sub j = false := fun j hj => hno (s.length + 1) (Nat.le_refl _) j (by omega)
    exact ⟨Lib.index_none hall, hall⟩

/-- Where "(?" does not stand nothing is good. -/
theorem not_good_occ {l : Bs} {i j : Nat} (h : Lib.occAt (l.drop i) [40, 63] j = false) : ¬ good l (i + j) := by
  intro hg
  have : Lib.occAt (l.drop i) [40, 63] j = true := by
    rw [occ_iff, List.getElem?_drop, List.getElem?_drop]
    exact ⟨hg.1, hg.2.1⟩
  rw [h] at this
  exact Bool.false_ne_true this

theorem none_from {l : Bs} {i : Nat} (hi : i ≤ l.length) (hb : ∀ p, p < i → ¬ good l p) (h : Lib.index (l.drop i) [40, 63] < 0) : FF l l.length := by
  refine Or.inr ⟨rfl, fun p hp => ?_⟩
  rcases Nat.lt_or_ge p i with h1 | h1
  · exact hb p h1 hp
  · rcases index_cases (l.drop i) [40, 63] with ⟨_, hno⟩ | ⟨k, e, _⟩
    · have h2 := good_lt hp
      have := hno (p - i) (by rw [List.length_drop]; omega)
      exact not_good_occ this (by rw [show i + (p - i) = p by omega]; exact hp)
    · omega

theorem some_from {l : Bs} {i k : Nat} (hb : ∀ p, p < i → ¬ good l p) (h : Lib.index (l.drop i) [40, 63] = k) :
    l[i + k]? = some 40 ∧ l[i + k + 1]? = some 63 ∧ i + k + 2 ≤ l.length ∧ ∀ p, p < i + k → ¬ good l p := by
  rcases index_cases (l.drop i) [40, 63] with ⟨e, _⟩ | ⟨k', e, _, ho, hno⟩
  · omega
  · obtain rfl : k' = k := by omega
    rw [occ_iff, List.getElem?_drop, List.getElem?_drop] at ho
    have hlt : i + (k' + 1) < l.length := by
      rcases Nat.lt_or_ge (i + (k' + 1)) l.length with h' | h'
      · exact h'
      · have := ho.2; rw [List.getElem?_eq_none h'] at this; simp at this
    refine ⟨ho.1, ho.2, by omega, fun p hp => ?_⟩
    rcases Nat.lt_or_ge p i with h1 | h1
    · exact hb p h1
    · have := not_good_occ (hno (p - i) (by omega))
      rw [show i + (p - i) = p by omega] at this
      exact this

/-! ### scanning the flags -/
theorem tw_of {p : UInt8 → Bool} : ∀ {l : Bs} {k : Nat}, k ≤ l.length → (∀ (j : Nat) b, j < k → l[j]? = some b → p b = true) → (∀ b, l[k]? = some b → p b = false) → l.takeWhile p = l.take k
  | [], k, h, _, _ => by simp
  | a :: l, 0, _, _, h2 => by
    have := h2 a rfl
    simp [this]
  | a :: l, k + 1, h, h1, h2 => by
    have ha := h1 0 a (by omega) rfl
    have ih := tw_of (p := p) (l := l) (k := k) (by simpa using h) (fun j b hj hb => h1 (j + 1) b (by omega) (by simpa using hb)) (fun b hb => h2 b (by simpa using hb))
    simp [ha, ih]

def Scan (l : Bs) (a e : Nat) : Prop := a ≤ e ∧ e ≤ l.length ∧ ∀ (j : Nat) b, a ≤ j → j < e → l[j]? = some b → flag b = true
theorem Scan.start {l : Bs} {a : Nat} (h : a ≤ l.length) : Scan l a a := ⟨Nat.le_refl _, h, fun j b h1 h2 => by omega⟩
theorem Scan.step {l : Bs} {a e : Nat} {x : UInt8} (h : Scan l a e) (hx : l[e]? = some x) (hp : flag x = true) : Scan l a (e + 1) := by
  have hl : e < l.length := by
    rcases Nat.lt_or_ge e l.length with h' | h'
    · exact h'
    · rw [List.getElem?_eq_none h'] at hx; simp at hx
  refine ⟨by have := h.1; omega, by omega, fun j b h1 h2 hb => ?_⟩
  by_cases e1 : j = e
  · subst e1; rw [hx] at hb; cases hb; exact hp
  · exact h.2.2 j b h1 (by omega) hb
theorem Scan.stop {l : Bs} {a e : Nat} (h : Scan l a e) (hend : ∀ b, l[e]? = some b → flag b = false) : (l.drop a).takeWhile flag = (l.drop a).take (e - a) := by
  obtain ⟨h1, h2, h3⟩ := h
  exact tw_of (p := flag) (l := l.drop a) (k := e - a) (by rw [List.length_drop]; omega) (fun j b hj hb => h3 (a + j) b (by omega) (by omega) (by rw [List.getElem?_drop] at hb; exact hb))
    (fun b hb => hend b (by rw [List.getElem?_drop, show a + (e - a) = e by omega] at hb; exact hb))

theorem indexByte_cases (l : Bs) (c : UInt8) : (Lib.indexByte l c = -1 ∧ c ∉ l) ∨ ∃ k : Nat, Lib.indexByte l c = k ∧ c ∈ l := by
  have hge := Lib.indexByte_ge l c
  by_cases h : Lib.indexByte l c = -1
  · refine Or.inl ⟨h, fun hm => ?_⟩
    obtain ⟨k, hk, e⟩ := List.getElem_of_mem hm
    exact Lib.indexByte_none h k (by rw [List.getElem?_eq_getElem hk, e])
  · obtain ⟨k, hk⟩ : ∃ k : Nat, Lib.indexByte l c = k := ⟨(Lib.indexByte l c).toNat, by omega⟩
    exact Or.inr ⟨k, hk, List.mem_of_getElem? (Lib.indexByte_some hk).1⟩

/-- Behind a group that holds no 'i' the search goes on. -/
theorem next_from {l : Bs} {q : Nat} (h40 : l[q]? = some 40) (h63 : l[q + 1]? = some 63) (hb : ∀ p, p < q → ¬ good l p) (hn : (105 : UInt8) ∉ (l.drop (q + 2)).takeWhile flag) : ∀ p, p < q + 2 → ¬ good l p := by
  intro p hp hg
  rcases Nat.lt_or_ge p q with h | h
  · exact hb p h hg
  · have : p = q ∨ p = q + 1 := by omega
    rcases this with rfl | rfl
    · exact hn hg.2.2
    · have := hg.1
      rw [h63] at this
      exact absurd (Option.some.inj this) (by decide)

/-! ### the second law -/
theorem tw_app {p : UInt8 → Bool} {a b : Bs} (x : UInt8) (h : x ∈ a.takeWhile p) : x ∈ (a ++ b).takeWhile p := by
  induction a with
  | nil => simp at h
  | cons c t ih =>
    cases hc : p c
    · simp [hc] at h
    · simp only [List.takeWhile_cons, hc, if_true, List.mem_cons] at h
      rw [List.cons_append, List.takeWhile_cons, hc]
      simp only [if_true, List.mem_cons]
      rcases h with h | h
      · exact Or.inl h
      · exact Or.inr (ih h)

/-- Nothing good begins in a prefix without '(' . -/
theorem not_good_pre {a l : Bs} {p : Nat} (h : (40 : UInt8) ∉ a) (hp : p < a.length) : ¬ good (a ++ l) p := by
  intro hg
  have := hg.1
  rw [List.getElem?_append_left hp] at this
  exact h (List.mem_of_getElem? this)

theorem good_shift (a l : Bs) (p : Nat) : good (a ++ l) (a.length + p) ↔ good l p := by
  unfold good
  rw [List.getElem?_append_right (by omega), List.getElem?_append_right (by omega), show a.length + p - a.length = p by omega, show a.length + p + 1 - a.length = p + 1 by omega, show a.length + p + 2 = a.length + (p + 2) by omega, ← List.drop_drop, List.drop_left]

theorem FF.shift {a l : Bs} {r : Nat} (h : FF l r) (ha : (40 : UInt8) ∉ a) : FF (a ++ l) (a.length + r) := by
  have hb : ∀ q, q < a.length → ¬ good (a ++ l) q := fun q hq => not_good_pre ha hq
  have hs : ∀ q, a.length ≤ q → good (a ++ l) q → good l (q - a.length) := fun q hq hg => by
    rw [show q = a.length + (q - a.length) by omega, good_shift] at hg
    exact hg
  rcases h with ⟨h1, h2, h3⟩ | ⟨h1, h2⟩
  · refine Or.inl ⟨by rw [List.length_append]; omega, (good_shift a l r).2 h2, fun q hq hg => ?_⟩
    rcases Nat.lt_or_ge q a.length with h | h
    · exact hb q h hg
    · exact h3 (q - a.length) (by omega) (hs q h hg)
  · refine Or.inr ⟨by rw [List.length_append]; omega, fun q hg => ?_⟩
    rcases Nat.lt_or_ge q a.length with h | h
    · exact hb q h hg
    · exact h2 (q - a.length) (hs q h hg)

theorem tw_cut {p : UInt8 → Bool} {a b : Bs} {x : UInt8} (hx : x ∈ a) (hp : p x = false) : (a ++ b).takeWhile p = a.takeWhile p := by
  induction a with
  | nil => simp at hx
  | cons c t ih =>
    cases hc : p c
    · simp [hc]
    · rcases List.mem_cons.1 hx with rfl | h
      · rw [hp] at hc; exact absurd hc Bool.false_ne_true
      · rw [List.cons_append, List.takeWhile_cons, List.takeWhile_cons, hc, ih h]

theorem FF.suffix {l b : Bs} {r : Nat} (h : FF l r) (hr : r < l.length) : FF (l ++ b) r := by
  rcases h with ⟨h1, h2, h3⟩ | ⟨h1, _⟩
  · have hr1 := good_lt h2
    refine Or.inl ⟨by rw [List.length_append]; omega, ⟨?_, ?_, ?_⟩, fun q hq hg => h3 q hq ⟨?_, ?_, ?_⟩⟩
    · rw [List.getElem?_append_left h1]; exact h2.1
    · rw [List.getElem?_append_left hr1]; exact h2.2.1
    · rw [List.drop_append_of_le_length (by omega)]
      exact tw_app _ h2.2.2
    · have := hg.1; rw [List.getElem?_append_left (by omega)] at this; exact this
    · have := hg.2.1; rw [List.getElem?_append_left (by omega)] at this; exact this
    · have g1 := hg.2.1
      rw [List.getElem?_append_left (by omega)] at g1
      have hqr : q + 2 ≤ r := by
        rcases Nat.lt_or_ge r (q + 2) with h | h
        · have : r = q + 1 := by omega
          subst this
          rw [h2.1] at g1
          exact absurd (Option.some.inj g1) (by decide)
        · exact h
      have hm : (40 : UInt8) ∈ l.drop (q + 2) := by
        have : (l.drop (q + 2))[r - (q + 2)]? = some 40 := by rw [List.getElem?_drop, show q + 2 + (r - (q + 2)) = r by omega]; exact h2.1
        exact List.mem_of_getElem? this
      have g2 := hg.2.2
      rw [List.drop_append_of_le_length (by omega), tw_cut hm (by decide)] at g2
      exact g2
  · omega

/-- "(?i" is good. -/
theorem lit_good {l : Bs} {q : Nat} (h1 : l[q]? = some 40) (h2 : l[q + 1]? = some 63) (h3 : l[q + 2]? = some 105) : good l q := by
  refine ⟨h1, h2, ?_⟩
  have hl : q + 2 < l.length := by
    rcases Nat.lt_or_ge (q + 2) l.length with h' | h'
    · exact h'
    · rw [List.getElem?_eq_none h'] at h3; simp at h3
  rw [List.drop_eq_getElem_cons hl]
  rw [List.getElem?_eq_getElem hl] at h3
  rw [Option.some.inj h3]
  have : flag 105 = true := by decide
  simp [this]

end Go.Proofs.Qxb6604457a.Fo
