/-
  THE PLAIN PART of FnEndRowsAtCarriageReturnsMatchesQuoteAutomaton: the byte automaton of 'zzCRModel' as two functions on lists of numbers ('st': the state ahead of byte k; 'mo': the text behind the first k steps), and what 'endRowsAtCarriageReturns' needs of them. No Go here.
-/
import Derived.Lib.IndexLaws
import Derived.Lib.Bytes
namespace Go.Proofs.Qxb6604010a.Cr

/-- The state behind byte j, s the state ahead of it. -/
def nx (zs : List Int) (j s : Nat) : Nat :=
  if s = 1 then (if zs[j]?.getD 0 = 34 then 2 else 1)
  else if s = 2 ∧ zs[j]?.getD 0 = 34 then 1
  else if zs[j]?.getD 0 = 13 then 0
  else if zs[j]?.getD 0 = 34 ∧ (j = 0 ∨ zs[j - 1]?.getD 0 = 44 ∨ zs[j - 1]?.getD 0 = 10 ∨ zs[j - 1]?.getD 0 = 13) then 1 else 0

/-- Is byte j written over? -/
def wrt (zs : List Int) (j s : Nat) : Bool := decide (s ≠ 1 ∧ zs[j]?.getD 0 = 13 ∧ (j + 1 = zs.length ∨ zs[j + 1]?.getD 0 ≠ 10))

def st (zs : List Int) : Nat → Nat
  | 0 => 0
  | j + 1 => nx zs j (st zs j)

def mo (zs : List Int) : Nat → List Int
  | 0 => zs
  | j + 1 => if wrt zs j (st zs j) = true then (mo zs j).set j 10 else mo zs j

theorem st_zero (zs : List Int) : st zs 0 = 0 := rfl
theorem mo_zero (zs : List Int) : mo zs 0 = zs := rfl
theorem st_succ (zs : List Int) (j : Nat) : st zs (j + 1) = nx zs j (st zs j) := rfl
theorem mo_succ (zs : List Int) (j : Nat) : mo zs (j + 1) = if wrt zs j (st zs j) = true then (mo zs j).set j 10 else mo zs j := rfl

theorem mo_length (zs : List Int) (j : Nat) : (mo zs j).length = zs.length := by
  induction j with
  | zero => rfl
  | succ j ih => rw [mo_succ]; split <;> simp [ih]

theorem mo_ge (zs : List Int) (j i : Nat) (h : j ≤ i) : (mo zs j)[i]? = zs[i]? := by
  induction j with
  | zero => rfl
  | succ j ih =>
    rw [mo_succ]
    split
    · rw [List.getElem?_set_ne (by omega)]; exact ih (by omega)
    · exact ih (by omega)

theorem nx_le (zs : List Int) (j s : Nat) : nx zs j s ≤ 2 := by
  unfold nx
  repeat' split
  all_goals omega

theorem st_le (zs : List Int) (j : Nat) : st zs j ≤ 2 := by
  cases j with
  | zero => simp [st]
  | succ j => exact nx_le _ _ _

/-! ### the model's own steps -/
theorem in_quote {zs : List Int} {k : Nat} (hs : st zs k = 1) (hc : zs[k]?.getD 0 = 34) : st zs (k + 1) = 2 ∧ mo zs (k + 1) = mo zs k := by
  rw [st_succ, mo_succ, hs]; simp [nx, wrt, hc]
theorem in_plain {zs : List Int} {k : Nat} (hs : st zs k = 1) (hc : zs[k]?.getD 0 ≠ 34) : st zs (k + 1) = 1 ∧ mo zs (k + 1) = mo zs k := by
  rw [st_succ, mo_succ, hs]; simp [nx, wrt, hc]
theorem seen_quote {zs : List Int} {k : Nat} (hs : st zs k = 2) (hc : zs[k]?.getD 0 = 34) : st zs (k + 1) = 1 ∧ mo zs (k + 1) = mo zs k := by
  rw [st_succ, mo_succ, hs]; simp [nx, wrt, hc]

/-- The byte at k is read as one outside quotes. -/
def Out (zs : List Int) (k : Nat) : Prop := st zs k = 0 ∨ (st zs k = 2 ∧ zs[k]?.getD 0 ≠ 34)

theorem Out.ne1 {zs : List Int} {k : Nat} (h : Out zs k) : st zs k ≠ 1 := by rcases h with h | h <;> omega
theorem Out.ne2 {zs : List Int} {k : Nat} (h : Out zs k) : ¬ (st zs k = 2 ∧ zs[k]?.getD 0 = 34) := by
  rintro ⟨h1, h2⟩
  rcases h with h | h
  · omega
  · exact h.2 h2

theorem out_cr {zs : List Int} {k : Nat} (h : Out zs k) (hc : zs[k]?.getD 0 = 13) (hn : k + 1 = zs.length ∨ zs[k + 1]?.getD 0 ≠ 10) : st zs (k + 1) = 0 ∧ mo zs (k + 1) = (mo zs k).set k 10 := by
  have h1 := h.ne1
  have h2 := h.ne2
  rw [st_succ, mo_succ]
  refine ⟨?_, ?_⟩
  · unfold nx; rw [if_neg h1, if_neg h2, if_pos hc]
  · rw [if_pos]; simp only [wrt, decide_eq_true_eq]; exact ⟨h1, hc, hn⟩
theorem out_crlf {zs : List Int} {k : Nat} (h : Out zs k) (hc : zs[k]?.getD 0 = 13) (hk : k + 1 ≠ zs.length) (hn : zs[k + 1]?.getD 0 = 10) : st zs (k + 1) = 0 ∧ mo zs (k + 1) = mo zs k := by
  have h1 := h.ne1
  have h2 := h.ne2
  rw [st_succ, mo_succ]
  refine ⟨?_, ?_⟩
  · unfold nx; rw [if_neg h1, if_neg h2, if_pos hc]
  · rw [if_neg]; simp only [wrt, decide_eq_true_eq]; rintro ⟨_, _, e | e⟩
    · exact hk e
    · exact e hn
theorem out_plain {zs : List Int} {k : Nat} (h : Out zs k) (hc : zs[k]?.getD 0 ≠ 13) (hq : zs[k]?.getD 0 ≠ 34) : st zs (k + 1) = 0 ∧ mo zs (k + 1) = mo zs k := by
  have h1 := h.ne1
  have h2 := h.ne2
  rw [st_succ, mo_succ]
  refine ⟨?_, ?_⟩
  · unfold nx; rw [if_neg h1, if_neg h2, if_neg hc, if_neg (fun e => hq e.1)]
  · rw [if_neg]; simp only [wrt, decide_eq_true_eq]; rintro ⟨_, e, _⟩; exact hc e
theorem out_open {zs : List Int} {k : Nat} (h : Out zs k) (hq : zs[k]?.getD 0 = 34) (hp : k = 0 ∨ zs[k - 1]?.getD 0 = 44 ∨ zs[k - 1]?.getD 0 = 10 ∨ zs[k - 1]?.getD 0 = 13) : st zs (k + 1) = 1 ∧ mo zs (k + 1) = mo zs k := by
  have h1 := h.ne1
  have h2 := h.ne2
  have hc : zs[k]?.getD 0 ≠ 13 := by omega
  rw [st_succ, mo_succ]
  refine ⟨?_, ?_⟩
  · unfold nx; rw [if_neg h1, if_neg h2, if_neg hc, if_pos ⟨hq, hp⟩]
  · rw [if_neg]; simp only [wrt, decide_eq_true_eq]; rintro ⟨_, e, _⟩; exact hc e
theorem out_stray {zs : List Int} {k : Nat} (h : Out zs k) (hq : zs[k]?.getD 0 = 34) (hp : ¬ (k = 0 ∨ zs[k - 1]?.getD 0 = 44 ∨ zs[k - 1]?.getD 0 = 10 ∨ zs[k - 1]?.getD 0 = 13)) : st zs (k + 1) = 0 ∧ mo zs (k + 1) = mo zs k := by
  have h1 := h.ne1
  have h2 := h.ne2
  have hc : zs[k]?.getD 0 ≠ 13 := by omega
  rw [st_succ, mo_succ]
  refine ⟨?_, ?_⟩
  · unfold nx; rw [if_neg h1, if_neg h2, if_neg hc, if_neg (fun e => hp e.2)]
  · rw [if_neg]; simp only [wrt, decide_eq_true_eq]; rintro ⟨_, e, _⟩; exact hc e

/-! ### what the rewriting in place meets -/
/-- The byte behind: as the rewriting in place reads it, a carriage return has become a line feed. -/
theorem behind {zs : List Int} {k : Nat} (h0 : st zs (k + 1) = 0) (hk : k + 1 < zs.length) (hq : zs[k + 1]?.getD 0 = 34) :
    (mo zs (k + 1))[k]?.getD 0 = if zs[k]?.getD 0 = 13 then 10 else zs[k]?.getD 0 := by
  have hs1 : st zs k ≠ 1 := by
    intro e
    rw [st_succ, e] at h0
    unfold nx at h0
    rw [if_pos rfl] at h0
    split at h0 <;> omega
  rw [mo_succ]
  by_cases hc : zs[k]?.getD 0 = 13
  · rw [if_pos, if_pos hc, List.getElem?_set_self (by rw [mo_length]; omega)]
    · rfl
    · simp only [wrt, decide_eq_true_eq]; exact ⟨hs1, hc, Or.inr (by omega)⟩
  · rw [if_neg, if_neg hc, mo_ge zs k k (Nat.le_refl _)]
    simp only [wrt, decide_eq_true_eq]; rintro ⟨_, e, _⟩; exact hc e

theorem Out.zero {zs : List Int} {k : Nat} (h : Out zs k) (hq : zs[k]?.getD 0 = 34) : st zs k = 0 := by
  rcases h with h | h
  · exact h
  · exact absurd hq h.2

/-- A quote that opens a field, as the rewriting in place asks it. -/
theorem in_open {zs : List Int} {k : Nat} (h : Out zs k) (hk : k < zs.length) (hq : zs[k]?.getD 0 = 34) (hp : k = 0 ∨ (mo zs k)[k - 1]?.getD 0 = 44 ∨ (mo zs k)[k - 1]?.getD 0 = 10) : st zs (k + 1) = 1 ∧ mo zs (k + 1) = mo zs k := by
  refine out_open h hq ?_
  cases k with
  | zero => exact Or.inl rfl
  | succ k =>
    have hb := behind (h.zero hq) hk hq
    simp only [Nat.add_sub_cancel] at hp ⊢
    rw [hb] at hp
    by_cases hc : zs[k]?.getD 0 = 13
    · exact Or.inr (Or.inr (Or.inr hc))
    · rw [if_neg hc] at hp
      rcases hp with hp | hp | hp
      · omega
      · exact Or.inr (Or.inl hp)
      · exact Or.inr (Or.inr (Or.inl hp))
theorem in_stray {zs : List Int} {k : Nat} (h : Out zs k) (hk : k < zs.length) (hq : zs[k]?.getD 0 = 34) (h0 : k ≠ 0) (hp : (mo zs k)[k - 1]?.getD 0 ≠ 44) (hp2 : (mo zs k)[k - 1]?.getD 0 ≠ 10) : st zs (k + 1) = 0 ∧ mo zs (k + 1) = mo zs k := by
  refine out_stray h hq ?_
  cases k with
  | zero => exact absurd rfl h0
  | succ k =>
    have hb := behind (h.zero hq) hk hq
    simp only [Nat.add_sub_cancel] at hp hp2 ⊢
    rw [hb] at hp hp2
    by_cases hc : zs[k]?.getD 0 = 13
    · rw [if_pos hc] at hp2; exact absurd rfl hp2
    · rw [if_neg hc] at hp hp2
      rintro (e | e | e | e)
      · omega
      · exact hp e
      · exact hp2 e
      · exact hc e

/-- A run without a quote inside a field. -/
theorem run_in {zs : List Int} {a : Nat} (hs : st zs a = 1) : ∀ d : Nat, (∀ j, a ≤ j → j < a + d → zs[j]?.getD 0 ≠ 34) → st zs (a + d) = 1 ∧ mo zs (a + d) = mo zs a
  | 0, _ => ⟨hs, rfl⟩
  | d + 1, h => by
    have ih := run_in hs d (fun j h1 h2 => h j h1 (by omega))
    have := in_plain ih.1 (h (a + d) (by omega) (by omega))
    exact ⟨this.1, this.2.trans ih.2⟩

/-! ### strings of bytes and 'IndexByte' -/
theorem byte_eq (z : Int) (h0 : 0 ≤ z) (h1 : z ≤ 255) : (UInt8.ofNat z.toNat = (34 : Int).toNat.toUInt8) ↔ z = 34 := by
  constructor
  · intro e
    have := congrArg UInt8.toNat e
    simp at this
    omega
  · rintro rfl; rfl

theorem get_drop (zs : List Int) (a j : Nat) : (Lib.bytesOf (zs.drop a))[j]? = (zs[a + j]?).map (fun n => UInt8.ofNat n.toNat) := by
  simp [Lib.bytesOf]

theorem none_from {zs : List Int} {a : Nat} (h : Lib.indexByte (Lib.bytesOf (zs.drop a)) (34 : Int).toNat.toUInt8 < 0) : ∀ j, a ≤ j → j < zs.length → zs[j]?.getD 0 ≠ 34 := by
  intro j h1 h2 e
  have hm : Lib.indexByte (Lib.bytesOf (zs.drop a)) (34 : Int).toNat.toUInt8 = -1 := by have := Lib.indexByte_ge (Lib.bytesOf (zs.drop a)) (34 : Int).toNat.toUInt8; omega
  have := Lib.indexByte_none hm (j - a)
  rw [get_drop, show a + (j - a) = j by omega, List.getElem?_eq_getElem h2] at this
  rw [List.getElem?_eq_getElem h2] at e
  have e' : zs[j] = 34 := e
  apply this
  simp only [Option.map_some, Option.some.injEq]
  rw [e']

theorem some_from {zs : List Int} {a : Nat} (hw : ∀ j : Nat, 0 ≤ zs[j]?.getD 0 ∧ zs[j]?.getD 0 ≤ 255) {o : Nat} (h : Lib.indexByte (Lib.bytesOf (zs.drop a)) (34 : Int).toNat.toUInt8 = o) :
    a + o < zs.length ∧ zs[a + o]?.getD 0 = 34 ∧ ∀ j, a ≤ j → j < a + o → zs[j]?.getD 0 ≠ 34 := by
  obtain ⟨h1, h2⟩ := Lib.indexByte_some h
  rw [get_drop] at h1
  have hlt : a + o < zs.length := by
    rcases Nat.lt_or_ge (a + o) zs.length with h | h
    · exact h
    · rw [List.getElem?_eq_none h] at h1; simp at h1
  refine ⟨hlt, ?_, ?_⟩
  · have hb := hw (a + o)
    rw [List.getElem?_eq_getElem hlt] at h1 hb ⊢
    simp only [Option.map_some, Option.some.injEq, Option.getD_some] at h1 hb ⊢
    exact (byte_eq _ hb.1 hb.2).1 h1
  · intro j hj1 hj2 e
    have hj : j < zs.length := by omega
    have := h2 (j - a) (by omega)
    rw [get_drop, show a + (j - a) = j by omega, List.getElem?_eq_getElem hj] at this
    rw [List.getElem?_eq_getElem hj] at e
    have e' : zs[j] = 34 := e
    apply this
    simp only [Option.map_some, Option.some.injEq]
    rw [e']

end Go.Proofs.Qxb6604010a.Cr
