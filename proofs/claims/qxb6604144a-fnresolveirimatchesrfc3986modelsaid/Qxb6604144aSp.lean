/-
  THE PLAIN PART on splitting and joining an IRI: 'split' (the scan of zzSplit, list by list), 'split2' (what splitIRI does: the fragment first, then the query, then the authority), 'join'; that the two splits are one; that 'join' undoes 'split'; that 'split' undoes 'join' at well formed parts. No Go here.
-/
import Derived.Lib.IndexLaws
import Derived.Lib.IndexAny
import Derived.Lib.IndexMore
import Derived.Lib.Strings
namespace Go.Proofs.Qxb6604144a.Iri

def p4 (c : UInt8) : Bool := c != 58 && c != 47 && c != 63 && c != 35
def p3 (c : UInt8) : Bool := c != 47 && c != 63 && c != 35
def p2 (c : UInt8) : Bool := c != 63 && c != 35
def p1 (c : UInt8) : Bool := c != 35
def nq (c : UInt8) : Bool := c != 63
def ns (c : UInt8) : Bool := c != 47

def letter (c : UInt8) : Bool := decide ((97 ≤ c.toNat ∧ c.toNat ≤ 122) ∨ (65 ≤ c.toNat ∧ c.toNat ≤ 90))
def schc (c : UInt8) : Bool := letter c || decide ((48 ≤ c.toNat ∧ c.toNat ≤ 57) ∨ c.toNat = 43 ∨ c.toNat = 45 ∨ c.toNat = 46)
def valid : List UInt8 → Bool
  | [] => false
  | a :: r => letter a && r.all schc

structure Pt where
  scheme : List UInt8
  auth : List UInt8
  path : List UInt8
  query : List UInt8
  frag : List UInt8
  hasA : Bool
  hasQ : Bool
  hasF : Bool

def sch (l : List UInt8) : List UInt8 × List UInt8 :=
  if (l.dropWhile p4).head? = some 58 ∧ valid (l.takeWhile p4) = true then (l.takeWhile p4, (l.dropWhile p4).tail) else ([], l)
def au (l : List UInt8) : Bool × List UInt8 × List UInt8 :=
  if l.take 2 = [47, 47] then (true, (l.drop 2).takeWhile p3, (l.drop 2).dropWhile p3) else (false, [], l)
def qu (l : List UInt8) : Bool × List UInt8 × List UInt8 :=
  if l.head? = some 63 then (true, l.tail.takeWhile p1, l.tail.dropWhile p1) else (false, [], l)
def fr (l : List UInt8) : Bool × List UInt8 :=
  if l.head? = some 35 then (true, l.tail) else (false, [])

/-- The one scan. -/
def split (l : List UInt8) : Pt :=
  { scheme := (sch l).1
    auth := (au (sch l).2).2.1
    path := (au (sch l).2).2.2.takeWhile p2
    query := (qu ((au (sch l).2).2.2.dropWhile p2)).2.1
    frag := (fr (qu ((au (sch l).2).2.2.dropWhile p2)).2.2).2
    hasA := (au (sch l).2).1
    hasQ := (qu ((au (sch l).2).2.2.dropWhile p2)).1
    hasF := (fr (qu ((au (sch l).2).2.2.dropWhile p2)).2.2).1 }

/-- What strings.Cut hands back at a separator of one byte. -/
def cut1 (c : UInt8) (l : List UInt8) : List UInt8 × List UInt8 × Bool :=
  (l.takeWhile (fun b => b != c), (l.dropWhile (fun b => b != c)).tail, decide ((l.dropWhile (fun b => b != c)).head? = some c))
def au2 (l : List UInt8) : Bool × List UInt8 × List UInt8 :=
  if l.take 2 = [47, 47] then (true, (l.drop 2).takeWhile ns, (l.drop 2).dropWhile ns) else (false, [], l)
/-- The fragment first, then the query, then the authority. -/
def split2 (l : List UInt8) : Pt :=
  { scheme := (sch l).1
    auth := (au2 (cut1 63 (cut1 35 (sch l).2).1).1).2.1
    path := (au2 (cut1 63 (cut1 35 (sch l).2).1).1).2.2
    query := (cut1 63 (cut1 35 (sch l).2).1).2.1
    frag := (cut1 35 (sch l).2).2.1
    hasA := (au2 (cut1 63 (cut1 35 (sch l).2).1).1).1
    hasQ := (cut1 63 (cut1 35 (sch l).2).1).2.2
    hasF := (cut1 35 (sch l).2).2.2 }

def join (p : Pt) : List UInt8 :=
  (if p.scheme ≠ [] then p.scheme ++ [58] else []) ++ (if p.hasA = true then [47, 47] ++ p.auth else []) ++ p.path ++ (if p.hasQ = true then 63 :: p.query else []) ++ (if p.hasF = true then 35 :: p.frag else [])

/-! ### small laws -/
theorem tw_of {p : UInt8 → Bool} : ∀ {l : List UInt8} {k : Nat}, k ≤ l.length → (∀ (j : Nat) b, j < k → l[j]? = some b → p b = true) → (∀ b, l[k]? = some b → p b = false) → l.takeWhile p = l.take k ∧ l.dropWhile p = l.drop k
  | [], k, h, _, _ => by simp
  | a :: l, 0, _, _, h2 => by
    have := h2 a rfl
    simp [this]
  | a :: l, k + 1, h, h1, h2 => by
    have ha := h1 0 a (by omega) rfl
    have ih := tw_of (p := p) (l := l) (k := k) (by simpa using h) (fun j b hj hb => h1 (j + 1) b (by omega) (by simpa using hb)) (fun b hb => h2 b (by simpa using hb))
    simp [ha, ih.1, ih.2]

theorem tw_all {p : UInt8 → Bool} {l : List UInt8} (h : ∀ (j : Nat) b, j < l.length → l[j]? = some b → p b = true) : l.takeWhile p = l ∧ l.dropWhile p = [] := by
  have := tw_of (p := p) (l := l) (k := l.length) (Nat.le_refl _) h (fun b hb => by simp at hb)
  simpa using this

theorem tw_tw {p q r : UInt8 → Bool} (h : ∀ c, r c = (p c && q c)) : ∀ l : List UInt8, (l.takeWhile p).takeWhile q = l.takeWhile r
  | [] => rfl
  | a :: l => by
    have ih := tw_tw h l
    have ha := h a
    cases hp : p a <;> cases hq : q a <;> simp [hp, hq, ha, ih]

theorem p2_eq (c : UInt8) : p2 c = (p1 c && nq c) := by unfold p2 p1 nq; cases c != 63 <;> cases c != 35 <;> rfl
theorem p3_eq (c : UInt8) : p3 c = (p2 c && ns c) := by unfold p3 p2 ns; cases c != 63 <;> cases c != 35 <;> cases c != 47 <;> rfl

theorem mid_q : ∀ l : List UInt8, (l.takeWhile p1).dropWhile nq = (l.dropWhile p2).takeWhile p1
  | [] => rfl
  | a :: l => by
    have ih := mid_q l
    have h2 := p2_eq a
    cases h1 : p1 a <;> cases hq : nq a <;> simp [h1, hq, h2, ih]

theorem end_f : ∀ l : List UInt8, (l.dropWhile p2).dropWhile p1 = l.dropWhile p1
  | [] => rfl
  | a :: l => by
    have ih := end_f l
    have h2 := p2_eq a
    cases h1 : p1 a <;> cases hq : nq a <;> simp [h1, hq, h2, ih]

theorem mid_p : ∀ l : List UInt8, (l.takeWhile p2).dropWhile ns = (l.dropWhile p3).takeWhile p2
  | [] => rfl
  | a :: l => by
    have ih := mid_p l
    have h2 := p3_eq a
    cases h1 : p2 a <;> cases hq : ns a <;> simp [h1, hq, h2, ih]

theorem end_p : ∀ l : List UInt8, (l.dropWhile p3).dropWhile p2 = l.dropWhile p2
  | [] => rfl
  | a :: l => by
    have ih := end_p l
    have h2 := p3_eq a
    cases h1 : p2 a <;> cases hq : ns a <;> simp [h1, hq, h2, ih]

theorem head_dw (p : UInt8 → Bool) : ∀ (l : List UInt8) (a : UInt8), (l.dropWhile p).head? = some a → p a = false
  | [], a, h => by simp at h
  | b :: l, a, h => by
    cases hb : p b
    · simp [hb] at h; rw [← h]; exact hb
    · simp [hb] at h; exact head_dw p l a h

theorem take_two (l : List UInt8) : l.take 2 = [47, 47] ↔ ∃ t, l = 47 :: 47 :: t := by
  match l with
  | [] => simp
  | [a] => simp
  | a :: b :: t => simp

/-! ### the two splits are one -/
theorem rest_q (x : List UInt8) : (qu (x.dropWhile p2)).1 = (cut1 63 (x.takeWhile p1)).2.2 ∧ (qu (x.dropWhile p2)).2.1 = (cut1 63 (x.takeWhile p1)).2.1 ∧ (qu (x.dropWhile p2)).2.2 = x.dropWhile p1 := by
  have e : (fun b : UInt8 => b != 63) = nq := rfl
  unfold cut1
  rw [e]
  simp only
  rw [mid_q, ← end_f]
  have hh := head_dw p2 x
  generalize x.dropWhile p2 = R at hh ⊢
  match R with
  | [] => simp [qu]
  | a :: r =>
    have ha := hh a rfl
    by_cases h63 : a = 63
    · subst h63
      have : p1 63 = true := rfl
      simp [qu, this]
    · have h35 : a = 35 := by
        unfold p2 at ha
        cases h : a != 35
        · simpa using h
        · rw [h] at ha; simp [h63] at ha
      subst h35
      have : p1 35 = false := rfl
      simp [qu, this]

theorem rest_f (x : List UInt8) : fr (x.dropWhile p1) = ((cut1 35 x).2.2, (cut1 35 x).2.1) := by
  have e : (fun b : UInt8 => b != 35) = p1 := rfl
  unfold cut1
  rw [e]
  have hh := head_dw p1 x
  generalize x.dropWhile p1 = R at hh ⊢
  match R with
  | [] => simp [fr]
  | a :: r =>
    have ha := hh a rfl
    have h35 : a = 35 := by simpa [p1] using ha
    subst h35
    simp [fr]

theorem before_q (x : List UInt8) : (cut1 63 (cut1 35 x).1).1 = x.takeWhile p2 := by
  have e : (fun b : UInt8 => b != 63) = nq := rfl
  have e1 : (fun b : UInt8 => b != 35) = p1 := rfl
  unfold cut1
  rw [e, e1]
  exact tw_tw p2_eq x

theorem dw_au (x : List UInt8) : ((au x).2.2).dropWhile p2 = x.dropWhile p2 := by
  unfold au
  split
  · rename_i h
    obtain ⟨t, rfl⟩ := (take_two x).1 h
    have : p2 47 = true := rfl
    simp [this, end_p]
  · rfl

theorem au_au2 (x : List UInt8) : (au x).1 = (au2 (x.takeWhile p2)).1 ∧ (au x).2.1 = (au2 (x.takeWhile p2)).2.1 ∧ (au x).2.2.takeWhile p2 = (au2 (x.takeWhile p2)).2.2 := by
  unfold au au2
  by_cases h : x.take 2 = [47, 47]
  · obtain ⟨t, rfl⟩ := (take_two x).1 h
    have h47 : p2 47 = true := rfl
    have e : List.takeWhile p2 (47 :: 47 :: t) = 47 :: 47 :: List.takeWhile p2 t := by simp [h47]
    rw [e, if_pos h, if_pos (show List.take 2 (47 :: 47 :: List.takeWhile p2 t) = [47, 47] from rfl)]
    refine ⟨rfl, ?_, ?_⟩
    · show List.takeWhile p3 t = List.takeWhile ns (List.takeWhile p2 t)
      exact (tw_tw p3_eq t).symm
    · show List.takeWhile p2 (List.dropWhile p3 t) = List.dropWhile ns (List.takeWhile p2 t)
      exact (mid_p t).symm
  · have h' : ¬ (x.takeWhile p2).take 2 = [47, 47] := by
      intro e
      apply h
      obtain ⟨t, ht⟩ := (take_two _).1 e
      rw [take_two]
      match x with
      | [] => simp at ht
      | [a] => cases hp : p2 a <;> simp [hp] at ht
      | a :: b :: r =>
        cases hp : p2 a
        · simp [hp] at ht
        · cases hq : p2 b
          · simp [hp, hq] at ht
          · simp [hp, hq] at ht
            exact ⟨r, by rw [ht.1, ht.2.1]⟩
    rw [if_neg h, if_neg h']
    exact ⟨rfl, rfl, rfl⟩

theorem split_split2 (l : List UInt8) : split2 l = split l := by
  unfold split2 split
  generalize (sch l).2 = x
  have a := au_au2 x
  have q := rest_q x
  have f := rest_f x
  have e1 : (cut1 35 x).1 = x.takeWhile p1 := rfl
  rw [before_q, dw_au, ← a.1, ← a.2.1, ← a.2.2, e1, ← q.1, ← q.2.1, q.2.2, f]

/-! ### 'join' undoes 'split' -/
theorem valid_ne {l : List UInt8} (h : valid l = true) : l ≠ [] := by
  intro e; rw [e] at h; exact absurd h (by decide)

theorem head_tail {l : List UInt8} {a : UInt8} (h : l.head? = some a) : l = a :: l.tail := by
  cases l with
  | nil => simp at h
  | cons b t => simp at h; rw [h]; rfl

theorem join_sch (l : List UInt8) : (if (sch l).1 ≠ [] then (sch l).1 ++ [58] else []) ++ (sch l).2 = l := by
  unfold sch
  split
  · rename_i h
    have e := head_tail h.1
    have hn := valid_ne h.2
    rw [if_pos hn, List.append_assoc]
    have : [58] ++ (List.dropWhile p4 l).tail = List.dropWhile p4 l := e.symm
    rw [this, List.takeWhile_append_dropWhile]
  · simp

theorem join_au (l : List UInt8) : (if (au l).1 = true then [47, 47] ++ (au l).2.1 else []) ++ (au l).2.2 = l := by
  unfold au
  split
  · rename_i h
    obtain ⟨t, rfl⟩ := (take_two l).1 h
    simp
  · simp

theorem join_qf (l : List UInt8) (h : ∀ a, l.head? = some a → p2 a = false) : (if (qu l).1 = true then 63 :: (qu l).2.1 else []) ++ (if (fr (qu l).2.2).1 = true then 35 :: (fr (qu l).2.2).2 else []) = l := by
  match l with
  | [] => simp [qu, fr]
  | a :: r =>
    have ha := h a rfl
    by_cases h63 : a = 63
    · subst h63
      simp only [qu, List.head?_cons, if_true, List.tail_cons]
      have hh := head_dw p1 r
      have e : List.takeWhile p1 r ++ List.dropWhile p1 r = r := List.takeWhile_append_dropWhile
      match hd : List.dropWhile p1 r with
      | [] => rw [hd] at e; simp [fr]; simpa using e
      | b :: t =>
        rw [hd] at hh e
        have hb : b = 35 := by have := hh b rfl; simpa [p1] using this
        subst hb
        simp [fr]
        exact e
    · have h35 : a = 35 := by
        unfold p2 at ha
        cases h : a != 35
        · simpa using h
        · rw [h] at ha; simp [h63] at ha
      subst h35
      simp [qu, fr]

theorem join_split (l : List UInt8) : join (split l) = l := by
  unfold join split
  simp only
  have e3 := join_qf ((au (sch l).2).2.2.dropWhile p2) (fun a h => head_dw p2 _ a h)
  have e2 := join_au (sch l).2
  have e1 := join_sch l
  have e4 : (au (sch l).2).2.2.takeWhile p2 ++ (au (sch l).2).2.2.dropWhile p2 = (au (sch l).2).2.2 := List.takeWhile_append_dropWhile
  rw [List.append_assoc, e3, List.append_assoc, e4, List.append_assoc, e2, e1]

/-! ### in the words of the library's contracts -/
theorem bytes4 (b : UInt8) : ([58, 47, 63, 35] : List UInt8).contains b = !p4 b := by
  unfold p4
  by_cases h1 : b = 58
  · subst h1; rfl
  by_cases h2 : b = 47
  · subst h2; rfl
  by_cases h3 : b = 63
  · subst h3; rfl
  by_cases h4 : b = 35
  · subst h4; rfl
  simp [h1, h2, h3, h4]

theorem indexAny_cases (l chars : List UInt8) : (Lib.indexAny l chars = -1 ∧ Lib.NoAny l chars l.length) ∨ ∃ (k : Nat) (x : UInt8), Lib.indexAny l chars = k ∧ Lib.NoAny l chars k ∧ l[k]? = some x ∧ chars.contains x = true := by
  by_cases h : ∃ (k : Nat) (x : UInt8), Lib.NoAny l chars k ∧ l[k]? = some x ∧ chars.contains x = true
  · obtain ⟨k, x, h1, h2, h3⟩ := h
    exact Or.inr ⟨k, x, Lib.indexAny_hit h1 h2 h3, h1, h2, h3⟩
  · left
    have hno : ∀ k, Lib.NoAny l chars k := by
      intro k
      induction k with
      | zero => exact Lib.NoAny.zero _ _
      | succ k ih =>
        intro j b hj hb
        by_cases e : j = k
        · subst e
          cases hc : chars.contains b
          · rfl
          · exact absurd ⟨j, b, ih, hb, hc⟩ h
        · exact ih j b (by omega) hb
    exact ⟨Lib.indexAny_none (hno _), hno _⟩

/-- The scheme, by strings.IndexAny: no colon ahead of which a scheme stands. -/
theorem sch_hit {l : List UInt8} {k : Nat} (h : Lib.indexAny l [58, 47, 63, 35] = k) : k < l.length ∧ l.takeWhile p4 = l.take k ∧ l.dropWhile p4 = l.drop k := by
  rcases indexAny_cases l [58, 47, 63, 35] with ⟨e, _⟩ | ⟨k', x, e, hno, hx, hc⟩
  · omega
  · obtain rfl : k' = k := by omega
    have hk : k' < l.length := by
      rcases Nat.lt_or_ge k' l.length with h | h
      · exact h
      · rw [List.getElem?_eq_none h] at hx; simp at hx
    refine ⟨hk, tw_of (by omega) (fun j b hj hb => ?_) (fun b hb => ?_)⟩
    · have := hno j b hj hb; rw [bytes4] at this; simpa using this
    · rw [hx] at hb; cases hb; rw [bytes4] at hc; simpa using hc

theorem sch_miss {l : List UInt8} (h : Lib.indexAny l [58, 47, 63, 35] < 0) : sch l = ([], l) := by
  rcases indexAny_cases l [58, 47, 63, 35] with ⟨e, hno⟩ | ⟨k', x, e, hno, hx, hc⟩
  · have := tw_all (p := p4) (l := l) (fun j b hj hb => by have := hno j b hj hb; rw [bytes4] at this; simpa using this)
    unfold sch
    rw [this.2]
    simp
  · omega

theorem head_drop (l : List UInt8) (k : Nat) : (l.drop k).head? = l[k]? := by simp

theorem sch_yes {l : List UInt8} {k : Nat} (h : Lib.indexAny l [58, 47, 63, 35] = k) (h58 : l[k]? = some 58) (hv : valid (l.take k) = true) : sch l = (l.take k, l.drop (k + 1)) := by
  obtain ⟨_, h1, h2⟩ := sch_hit h
  unfold sch
  rw [h1, h2, head_drop, if_pos ⟨h58, hv⟩, List.tail_drop]

theorem sch_no {l : List UInt8} {k : Nat} (h : Lib.indexAny l [58, 47, 63, 35] = k) (h58 : ¬ (l[k]? = some 58 ∧ valid (l.take k) = true)) : sch l = ([], l) := by
  obtain ⟨_, h1, h2⟩ := sch_hit h
  unfold sch
  rw [h1, h2, head_drop, if_neg h58]

theorem indexByte_cases (l : List UInt8) (c : UInt8) : (Lib.indexByte l c = -1 ∧ ∀ k : Nat, l[k]? ≠ some c) ∨ ∃ k : Nat, Lib.indexByte l c = k ∧ l[k]? = some c ∧ k < l.length ∧ ∀ j : Nat, j < k → l[j]? ≠ some c := by
  have hge := Lib.indexByte_ge l c
  by_cases h : Lib.indexByte l c = -1
  · exact Or.inl ⟨h, fun k => Lib.indexByte_none h k⟩
  · obtain ⟨k, hk⟩ : ∃ k : Nat, Lib.indexByte l c = k := ⟨(Lib.indexByte l c).toNat, by omega⟩
    obtain ⟨h1, h2⟩ := Lib.indexByte_some hk
    refine Or.inr ⟨k, hk, h1, ?_, h2⟩
    rcases Nat.lt_or_ge k l.length with h | h
    · exact h
    · rw [List.getElem?_eq_none h] at h1; simp at h1

theorem cut_hit {l : List UInt8} {c : UInt8} {k : Nat} (h : Lib.indexByte l c = k) : k < l.length ∧ cut1 c l = (l.take k, l.drop (k + 1), true) ∧ l.takeWhile (fun b => b != c) = l.take k ∧ l.dropWhile (fun b => b != c) = l.drop k := by
  rcases indexByte_cases l c with ⟨e, _⟩ | ⟨k', e, h1, hk, h2⟩
  · omega
  · obtain rfl : k' = k := by omega
    have := tw_of (p := fun b => b != c) (l := l) (k := k') (by omega) (fun j b hj hb => by have := h2 j hj; rw [hb] at this; simpa using this) (fun b hb => by rw [h1] at hb; cases hb; simp)
    refine ⟨hk, ?_, this⟩
    unfold cut1
    rw [this.1, this.2, head_drop, h1, List.tail_drop]
    simp

theorem cut_miss {l : List UInt8} {c : UInt8} (h : Lib.indexByte l c < 0) : cut1 c l = (l, [], false) ∧ l.takeWhile (fun b => b != c) = l ∧ l.dropWhile (fun b => b != c) = [] := by
  rcases indexByte_cases l c with ⟨e, h0⟩ | ⟨k', e, h1, hk, h2⟩
  · have := tw_all (p := fun b => b != c) (l := l) (fun j b hj hb => by have := h0 j; rw [hb] at this; simpa using this)
    refine ⟨?_, this⟩
    unfold cut1
    rw [this.1, this.2]
    simp
  · omega

theorem cut1_len (c : UInt8) (l : List UInt8) : (cut1 c l).1.length ≤ l.length ∧ (cut1 c l).2.1.length ≤ l.length := by
  rcases indexByte_cases l c with ⟨e, h0⟩ | ⟨k', e, h1, hk, h2⟩
  · rw [(cut_miss (l := l) (c := c) (by omega)).1]; simp
  · rw [(cut_hit e).2.1]; simp; omega

theorem pre_two (l : List UInt8) : Lib.hasPrefix l [47, 47] = true ↔ l.take 2 = [47, 47] := by
  unfold Lib.hasPrefix
  rw [List.isPrefixOf_iff_prefix, take_two]
  constructor
  · rintro ⟨t, ht⟩; exact ⟨t, ht.symm⟩
  · rintro ⟨t, ht⟩; exact ⟨t, ht.symm⟩

end Go.Proofs.Qxb6604144a.Iri
