/-
  HOW LONG the parts of a split text are; WHAT WELL FORMED PARTS ARE, and that split undoes join there. No Go here.
-/
import Derived.Test.Qxb6604144aSp
namespace Go.Proofs.Qxb6604144a.Iri

theorem tw_le (p : UInt8 → Bool) (l : List UInt8) : (l.takeWhile p).length ≤ l.length := (List.takeWhile_prefix p).length_le
theorem dw_le (p : UInt8 → Bool) (l : List UInt8) : (l.dropWhile p).length ≤ l.length := (List.dropWhile_suffix p).length_le

theorem sch_len (l : List UInt8) : (sch l).1.length ≤ l.length ∧ (sch l).2.length ≤ l.length := by
  unfold sch
  split
  · have h1 := tw_le p4 l
    have h2 := dw_le p4 l
    exact ⟨h1, by simp only [List.length_tail]; omega⟩
  · exact ⟨by simp, Nat.le_refl _⟩
theorem au_len (l : List UInt8) : (au l).2.1.length ≤ l.length ∧ (au l).2.2.length ≤ l.length := by
  unfold au
  split
  · have h1 := tw_le p3 (l.drop 2)
    have h2 := dw_le p3 (l.drop 2)
    rw [List.length_drop] at h1 h2
    exact ⟨by simp only; omega, by simp only; omega⟩
  · exact ⟨by simp, Nat.le_refl _⟩
theorem qu_len (l : List UInt8) : (qu l).2.1.length ≤ l.length ∧ (qu l).2.2.length ≤ l.length := by
  unfold qu
  split
  · have h1 := tw_le p1 l.tail
    have h2 := dw_le p1 l.tail
    rw [List.length_tail] at h1 h2
    exact ⟨by simp only; omega, by simp only; omega⟩
  · exact ⟨by simp, Nat.le_refl _⟩
theorem fr_len (l : List UInt8) : (fr l).2.length ≤ l.length := by
  unfold fr
  split
  · simp only [List.length_tail]; omega
  · simp

theorem split_len (l : List UInt8) : (split l).scheme.length ≤ l.length ∧ (split l).auth.length ≤ l.length ∧ (split l).path.length ≤ l.length ∧ (split l).query.length ≤ l.length ∧ (split l).frag.length ≤ l.length := by
  have h1 := sch_len l
  have h2 := au_len (sch l).2
  have h3 := tw_le p2 (au (sch l).2).2.2
  have h4 := dw_le p2 (au (sch l).2).2.2
  have h5 := qu_len ((au (sch l).2).2.2.dropWhile p2)
  have h6 := fr_len (qu ((au (sch l).2).2.2.dropWhile p2)).2.2
  unfold split
  exact ⟨h1.1, by simp only; omega, by simp only; omega, by simp only; omega, by simp only; omega⟩

theorem mem_tw {p : UInt8 → Bool} : ∀ {l : List UInt8} {c : UInt8}, c ∈ l.takeWhile p → p c = true
  | [], c, h => by simp at h
  | a :: l, c, h => by
    cases ha : p a
    · simp [ha] at h
    · rw [List.takeWhile_cons, ha] at h
      simp only [if_true] at h
      rcases List.mem_cons.1 h with rfl | h
      · exact ha
      · exact mem_tw h

/-! ### well formed parts -/
theorem letter_p4 {c : UInt8} (h : letter c = true) : p4 c = true := by
  simp only [letter, decide_eq_true_eq] at h
  unfold p4
  have n1 : c ≠ 58 := by rintro rfl; revert h; decide
  have n2 : c ≠ 47 := by rintro rfl; revert h; decide
  have n3 : c ≠ 63 := by rintro rfl; revert h; decide
  have n4 : c ≠ 35 := by rintro rfl; revert h; decide
  simp [n1, n2, n3, n4]
theorem schc_p4 {c : UInt8} (h : schc c = true) : p4 c = true := by
  unfold schc at h
  rw [Bool.or_eq_true] at h
  rcases h with h | h
  · exact letter_p4 h
  · simp only [decide_eq_true_eq] at h
    unfold p4
    have n1 : c ≠ 58 := by rintro rfl; revert h; decide
    have n2 : c ≠ 47 := by rintro rfl; revert h; decide
    have n3 : c ≠ 63 := by rintro rfl; revert h; decide
    have n4 : c ≠ 35 := by rintro rfl; revert h; decide
    simp [n1, n2, n3, n4]

theorem valid_p4 {l : List UInt8} (h : valid l = true) : ∀ c ∈ l, p4 c = true := by
  match l with
  | [] => simp
  | a :: r =>
    simp only [valid, Bool.and_eq_true, List.all_eq_true] at h
    intro c hc
    rcases List.mem_cons.1 hc with rfl | hc
    · exact letter_p4 h.1
    · exact schc_p4 (h.2 c hc)

theorem tw_app {p : UInt8 → Bool} {l r : List UInt8} (h : ∀ c ∈ l, p c = true) : (l ++ r).takeWhile p = l ++ r.takeWhile p ∧ (l ++ r).dropWhile p = r.dropWhile p := by
  induction l with
  | nil => exact ⟨rfl, rfl⟩
  | cons a t ih =>
    have ha := h a (by simp)
    have := ih (fun c hc => h c (by simp [hc]))
    simp [ha, this.1, this.2]

theorem tw_stop {p : UInt8 → Bool} {l : List UInt8} (h : ∀ a, l.head? = some a → p a = false) : l.takeWhile p = [] ∧ l.dropWhile p = l := by
  match l with
  | [] => exact ⟨rfl, rfl⟩
  | a :: t =>
    have := h a rfl
    simp [this]

/-- The parts cannot be misread. -/
structure Wf (p : Pt) : Prop where
  sch : p.scheme ≠ [] → valid p.scheme = true
  noA : p.hasA = false → p.auth = []
  auth : ∀ c ∈ p.auth, p3 c = true
  path : ∀ c ∈ p.path, p2 c = true
  slash : p.hasA = true → p.path ≠ [] → p.path.head? = some 47
  noTwo : p.hasA = false → p.path.take 2 ≠ [47, 47]
  noSch : p.scheme = [] → p.hasA = false → ¬ ((p.path.dropWhile p4).head? = some 58 ∧ valid (p.path.takeWhile p4) = true)
  noQ : p.hasQ = false → p.query = []
  query : ∀ c ∈ p.query, p1 c = true
  noF : p.hasF = false → p.frag = []

def tailQF (p : Pt) : List UInt8 := (if p.hasQ = true then 63 :: p.query else []) ++ (if p.hasF = true then 35 :: p.frag else [])
def hier (p : Pt) : List UInt8 := (if p.hasA = true then [47, 47] ++ p.auth else []) ++ (p.path ++ tailQF p)

theorem join_eq (p : Pt) : join p = (if p.scheme ≠ [] then p.scheme ++ [58] else []) ++ hier p := by
  unfold join hier tailQF
  simp only [List.append_assoc]

theorem tail_head (p : Pt) : ∀ a, (tailQF p).head? = some a → a = 63 ∨ a = 35 := by
  unfold tailQF
  intro a h
  cases hq : p.hasQ
  · cases hf : p.hasF
    · simp [hq, hf] at h
    · simp [hq, hf] at h; exact Or.inr h.symm
  · simp [hq] at h; exact Or.inl h.symm

theorem qu_tail {p : Pt} (h : Wf p) : qu (tailQF p) = (p.hasQ, p.query, (if p.hasF = true then 35 :: p.frag else [])) := by
  unfold qu tailQF
  cases hq : p.hasQ
  · have := h.noQ hq
    cases hf : p.hasF <;> simp [this]
  · have hfs : ∀ a, (if p.hasF = true then 35 :: p.frag else ([] : List UInt8)).head? = some a → p1 a = false := by
      intro a ha
      cases hf : p.hasF
      · simp [hf] at ha
      · simp [hf] at ha; subst ha; rfl
    have h1 := tw_app (r := if p.hasF = true then 35 :: p.frag else []) h.query
    have h2 := tw_stop hfs
    simp only [if_true, List.cons_append, List.head?_cons, List.tail_cons]
    rw [h1.1, h1.2, h2.1, h2.2]
    simp

theorem fr_tail {p : Pt} (h : Wf p) : fr (if p.hasF = true then 35 :: p.frag else []) = (p.hasF, p.frag) := by
  cases hf : p.hasF
  · have := h.noF hf
    simp [fr, this]
  · simp [fr]

theorem path_tail {p : Pt} (h : Wf p) : (p.path ++ tailQF p).takeWhile p2 = p.path ∧ (p.path ++ tailQF p).dropWhile p2 = tailQF p := by
  have h1 := tw_app (r := tailQF p) h.path
  have h2 := tw_stop (p := p2) (l := tailQF p) (fun a ha => by rcases tail_head p a ha with rfl | rfl <;> rfl)
  rw [h1.1, h1.2, h2.1, h2.2]
  simp

theorem au_hier {p : Pt} (h : Wf p) : au (hier p) = (p.hasA, p.auth, p.path ++ tailQF p) := by
  unfold hier
  cases hA : p.hasA
  · have hn := h.noA hA
    have ht : (p.path ++ tailQF p).take 2 ≠ [47, 47] := by
      intro e
      obtain ⟨t, ht⟩ := (take_two _).1 e
      have h2 := h.noTwo hA
      match hp : p.path with
      | [] =>
        rw [hp, List.nil_append] at ht
        rcases tail_head p 47 (by rw [ht]; rfl) with h | h
        · revert h; decide
        · revert h; decide
      | [c] =>
        rw [hp] at ht
        simp at ht
        rcases tail_head p 47 (by rw [ht.2]; rfl) with h | h
        · revert h; decide
        · revert h; decide
      | c :: d :: r =>
        rw [hp] at ht h2
        simp at ht
        apply h2
        simp [ht.1, ht.2.1]
    unfold au
    simp only [Bool.false_eq_true, if_false, List.nil_append]
    rw [if_neg ht, hn]
  · have hs : ∀ a, (p.path ++ tailQF p).head? = some a → p3 a = false := by
      intro a ha
      match hp : p.path with
      | [] =>
        rw [hp, List.nil_append] at ha
        rcases tail_head p a ha with rfl | rfl <;> rfl
      | c :: r =>
        have := h.slash hA (by rw [hp]; simp)
        rw [hp] at this ha
        simp at this ha
        subst this
        subst ha
        rfl
    have h1 := tw_app (r := p.path ++ tailQF p) h.auth
    have h2 := tw_stop hs
    unfold au
    simp only [if_true]
    have e : ([47, 47] ++ p.auth ++ (p.path ++ tailQF p)) = 47 :: 47 :: (p.auth ++ (p.path ++ tailQF p)) := by simp
    rw [e, if_pos (show List.take 2 (47 :: 47 :: (p.auth ++ (p.path ++ tailQF p))) = [47, 47] from rfl)]
    show (true, List.takeWhile p3 (p.auth ++ (p.path ++ tailQF p)), List.dropWhile p3 (p.auth ++ (p.path ++ tailQF p))) = _
    rw [h1.1, h1.2, h2.1, h2.2]
    simp

theorem dw_app_none {p : UInt8 → Bool} : ∀ {l r : List UInt8}, (∀ c ∈ l, p c = true) → (l ++ r).dropWhile p = r.dropWhile p := fun h => (tw_app h).2

/-- Ahead of the first of : / ? # no scheme is read where there is none. -/
theorem sch_hier {p : Pt} (h : Wf p) (h0 : p.scheme = []) : sch (hier p) = ([], hier p) := by
  unfold sch
  rw [if_neg]
  rintro ⟨h1, h2⟩
  cases hA : p.hasA
  · unfold hier at h1 h2
    simp only [hA, Bool.false_eq_true, if_false, List.nil_append] at h1 h2
    by_cases hall : ∀ c ∈ p.path, p4 c = true
    · rw [(tw_app hall).2] at h1
      have hs := tw_stop (p := p4) (l := tailQF p) (fun a ha => by rcases tail_head p a ha with rfl | rfl <;> rfl)
      rw [hs.2] at h1
      rcases tail_head p 58 h1 with h | h
      · revert h; decide
      · revert h; decide
    · -- the path itself stops the scan
      have hstop : ∃ a t, p.path.dropWhile p4 = a :: t := by
        match hd : p.path.dropWhile p4 with
        | [] =>
          exfalso
          apply hall
          intro c hc
          have e : p.path.takeWhile p4 = p.path := by
            have := List.takeWhile_append_dropWhile (p := p4) (l := p.path)
            rw [hd, List.append_nil] at this
            exact this
          rw [← e] at hc
          exact mem_tw hc
        | a :: t => exact ⟨a, t, rfl⟩
      obtain ⟨a, t, ht⟩ := hstop
      have hpa : p4 a = false := head_dw p4 p.path a (by rw [ht]; rfl)
      have hmem : ∀ c ∈ p.path.takeWhile p4, p4 c = true := fun c hc => mem_tw hc
      have e : p.path ++ tailQF p = p.path.takeWhile p4 ++ (a :: t ++ tailQF p) := by
        rw [← ht, ← List.append_assoc, List.takeWhile_append_dropWhile]
      have hs := tw_stop (p := p4) (l := a :: t ++ tailQF p) (fun b hb => by simp at hb; subst hb; exact hpa)
      rw [e, (tw_app hmem).2, hs.2] at h1
      rw [e, (tw_app hmem).1, hs.1, List.append_nil] at h2
      apply h.noSch h0 hA
      rw [ht]
      simp at h1
      subst h1
      exact ⟨rfl, h2⟩
  · unfold hier at h1
    simp only [hA, if_true] at h1
    have : p4 47 = false := rfl
    simp [this] at h1

theorem sch_join {p : Pt} (h : Wf p) : sch (join p) = (p.scheme, hier p) := by
  rw [join_eq]
  by_cases h0 : p.scheme = []
  · rw [if_neg (by simpa using h0), List.nil_append, sch_hier h h0, h0]
  · have hv := h.sch h0
    have hm := valid_p4 hv
    rw [if_pos h0, List.append_assoc]
    have hs := tw_stop (p := p4) (l := [58] ++ hier p) (fun a ha => by simp at ha; subst ha; rfl)
    unfold sch
    rw [(tw_app hm).1, (tw_app hm).2, hs.1, hs.2, List.append_nil, if_pos ⟨rfl, hv⟩]
    rfl

theorem split_join {p : Pt} (h : Wf p) : split (join p) = p := by
  have h1 := sch_join h
  have h2 := au_hier h
  have h3 := path_tail h
  have h4 := qu_tail h
  have h5 := fr_tail h
  unfold split
  simp only [h1, h2, h3.1, h3.2, h4, h5]

end Go.Proofs.Qxb6604144a.Iri
