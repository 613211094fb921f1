/-
  THE PLAIN PART on dot segments: 'ans out p': what is handed back where 'out' is kept and 'p' is still to be read; each turn of removeDotSegments leaves it as it is; at the start it is zzRDS. No Go here.
-/
import Derived.Lib.Bytealg
import Derived.Lib.Strings
namespace Go.Proofs.Qxb6604144a.Iri

abbrev Bs := List UInt8

/-- The pieces between slashes. -/
def segsOf : Bs → List Bs
  | [] => [[]]
  | c :: r => if c = 47 then [] :: segsOf r else
      match segsOf r with
      | [] => [[c]]
      | s :: t => (c :: s) :: t

theorem segsOf_ne (l : Bs) : segsOf l ≠ [] := by
  cases l with
  | nil => simp [segsOf]
  | cons c r =>
    unfold segsOf
    split
    · simp
    · split <;> simp

def dot (s : Bs) : Bool := s == [46] || s == [46, 46]

/-- The stack: what 'zzRDS' keeps of the segments that stand behind a slash. -/
def stk (out : List Bs) : List Bs → List Bs
  | [] => out
  | s :: r => if s = [46] then stk (if r = [] then out ++ [[47]] else out) r
    else if s = [46, 46] then stk (if r = [] then out.dropLast ++ [[47]] else out.dropLast) r
    else stk (out ++ [47 :: s]) r

/-- A relative path's leading dot segments. -/
def lead : List Bs → Bs
  | [] => []
  | s :: t => if t = [] then (if dot s = true then [] else s)
    else if dot s = true then lead t else (stk (if s = [] then [] else [s]) t).flatten

def ans (out : List Bs) (p : Bs) : Bs :=
  match p with
  | [] => out.flatten
  | c :: r => if c = 47 then (stk out (segsOf r)).flatten else lead (segsOf (c :: r))

theorem ans_nil (out : List Bs) : ans out [] = out.flatten := rfl
theorem ans_abs (out : List Bs) (r : Bs) : ans out (47 :: r) = (stk out (segsOf r)).flatten := by simp [ans]
theorem ans_rel (out : List Bs) (c : UInt8) (r : Bs) (h : c ≠ 47) : ans out (c :: r) = lead (segsOf (c :: r)) := by simp [ans, h]

theorem segs_slash (r : Bs) : segsOf (47 :: r) = [] :: segsOf r := by simp [segsOf]
theorem segs_cons (c : UInt8) (r : Bs) (h : c ≠ 47) : ∃ s t, segsOf r = s :: t ∧ segsOf (c :: r) = (c :: s) :: t := by
  match hr : segsOf r with
  | [] => exact absurd hr (segsOf_ne r)
  | s :: t => exact ⟨s, t, rfl, by rw [segsOf, if_neg h, hr]⟩

theorem lead_ans (t : Bs) : lead (segsOf t) = ans [] t := by
  match t with
  | [] => rfl
  | c :: r =>
    by_cases h : c = 47
    · subst h
      rw [ans_abs, segs_slash, lead, if_neg (segsOf_ne r)]
      simp [dot]
    · rw [ans_rel _ _ _ h]

/-! ### the turns -/
theorem t_up (t : Bs) : ans [] (46 :: 46 :: 47 :: t) = ans [] t := by
  rw [ans_rel _ _ _ (by decide)]
  have e : segsOf (46 :: 46 :: 47 :: t) = [46, 46] :: segsOf t := by simp [segsOf]
  rw [e, lead, if_neg (segsOf_ne t), if_pos (by decide), lead_ans]
theorem t_here (t : Bs) : ans [] (46 :: 47 :: t) = ans [] t := by
  rw [ans_rel _ _ _ (by decide)]
  have e : segsOf (46 :: 47 :: t) = [46] :: segsOf t := by simp [segsOf]
  rw [e, lead, if_neg (segsOf_ne t), if_pos (by decide), lead_ans]
theorem t_mid (out : List Bs) (t : Bs) : ans out (47 :: 46 :: 47 :: t) = ans out (47 :: t) := by
  rw [ans_abs, ans_abs]
  have e : segsOf (46 :: 47 :: t) = [46] :: segsOf t := by simp [segsOf]
  rw [e, stk, if_pos rfl, if_neg (segsOf_ne t)]
theorem t_end (out : List Bs) : ans out [47, 46] = ans out [47] := by
  rw [ans_abs, ans_abs]
  simp [segsOf, stk]
theorem t_midup (out : List Bs) (t : Bs) : ans out (47 :: 46 :: 46 :: 47 :: t) = ans out.dropLast (47 :: t) := by
  rw [ans_abs, ans_abs]
  have e : segsOf (46 :: 46 :: 47 :: t) = [46, 46] :: segsOf t := by simp [segsOf]
  rw [e, stk, if_neg (by decide), if_pos rfl, if_neg (segsOf_ne t)]
theorem t_endup (out : List Bs) : ans out [47, 46, 46] = ans out.dropLast [47] := by
  rw [ans_abs, ans_abs]
  simp [segsOf, stk]
theorem t_dot : ans [] [46] = ans [] [] := by decide
theorem t_dots : ans [] [46, 46] = ans [] [] := by decide

def nsl (c : UInt8) : Bool := c != 47

theorem segs_tw : ∀ r : Bs, segsOf r = r.takeWhile nsl :: (match r.dropWhile nsl with | [] => [] | _ :: t => segsOf t)
  | [] => rfl
  | c :: r => by
    have ih := segs_tw r
    by_cases h : c = 47
    · subst h
      have : nsl 47 = false := rfl
      rw [segs_slash]; simp [this]
    · have hn : nsl c = true := by simpa [nsl] using h
      rw [segsOf, if_neg h, ih]
      simp [hn]

theorem dw_head (r : Bs) : r.dropWhile nsl = [] ∨ ∃ t, r.dropWhile nsl = 47 :: t := by
  induction r with
  | nil => left; rfl
  | cons c r ih =>
    by_cases h : c = 47
    · subst h
      have : nsl 47 = false := rfl
      right; exact ⟨r, by simp [this]⟩
    · have hn : nsl c = true := by simpa [nsl] using h
      simpa [hn] using ih

theorem ans_rest (out : List Bs) (r : Bs) : ans out (r.dropWhile nsl) = (stk out (match r.dropWhile nsl with | [] => [] | _ :: t => segsOf t)).flatten := by
  rcases dw_head r with h | ⟨t, h⟩
  · rw [h]; rfl
  · rw [h, ans_abs]

/-- The last turn of the switch: one segment more is kept. -/
theorem t_keep_abs (out : List Bs) (r : Bs) (h1 : r.takeWhile nsl ≠ [46]) (h2 : r.takeWhile nsl ≠ [46, 46]) : ans out (47 :: r) = ans (out ++ [47 :: r.takeWhile nsl]) (r.dropWhile nsl) := by
  rw [ans_abs, ans_rest, segs_tw, stk, if_neg h1, if_neg h2]
theorem t_keep_rel (c : UInt8) (r : Bs) (hc : c ≠ 47) (h1 : c :: r.takeWhile nsl ≠ [46]) (h2 : c :: r.takeWhile nsl ≠ [46, 46]) : ans [] (c :: r) = ans [c :: r.takeWhile nsl] (r.dropWhile nsl) := by
  rw [ans_rel _ _ _ hc, ans_rest]
  have e : segsOf (c :: r) = (c :: r.takeWhile nsl) :: (match r.dropWhile nsl with | [] => [] | _ :: t => segsOf t) := by
    have hn : nsl c = true := by simpa [nsl] using hc
    rw [segs_tw (c :: r)]
    simp [hn]
  have hd : dot (c :: r.takeWhile nsl) = false := by
    unfold dot
    rw [beq_eq_false_iff_ne.2 h1, beq_eq_false_iff_ne.2 h2]
    rfl
  rw [e]
  generalize (match r.dropWhile nsl with | [] => ([] : List Bs) | _ :: t => segsOf t) = T
  rw [lead]
  by_cases h0 : T = []
  · subst h0; rw [if_pos rfl, hd]; simp [stk]
  · rw [if_neg h0, hd]; simp

/-! ### a path without a dot -/
def pathOf (r : List Bs) : Bs := (r.map (47 :: ·)).flatten

theorem stk_plain : ∀ (r : List Bs) (out : List Bs), (∀ s ∈ r, (46 : UInt8) ∉ s) → (stk out r).flatten = out.flatten ++ pathOf r
  | [], out, _ => by simp [stk, pathOf]
  | s :: r, out, h => by
    have hs := h s (by simp)
    have h1 : s ≠ [46] := by rintro rfl; simp at hs
    have h2 : s ≠ [46, 46] := by rintro rfl; simp at hs
    rw [stk, if_neg h1, if_neg h2, stk_plain r _ (fun x hx => h x (by simp [hx]))]
    simp [pathOf]

theorem segs_path : ∀ (l : Bs) (s : Bs) (t : List Bs), segsOf l = s :: t → l = s ++ pathOf t
  | [], s, t, h => by simp [segsOf] at h; rw [← h.1, h.2]; simp [pathOf]
  | c :: r, s, t, h => by
    by_cases hc : c = 47
    · subst hc
      rw [segs_slash] at h
      simp at h
      obtain ⟨h1, h2⟩ := h
      match hr : segsOf r with
      | [] => exact absurd hr (segsOf_ne r)
      | s' :: t' =>
        have ih := segs_path r s' t' hr
        rw [h1, ← h2, hr, ih]
        simp [pathOf]
    · obtain ⟨s', t', e1, e2⟩ := segs_cons c r hc
      have ih := segs_path r s' t' e1
      rw [e2] at h
      simp at h
      rw [← h.1, ← h.2, ih]
      simp

theorem segs_mem (l : Bs) : ∀ s ∈ segsOf l, ∀ x ∈ s, x ∈ l := by
  induction l with
  | nil => intro s hs x hx; simp [segsOf] at hs; subst hs; simp at hx
  | cons c r ih =>
    intro s hs x hx
    by_cases hc : c = 47
    · subst hc
      rw [segs_slash] at hs
      rcases List.mem_cons.1 hs with rfl | hs
      · simp at hx
      · exact List.mem_cons_of_mem _ (ih s hs x hx)
    · obtain ⟨s', t', e1, e2⟩ := segs_cons c r hc
      rw [e2] at hs
      rcases List.mem_cons.1 hs with rfl | hs
      · rcases List.mem_cons.1 hx with rfl | hx
        · simp
        · exact List.mem_cons_of_mem _ (ih s' (by rw [e1]; simp) x hx)
      · exact List.mem_cons_of_mem _ (ih s (by rw [e1]; simp [hs]) x hx)

theorem ans_plain (l : Bs) (h : (46 : UInt8) ∉ l) : ans [] l = l := by
  match l with
  | [] => rfl
  | c :: r =>
    have hm : ∀ s ∈ segsOf (c :: r), (46 : UInt8) ∉ s := fun s hs hx => h (segs_mem _ s hs _ hx)
    by_cases hc : c = 47
    · subst hc
      rw [ans_abs]
      rw [segs_slash] at hm
      rw [stk_plain _ _ (fun s hs => hm s (by simp [hs]))]
      match hr : segsOf r with
      | [] => exact absurd hr (segsOf_ne r)
      | s' :: t' =>
        have := segs_path r s' t' hr
        simp [pathOf] at this ⊢
        exact this.symm
    · rw [ans_rel _ _ _ hc]
      match hr : segsOf (c :: r) with
      | [] => exact absurd hr (segsOf_ne _)
      | s' :: t' =>
        have hp := segs_path _ s' t' hr
        have hs' := hm s' (by rw [hr]; simp)
        have h1 : s' ≠ [46] := by rintro rfl; simp at hs'
        have h2 : s' ≠ [46, 46] := by rintro rfl; simp at hs'
        have hd : dot s' = false := by simp [dot, h1, h2]
        rw [lead, hd]
        split
        · rename_i h0
          rw [h0] at hp
          simpa [pathOf] using hp.symm
        · simp only [Bool.false_eq_true, if_false]
          rw [stk_plain _ _ (fun s hs => hm s (by rw [hr]; simp [hs]))]
          rw [hp]
          split
          · rename_i h0; rw [h0]; simp
          · simp

/-! ### the turns, as removeDotSegments asks them -/
theorem pre_eq {l c : Bs} (h : Lib.hasPrefix l c = true) : l = c ++ l.drop c.length := by
  unfold Lib.hasPrefix at h
  rw [List.isPrefixOf_iff_prefix] at h
  obtain ⟨t, rfl⟩ := h
  simp
theorem pre_no {l c : Bs} (h : Lib.hasPrefix l c = false) (t : Bs) : l ≠ c ++ t := by
  intro e
  have : Lib.hasPrefix l c = true := by
    unfold Lib.hasPrefix
    rw [List.isPrefixOf_iff_prefix]
    exact ⟨t, e.symm⟩
  rw [h] at this
  exact Bool.false_ne_true this

/-- What holds ahead of each turn: nothing is kept yet, or the rest is empty or begins with a slash. -/
def Ready (out : List Bs) (l : Bs) : Prop := out = [] ∨ l = [] ∨ l.head? = some 47

theorem c_up {out : List Bs} {l : Bs} (h : Lib.hasPrefix l [46, 46, 47] = true) (hr : Ready out l) : 3 ≤ l.length ∧ ans out l = ans out (l.drop 3) ∧ Ready out (l.drop 3) := by
  have e := pre_eq h
  simp only [List.length_cons, List.length_nil] at e
  generalize l.drop (0 + 1 + 1 + 1) = t at e
  subst e
  have ho : out = [] := by
    rcases hr with h | h | h
    · exact h
    · simp at h
    · simp at h
  subst ho
  exact ⟨by simp, t_up t, Or.inl rfl⟩
theorem c_here {out : List Bs} {l : Bs} (h : Lib.hasPrefix l [46, 47] = true) (hr : Ready out l) : 2 ≤ l.length ∧ ans out l = ans out (l.drop 2) ∧ Ready out (l.drop 2) := by
  have e := pre_eq h
  simp only [List.length_cons, List.length_nil] at e
  generalize l.drop (0 + 1 + 1) = t at e
  subst e
  have ho : out = [] := by
    rcases hr with h | h | h
    · exact h
    · simp at h
    · simp at h
  subst ho
  exact ⟨by simp, t_here t, Or.inl rfl⟩
theorem c_mid {out : List Bs} {l : Bs} (h : Lib.hasPrefix l [47, 46, 47] = true) : 2 ≤ l.length ∧ ans out l = ans out (l.drop 2) ∧ Ready out (l.drop 2) := by
  have e := pre_eq h
  simp only [List.length_cons, List.length_nil] at e
  generalize l.drop (0 + 1 + 1 + 1) = t at e
  subst e
  exact ⟨by simp, t_mid out t, Or.inr (Or.inr rfl)⟩
theorem c_midup {out : List Bs} {l : Bs} (h : Lib.hasPrefix l [47, 46, 46, 47] = true) : 3 ≤ l.length ∧ ans out l = ans out.dropLast (l.drop 3) ∧ Ready out.dropLast (l.drop 3) := by
  have e := pre_eq h
  simp only [List.length_cons, List.length_nil] at e
  generalize l.drop (0 + 1 + 1 + 1 + 1) = t at e
  subst e
  exact ⟨by simp, t_midup out t, Or.inr (Or.inr rfl)⟩
theorem c_dot {out : List Bs} {l : Bs} (h : l = [46] ∨ l = [46, 46]) (hr : Ready out l) : ans out l = ans out [] ∧ Ready out [] := by
  rcases h with rfl | rfl
  · have ho : out = [] := by
      rcases hr with h | h | h
      · exact h
      · simp at h
      · simp at h
    subst ho
    exact ⟨t_dot, Or.inl rfl⟩
  · have ho : out = [] := by
      rcases hr with h | h | h
      · exact h
      · simp at h
      · simp at h
    subst ho
    exact ⟨t_dots, Or.inl rfl⟩

theorem take_tw (p : UInt8 → Bool) : ∀ r : Bs, r.take (r.takeWhile p).length = r.takeWhile p
  | [] => rfl
  | c :: r => by
    have ih := take_tw p r
    cases h : p c <;> simp [h, ih]
theorem drop_tw (p : UInt8 → Bool) : ∀ r : Bs, r.drop (r.takeWhile p).length = r.dropWhile p
  | [] => rfl
  | c :: r => by
    have ih := drop_tw p r
    cases h : p c <;> simp [h, ih]

theorem c_keep {out : List Bs} {l : Bs} (h0 : l ≠ []) (h1 : Lib.hasPrefix l [46, 46, 47] = false) (h2 : Lib.hasPrefix l [46, 47] = false) (h3 : Lib.hasPrefix l [47, 46, 47] = false) (h4 : l ≠ [47, 46]) (h5 : Lib.hasPrefix l [47, 46, 46, 47] = false) (h6 : l ≠ [47, 46, 46])
    (h7 : l ≠ [46]) (h8 : l ≠ [46, 46]) (hr : Ready out l) (k : Nat) (hk : k = ((l.drop 1).takeWhile nsl).length + 1) : 1 ≤ k ∧ k ≤ l.length ∧ ans out l = ans (out ++ [l.take k]) (l.drop k) ∧ Ready (out ++ [l.take k]) (l.drop k) := by
  match l, h0 with
  | c :: r, _ =>
    have e1 : (c :: r).drop 1 = r := rfl
    rw [e1] at hk
    have hle : (r.takeWhile nsl).length ≤ r.length := by
      have := congrArg List.length (List.takeWhile_append_dropWhile (p := nsl) (l := r))
      rw [List.length_append] at this
      omega
    have htk : (c :: r).take k = c :: r.takeWhile nsl := by
      rw [hk, List.take_succ_cons, take_tw]
    have hdr : (c :: r).drop k = r.dropWhile nsl := by
      rw [hk, List.drop_succ_cons, drop_tw]
    have hrr : Ready (out ++ [(c :: r).take k]) ((c :: r).drop k) := by
      rw [hdr]
      rcases dw_head r with h | ⟨t, h⟩
      · exact Or.inr (Or.inl h)
      · exact Or.inr (Or.inr (by rw [h]; rfl))
    refine ⟨by omega, by simp; omega, ?_, hrr⟩
    rw [htk, hdr]
    have hw := List.takeWhile_append_dropWhile (p := nsl) (l := r)
    by_cases hc : c = 47
    · subst hc
      refine t_keep_abs out r ?_ ?_
      · intro e
        rw [e] at hw
        rcases dw_head r with h | ⟨t, h⟩
        · rw [h] at hw; exact h4 (by rw [← hw]; rfl)
        · rw [h] at hw; exact pre_no h3 t (by rw [← hw]; rfl)
      · intro e
        rw [e] at hw
        rcases dw_head r with h | ⟨t, h⟩
        · rw [h] at hw; exact h6 (by rw [← hw]; rfl)
        · rw [h] at hw; exact pre_no h5 t (by rw [← hw]; rfl)
    · have ho : out = [] := by
        rcases hr with h | h | h
        · exact h
        · simp at h
        · simp at h; exact absurd h hc
      subst ho
      refine t_keep_rel c r hc ?_ ?_
      · intro e
        have hc46 : c = 46 := (List.cons.inj e).1
        have ht : r.takeWhile nsl = [] := (List.cons.inj e).2
        rw [ht] at hw
        rcases dw_head r with h | ⟨t, h⟩
        · rw [h] at hw; exact h7 (by rw [hc46, ← hw]; rfl)
        · rw [h] at hw; exact pre_no h2 t (by rw [hc46, ← hw]; rfl)
      · intro e
        have hc46 : c = 46 := (List.cons.inj e).1
        have ht : r.takeWhile nsl = [46] := (List.cons.inj e).2
        rw [ht] at hw
        rcases dw_head r with h | ⟨t, h⟩
        · rw [h] at hw; exact h8 (by rw [hc46, ← hw]; rfl)
        · rw [h] at hw; exact pre_no h1 t (by rw [hc46, ← hw]; rfl)

end Go.Proofs.Qxb6604144a.Iri
