/-
  RESOLVING: the plain part ('res': the parts of the reference resolved against the base's), and three blocks of eight cells in memory.
-/
import Derived.Test.Qxb6604144aMg
import Derived.Test.Qxb6604144aSt
namespace Go.Proofs.Qxb6604144a.Iri
open Go.RowKit

theorem drop_len (out : List Bs) : out.dropLast.flatten.length ≤ out.flatten.length := by
  rcases List.eq_nil_or_concat out with rfl | ⟨l, b, rfl⟩
  · simp
  · simp
theorem stk_len : ∀ (r out : List Bs), (stk out r).flatten.length ≤ out.flatten.length + (r.map List.length).sum + r.length
  | [], out => by simp [stk]
  | s :: r, out => by
    unfold stk
    have hd := drop_len out
    split
    · refine Nat.le_trans (stk_len r _) ?_
      rw [List.map_cons, List.sum_cons, List.length_cons]
      split
      · rw [List.flatten_append, List.length_append]; have h47 : ([[47]] : List Bs).flatten.length = 1 := rfl; omega
      · omega
    · split
      · refine Nat.le_trans (stk_len r _) ?_
        rw [List.map_cons, List.sum_cons, List.length_cons]
        split
        · rw [List.flatten_append, List.length_append]; have h47 : ([[47]] : List Bs).flatten.length = 1 := rfl; omega
        · omega
      · refine Nat.le_trans (stk_len r _) ?_
        rw [List.map_cons, List.sum_cons, List.length_cons, List.flatten_append, List.length_append]
        simp
        omega
theorem lead_len : ∀ (r : List Bs), (lead r).length ≤ (r.map List.length).sum + r.length
  | [] => by simp [lead]
  | s :: r => by
    unfold lead
    rw [List.map_cons, List.sum_cons, List.length_cons]
    split
    · split
      · simp
      · omega
    · split
      · refine Nat.le_trans (lead_len r) ?_
        omega
      · refine Nat.le_trans (stk_len r _) ?_
        split
        · have h0 : ([] : List Bs).flatten.length = 0 := rfl
          omega
        · have h0 : ([s] : List Bs).flatten.length = s.length := by simp
          omega
theorem ans_len (l : Bs) : (ans [] l).length ≤ l.length + 1 := by
  cases l with
  | nil => simp [ans]
  | cons c r =>
    by_cases h : c = 47
    · subst h
      rw [ans_abs]
      have h1 := stk_len (segsOf r) []
      have h2 := segs_total r
      simp at h1 ⊢
      omega
    · rw [ans_rel _ _ _ h]
      have h1 := lead_len (segsOf (c :: r))
      have h2 := segs_total (c :: r)
      omega

theorem upTo_len (l : Bs) : (upTo l).length ≤ l.length := by
  unfold upTo
  rw [List.length_reverse]
  exact Nat.le_trans (dw_le _ _) (by rw [List.length_reverse]; exact Nat.le_refl _)
theorem mg_len (x : Bool) (b r : Bs) : (mg x b r).length ≤ b.length + r.length + 1 := by
  unfold mg
  split
  · simp
  · rw [List.length_append]; have := upTo_len b; omega

/-- The parts of the reference R resolved against the base's parts B. -/
def res (B R : Pt) : Pt :=
  if R.scheme ≠ [] then ⟨R.scheme, R.auth, ans [] R.path, R.query, R.frag, R.hasA, R.hasQ, R.hasF⟩
  else if R.hasA = true then ⟨B.scheme, R.auth, ans [] R.path, R.query, R.frag, R.hasA, R.hasQ, R.hasF⟩
  else if R.path = [] then
    (if R.hasQ = true then ⟨B.scheme, B.auth, B.path, R.query, R.frag, B.hasA, R.hasQ, R.hasF⟩ else ⟨B.scheme, B.auth, B.path, B.query, R.frag, B.hasA, B.hasQ, R.hasF⟩)
  else if R.path.head? = some 47 then ⟨B.scheme, B.auth, ans [] R.path, R.query, R.frag, B.hasA, R.hasQ, R.hasF⟩
  else ⟨B.scheme, B.auth, ans [] (mg B.hasA B.path R.path), R.query, R.frag, B.hasA, R.hasQ, R.hasF⟩

section
variable {B R : Pt} {a b c d f a' b' c' d' f' p : ByteArray} {x y z x' y' z' : Bool}
theorem res1 (h : Is R a b c d f x y z) (ha : a.data.toList ≠ []) (hp : p.data.toList = ans [] c.data.toList) : Is (res B R) a b p d f x y z := by
  obtain ⟨h1, h2, h3, h4, h5, h6, h7, h8⟩ := h
  have e : res B R = ⟨R.scheme, R.auth, ans [] R.path, R.query, R.frag, R.hasA, R.hasQ, R.hasF⟩ := by unfold res; rw [if_pos (by rw [h1]; exact ha)]
  rw [e]
  exact ⟨h1, h2, by rw [hp, ← h3], h4, h5, h6, h7, h8⟩
theorem res2 (h : Is R a b c d f true y z) (k : Is B a' b' c' d' f' x' y' z') (ha : a.data.toList = []) (hp : p.data.toList = ans [] c.data.toList) : Is (res B R) a' b p d f true y z := by
  obtain ⟨h1, h2, h3, h4, h5, h6, h7, h8⟩ := h
  obtain ⟨k1, k2, k3, k4, k5, k6, k7, k8⟩ := k
  have e : res B R = ⟨B.scheme, R.auth, ans [] R.path, R.query, R.frag, R.hasA, R.hasQ, R.hasF⟩ := by unfold res; rw [if_neg (by rw [h1, ha]; simp), if_pos h6]
  rw [e]
  exact ⟨k1, h2, by rw [hp, ← h3], h4, h5, h6, h7, h8⟩
theorem res3 (h : Is R a b c d f false true z) (k : Is B a' b' c' d' f' x' y' z') (ha : a.data.toList = []) (hc : c.data.toList = []) : Is (res B R) a' b' c' d f x' true z := by
  obtain ⟨h1, h2, h3, h4, h5, h6, h7, h8⟩ := h
  obtain ⟨k1, k2, k3, k4, k5, k6, k7, k8⟩ := k
  have e : res B R = ⟨B.scheme, B.auth, B.path, R.query, R.frag, B.hasA, R.hasQ, R.hasF⟩ := by unfold res; rw [if_neg (by rw [h1, ha]; simp), if_neg (by rw [h6]; simp), if_pos (by rw [h3, hc]), if_pos h7]
  rw [e]
  exact ⟨k1, k2, k3, h4, h5, k6, h7, h8⟩
theorem res4 (h : Is R a b c d f false false z) (k : Is B a' b' c' d' f' x' y' z') (ha : a.data.toList = []) (hc : c.data.toList = []) : Is (res B R) a' b' c' d' f x' y' z := by
  obtain ⟨h1, h2, h3, h4, h5, h6, h7, h8⟩ := h
  obtain ⟨k1, k2, k3, k4, k5, k6, k7, k8⟩ := k
  have e : res B R = ⟨B.scheme, B.auth, B.path, B.query, R.frag, B.hasA, B.hasQ, R.hasF⟩ := by unfold res; rw [if_neg (by rw [h1, ha]; simp), if_neg (by rw [h6]; simp), if_pos (by rw [h3, hc]), if_neg (by rw [h7]; simp)]
  rw [e]
  exact ⟨k1, k2, k3, k4, h5, k6, k7, h8⟩
theorem res5 (h : Is R a b c d f false y z) (k : Is B a' b' c' d' f' x' y' z') (ha : a.data.toList = []) (hc : c.data.toList ≠ []) (hh : c.data.toList.head? = some 47) (hp : p.data.toList = ans [] c.data.toList) : Is (res B R) a' b' p d f x' y z := by
  obtain ⟨h1, h2, h3, h4, h5, h6, h7, h8⟩ := h
  obtain ⟨k1, k2, k3, k4, k5, k6, k7, k8⟩ := k
  have e : res B R = ⟨B.scheme, B.auth, ans [] R.path, R.query, R.frag, B.hasA, R.hasQ, R.hasF⟩ := by unfold res; rw [if_neg (by rw [h1, ha]; simp), if_neg (by rw [h6]; simp), if_neg (by rw [h3]; exact hc), if_pos (by rw [h3]; exact hh)]
  rw [e]
  exact ⟨k1, k2, by rw [hp, ← h3], h4, h5, k6, h7, h8⟩
theorem res6 (h : Is R a b c d f false y z) (k : Is B a' b' c' d' f' x' y' z') (ha : a.data.toList = []) (hc : c.data.toList ≠ []) (hh : c.data.toList.head? ≠ some 47) (hp : p.data.toList = ans [] (mg x' c'.data.toList c.data.toList)) : Is (res B R) a' b' p d f x' y z := by
  obtain ⟨h1, h2, h3, h4, h5, h6, h7, h8⟩ := h
  obtain ⟨k1, k2, k3, k4, k5, k6, k7, k8⟩ := k
  have e : res B R = ⟨B.scheme, B.auth, ans [] (mg B.hasA B.path R.path), R.query, R.frag, B.hasA, R.hasQ, R.hasF⟩ := by unfold res; rw [if_neg (by rw [h1, ha]; simp), if_neg (by rw [h6]; simp), if_neg (by rw [h3]; exact hc), if_neg (by rw [h3]; exact hh)]
  rw [e]
  exact ⟨k1, k2, by rw [hp, ← h3, ← k3, ← k6], h4, h5, k6, h7, h8⟩
/-- A reference with a scheme and no dot in its path stays as it is. -/
theorem res_same {l : Bs} (h : Is (split l) a b c d f x y z) (ha : a.data.toList ≠ []) (hd : (46 : UInt8) ∉ c.data.toList) : join (res B (split l)) = l := by
  have h2 := res1 (B := B) (p := c) h ha (by rw [ans_plain _ hd])
  rw [join_is h2, ← join_is h, join_split]
theorem is_len {l : Bs} {n : Nat} (h : Is (split l) a b c d f x y z) (hl : l.length ≤ n) : a.size ≤ n ∧ b.size ≤ n ∧ c.size ≤ n ∧ d.size ≤ n ∧ f.size ≤ n := by
  obtain ⟨h1, h2, h3, h4, h5, _⟩ := h
  obtain ⟨g1, g2, g3, g4, g5⟩ := split_len l
  rw [h1, ← Lib.size_eq] at g1
  rw [h2, ← Lib.size_eq] at g2
  rw [h3, ← Lib.size_eq] at g3
  rw [h4, ← Lib.size_eq] at g4
  rw [h5, ← Lib.size_eq] at g5
  omega
end

/-- Three blocks, the middle one in the making. -/
def St (w wx : World) (t : TypeId) (g1 g2 g3 : Nat) (k1 k2 k3 : Array Value) : Prop :=
  (Blk wx g1 k1 t ∧ Blk wx g2 k2 t ∧ Blk wx g3 k3 t) ∧ Below w.heap.size w wx ∧ (w.heap.size ≤ g1 ∧ w.heap.size ≤ g2 ∧ w.heap.size ≤ g3) ∧ (g1 ≠ g2 ∧ g1 ≠ g3 ∧ g2 ≠ g3)

section
variable {w wx wy : World} {t : TypeId} {g1 g2 g3 : Nat} {k1 k2 k3 k2' : Array Value}
theorem St.set (h : St w wx t g1 g2 g3 k1 k2 k3) {j : Nat} {v : Value} (hk : k2.setIfInBounds j v = k2') : St w (wx.setCell ⟨g2, j, none⟩ v) t g1 g2 g3 k1 k2' k3 := by
  subst hk
  obtain ⟨⟨h1, h2, h3⟩, hb, hle, hne⟩ := h
  exact ⟨⟨h1.other hne.1, h2.same v, h3.other (Ne.symm hne.2.2)⟩, hb.setCell hle.2.1 _, hle, hne⟩
theorem St.call (h : St w wx t g1 g2 g3 k1 k2 k3) (hb : Below wx.heap.size wx wy) : St w wy t g1 g2 g3 k1 k2 k3 := by
  obtain ⟨⟨h1, h2, h3⟩, hb0, hle, hne⟩ := h
  exact ⟨⟨h1.below hb h1.lt, h2.below hb h2.lt, h3.below hb h3.lt⟩, hb0.trans (hb.mono hb0.size), hle, hne⟩
theorem St.drew (h : St w wx t g1 g2 g3 k1 k2 k3) : St w wx.drew t g1 g2 g3 k1 k2 k3 := ⟨h.1, h.2.1.drew, h.2.2⟩
theorem St.drewN (h : St w wx t g1 g2 g3 k1 k2 k3) (n : Nat) : St w (wx.drewN n) t g1 g2 g3 k1 k2 k3 := ⟨h.1, below_drewN h.2.1 n, h.2.2⟩
theorem St.all (h : St w wx t g1 g2 g3 k1 k2 k3) (hk : k2.size = 8) {v0 v1 v2 v3 v4 v5 v6 v7 : Value} :
    St w ((((((((wx.setCell ⟨g2, 0, none⟩ v0).setCell ⟨g2, 1, none⟩ v1).setCell ⟨g2, 2, none⟩ v2).setCell ⟨g2, 3, none⟩ v3).setCell ⟨g2, 4, none⟩ v4).setCell ⟨g2, 5, none⟩ v5).setCell ⟨g2, 6, none⟩ v6).setCell ⟨g2, 7, none⟩ v7) t g1 g2 g3 k1 #[v0, v1, v2, v3, v4, v5, v6, v7] k3 := by
  have h8 := (((((((h.set (j := 0) (v := v0) rfl).set (j := 1) (v := v1) rfl).set (j := 2) (v := v2) rfl).set (j := 3) (v := v3) rfl).set (j := 4) (v := v4) rfl).set (j := 5) (v := v5) rfl).set (j := 6) (v := v6) rfl).set (j := 7) (v := v7) rfl
  obtain ⟨⟨h1, _, h3⟩, hb, hle, hne⟩ := h8
  exact ⟨⟨h1, stored8 h.1.2.1 hk, h3⟩, hb, hle, hne⟩
end

theorem cells_of {wx : World} {g : Nat} {t : TypeId} {a b c d f : ByteArray} {x y z : Bool} (h : Blk wx g (cells8 a b c d f x y z) t) :
    wx.cell? ⟨g, 0, none⟩ = some (.string a) ∧ wx.cell? ⟨g, 1, none⟩ = some (.string b) ∧ wx.cell? ⟨g, 2, none⟩ = some (.string c) ∧ wx.cell? ⟨g, 3, none⟩ = some (.string d) ∧ wx.cell? ⟨g, 4, none⟩ = some (.string f) ∧
    wx.cell? ⟨g, 5, none⟩ = some (.bool x) ∧ wx.cell? ⟨g, 6, none⟩ = some (.bool y) ∧ wx.cell? ⟨g, 7, none⟩ = some (.bool z) := by
  have hc := h.cell
  exact ⟨hc 0, hc 1, hc 2, hc 3, hc 4, hc 5, hc 6, hc 7⟩

end Go.Proofs.Qxb6604144a.Iri
