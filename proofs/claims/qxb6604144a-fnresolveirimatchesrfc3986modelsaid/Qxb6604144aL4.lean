/-
  ZZSplitIRI (function 12) by its contract; the bounds on lengths (functions 8, 11, 14).
-/
import Derived.Test.Qxb6604144aSi
namespace Go.Proofs.Qxb6604144a.Iri
open Go.RowKit

theorem ba_ext {a b : ByteArray} (h : a.data.toList = b.data.toList) : a = b := by
  cases a; cases b; simp at h; rw [h]

theorem Is.eqs {p : Pt} {a b c d f a' b' c' d' f' : ByteArray} {x y z x' y' z' : Bool} (h : Is p a b c d f x y z) (h' : Is p a' b' c' d' f' x' y' z') : a' = a ∧ b' = b ∧ c' = c ∧ d' = d ∧ f' = f ∧ x' = x ∧ y' = y ∧ z' = z :=
  ⟨ba_ext (h'.1.symm.trans h.1), ba_ext (h'.2.1.symm.trans h.2.1), ba_ext (h'.2.2.1.symm.trans h.2.2.1), ba_ext (h'.2.2.2.1.symm.trans h.2.2.2.1), ba_ext (h'.2.2.2.2.1.symm.trans h.2.2.2.2.1),
    h'.2.2.2.2.2.1.symm.trans h.2.2.2.2.2.1, h'.2.2.2.2.2.2.1.symm.trans h.2.2.2.2.2.2.1, h'.2.2.2.2.2.2.2.symm.trans h.2.2.2.2.2.2.2⟩

set_option maxHeartbeats 4000000 in
set_option maxRecDepth 100000 in
theorem zzsplitIRI_any (s : ByteArray) (w : World) (hs : s.size ≤ 1048576) :
    Calls Try.prog 12 #[.string s] w fun e w' => ∃ (a b c d f : ByteArray) (x y z : Bool), e = .returned (.tuple #[.string a, .string b, .string c, .string d, .string f, .bool x, .bool y, .bool z]) ∧ Is (split s.data.toList) a b c d f x y z ∧ Below w.heap.size w w' := by
  have HI := hid (splitIRI_any s w hs)
  rw [split_split2] at HI
  go_enter Try.func12, Try.ntmps12
  go_wp2_with (go_at_call 24; refine HI.out.mono ?_; rintro e w1 ⟨a, b, c, d, f, x, y, z, rfl, his, hb1⟩; have HS := hid (And.intro his hb1); clear his hb1)
  go_quiet (fail)
  go_wp2
  refine bodyPost_ret (v := .tuple #[.string a, .string b, .string c, .string d, .string f, .bool x, .bool y, .bool z]) (by simp [results, Try.results12]) rfl ?_
  exact ⟨_, _, _, _, _, _, _, _, rfl, HS.out.1, below_drewN (HS.out.2.alloc HS.out.2.size _) _⟩

set_option maxHeartbeats 400000 in
theorem bytes11_ok (s : ByteArray) (w : World) (hm : s.size ≤ 1048576) : Calls Try.prog 11 #[.string s] w fun e w' => e = .returned (.bool true) ∧ w' = w := by
  go_enter Try.func11, Try.ntmps11
  go_wp2
  go_ret
  exact ⟨rfl, rfl⟩
set_option maxHeartbeats 400000 in
theorem bytes11_no (s : ByteArray) (w : World) (hm : 1048576 < s.size) : Calls Try.prog 11 #[.string s] w fun e w' => e = .returned (.bool false) ∧ w' = w := by
  go_enter Try.func11, Try.ntmps11
  go_wp2
  go_ret
  exact ⟨rfl, rfl⟩
set_option maxHeartbeats 400000 in
theorem bytes14_ok (s : ByteArray) (w : World) (hm : s.size ≤ 1048576) : Calls Try.prog 14 #[.string s] w fun e w' => e = .returned (.bool true) ∧ w' = w := by
  go_enter Try.func14, Try.ntmps14
  go_wp2
  go_ret
  exact ⟨rfl, rfl⟩
set_option maxHeartbeats 400000 in
theorem bytes14_no (s : ByteArray) (w : World) (hm : 1048576 < s.size) : Calls Try.prog 14 #[.string s] w fun e w' => e = .returned (.bool false) ∧ w' = w := by
  go_enter Try.func14, Try.ntmps14
  go_wp2
  go_ret
  exact ⟨rfl, rfl⟩
set_option maxHeartbeats 400000 in
theorem bytes8_ok (s : ByteArray) (w : World) (hm : s.size ≤ 1048576) : Calls Try.prog 8 #[.string s] w fun e w' => e = .returned (.bool true) ∧ w' = w := by
  go_enter Try.func8, Try.ntmps8
  go_wp2
  go_ret
  exact ⟨rfl, rfl⟩
set_option maxHeartbeats 400000 in
theorem bytes8_no (s : ByteArray) (w : World) (hm : 1048576 < s.size) : Calls Try.prog 8 #[.string s] w fun e w' => e = .returned (.bool false) ∧ w' = w := by
  go_enter Try.func8, Try.ntmps8
  go_wp2
  go_ret
  exact ⟨rfl, rfl⟩

end Go.Proofs.Qxb6604144a.Iri
