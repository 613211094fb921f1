/-
  MERGE: the base's path up to its last slash; zzMerge (function 31) by its contract.
-/
import Derived.Test.Qxb6604144aZr
import Derived.Test.Qxb6604144aBk
import Derived.Test.Qxb6604144aSl
import Derived.Lib.LastIndexByte
namespace Go.Proofs.Qxb6604144a.Iri
open Go.RowKit

/-- A text up to its last slash, that included. -/
def upTo (l : List UInt8) : List UInt8 := (l.reverse.dropWhile nsl).reverse
theorem upTo_nil : upTo [] = [] := rfl
theorem upTo_hit (l : List UInt8) : upTo (l ++ [47]) = l ++ [47] := by simp [upTo, nsl]
theorem upTo_pass (l : List UInt8) (c : UInt8) (h : c ≠ 47) : upTo (l ++ [c]) = upTo l := by
  have hn : nsl c = true := by unfold nsl; rw [bne_iff_ne]; exact h
  simp [upTo, hn]
theorem upTo_app (a b : List UInt8) (h : ∀ c ∈ b, nsl c = true) : upTo (a ++ b) = upTo a := by
  unfold upTo
  rw [List.reverse_append, (tw_app (p := nsl) (fun c hc => h c (List.mem_reverse.1 hc))).2]

def mg (x : Bool) (b r : List UInt8) : List UInt8 := if x = true ∧ b = [] then 47 :: r else upTo b ++ r

theorem take_snoc {l : List UInt8} {i : Nat} {x : UInt8} (h : l[i]? = some x) : l.take (i + 1) = l.take i ++ [x] := by
  have hl : i < l.length := by
    rcases Nat.lt_or_ge i l.length with h' | h'
    · exact h'
    · rw [List.getElem?_eq_none h'] at h; simp at h
  rw [List.take_succ_eq_append_getElem hl]
  rw [List.getElem?_eq_getElem hl] at h
  rw [Option.some.inj h]

/-- The scan for the last slash: n is the place behind it, among the first i. -/
def Up (l : List UInt8) (i n : Nat) : Prop := n ≤ i ∧ upTo (l.take i) = l.take n
theorem Up.hit {l : List UInt8} {i : Nat} (h : l[i]? = some 47) : Up l (i + 1) (i + 1) := by
  refine ⟨Nat.le_refl _, ?_⟩
  rw [take_snoc h, upTo_hit]
theorem Up.pass {l : List UInt8} {i n : Nat} {x : UInt8} (hu : Up l i n) (h : l[i]? = some x) (hx : x ≠ 47) : Up l (i + 1) n := by
  refine ⟨by have := hu.1; omega, ?_⟩
  rw [take_snoc h, upTo_pass _ _ hx]
  exact hu.2

theorem last_up (s : ByteArray) : ∃ n : Nat, Lib.lastIndexByte s 47 = (n : Int) - 1 ∧ n ≤ s.size ∧ upTo s.data.toList = s.data.toList.take n := by
  have hat : ∀ j, j < s.size → ∀ c, s.data.toList[j]? = some c → s.data[j]! = c := by
    intro j hj c hc
    have h2 : s.data[j]? = some c := by rw [← hc]; simp
    simp [Array.getElem!_eq_getD, Array.getD_eq_getD_getElem?, h2]
  have hno : ∀ k, (∀ j, k ≤ j → j < s.size → ((s.data[j]!).toNat : Int) ≠ 47) → ∀ c ∈ s.data.toList.drop k, nsl c = true := by
    intro k hk c hc
    obtain ⟨m, hm, e⟩ := List.getElem_of_mem hc
    rw [List.getElem_drop] at e
    rw [List.length_drop] at hm
    have hm2 : k + m < s.data.toList.length := by omega
    have h1 : s.data.toList[k + m]? = some c := by rw [List.getElem?_eq_getElem hm2, e]
    have hms : k + m < s.size := by rw [Lib.size_eq]; exact hm2
    have h2 := hk (k + m) (by omega) hms
    rw [hat _ hms _ h1] at h2
    unfold nsl
    rw [bne_iff_ne]
    intro h3
    subst h3
    exact h2 rfl
  rcases Lib.lastIndexByte_spec s 47 with ⟨e, h⟩ | ⟨i, hi, e, hc, h⟩
  · refine ⟨0, by rw [e]; rfl, Nat.zero_le _, ?_⟩
    have h2 := upTo_app [] s.data.toList (by have := hno 0 (fun j _ hj => h j hj); simpa using this)
    simpa [upTo_nil] using h2
  · refine ⟨i + 1, by rw [e]; omega, hi, ?_⟩
    have hl : i < s.data.toList.length := by rw [← Lib.size_eq]; exact hi
    have h47 : s.data.toList[i]? = some 47 := by
      have h1 := hat i hi _ (List.getElem?_eq_getElem hl)
      rw [h1] at hc
      rw [List.getElem?_eq_getElem hl]
      congr 1
      exact UInt8.toNat_inj.1 (by show _ = 47; omega)
    conv => lhs; rw [← List.take_append_drop (i + 1) s.data.toList]
    rw [upTo_app _ _ (hno (i + 1) (fun j h1 h2 => h j (by omega) h2))]
    exact (Up.hit h47).2

theorem empty_yes {s : ByteArray} (h : s.data.toList = []) : s.toList.isEmpty = true := by rw [Lib.toList_data, h]; rfl
theorem empty_no {s : ByteArray} (h : s.data.toList ≠ []) : s.toList.isEmpty = false := by
  rw [Lib.toList_data]
  cases h' : s.data.toList with
  | nil => exact absurd h' h
  | cons _ _ => rfl

set_option maxHeartbeats 4000000 in
set_option maxRecDepth 100000 in
theorem merge_any (a b c d f : ByteArray) (x y z : Bool) (s : ByteArray) (w : World) (hs : c.size ≤ 1048576 ∧ s.size ≤ 1048576) :
    Calls Try.prog 31 #[agg8 a b c d f x y z, .string s] w fun e w' => ∃ r : ByteArray, e = .returned (.string r) ∧ r.data.toList = mg x c.data.toList s.data.toList ∧ Below w.heap.size w w' := by
  obtain ⟨hc, hs⟩ := hs
  have HB : Hid (Below w.heap.size w (w.alloc (.cells (cells8 a b c d f x y z) 27))) := (Below.refl _ w).alloc (Nat.le_refl _) _
  have HZ := hid (Lib.size_eq c)
  obtain ⟨M, hM⟩ : ∃ M, mg x c.data.toList s.data.toList = M := ⟨_, rfl⟩
  rw [hM]
  by_cases hx : x = true ∧ c.data.toList = []
  · have HR : Hid ((⟨#[47]⟩ ++ s : ByteArray).data.toList = M) := by
      rw [← hM]
      unfold mg
      rw [if_pos hx, Joins.data_append]
      rfl
    have q := empty_yes hx.2
    clear hM
    obtain ⟨rfl, _⟩ := hx
    go_enter Try.func31, Try.ntmps31
    go_wp2
    go_ret
    exact ⟨_, rfl, HR.out, HB.out⟩
  · have HM : Hid (M = upTo c.data.toList ++ s.data.toList) := show M = upTo c.data.toList ++ s.data.toList by
      rw [← hM]
      unfold mg
      rw [if_neg hx]
    clear hM
    have hq : x = false ∨ (x = true ∧ c.toList.isEmpty = false) := by
      cases x
      · exact Or.inl rfl
      · exact Or.inr ⟨rfl, empty_no (fun h => hx ⟨rfl, h⟩)⟩
    clear hx
    have HQ := hid hq
    go_enter Try.func31, Try.ntmps31
    rcases hq with rfl | ⟨rfl, q⟩
    all_goals
      clear HQ
      go_wp2
      go_loop [5, 6] (fun v5 v6 => ∃ i n : Nat, i ≤ c.size ∧ v5 = .int .i64 ((n : Int) - 1) ∧ v6 = .int .i64 i ∧ Up c.data.toList i n) (fun v5 v6 => c.size - (intOf v6).toNat)
      case atStart => exact ⟨0, 0, by omega, by go_num, by go_num, Nat.le_refl _, rfl⟩
      case round =>
        obtain ⟨i, n, hi, rfl, rfl, hu⟩ := hrel
        have HU := hid hu
        have hn := hu.1
        clear hu
        by_cases hlt : i < c.size
        · have z1 : (i : Int) < c.size := by omega
          obtain ⟨u, hu⟩ : ∃ u, c[i] = u := ⟨_, rfl⟩
          have HX := hid (Lib.data_getElem? c i hlt)
          rw [hu] at HX
          by_cases h47 : u = 47
          · have q1 : ((u.toNat : Int) == 47) = true := by rw [h47]; rfl
            rw [h47] at HX
            clear h47
            go_wp2
            go_round
            case rel => exact ⟨i + 1, i + 1, by omega, by go_num, by go_num, Up.hit HX.out⟩
            case measure => simp [intOf]; omega
          · have q1 : ((u.toNat : Int) == 47) = false := by
              rw [beq_eq_false_iff_ne]
              intro e
              exact h47 (UInt8.toNat_inj.1 (by show _ = 47; omega))
            have H2 := hid (HU.out.pass HX.out h47)
            clear h47
            go_wp2
            go_round
            case rel => exact ⟨i + 1, n, by omega, by go_num, by go_num, H2.out⟩
            case measure => simp [intOf]; omega
        · have z1 : ¬ (i : Int) < c.size := by omega
          obtain rfl : i = c.size := by omega
          have z2 : (n : Int) - 1 + 1 = n := by omega
          have z3 : (n : Int) ≤ c.size := by omega
          have HR : Hid ((c.extract 0 n ++ s : ByteArray).data.toList = M) := show (c.extract 0 n ++ s : ByteArray).data.toList = M by
            rw [Joins.data_append, HM.out]
            have h2 := HU.out.2
            rw [List.take_of_length_le (by rw [← HZ.out]; exact Nat.le_refl _)] at h2
            rw [h2, Lib.extract_data]
            simp
          go_wp2
          go_ret
          exact ⟨_, rfl, HR.out, HB.out⟩

end Go.Proofs.Qxb6604144a.Iri
