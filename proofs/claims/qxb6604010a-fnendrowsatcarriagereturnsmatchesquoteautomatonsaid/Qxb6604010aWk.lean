/-
  THE WALKS of FnEndRowsAtCarriageReturnsMatchesQuoteAutomaton's callees, each by a contract.
-/
import Derived.Test.Qxb6604010aPlain
import Derived.Test.Qxb6604010aShelf
import Derived.WalkKit
import Derived.WalkSpells
import Derived.Below
import Derived.OwnWalk
import Derived.RegionTactic
import Derived.Deep.QuietTactic
import Derived.BigQuiet
import Derived.Outline
import Derived.WalkSmall
namespace Go.Proofs.Qxb6604010a.Cr
open Go.RowKit

theorem Try.info5 : (Try.prog.info? 5).map (fun i => (i.zero, i.size, i.bytes)) = some (some (.int .u8 0), 1, 1) := by kernel_rfl

/-- A row of bytes at the head of block b, free to be written. -/
def RowAt (w : World) (b : Nat) (xs : List Int) : Prop :=
  (∀ i, i < xs.length → w.cell? ⟨b, i, none⟩ = some (.int .u8 (xs[i]?.getD 0))) ∧ ∀ i, w.frozen? ⟨b, i, none⟩ = false

theorem RowAt.store {w : World} {b : Nat} {xs : List Int} (h : RowAt w b xs) (j : Nat) (hj : j < xs.length) (v : Int) : RowAt (w.setCell ⟨b, j, none⟩ (.int .u8 v)) b (xs.set j v) := by
  refine ⟨fun i hi => ?_, fun i => by rw [World.frozen?_setCell]; exact h.2 i⟩
  rw [List.length_set] at hi
  by_cases e : i = j
  · subst e
    rw [World.cell?_setCell_same _ _ _ (h.1 i hi), List.getElem?_set_self hi]; rfl
  · rw [World.cell?_setCell_other _ _ _ _ (by intro q; injection q; omega), List.getElem?_set_ne (by omega)]
    exact h.1 i hi

theorem RowAt.below {w w' : World} {B b : Nat} {xs : List Int} (h : RowAt w b xs) (hb : Below B w w') (hB : b < B) : RowAt w' b xs :=
  ⟨fun i hi => (hb.cell (p := ⟨b, i, none⟩) hB).trans (h.1 i hi), fun i => (hb.frozen (p := ⟨b, i, none⟩) hB).trans (h.2 i)⟩

set_option maxHeartbeats 400000 in
theorem bytes_ok (a : Option Addr) (n c : Nat) (w : World) (hm : n ≤ 1048576) :
    Calls Try.prog 7 #[.slice a n c] w fun e w' => e = .returned (.bool true) ∧ w' = w := by
  go_enter Try.func7, Try.ntmps7
  go_wp2
  go_ret
  exact ⟨rfl, rfl⟩

set_option maxHeartbeats 400000 in
theorem bytes_no (a : Option Addr) (n c : Nat) (w : World) (hm : 1048576 < n) :
    Calls Try.prog 7 #[.slice a n c] w fun e w' => e = .returned (.bool false) ∧ w' = w := by
  go_enter Try.func7, Try.ntmps7
  go_wp2
  go_ret
  exact ⟨rfl, rfl⟩

/-- What 'c := make([]byte, len(b))' and the loop behind it hold at round k. -/
def part (zs : List Int) (k : Nat) : List Int := zs.take k ++ List.replicate (zs.length - k) 0
theorem part_length (zs : List Int) (k : Nat) (h : k ≤ zs.length) : (part zs k).length = zs.length := by simp [part]; omega
theorem part_zero (zs : List Int) : part zs 0 = List.replicate zs.length 0 := by simp [part]
theorem part_full (zs : List Int) : part zs zs.length = zs := by simp [part]
theorem part_set (zs : List Int) (k : Nat) (h : k < zs.length) : (part zs k).set k (zs[k]?.getD 0) = part zs (k + 1) := by
  unfold part
  have hl : (zs.take k).length = k := by simp; omega
  rw [List.set_append_right _ _ (by omega), hl, Nat.sub_self, show zs.length - k = (zs.length - (k + 1)) + 1 by omega, List.replicate_succ, List.set_cons_zero, List.take_succ_eq_append_getElem h, List.getElem?_eq_getElem h]
  simp only [Option.getD_some, List.append_assoc, List.cons_append, List.nil_append]

theorem row_of_owns {w : World} {base g n : Nat} (h : w.ownsRow base 5 1 (.slice (some ⟨g, 0, none⟩) n n) n (madeCells #[Value.int .u8 0] n).toList) : RowAt w g (List.replicate n 0) := by
  refine ⟨fun i hi => ?_, fun i => h.frozenAt i⟩
  rw [List.length_replicate] at hi
  rw [h.cellAt i (by omega)]
  rw [toList_madeCells_one]
  simp [hi]

set_option maxHeartbeats 400000 in
theorem clone_any (x : Addr) (b off n c : Nat) (hx : 0 < n → x = ⟨b, off, none⟩) (zs : List Int) (w : World) (hm : n ≤ 1048576) (hz : zs.length = n) (hb : n = 0 ∨ b < w.heap.size)
    (hc : ∀ i, i < n → w.cell? ⟨b, off + i, none⟩ = some (.int .u8 (zs[i]?.getD 0))) :
    Calls Try.prog 8 #[.slice (some x) n c] w fun e w' => e = .returned (.slice (some ⟨w.heap.size, 0, none⟩) n n) ∧ RowAt w' w.heap.size zs ∧ Below w.heap.size w w' ∧ w.heap.size < w'.heap.size := by
  obtain ⟨i0, hi, hz0, hz1, hz2⟩ := info_parts Try.info5
  have hnil := fun wx => Lib.run_eql_slice_nil (P := Try.prog) wx 22 5 (some x) n c 0 0 Try.underlying22
  go_enter Try.func8, Try.ntmps8
  go_wp2_with (at_make; refine wpList_make_full _ rfl _ _ 22 rfl w.heap.size 5 i0 (.int .u8 0) 1 Try.underlying22 hi hz0 hz1 _ _ _ _ n rfl rfl (by omega) (by omega) ?b2 ?b3 (Nat.le_refl _) ?_)
  case b2 => rw [hz2]; omega
  case b3 => unfold maxLen; omega
  intro w0 hown0 hgrow0
  have hlt := (hown0.lt _ rfl).2
  have hrow := row_of_owns hown0
  have hbel := (Below.refl w.heap.size w).grown hgrow0 (Nat.le_refl _) (fun k h => by cases h)
  clear hown0 hgrow0
  go_wp2
  go_loopw [4] (fun i wr => ∃ k : Nat, k ≤ n ∧ i = .int .i64 k ∧ RowAt wr w.heap.size (part zs k) ∧ Below w.heap.size w wr ∧ w.heap.size < wr.heap.size) (fun i _ => n - (intOf i).toNat)
  case atStart => exact ⟨0, Nat.zero_le _, rfl, by rw [part_zero, hz]; exact hrow, hbel, hlt⟩
  case round =>
    clear hrow hbel hlt hnil
    obtain ⟨k, hk, rfl, hr, hbl, hls⟩ := hrel
    by_cases hlt : k < n
    · obtain rfl := hx (by omega)
      clear hx
      obtain ⟨v, hv⟩ : ∃ v, v = zs[k]?.getD 0 := ⟨_, rfl⟩
      have g1 : wr.cell? ⟨b, off + k, none⟩ = some (.int .u8 v) := by
        rw [hbl.cell (p := ⟨b, off + k, none⟩) (by simp only; omega), hv]; exact hc k hlt
      have g2 : ∃ u, wr.cell? ⟨w.heap.size, k, none⟩ = some u := ⟨_, hr.1 k (by rw [part_length] <;> omega)⟩
      obtain ⟨u, g2⟩ := g2
      have g3 := hr.2 k
      have hs := hr.store k (by rw [part_length] <;> omega) v
      rw [hv, part_set zs k (by omega), ← hv] at hs
      have hb2 := hbl.setCell (p := ⟨w.heap.size, k, none⟩) (Nat.le_refl _) (.int .u8 v)
      have H : Hid (RowAt (wr.setCell ⟨w.heap.size, k, none⟩ (.int .u8 v)) w.heap.size (part zs (k + 1)) ∧ Below w.heap.size w (wr.setCell ⟨w.heap.size, k, none⟩ (.int .u8 v))) := ⟨hs, hb2⟩
      clear hs hb2 hr hbl hc hv
      go_wp2
      go_roundw
      case rel => exact ⟨k + 1, by omega, by go_num, H.out.1, H.out.2, by simpa using hls⟩
      case measure => simp [intOf]; omega
    · have e : k = n := by omega
      subst e
      go_wp2
      go_ret
      exact ⟨rfl, by rw [← hz, part_full] at hr; exact hr, hbl, hls⟩

set_option maxHeartbeats 400000 in
theorem clone_nil (w : World) : Calls Try.prog 8 #[.slice none 0 0] w fun e w' => e = .returned (.slice none 0 0) ∧ w' = w := by
  have hnil := fun wx => Lib.run_eql_slice_nil (P := Try.prog) wx 22 5 none 0 0 0 0 Try.underlying22
  go_enter Try.func8, Try.ntmps8
  go_wp2
  go_ret
  exact ⟨rfl, rfl⟩

set_option maxHeartbeats 400000 in
theorem equal_any (a1 a2 : Option Addr) (b1 o1 b2 o2 n c1 c2 : Nat) (zs : List Int) (w : World) (hm : n ≤ 1048576)
    (h1 : 0 < n → a1 = some ⟨b1, o1, none⟩ ∧ ∀ i, i < n → w.cell? ⟨b1, o1 + i, none⟩ = some (.int .u8 (zs[i]?.getD 0)))
    (h2 : 0 < n → a2 = some ⟨b2, o2, none⟩ ∧ ∀ i, i < n → w.cell? ⟨b2, o2 + i, none⟩ = some (.int .u8 (zs[i]?.getD 0))) :
    Calls Try.prog 10 #[.slice a1 n c1, .slice a2 n c2] w fun e w' => e = .returned (.bool true) ∧ Below w.heap.size w w' := by
  go_enter Try.func10, Try.ntmps10
  go_wp2
  go_loopw [5] (fun i wr => ∃ k : Nat, k ≤ n ∧ i = .int .i64 k ∧ Below w.heap.size w wr) (fun i _ => n - (intOf i).toNat)
  case atStart => exact ⟨0, Nat.zero_le _, rfl, Below.refl _ _⟩
  case round =>
    obtain ⟨k, hk, rfl, hbl⟩ := hrel
    by_cases hlt : k < n
    · obtain ⟨rfl, q1⟩ := h1 (by omega)
      obtain ⟨rfl, q2⟩ := h2 (by omega)
      obtain ⟨v, hv⟩ : ∃ v, v = zs[k]?.getD 0 := ⟨_, rfl⟩
      have g1 : wr.cell? ⟨b1, o1 + k, none⟩ = some (.int .u8 v) := by
        rw [hbl.cell (p := ⟨b1, o1 + k, none⟩) (World.block_lt_of_cell? _ _ (q1 k hlt)), hv]; exact q1 k hlt
      have g2 : wr.cell? ⟨b2, o2 + k, none⟩ = some (.int .u8 v) := by
        rw [hbl.cell (p := ⟨b2, o2 + k, none⟩) (World.block_lt_of_cell? _ _ (q2 k hlt)), hv]; exact q2 k hlt
      have hki : (k : Int) < n := by omega
      clear h1 h2 q1 q2 hv
      go_wp2
      go_quiet (fail)
      go_wp2
      go_roundw
      case rel => exact ⟨k + 1, by omega, by go_num, below_drewN hbl _⟩
      case measure => simp [intOf]; omega
    · have e : k = n := by omega
      subst e
      go_wp2
      go_ret
      exact ⟨rfl, hbl⟩

end Go.Proofs.Qxb6604010a.Cr
