import Derived.Test.Qxb6002383aRows
import Derived.WalkKit
import Derived.ProofKit
import Derived.OwnWalk
import Derived.WalkSpells
import Derived.WalkLawsBesides
import Derived.OpenShut
namespace Go.Proofs.Qxb6002383a
open Go.RowKit

theorem info5 : (Try.prog.info? 5).map (fun i => (i.zero, i.size, i.bytes)) = some (some (.int .u8 0), 1, 1) := by kernel_rfl
theorem ret_bool {a b : Bool} (h : a = b) : Ending.returned (.bool a) = .returned (.bool b) := by rw [h]
theorem ret_int {k : IntKind} {a b : Int} (h : a = b) : Ending.returned (.int k a) = .returned (.int k b) := by rw [h]

def part (xs : List Int) (n k : Nat) : List Value := (xs.take k).map (Value.int .u8) ++ List.replicate (n - k) (.int .u8 0)
theorem part_zero (xs : List Int) (n : Nat) : (madeCells (Value.int .u8 0).cells (n * 1)).toList = part xs n 0 := by
  unfold part
  have : (Value.int .u8 0).cells = #[.int .u8 0] := rfl
  rw [this, toList_madeCells_one]
  simp
theorem part_full (xs : List Int) (n : Nat) (h : xs.length = n) : part xs n n = xs.map (Value.int .u8) := by
  unfold part
  rw [List.take_of_length_le (by omega)]
  simp
theorem part_step (xs : List Int) (n k : Nat) (h : xs.length = n) (hk : k < n) : (part xs n k).set k (.int .u8 (xs.getD k 0)) = part xs n (k + 1) := by
  unfold part
  have e1 : n - k = (n - (k + 1)) + 1 := by omega
  have hl : ((xs.take k).map (Value.int .u8)).length = k := by simp; omega
  rw [List.set_append_right _ _ (by omega), hl, Nat.sub_self, e1, List.replicate_succ, List.set_cons_zero]
  rw [List.take_succ_eq_append_getElem (by omega), List.map_append, List.append_assoc]
  congr 1
  simp [List.getD_eq_getElem?_getD, List.getElem?_eq_getElem (show k < xs.length by omega)]
theorem part_at (xs : List Int) (n k : Nat) (h : xs.length = n) (hk : k < n) : ∃ v, (part xs n k)[k]? = some (.int .u8 v) := by
  unfold part
  have hl : ((xs.take k).map (Value.int .u8)).length = k := by simp; omega
  rw [List.getElem?_append_right (by omega), hl, Nat.sub_self]
  exact ⟨0, by rw [List.getElem?_replicate, if_pos (by omega)]⟩

theorem own_step {w : World} {B : Nat} {xs : List Int} {n k : Nat} (h : xs.length = n) (hk : k < n) (ho : w.ownsRow B 5 1 (.slice (some ⟨B, 0, none⟩) n n) n (part xs n k)) :
    (w.setCell ⟨B, k, none⟩ (.int .u8 (xs[k]?.getD 0))).ownsRow B 5 1 (.slice (some ⟨B, 0, none⟩) n n) n (part xs n (k + 1)) := by
  have := (ho.stored k (.int .u8 (xs.getD k 0))).1
  rw [part_step xs n k h hk] at this
  rw [← List.getD_eq_getElem?_getD]
  exact this

set_option maxHeartbeats 400000 in
theorem copy_nil (w : World) : Calls Try.prog 20 #[.slice none 0 0] w fun e w' => e = .returned (.slice none 0 0) ∧ w' = w := by
  have q36 := fun (w : World) (a : Option Addr) (n c n' c' : Nat) => Lib.run_eql_slice_nil (P := Try.prog) w 36 5 a n c n' c' Try.underlying36
  go_enter Try.func20, Try.ntmps20
  go_wp2
  go_ret
  exact ⟨rfl, rfl⟩

set_option maxHeartbeats 400000 in
theorem copy_pos (b off n c : Nat) (xs : List Int) (w : World) (hn : n ≤ 1048576) (HX : Hid (xs.length = n)) (HC : Hid (∀ i, i < n → w.cell? ⟨b, off + i, none⟩ = some (.int .u8 (xs.getD i 0)))) :
    Calls Try.prog 20 #[.slice (some ⟨b, off, none⟩) n c] w fun e w' => e = .returned (.slice (some ⟨w.heap.size, 0, none⟩) n n) ∧
      w'.ownsRow w.heap.size 5 1 (.slice (some ⟨w.heap.size, 0, none⟩) n n) n (xs.map (Value.int .u8)) ∧ Below w.heap.size w w' := by
  have q36 := fun (w : World) (a : Option Addr) (n c n' c' : Nat) => Lib.run_eql_slice_nil (P := Try.prog) w 36 5 a n c n' c' Try.underlying36
  obtain ⟨i0, hi, hz0, hz1, hz2⟩ := info_parts info5
  have bmake : i0.bytes * n ≤ 281474976710656 := by rw [hz2]; omega
  have bmax : n ≤ maxLen := by unfold maxLen; omega
  go_enter Try.func20, Try.ntmps20
  go_wp2_with (at_make; refine wpList_make_full _ rfl _ _ 36 rfl w.heap.size 5 i0 (.int .u8 0) 1 Try.underlying36 hi hz0 hz1 .i64 .i64 _ _ n rfl rfl rfl rfl bmake bmax (Nat.le_refl _) ?_; intro w1 hown hgr)
  rw [part_zero xs n] at hown
  have hb1 : Below w.heap.size w w1 := (Below.refl _ _).grown hgr (Nat.le_refl _) (fun k h => by cases h)
  clear hgr hi hz0 hz1 hz2 bmake bmax
  have HO : Hid (w1.ownsRow w.heap.size 5 1 (.slice (some ⟨w.heap.size, 0, none⟩) n n) n (part xs n 0)) := hown
  have HB : Hid (Below w.heap.size w w1) := hb1
  clear hown hb1
  go_loopw [4] (fun i wr => ∃ k : Nat, k ≤ n ∧ i = .int .i64 k ∧ Hid (wr.ownsRow w.heap.size 5 1 (.slice (some ⟨w.heap.size, 0, none⟩) n n) n (part xs n k)) ∧ Hid (Below w.heap.size w wr))
    (fun i _ => n - (intOf i).toNat)
  case atStart => exact ⟨0, Nat.zero_le _, rfl, HO, HB⟩
  case round =>
    obtain ⟨k, hk, rfl, HOr, HBr⟩ := hrel
    by_cases hlt : k < n
    · have hsz : b < w.heap.size := World.block_lt_of_cell? w ⟨b, off + k, none⟩ (HC.out k hlt)
      have hsrc : wr.cell? ⟨b, off + k, none⟩ = some (.int .u8 (xs.getD k 0)) := (HBr.out.cell (p := ⟨b, off + k, none⟩) hsz).trans (HC.out k hlt)
      obtain ⟨v0, hv0⟩ := part_at xs n k HX.out hlt
      have hdst : wr.cell? ⟨w.heap.size, k, none⟩ = some (.int .u8 v0) := (HOr.out.cellAt k (by omega)).trans hv0
      have hfz : wr.frozen? ⟨w.heap.size, k, none⟩ = false := HOr.out.frozenAt k
      clear hv0
      go_wp2
      go_roundw
      case rel => exact ⟨k + 1, by omega, by go_num, own_step HX.out hlt HOr.out, HBr.out.setCell (Nat.le_refl _) _⟩
      case measure => simp [intOf]; omega
    · have e : k = n := by omega
      subst e
      go_wp2
      go_ret
      exact ⟨rfl, by rw [← part_full xs k HX.out]; exact HOr.out, HBr.out⟩

set_option maxHeartbeats 400000 in
theorem copy_zero (x : Addr) (c : Nat) (w : World) :
    Calls Try.prog 20 #[.slice (some x) 0 c] w fun e w' => e = .returned (.slice (some ⟨w.heap.size, 0, none⟩) 0 0) ∧
      w'.ownsRow w.heap.size 5 1 (.slice (some ⟨w.heap.size, 0, none⟩) 0 0) 0 [] ∧ Below w.heap.size w w' := by
  have q36 := fun (w : World) (a : Option Addr) (n c n' c' : Nat) => Lib.run_eql_slice_nil (P := Try.prog) w 36 5 a n c n' c' Try.underlying36
  obtain ⟨i0, hi, hz0, hz1, hz2⟩ := info_parts info5
  have bmake : i0.bytes * 0 ≤ 281474976710656 := by rw [hz2]; omega
  have bmax : 0 ≤ maxLen := by unfold maxLen; omega
  go_enter Try.func20, Try.ntmps20
  go_wp2_with (at_make; refine wpList_make_full _ rfl _ _ 36 rfl w.heap.size 5 i0 (.int .u8 0) 1 Try.underlying36 hi hz0 hz1 .i64 .i64 _ _ 0 rfl rfl rfl rfl bmake bmax (Nat.le_refl _) ?_; intro w1 hown hgr)
  rw [part_zero [] 0] at hown
  have hb1 : Below w.heap.size w w1 := (Below.refl _ _).grown hgr (Nat.le_refl _) (fun k h => by cases h)
  clear hgr hi hz0 hz1 hz2 bmake bmax
  have HO : Hid (w1.ownsRow w.heap.size 5 1 (.slice (some ⟨w.heap.size, 0, none⟩) 0 0) 0 []) := hown
  have HB : Hid (Below w.heap.size w w1) := hb1
  clear hown hb1
  refine wp_loop_rounds 1 ?_
  rw [rounds_succ]
  go_wp2
  go_ret
  exact ⟨rfl, HO.out, HB.out⟩

/-- lineCopy of a slice that is not nil: a row of its own with the same bytes. -/
theorem copy_some (x : Addr) (n c : Nat) (xs : List Int) (w : World) (hn : n ≤ 1048576) (hx : xs.length = n) (hc : ∀ i, i < n → w.cell? (x.add i) = some (.int .u8 (xs.getD i 0))) :
    Calls Try.prog 20 #[.slice (some x) n c] w fun e w' => e = .returned (.slice (some ⟨w.heap.size, 0, none⟩) n n) ∧
      w'.ownsRow w.heap.size 5 1 (.slice (some ⟨w.heap.size, 0, none⟩) n n) n (xs.map (Value.int .u8)) ∧ Below w.heap.size w w' := by
  by_cases h0 : n = 0
  · subst h0
    obtain rfl := List.eq_nil_of_length_eq_zero hx
    exact copy_zero x c w
  · obtain ⟨b, off, rfl, hc'⟩ := ints_at (k := .u8) (zs := xs) (a := x) (fun i hi => hc i (by omega)) (by omega)
    exact copy_pos b off n c xs w hn hx (fun i hi => hc' i (by omega))
end Go.Proofs.Qxb6002383a
