import Derived.Test.Qxb6600234aRows
import Derived.Test.Qxb6600234aShelf
import Derived.Test.Qxb6600234aPlain
import Derived.WalkKit
import Derived.ProofKit
import Derived.OwnWalk
import Derived.WalkSpells
import Derived.WalkLawsBesides
import Derived.OpenShut
import Derived.BigQuiet
import Derived.Deep.QuietTactic
namespace Go.Proofs.Qxb6600234a
open Go.RowKit

theorem ret_bool {a b : Bool} (h : a = b) : Ending.returned (.bool a) = .returned (.bool b) := by rw [h]
theorem ret_int {k : IntKind} {a b : Int} (h : a = b) : Ending.returned (.int k a) = .returned (.int k b) := by rw [h]
theorem info9 : (Try.prog.info? 9).map (fun i => (i.zero, i.size, i.bytes)) = some (some (.string ⟨#[]⟩), 1, 16) := by kernel_rfl

def part (xs : List ByteArray) (n k : Nat) : List Value := (xs.take k).map Value.string ++ List.replicate (n - k) (.string ⟨#[]⟩)
theorem part_zero (xs : List ByteArray) (n : Nat) : (madeCells (Value.string ⟨#[]⟩).cells (n * 1)).toList = part xs n 0 := by
  unfold part
  have : (Value.string ⟨#[]⟩).cells = #[.string ⟨#[]⟩] := rfl
  rw [this, toList_madeCells_one]
  simp
theorem part_full (xs : List ByteArray) (n : Nat) (h : xs.length = n) : part xs n n = xs.map Value.string := by
  unfold part
  rw [List.take_of_length_le (by omega)]
  simp
theorem part_step (xs : List ByteArray) (n k : Nat) (h : xs.length = n) (hk : k < n) : (part xs n k).set k (.string (xs.getD k ByteArray.empty)) = part xs n (k + 1) := by
  unfold part
  have e1 : n - k = (n - (k + 1)) + 1 := by omega
  have hl : ((xs.take k).map Value.string).length = k := by simp; omega
  rw [List.set_append_right _ _ (by omega), hl, Nat.sub_self, e1, List.replicate_succ, List.set_cons_zero]
  rw [List.take_succ_eq_append_getElem (by omega), List.map_append, List.append_assoc]
  congr 1
  simp [List.getD_eq_getElem?_getD, List.getElem?_eq_getElem (show k < xs.length by omega)]
theorem part_at (xs : List ByteArray) (n k : Nat) (h : xs.length = n) (hk : k < n) : ∃ v, (part xs n k)[k]? = some (.string v) := by
  unfold part
  have hl : ((xs.take k).map Value.string).length = k := by simp; omega
  rw [List.getElem?_append_right (by omega), hl, Nat.sub_self]
  exact ⟨_, by rw [List.getElem?_replicate, if_pos (by omega)]⟩
theorem own_step {w : World} {B : Nat} {xs : List ByteArray} {n k : Nat} (h : xs.length = n) (hk : k < n) {s : ByteArray} (hs : s = xs.getD k ByteArray.empty) (ho : w.ownsRow B 9 1 (.slice (some ⟨B, 0, none⟩) n n) n (part xs n k)) :
    (w.setCell ⟨B, k, none⟩ (.string s)).ownsRow B 9 1 (.slice (some ⟨B, 0, none⟩) n n) n (part xs n (k + 1)) := by
  have := (ho.stored k (.string (xs.getD k ByteArray.empty))).1
  rw [part_step xs n k h hk] at this
  rw [hs]
  exact this

set_option maxHeartbeats 400000 in
theorem copy_nil (w : World) : Calls Try.prog 8 #[.slice none 0 0] w fun e w' => e = .returned (.slice none 0 0) ∧ w' = w := by
  have q22 := fun (w : World) (a : Option Addr) (n c n' c' : Nat) => Lib.run_eql_slice_nil (P := Try.prog) w 22 9 a n c n' c' Try.underlying22
  go_enter Try.func8, Try.ntmps8
  go_wp2
  go_ret
  exact ⟨rfl, rfl⟩

set_option maxHeartbeats 400000 in
theorem copy_pos (b off n c : Nat) (xs : List ByteArray) (w : World) (hn : n ≤ 1048576) (HX : Hid (xs.length = n)) (HC : Hid (∀ i, i < n → w.cell? ⟨b, off + i, none⟩ = some (.string (xs.getD i ByteArray.empty)))) :
    Calls Try.prog 8 #[.slice (some ⟨b, off, none⟩) n c] w fun e w' => e = .returned (.slice (some ⟨w.heap.size, 0, none⟩) n n) ∧
      w'.ownsRow w.heap.size 9 1 (.slice (some ⟨w.heap.size, 0, none⟩) n n) n (xs.map Value.string) ∧ Below w.heap.size w w' := by
  have q22 := fun (w : World) (a : Option Addr) (n c n' c' : Nat) => Lib.run_eql_slice_nil (P := Try.prog) w 22 9 a n c n' c' Try.underlying22
  obtain ⟨i0, hi, hz0, hz1, hz2⟩ := info_parts info9
  have bmake : i0.bytes * n ≤ 281474976710656 := by rw [hz2]; omega
  have bmax : n ≤ maxLen := by unfold maxLen; omega
  go_enter Try.func8, Try.ntmps8
  go_wp2_with (at_make; refine wpList_make_full _ rfl _ _ 22 rfl w.heap.size 9 i0 (.string ⟨#[]⟩) 1 Try.underlying22 hi hz0 hz1 .i64 .i64 _ _ n rfl rfl rfl rfl bmake bmax (Nat.le_refl _) ?_; intro w1 hown hgr)
  rw [part_zero xs n] at hown
  have hb1 : Below w.heap.size w w1 := (Below.refl _ _).grown hgr (Nat.le_refl _) (fun k h => by cases h)
  clear hgr hi hz0 hz1 hz2 bmake bmax
  have HO : Hid (w1.ownsRow w.heap.size 9 1 (.slice (some ⟨w.heap.size, 0, none⟩) n n) n (part xs n 0)) := hown
  have HB : Hid (Below w.heap.size w w1) := hb1
  clear hown hb1
  go_loopw [4] (fun i wr => ∃ k : Nat, k ≤ n ∧ i = .int .i64 k ∧ Hid (wr.ownsRow w.heap.size 9 1 (.slice (some ⟨w.heap.size, 0, none⟩) n n) n (part xs n k)) ∧ Hid (Below w.heap.size w wr))
    (fun i _ => n - (intOf i).toNat)
  case atStart => exact ⟨0, Nat.zero_le _, rfl, HO, HB⟩
  case round =>
    obtain ⟨k, hk, rfl, HOr, HBr⟩ := hrel
    by_cases hlt : k < n
    · have hsz : b < w.heap.size := World.block_lt_of_cell? w ⟨b, off + k, none⟩ (HC.out k hlt)
      obtain ⟨sk, hsk⟩ : ∃ sk, sk = xs.getD k ByteArray.empty := ⟨_, rfl⟩
      have hsrc : wr.cell? ⟨b, off + k, none⟩ = some (.string sk) := by rw [hsk]; exact (HBr.out.cell (p := ⟨b, off + k, none⟩) hsz).trans (HC.out k hlt)
      have HSK : Hid (sk = xs.getD k ByteArray.empty) := hsk
      clear hsk
      obtain ⟨v0, hv0⟩ := part_at xs n k HX.out hlt
      have hdst : wr.cell? ⟨w.heap.size, k, none⟩ = some (.string v0) := (HOr.out.cellAt k (by omega)).trans hv0
      have hfz : wr.frozen? ⟨w.heap.size, k, none⟩ = false := HOr.out.frozenAt k
      clear hv0
      go_wp2
      go_roundw
      case rel => exact ⟨k + 1, by omega, by go_num, own_step HX.out hlt HSK.out HOr.out, HBr.out.setCell (Nat.le_refl _) _⟩
      case measure => simp [intOf]; omega
    · have e : k = n := by omega
      subst e
      go_wp2
      go_ret
      exact ⟨rfl, by rw [← part_full xs k HX.out]; exact HOr.out, HBr.out⟩

set_option maxHeartbeats 400000 in
theorem copy_zero (x : Addr) (c : Nat) (w : World) :
    Calls Try.prog 8 #[.slice (some x) 0 c] w fun e w' => e = .returned (.slice (some ⟨w.heap.size, 0, none⟩) 0 0) ∧
      w'.ownsRow w.heap.size 9 1 (.slice (some ⟨w.heap.size, 0, none⟩) 0 0) 0 [] ∧ Below w.heap.size w w' := by
  have q22 := fun (w : World) (a : Option Addr) (n c n' c' : Nat) => Lib.run_eql_slice_nil (P := Try.prog) w 22 9 a n c n' c' Try.underlying22
  obtain ⟨i0, hi, hz0, hz1, hz2⟩ := info_parts info9
  have bmake : i0.bytes * 0 ≤ 281474976710656 := by rw [hz2]; omega
  have bmax : 0 ≤ maxLen := by unfold maxLen; omega
  go_enter Try.func8, Try.ntmps8
  go_wp2_with (at_make; refine wpList_make_full _ rfl _ _ 22 rfl w.heap.size 9 i0 (.string ⟨#[]⟩) 1 Try.underlying22 hi hz0 hz1 .i64 .i64 _ _ 0 rfl rfl rfl rfl bmake bmax (Nat.le_refl _) ?_; intro w1 hown hgr)
  rw [part_zero [] 0] at hown
  have hb1 : Below w.heap.size w w1 := (Below.refl _ _).grown hgr (Nat.le_refl _) (fun k h => by cases h)
  clear hgr hi hz0 hz1 hz2 bmake bmax
  have HO : Hid (w1.ownsRow w.heap.size 9 1 (.slice (some ⟨w.heap.size, 0, none⟩) 0 0) 0 []) := hown
  have HB : Hid (Below w.heap.size w w1) := hb1
  clear hown hb1
  refine wp_loop_rounds 1 ?_
  rw [rounds_succ]
  go_wp2
  go_ret
  exact ⟨rfl, HO.out, HB.out⟩

/-- A slice of n strings: nil, or at an address with its cells. -/
structure StrsAt (w : World) (q : Option Addr) (n : Nat) (xs : List ByteArray) : Prop where
  len : xs.length = n
  at' : 0 < n → ∃ b o, q = some ⟨b, o, none⟩ ∧ b < w.heap.size ∧ ∀ i, i < n → w.cell? ⟨b, o + i, none⟩ = some (.string (xs.getD i ByteArray.empty))

theorem StrsAt.below {w w' : World} {q : Option Addr} {n B : Nat} {xs : List ByteArray} (h : StrsAt w q n xs) (hB : w.heap.size ≤ B) (hb : Below B w w') : StrsAt w' q n xs := by
  refine ⟨h.len, fun hn => ?_⟩
  obtain ⟨b, o, h1, h2, h3⟩ := h.at' hn
  exact ⟨b, o, h1, Nat.lt_of_lt_of_le h2 hb.size, fun i hi => (hb.cell (p := ⟨b, o + i, none⟩) (Nat.lt_of_lt_of_le h2 hB)).trans (h3 i hi)⟩

/-- copyPieces of whatever came in. -/
theorem clone8 (p : Option Addr) (n c : Nat) (xs : List ByteArray) (w : World) (hn : n ≤ 1048576) (hp : p = none → n = 0 ∧ c = 0) (hr : StrsAt w p n xs) :
    Calls Try.prog 8 #[.slice p n c] w fun e w' => ∃ q, e = .returned (.slice q n n) ∧ StrsAt w' q n xs ∧ Below w.heap.size w w' := by
  cases p with
  | none =>
    obtain ⟨rfl, rfl⟩ := hp rfl
    exact (copy_nil w).mono fun e w' ⟨h1, h2⟩ => ⟨none, h1, ⟨hr.len, fun h => absurd h (by omega)⟩, by rw [h2]; exact Below.refl _ _⟩
  | some x =>
    by_cases h0 : n = 0
    · subst h0
      refine (copy_zero x c w).mono fun e w' ⟨h1, h2, h3⟩ => ⟨_, h1, ⟨hr.len, fun h => absurd h (by omega)⟩, h3⟩
    · obtain ⟨b, off, e, hb, hc⟩ := hr.at' (by omega)
      cases e
      refine (copy_pos b off n c xs w hn hr.len hc).mono fun e w' ⟨h1, h2, h3⟩ => ⟨_, h1, ⟨hr.len, fun _ => ⟨w.heap.size, 0, rfl, ?_, ?_⟩⟩, h3⟩
      · exact (h2.lt w.heap.size rfl).2
      · intro i hi
        have hx := hr.len
        rw [Nat.zero_add, h2.cellAt i (by omega)]
        simp [List.getElem?_eq_getElem (show i < xs.length by omega)]

def SomeBool (e : Ending) : Prop := ∃ b, e = .returned (.bool b)

set_option maxHeartbeats 1000000 in
theorem zz6_short (p : Option Addr) (n c : Nat) (xs : List ByteArray) (s : ByteArray) (w : World) (hn : n ≤ 1048576) (hs : s.size ≤ maxLen) (hr : StrsAt w p n xs) :
    Calls Try.prog 6 #[.slice p n c, .string s] w fun e w' => SomeBool e ∧ w' = w := by
  unfold maxLen at hs
  have HR : Hid (StrsAt w p n xs) := hr
  have hd : decide (1048576 < (n : Int)) = false := decide_eq_false (by omega)
  clear hr
  go_enter Try.func6, Try.ntmps6
  go_wp2
  go_loop [5, 6] (fun z i => ∃ (k : Nat) (t : Int), k ≤ n ∧ 0 ≤ t ∧ t ≤ 1048576 ∧ z = .int .i64 t ∧ i = .int .i64 k) (fun _ i => n - (intOf i).toNat)
  case atStart => exact ⟨0, n, by omega, by omega, by omega, rfl, rfl⟩
  case round =>
    obtain ⟨k, t, hk, ht0, ht1, rfl, rfl⟩ := hrel
    by_cases hlt : k < n
    · obtain ⟨b, o, hq, _, hc⟩ := HR.out.at' (by omega)
      obtain ⟨sk, hsk⟩ : ∃ sk, sk = xs.getD k ByteArray.empty := ⟨_, rfl⟩
      have hck : w.cell? ⟨b, o + k, none⟩ = some (.string sk) := by rw [hsk]; exact hc k hlt
      clear hc hsk
      subst hq
      go_wp2
      · go_ret
        exact ⟨⟨_, rfl⟩, rfl⟩
      · go_ret
        exact ⟨⟨_, rfl⟩, rfl⟩
      · go_round
        case rel => exact ⟨k + 1, _, by omega, by omega, by omega, rfl, by go_num⟩
        case measure => simp [intOf]; omega
    · go_wp2
      all_goals go_ret
      all_goals exact ⟨⟨_, rfl⟩, rfl⟩

set_option maxHeartbeats 1000000 in
theorem zz6_long (p : Option Addr) (n c : Nat) (s : ByteArray) (w : World) (hn : n ≤ maxLen) (h : 1048576 < n) :
    Calls Try.prog 6 #[.slice p n c, .string s] w fun e w' => SomeBool e ∧ w' = w := by
  unfold maxLen at hn
  go_enter Try.func6, Try.ntmps6
  go_wp2
  go_ret
  exact ⟨⟨_, rfl⟩, rfl⟩

/-- The bound on the lengths: some bool; the world as it was. -/
theorem zz6 (p : Option Addr) (n c : Nat) (xs : List ByteArray) (s : ByteArray) (w : World) (hn : n ≤ maxLen) (hs : s.size ≤ maxLen) (hr : StrsAt w p n xs) :
    Calls Try.prog 6 #[.slice p n c, .string s] w fun e w' => SomeBool e ∧ w' = w := by
  by_cases h : n ≤ 1048576
  · exact zz6_short p n c xs s w h hs hr
  · exact zz6_long p n c s w hn (by omega)

def szs (xs : List ByteArray) : Nat := (xs.map (fun s => s.size)).sum
/-- What globPieceBytes hands back. -/
def pb (xs : List ByteArray) (lim : Int) : Int := if (szs xs : Int) ≤ lim then szs xs else lim + 1
theorem pb_range (xs : List ByteArray) (lim : Int) (h : 0 ≤ lim) : 0 ≤ pb xs lim ∧ pb xs lim ≤ lim + 1 := by
  unfold pb; split <;> omega
theorem pb_le {xs : List ByteArray} {lim : Int} (h : ¬ lim < pb xs lim) : (szs xs : Int) ≤ lim := by
  unfold pb at h; split at h <;> omega
theorem szs_take_step (xs : List ByteArray) (k : Nat) (h : k < xs.length) : szs (xs.take (k + 1)) = szs (xs.take k) + (xs.getD k ByteArray.empty).size := by
  rw [List.take_succ_eq_append_getElem h]
  unfold szs
  rw [List.map_append, List.sum_append]
  simp [List.getD_eq_getElem?_getD, List.getElem?_eq_getElem h]
theorem szs_take (xs : List ByteArray) (k : Nat) : szs (xs.take k) ≤ szs xs := by
  have := congrArg szs (List.take_append_drop k xs)
  simp only [szs, List.map_append, List.sum_append] at this ⊢
  omega
theorem pb_over {xs : List ByteArray} {k : Nat} {lim : Int} (h : lim < szs (xs.take k)) : lim + 1 = pb xs lim := by
  have := szs_take xs k
  unfold pb
  rw [if_neg (by omega)]

set_option maxHeartbeats 1000000 in
theorem bytes7 (p : Option Addr) (n c : Nat) (xs : List ByteArray) (lim : Int) (w : World) (hn : n ≤ 1048576) (h0 : 0 ≤ lim) (h1 : lim ≤ 1048576) (hr : StrsAt w p n xs) :
    Calls Try.prog 7 #[.slice p n c, .int .i64 lim] w fun e w' => e = .returned (.int .i64 (pb xs lim)) ∧ w' = w := by
  have HR : Hid (StrsAt w p n xs) := hr
  have HX : Hid (xs.length = n) := hr.len
  clear hr
  go_enter Try.func7, Try.ntmps7
  go_wp2
  go_loop [5, 6] (fun z i => ∃ (k : Nat) (t : Int), k ≤ n ∧ 0 ≤ t ∧ t ≤ lim ∧ z = .int .i64 t ∧ i = .int .i64 k ∧ Hid (t = szs (xs.take k))) (fun _ i => n - (intOf i).toNat)
  case atStart => exact ⟨0, 0, by omega, by omega, by omega, rfl, rfl, rfl⟩
  case round =>
    obtain ⟨k, t, hk, ht0, ht1, rfl, rfl, HT⟩ := hrel
    by_cases hlt : k < n
    · obtain ⟨b, o, hq, _, hc⟩ := HR.out.at' (by omega)
      obtain ⟨sk, hsk⟩ : ∃ sk, sk = xs.getD k ByteArray.empty := ⟨_, rfl⟩
      have hck : w.cell? ⟨b, o + k, none⟩ = some (.string sk) := by rw [hsk]; exact hc k hlt
      have HS : Hid (t + sk.size = szs (xs.take (k + 1))) := by
        have h := szs_take_step xs k (by rw [HX.out]; exact hlt)
        have h2 := HT.out
        rw [← hsk] at h
        show t + sk.size = szs (xs.take (k + 1))
        omega
      clear hc hsk HT
      subst hq
      go_wp2
      · go_ret
        have h : lim < (sk.size : Int) := by assumption
        exact ⟨ret_int (pb_over (k := k + 1) (by rw [← HS.out]; omega)), rfl⟩
      · go_ret
        have h : lim < t + (sk.size : Int) := by assumption
        exact ⟨ret_int (pb_over (k := k + 1) (by rw [← HS.out]; omega)), rfl⟩
      · go_round
        case rel => exact ⟨k + 1, _, by omega, by omega, by omega, rfl, by go_num, HS.out⟩
        case measure => simp [intOf]; omega
    · have e : k = n := by omega
      subst e
      go_wp2
      go_ret
      refine ⟨ret_int ?_, rfl⟩
      have h2 := HT.out
      have hx := HX.out
      rw [List.take_of_length_le (by omega)] at h2
      show t = pb xs lim
      unfold pb
      rw [if_pos (by omega), h2]
end Go.Proofs.Qxb6600234a
