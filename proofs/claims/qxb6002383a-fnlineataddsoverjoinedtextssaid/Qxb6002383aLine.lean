import Derived.Test.Qxb6002383aCopy
import Derived.Test.Qxb6002383aShelf
import Derived.Lib.SlBytesConst
namespace Go.Proofs.Qxb6002383a
open Go.RowKit

/-- How many line feeds. -/
def nl (xs : List Int) : Nat := Lib.countByte (Lib.bytesOf xs) 10
theorem nl_le (xs : List Int) : nl xs ≤ xs.length := by
  unfold nl Lib.countByte Lib.bytesOf
  exact Nat.le_trans List.count_le_length (by simp)

set_option maxHeartbeats 400000 in
theorem line25_raw (g n : Nat) (off : Int) (xs : List Int) (w : World) (hn : n ≤ 1048576) (h0 : 0 ≤ off) (hx : xs.length = n) (hc : ∀ i, i < n → w.cell? ⟨g, i, none⟩ = some (.int .u8 (xs.getD i 0))) :
    Calls Try.prog 25 #[.slice (some ⟨g, 0, none⟩) n n, .int .i64 off] w fun e w' => e = .returned (.int .i64 (1 + nl (xs.take (min off n).toNat))) ∧ Below w.heap.size w w' := by
  have kc := fun (w : World) (C : Array Value) (n c : Nat) => Lib.run_convert_bytes_const (P := Try.prog) w 36 5 C n c Try.underlying36 Try.underlying5
  have hmn : (min off (n : Int)).toNat ≤ n := by omega
  have hcon := Try.bytes_Count_one g 0 (min off n).toNat n w.heap.size 0 1 (xs.take (min off n).toNat) 10 (w.alloc (.cells #[.int .u8 10] 5 (1, 2))) (by simp; omega)
    (fun i hi => Lib.cell?_alloc_marked _ (by rw [Nat.zero_add, hc i (by omega)]; simp [hi])) (by rw [World.cell?_alloc_mark]; rfl)
  have hnl : nl (xs.take (min off n).toNat) ≤ 1048576 := by
    have h1 := nl_le (xs.take (min off n).toNat)
    have h2 : (xs.take (min off n).toNat).length ≤ _ := List.length_take_le _ _
    omega
  have b1 : 0 ≤ min off (n : Int) := by omega
  have b2 : min off (n : Int) ≤ n := by omega
  have H : Hid (Calls Try.prog 26 #[.slice (some ⟨g, 0, none⟩) (min off n).toNat n, .slice (some ⟨w.heap.size, 0, none⟩) 1 1] (w.alloc (.cells #[.int .u8 10] 5 (1, 2))) fun e w' => e = .returned (.int .i64 (nl (xs.take (min off n).toNat))) ∧ w' = (w.alloc (.cells #[.int .u8 10] 5 (1, 2)))) := hcon
  clear hcon hc hx
  go_enter Try.func25, Try.ntmps25
  go_wp2_with (go_at_call 26; refine H.out.mono ?_; rintro e w' ⟨rfl, rfl⟩)
  go_ret
  exact ⟨rfl, (Below.refl _ w).alloc (Nat.le_refl _) _⟩

set_option maxHeartbeats 400000 in
theorem line25_nil (off : Int) (w : World) (h0 : 0 ≤ off) :
    Calls Try.prog 25 #[.slice none 0 0, .int .i64 off] w fun e w' => e = .returned (.int .i64 1) ∧ Below w.heap.size w w' := by
  have kc := fun (w : World) (C : Array Value) (n c : Nat) => Lib.run_convert_bytes_const (P := Try.prog) w 36 5 C n c Try.underlying36 Try.underlying5
  have hm : min off 0 = 0 := by omega
  have H : Hid (Calls Try.prog 26 #[.slice none 0 0, .slice (some ⟨w.heap.size, 0, none⟩) 1 1] (w.alloc (.cells #[.int .u8 10] 5 (1, 2))) fun e w' => e = .returned (.int .i64 0) ∧ w' = (w.alloc (.cells #[.int .u8 10] 5 (1, 2)))) :=
    Try.bytes_Count_one_nil w.heap.size 0 1 10 (w.alloc (.cells #[.int .u8 10] 5 (1, 2))) (by rw [World.cell?_alloc_mark]; rfl)
  go_enter Try.func25, Try.ntmps25
  go_wp2_with (go_at_call 26; refine H.out.mono ?_; rintro e w' ⟨rfl, rfl⟩)
  go_ret
  exact ⟨rfl, (Below.refl _ w).alloc (Nat.le_refl _) _⟩

/-- A slice of n bytes, xs, as lineCopy hands it back: nil, or at the head of a block. -/
structure RowAt (w : World) (q : Option Addr) (n : Nat) (xs : List Int) : Prop where
  len : xs.length = n
  at' : (q = none ∧ n = 0) ∨ ∃ g, q = some ⟨g, 0, none⟩ ∧ g < w.heap.size ∧ ∀ i, i < n → w.cell? ⟨g, i, none⟩ = some (.int .u8 (xs.getD i 0))

theorem RowAt.below {w w' : World} {q : Option Addr} {n : Nat} {xs : List Int} (h : RowAt w q n xs) (hb : Below w.heap.size w w') : RowAt w' q n xs := by
  refine ⟨h.len, ?_⟩
  rcases h.at' with h1 | ⟨g, h1, h2, h3⟩
  · exact Or.inl h1
  · exact Or.inr ⟨g, h1, Nat.lt_of_lt_of_le h2 hb.size, fun i hi => (hb.cell (p := ⟨g, i, none⟩) h2).trans (h3 i hi)⟩
theorem RowAt.pos {w : World} {q : Option Addr} {n : Nat} {xs : List Int} (h : RowAt w q n xs) (hn : 0 < n) : ∃ g, q = some ⟨g, 0, none⟩ ∧ g < w.heap.size ∧ ∀ i, i < n → w.cell? ⟨g, i, none⟩ = some (.int .u8 (xs.getD i 0)) := by
  rcases h.at' with ⟨_, h1⟩ | h1
  · omega
  · exact h1

theorem line25 (q : Option Addr) (n : Nat) (off : Int) (xs : List Int) (w : World) (hn : n ≤ 1048576) (h0 : 0 ≤ off) (hr : RowAt w q n xs) :
    Calls Try.prog 25 #[.slice q n n, .int .i64 off] w fun e w' => e = .returned (.int .i64 (1 + nl (xs.take (min off n).toNat))) ∧ Below w.heap.size w w' := by
  rcases hr.at' with ⟨rfl, rfl⟩ | ⟨g, rfl, hg, hc⟩
  · have hx := hr.len
    obtain rfl := List.eq_nil_of_length_eq_zero hx
    refine (line25_nil off w h0).mono fun e w' ⟨h1, h2⟩ => ⟨h1.trans (ret_int ?_), h2⟩
    simp [nl, Lib.countByte, Lib.bytesOf]
  · exact line25_raw g n off xs w hn h0 hr.len hc

set_option maxHeartbeats 400000 in
theorem line21 (q : Option Addr) (n : Nat) (off : Int) (xs : List Int) (w : World) (hn : n ≤ 1048576) (h0 : 0 ≤ off) (hr : RowAt w q n xs) :
    Calls Try.prog 21 #[.slice q n n, .int .i64 off] w fun e w' => e = .returned (.int .i64 (1 + nl (xs.take (min off n).toNat))) ∧ Below w.heap.size w w' := by
  have H : Hid (Calls Try.prog 25 #[.slice q n n, .int .i64 off] w fun e w' => e = .returned (.int .i64 (1 + nl (xs.take (min off n).toNat))) ∧ Below w.heap.size w w') := line25 q n off xs w hn h0 hr
  clear hr
  go_enter Try.func21, Try.ntmps21
  go_wp2_with (go_at_call 25; refine H.out.mono ?_; rintro e w' ⟨rfl, hb⟩)
  go_ret
  exact ⟨rfl, hb⟩

/-- Up to a place within the text. -/
theorem line_at (q : Option Addr) (n k : Nat) (xs : List Int) (w : World) (hn : n ≤ 1048576) (hk : k ≤ n) (hr : RowAt w q n xs) :
    Calls Try.prog 21 #[.slice q n n, .int .i64 k] w fun e w' => e = .returned (.int .i64 (1 + nl (xs.take k))) ∧ Below w.heap.size w w' := by
  have h := line21 q n k xs w hn (by omega) hr
  rw [show (min (k : Int) (n : Int)).toNat = k by omega] at h
  exact h
/-- At or past the end. -/
theorem line_past (q : Option Addr) (n : Nat) (off : Int) (xs : List Int) (w : World) (hn : n ≤ 1048576) (hk : (n : Int) ≤ off) (hr : RowAt w q n xs) :
    Calls Try.prog 21 #[.slice q n n, .int .i64 off] w fun e w' => e = .returned (.int .i64 (1 + nl xs)) ∧ Below w.heap.size w w' := by
  have h := line21 q n off xs w hn (by omega) hr
  rw [show (min off (n : Int)).toNat = n by omega, List.take_of_length_le (by rw [hr.len]; omega)] at h
  exact h

/-- What came in: nil, or n bytes at an address. -/
structure CameIn (w : World) (p : Option Addr) (n : Nat) (xs : List Int) : Prop where
  len : xs.length = n
  at' : (p = none ∧ n = 0) ∨ ∃ x, p = some x ∧ ∀ i, i < n → w.cell? (x.add i) = some (.int .u8 (xs.getD i 0))

theorem CameIn.below {w w' : World} {p : Option Addr} {n : Nat} {xs : List Int} (h : CameIn w p n xs) (hb : Below w.heap.size w w') : CameIn w' p n xs := by
  refine ⟨h.len, ?_⟩
  rcases h.at' with h1 | ⟨x, h1, h3⟩
  · exact Or.inl h1
  · exact Or.inr ⟨x, h1, fun i hi => (hb.cell (World.block_lt_of_cell? w _ (h3 i hi))).trans (h3 i hi)⟩

/-- lineCopy of whatever came in. -/
theorem copy20 (p : Option Addr) (n c : Nat) (xs : List Int) (w : World) (hn : n ≤ 1048576) (hp : p = none → c = 0) (hr : CameIn w p n xs) :
    Calls Try.prog 20 #[.slice p n c] w fun e w' => ∃ q, e = .returned (.slice q n n) ∧ RowAt w' q n xs ∧ Below w.heap.size w w' := by
  rcases hr.at' with ⟨rfl, rfl⟩ | ⟨x, rfl, hc⟩
  · obtain rfl := hp rfl
    exact (copy_nil w).mono fun e w' ⟨h1, h2⟩ => ⟨none, h1, ⟨hr.len, Or.inl ⟨rfl, rfl⟩⟩, by rw [h2]; exact Below.refl _ _⟩
  · refine (copy_some x n c xs w hn hr.len hc).mono fun e w' ⟨h1, h2, h3⟩ => ⟨_, h1, ⟨hr.len, Or.inr ⟨w.heap.size, rfl, ?_, ?_⟩⟩, h3⟩
    · exact (h2.lt w.heap.size rfl).2
    · intro i hi
      rw [h2.cellAt i (by omega)]
      have hx := hr.len
      simp [List.getElem?_eq_getElem (show i < xs.length by omega)]

set_option maxHeartbeats 400000 in
theorem zz19 (p : Option Addr) (n c : Nat) (i : Int) (w : World) (hn : n ≤ maxLen) : Calls Try.prog 19 #[.slice p n c, .int .i64 i] w fun e w' => e = .returned (.bool (decide (n ≤ 1048576))) ∧ w' = w := by
  unfold maxLen at hn
  go_enter Try.func19, Try.ntmps19
  go_wp2
  all_goals (go_ret; exact ⟨ret_bool (by first | (symm; apply decide_eq_false; omega) | (symm; apply decide_eq_true; omega)), rfl⟩)

set_option maxHeartbeats 400000 in
theorem zz22 (p : Option Addr) (n c : Nat) (i : Int) (w : World) (hn : n ≤ maxLen) : Calls Try.prog 22 #[.slice p n c, .int .i64 i] w fun e w' => e = .returned (.bool (decide (n ≤ 1048576))) ∧ w' = w := by
  unfold maxLen at hn
  go_enter Try.func22, Try.ntmps22
  go_wp2
  all_goals (go_ret; exact ⟨ret_bool (by first | (symm; apply decide_eq_false; omega) | (symm; apply decide_eq_true; omega)), rfl⟩)

set_option maxHeartbeats 400000 in
theorem zz23 (p : Option Addr) (n c : Nat) (p' : Option Addr) (n' c' : Nat) (w : World) (hn : n ≤ maxLen) (hn' : n' ≤ maxLen) : Calls Try.prog 23 #[.slice p n c, .slice p' n' c'] w fun e w' => e = .returned (.bool (decide (n + n' ≤ 1048576))) ∧ w' = w := by
  unfold maxLen at hn hn'
  go_enter Try.func23, Try.ntmps23
  go_wp2
  all_goals (go_ret; exact ⟨ret_bool (by first | (symm; apply decide_eq_false; omega) | (symm; apply decide_eq_true; omega)), rfl⟩)
end Go.Proofs.Qxb6002383a
