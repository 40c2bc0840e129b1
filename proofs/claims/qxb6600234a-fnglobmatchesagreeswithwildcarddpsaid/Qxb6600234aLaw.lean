import Derived.Test.Qxb6600234aModel
namespace Go.Proofs.Qxb6600234a
open Go.RowKit

set_option maxHeartbeats 2000000 in
/-- Wherever one of the law's own bounds is passed, or there is no piece: true. -/
theorem law_early (p : Option Addr) (n c : Nat) (xs : List ByteArray) (s : ByteArray) (w : World) (hn : n ≤ 1048576) (hs : s.size ≤ maxLen) (hr : StrsAt w p n xs)
    (h : 4096 < s.size ∨ 4096 < n ∨ (4096 : Int) < pb xs 4096 ∨ n < 1 ∨ (1048576 : Int) < (s.size : Int) + 16 * (n : Int) + pb xs 1048576) :
    Calls Try.prog 3 #[.slice p n c, .string s] w fun e w' => e = .returned (.bool true) ∧ Below w.heap.size w w' := by
  have H6 : Hid (Calls Try.prog 6 #[.slice p n c, .string s] w fun e w' => SomeBool e ∧ w' = w) := zz6 p n c xs s w (by unfold maxLen; omega) hs hr
  have H7 : Hid (∀ lim : Int, 0 ≤ lim → lim ≤ 1048576 → Calls Try.prog 7 #[.slice p n c, .int .i64 lim] w fun e w' => e = .returned (.int .i64 (pb xs lim)) ∧ w' = w) := fun lim h1 h2 => bytes7 p n c xs lim w hn h1 h2 hr
  obtain ⟨a1, a2⟩ := pb_range xs 1048576 (by omega)
  obtain ⟨b1, b2⟩ := pb_range xs 4096 (by omega)
  unfold maxLen at hs
  clear hr
  rcases h with h | h | h | h | h
  all_goals
    go_enter Try.func3, Try.ntmps3
    go_wp2_with (first | (go_at_call 6; refine H6.out.mono ?_; rintro e w' ⟨⟨b, rfl⟩, hw⟩; have hw2 := hw.symm; subst hw2; clear hw; cases b) | (go_at_call 7; refine (H7.out _ (by omega) (by omega)).mono ?_; rintro e w' ⟨rfl, hw⟩; have hw2 := hw.symm; subst hw2; clear hw))
    all_goals go_ret
    all_goals exact ⟨rfl, Below.refl _ _⟩

set_option maxHeartbeats 2000000 in
theorem law_huge (p : Option Addr) (n c : Nat) (xs : List ByteArray) (s : ByteArray) (w : World) (hn : n ≤ maxLen) (h : 65536 < n) (hs : s.size ≤ maxLen) (hr : StrsAt w p n xs) :
    Calls Try.prog 3 #[.slice p n c, .string s] w fun e w' => e = .returned (.bool true) ∧ Below w.heap.size w w' := by
  have H6 : Hid (Calls Try.prog 6 #[.slice p n c, .string s] w fun e w' => SomeBool e ∧ w' = w) := zz6 p n c xs s w hn hs hr
  unfold maxLen at hs hn
  clear hr
  go_enter Try.func3, Try.ntmps3
  go_wp2_with (go_at_call 6; refine H6.out.mono ?_; rintro e w' ⟨⟨b, rfl⟩, hw⟩; have hw2 := hw.symm; subst hw2; clear hw; cases b)
  all_goals go_ret
  all_goals exact ⟨rfl, Below.refl _ _⟩

theorem sizes_le {xs : List ByteArray} (h : szs xs ≤ 4096) : ∀ x ∈ xs, x.size ≤ 4096 := by
  intro x hx
  obtain ⟨k, hk, rfl⟩ := List.getElem_of_mem hx
  have h1 := szs_take_step xs k hk
  have h2 := szs_take xs (k + 1)
  simp only [List.getD_eq_getElem?_getD, List.getElem?_eq_getElem hk, Option.getD_some] at h1
  omega

set_option maxHeartbeats 2000000 in
theorem law_main (p : Option Addr) (n c : Nat) (xs : List ByteArray) (s : ByteArray) (M : Int) (w : World) (h1 : 1 ≤ n) (hn : n ≤ 4096) (hs : s.size ≤ 4096) (hp : p = none → n = 0 ∧ c = 0) (hr : StrsAt w p n xs) (hM : w.cell? ⟨0, 0, none⟩ = some (.int .i64 M))
    (h4 : pb xs 4096 ≤ 4096) (h5 : (s.size : Int) + 16 * (n : Int) + pb xs 1048576 ≤ 1048576) :
    Calls Try.prog 3 #[.slice p n c, .string s] w fun e w' => e = .returned (.bool true) ∧ Below w.heap.size w w' := by
  have H6 : Hid (Calls Try.prog 6 #[.slice p n c, .string s] w fun e w' => SomeBool e ∧ w' = w) := zz6 p n c xs s w (by unfold maxLen; omega) (by unfold maxLen; omega) hr
  have H7 : Hid (∀ lim : Int, 0 ≤ lim → lim ≤ 1048576 → Calls Try.prog 7 #[.slice p n c, .int .i64 lim] w fun e w' => e = .returned (.int .i64 (pb xs lim)) ∧ w' = w) := fun lim h1 h2 => bytes7 p n c xs lim w (by omega) h1 h2 hr
  have H8 : Hid (Calls Try.prog 8 #[.slice p n c] w fun e w' => ∃ q, e = .returned (.slice q n n) ∧ StrsAt w' q n xs ∧ Below w.heap.size w w') := clone8 p n c xs w (by omega) hp hr
  have HZ : Hid (szs xs ≤ 4096) := by
    have h := pb_le (xs := xs) (lim := 4096) (by omega)
    show szs xs ≤ 4096
    omega
  have H0 : Hid (0 < w.heap.size) := World.block_lt_of_cell? w ⟨0, 0, none⟩ hM
  have HM : Hid (w.cell? ⟨0, 0, none⟩ = some (.int .i64 M)) := hM
  obtain ⟨a1, a2⟩ := pb_range xs 1048576 (by omega)
  obtain ⟨b1, b2⟩ := pb_range xs 4096 (by omega)
  clear hr hM hp
  go_enter Try.func3, Try.ntmps3
  go_wp2_with (first | (go_at_call 6; refine H6.out.mono ?_; rintro e w' ⟨⟨b, rfl⟩, hw⟩; have hw2 := hw.symm; subst hw2; clear hw; cases b) | (go_at_call 7; refine (H7.out _ (by omega) (by omega)).mono ?_; rintro e w' ⟨rfl, hw⟩; have hw2 := hw.symm; subst hw2; clear hw))
  · go_ret
    exact ⟨rfl, Below.refl _ _⟩
  refine H8.out.mono ?_
  rintro e w1 ⟨q, rfl, hr1, hb1⟩
  have HR1 : Hid (StrsAt w1 q n xs) := hr1
  have HB1 : Hid (Below w.heap.size w w1) := hb1
  have HM1 : Hid (w1.cell? ⟨0, 0, none⟩ = some (.int .i64 M)) := (hb1.cell (p := ⟨0, 0, none⟩) H0.out).trans HM.out
  clear hr1 hb1 H6 H7 H8
  go_wp2_with fail
  refine (match9 q n xs s M w1 h1 hn hs (sizes_le HZ.out) HR1.out HM1.out).mono ?_
  rintro e w2 ⟨rfl, hb2⟩
  have HR2 : Hid (StrsAt w2 q n xs) := HR1.out.below (Nat.le_refl _) hb2
  have HB2 : Hid (Below w.heap.size w w2) := HB1.out.trans (hb2.mono HB1.out.size)
  clear hb2
  go_wp2_with fail
  refine (model10 q n xs s w2 h1 hn hs HZ.out HR2.out).mono ?_
  rintro e w3 ⟨rfl, hb3⟩
  have HB3 : Hid (Below w.heap.size w w3) := HB2.out.trans (hb3.mono HB2.out.size)
  clear hb3
  go_wp2
  go_ret
  exact ⟨ret_bool (by simp), HB3.out⟩

theorem law (p : Option Addr) (n c : Nat) (xs : List ByteArray) (s : ByteArray) (M : Int) (w : World) (hn : n ≤ maxLen) (hs : s.size ≤ maxLen) (hp : p = none → n = 0 ∧ c = 0) (hr : StrsAt w p n xs) (hM : w.cell? ⟨0, 0, none⟩ = some (.int .i64 M)) :
    Calls Try.prog 3 #[.slice p n c, .string s] w fun e w' => e = .returned (.bool true) ∧ Below w.heap.size w w' := by
  by_cases h0 : 65536 < n
  · exact law_huge p n c xs s w hn h0 hs hr
  · by_cases h : 4096 < s.size ∨ 4096 < n ∨ (4096 : Int) < pb xs 4096 ∨ n < 1 ∨ (1048576 : Int) < (s.size : Int) + 16 * (n : Int) + pb xs 1048576
    · exact law_early p n c xs s w (by omega) hs hr h
    · have k1 : ¬ 4096 < s.size := fun e => h (Or.inl e)
      have k2 : ¬ 4096 < n := fun e => h (Or.inr (Or.inl e))
      have k3 : ¬ (4096 : Int) < pb xs 4096 := fun e => h (Or.inr (Or.inr (Or.inl e)))
      have k4 : ¬ n < 1 := fun e => h (Or.inr (Or.inr (Or.inr (Or.inl e))))
      have k5 : ¬ (1048576 : Int) < (s.size : Int) + 16 * (n : Int) + pb xs 1048576 := fun e => h (Or.inr (Or.inr (Or.inr (Or.inr e))))
      exact law_main p n c xs s M w (by omega) (by omega) (by omega) hp hr hM (by omega) (by omega)
end Go.Proofs.Qxb6600234a
