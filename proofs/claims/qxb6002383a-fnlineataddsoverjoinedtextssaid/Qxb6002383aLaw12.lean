import Derived.Test.Qxb6002383aLine
namespace Go.Proofs.Qxb6002383a
open Go.RowKit

/-- What the shell tells of a slice of bytes that came in, in the contracts' words. -/
theorem came {w : World} {a : Option Addr} {len cap : Nat} {zs : List Int}
    (h : (a = none ∧ len = 0 ∧ cap = 0 ∧ zs = []) ∨ ∃ x, a = some x ∧ len ≤ cap ∧ cap ≤ maxLen ∧ zs.length = cap ∧ (∀ i, i < zs.length → w.cell? (x.add i) = some (.int .u8 (zs.getD i 0))) ∧ ∀ n ∈ zs, (Lit.int .u8 n).wf = true) :
    CameIn w a len (zs.take len) ∧ len ≤ maxLen ∧ (a = none → cap = 0) ∧ ∀ x ∈ zs.take len, 0 ≤ x ∧ x < 256 := by
  rcases h with ⟨rfl, rfl, rfl, rfl⟩ | ⟨x, rfl, h1, h2, h3, h4, h5⟩
  · exact ⟨⟨rfl, Or.inl ⟨rfl, rfl⟩⟩, by unfold maxLen; omega, fun _ => rfl, fun x hx => by cases hx⟩
  · refine ⟨⟨by simp; omega, Or.inr ⟨x, rfl, fun i hi => ?_⟩⟩, Nat.le_trans h1 h2, fun h => (by cases h), fun y hy => ?_⟩
    · rw [h4 i (by omega)]
      simp [hi]
    · have := bounds_u8 (h5 y (List.mem_of_mem_take hy))
      omega

theorem nl_step (xs : List Int) (k : Nat) (h : k < xs.length) : nl (xs.take (k + 1)) = nl (xs.take k) + if UInt8.ofNat (xs[k]).toNat = 10 then 1 else 0 := by
  unfold nl Lib.countByte Lib.bytesOf
  rw [List.take_succ_eq_append_getElem h, List.map_append, List.count_append]
  congr 1
  simp [List.count_singleton]

theorem step_yes {x : Int} {a b : Nat} (h : b = a + if UInt8.ofNat x.toNat = 10 then 1 else 0) (he : (x == 10) = true) : ((1 + (b : Int)) == (1 + (a : Int) + 1)) = true := by
  have : x = 10 := by simpa using he
  subst this
  have : UInt8.ofNat (10 : Int).toNat = 10 := rfl
  rw [if_pos this] at h
  rw [beq_iff_eq]; omega
theorem step_no {x : Int} {a b : Nat} (hx : 0 ≤ x ∧ x < 256) (h : b = a + if UInt8.ofNat x.toNat = 10 then 1 else 0) (he : (x == 10) = false) : ((1 + (b : Int)) == (1 + (a : Int))) = true := by
  have h10 : x ≠ 10 := by simpa using he
  have : ¬ UInt8.ofNat x.toNat = 10 := by
    intro hc
    have := congrArg UInt8.toNat hc
    rw [UInt8.toNat_ofNat_of_lt' (by show x.toNat < 256; omega)] at this
    have e : UInt8.toNat 10 = 10 := rfl
    omega
  rw [if_neg this] at h
  rw [beq_iff_eq]; omega

set_option maxHeartbeats 400000 in
theorem law1_long (p : Option Addr) (n c : Nat) (i : Int) (w : World) (hn : n ≤ maxLen) (hl : 1048576 < n) :
    Calls Try.prog 6 #[.slice p n c, .int .i64 i] w fun e w' => e = .returned (.bool true) ∧ Below w.heap.size w w' := by
  have hz : decide (n ≤ 1048576) = false := decide_eq_false (by omega)
  go_enter Try.func6, Try.ntmps6
  go_wp2_with (go_at_call 19; refine (zz19 _ _ _ _ _ hn).mono ?_; rintro e w' ⟨rfl, rfl⟩)
  go_ret
  exact ⟨rfl, Below.refl _ _⟩

set_option maxHeartbeats 400000 in
theorem law1_out (p : Option Addr) (n c : Nat) (i : Int) (w : World) (hl : n ≤ 1048576) (hi : i < 0 ∨ (n : Int) ≤ i) :
    Calls Try.prog 6 #[.slice p n c, .int .i64 i] w fun e w' => e = .returned (.bool true) ∧ Below w.heap.size w w' := by
  have hz : decide (n ≤ 1048576) = true := decide_eq_true (by omega)
  rcases hi with hi | hi
  · go_enter Try.func6, Try.ntmps6
    go_wp2_with (go_at_call 19; refine (zz19 _ _ _ _ _ (by unfold maxLen; omega)).mono ?_; rintro e w' ⟨rfl, rfl⟩)
    go_ret
    exact ⟨rfl, Below.refl _ _⟩
  · have h0 : 0 ≤ i := by omega
    go_enter Try.func6, Try.ntmps6
    go_wp2_with (go_at_call 19; refine (zz19 _ _ _ _ _ (by unfold maxLen; omega)).mono ?_; rintro e w' ⟨rfl, rfl⟩)
    go_ret
    exact ⟨rfl, Below.refl _ _⟩

set_option maxHeartbeats 400000 in
theorem law1_in (p : Option Addr) (n c k : Nat) (xs : List Int) (w : World) (hl : n ≤ 1048576) (hk : k < n) (hp : p = none → c = 0) (hr : CameIn w p n xs) (hb : ∀ x ∈ xs, 0 ≤ x ∧ x < 256) :
    Calls Try.prog 6 #[.slice p n c, .int .i64 k] w fun e w' => e = .returned (.bool true) ∧ Below w.heap.size w w' := by
  have hz : decide (n ≤ 1048576) = true := decide_eq_true (by omega)
  have HC : Hid (Calls Try.prog 20 #[.slice p n c] w fun e w' => ∃ q, e = .returned (.slice q n n) ∧ RowAt w' q n xs ∧ Below w.heap.size w w') := copy20 p n c xs w hl hp hr
  clear hp hr
  go_enter Try.func6, Try.ntmps6
  go_wp2_with (go_at_call 19; refine (zz19 _ _ _ _ _ (by unfold maxLen; omega)).mono ?_; rintro e w' ⟨rfl, hw⟩; have hw2 := hw.symm; subst hw2; clear hw)
  refine HC.out.mono ?_
  rintro e w1 ⟨q, rfl, hr1, hb1⟩
  obtain ⟨g, rfl, hg, hc⟩ := hr1.pos (by omega)
  have HR : Hid (RowAt w1 (some ⟨g, 0, none⟩) n xs) := hr1
  clear hc hr1
  go_wp2_with fail
  refine (line_at _ n k xs _ hl (by omega) HR.out).mono ?_
  rintro e w2 ⟨rfl, hb2⟩
  have HR2 : Hid (RowAt w2 (some ⟨g, 0, none⟩) n xs) := HR.out.below hb2
  have e1 : ((k : Int) + 1) = ((k + 1 : Nat) : Int) := by omega
  have H3 : Hid (Calls Try.prog 21 #[.slice (some ⟨g, 0, none⟩) n n, .int .i64 ((k : Int) + 1)] w2 fun e w' => e = .returned (.int .i64 (1 + nl (xs.take (k + 1)))) ∧ Below w2.heap.size w2 w') := by
    have h := line_at (some ⟨g, 0, none⟩) n (k + 1) xs w2 hl (by omega) HR2.out
    rw [← e1] at h
    exact h
  clear e1
  go_wp2_with fail
  refine H3.out.mono ?_
  rintro e w3 ⟨rfl, hb3⟩
  obtain ⟨g', hg', hlt, hc⟩ := (HR2.out.below hb3).pos (by omega)
  obtain rfl : g = g' := by simpa using hg'
  have hck := hc k hk
  have hxl := HR2.out.len
  have hs := nl_step xs k (by omega)
  have n1 := nl_le (xs.take k)
  have n1' : (xs.take k).length ≤ k := List.length_take_le _ _
  have n2 := nl_le (xs.take (k + 1))
  have n2' : (xs.take (k + 1)).length ≤ k + 1 := List.length_take_le _ _
  have HB : Hid (Below w.heap.size w w3) := (hb1.trans (hb2.mono hb1.size)).trans (hb3.mono (Nat.le_trans hb1.size hb2.size))
  have HS : Hid (nl (xs.take (k + 1)) = nl (xs.take k) + if UInt8.ofNat (xs[k]).toNat = 10 then 1 else 0) := hs
  clear hs hc hg' H3 hb1 hb2 hb3 HC
  go_wp2
  · go_ret
    exact ⟨ret_bool (step_yes HS.out ‹_›), HB.out⟩
  · go_ret
    exact ⟨ret_bool (step_no (hb _ (List.getElem_mem _)) HS.out ‹_›), HB.out⟩

theorem law1 (p : Option Addr) (n c : Nat) (i : Int) (xs : List Int) (w : World) (hn : n ≤ maxLen) (hp : p = none → c = 0) (hr : CameIn w p n xs) (hb : ∀ x ∈ xs, 0 ≤ x ∧ x < 256) :
    Calls Try.prog 6 #[.slice p n c, .int .i64 i] w fun e w' => e = .returned (.bool true) ∧ Below w.heap.size w w' := by
  by_cases hl : n ≤ 1048576
  · by_cases hi : i < 0 ∨ (n : Int) ≤ i
    · exact law1_out p n c i w hl hi
    · obtain ⟨k, rfl⟩ : ∃ k : Nat, i = k := ⟨i.toNat, by omega⟩
      exact law1_in p n c k xs w hl (by omega) hp hr hb
  · exact law1_long p n c i w hn (by omega)

set_option maxHeartbeats 400000 in
theorem law2_long (p : Option Addr) (n c : Nat) (i : Int) (w : World) (hn : n ≤ maxLen) (hl : 1048576 < n) :
    Calls Try.prog 7 #[.slice p n c, .int .i64 i] w fun e w' => e = .returned (.bool true) ∧ Below w.heap.size w w' := by
  have hz : decide (n ≤ 1048576) = false := decide_eq_false (by omega)
  go_enter Try.func7, Try.ntmps7
  go_wp2_with (go_at_call 22; refine (zz22 _ _ _ _ _ hn).mono ?_; rintro e w' ⟨rfl, rfl⟩)
  go_ret
  exact ⟨rfl, Below.refl _ _⟩

set_option maxHeartbeats 400000 in
theorem law2_in (p : Option Addr) (n c : Nat) (i : Int) (w : World) (hl : n ≤ 1048576) (hi : i < (n : Int)) :
    Calls Try.prog 7 #[.slice p n c, .int .i64 i] w fun e w' => e = .returned (.bool true) ∧ Below w.heap.size w w' := by
  have hz : decide (n ≤ 1048576) = true := decide_eq_true (by omega)
  go_enter Try.func7, Try.ntmps7
  go_wp2_with (go_at_call 22; refine (zz22 _ _ _ _ _ (by unfold maxLen; omega)).mono ?_; rintro e w' ⟨rfl, rfl⟩)
  go_ret
  exact ⟨rfl, Below.refl _ _⟩

set_option maxHeartbeats 400000 in
theorem law2_past (p : Option Addr) (n c : Nat) (i : Int) (xs : List Int) (w : World) (hl : n ≤ 1048576) (hi : (n : Int) ≤ i) (hp : p = none → c = 0) (hr : CameIn w p n xs) :
    Calls Try.prog 7 #[.slice p n c, .int .i64 i] w fun e w' => e = .returned (.bool true) ∧ Below w.heap.size w w' := by
  have hz : decide (n ≤ 1048576) = true := decide_eq_true (by omega)
  have hni : ¬ i < (n : Int) := by omega
  have HC : Hid (Calls Try.prog 20 #[.slice p n c] w fun e w' => ∃ q, e = .returned (.slice q n n) ∧ RowAt w' q n xs ∧ Below w.heap.size w w') := copy20 p n c xs w hl hp hr
  clear hp hr
  go_enter Try.func7, Try.ntmps7
  go_wp2_with (go_at_call 22; refine (zz22 _ _ _ _ _ (by unfold maxLen; omega)).mono ?_; rintro e w' ⟨rfl, hw⟩; have hw2 := hw.symm; subst hw2; clear hw)
  refine HC.out.mono ?_
  rintro e w1 ⟨q, rfl, hr1, hb1⟩
  have HR : Hid (RowAt w1 q n xs) := hr1
  clear hr1
  go_wp2_with fail
  refine (line_at q n 0 xs w1 hl (by omega) HR.out).mono ?_
  rintro e w2 ⟨rfl, hb2⟩
  have HR2 : Hid (RowAt w2 q n xs) := HR.out.below hb2
  have z0 : nl (xs.take 0) = 0 := by simp [nl, Lib.countByte, Lib.bytesOf]
  rw [z0]
  clear z0
  go_wp2_with fail
  refine (line_past q n i xs w2 hl hi HR2.out).mono ?_
  rintro e w3 ⟨rfl, hb3⟩
  have HR3 : Hid (RowAt w3 q n xs) := HR2.out.below hb3
  go_wp2_with fail
  refine (line_past q n n xs w3 hl (Int.le_refl _) HR3.out).mono ?_
  rintro e w4 ⟨rfl, hb4⟩
  have s1 := hb1.size
  have s2 := hb2.size
  have s3 := hb3.size
  have HB : Hid (Below w.heap.size w w4) := ((hb1.trans (hb2.mono s1)).trans (hb3.mono (by omega))).trans (hb4.mono (by omega))
  clear hb1 hb2 hb3 hb4 HC HR HR2 HR3
  go_wp2
  go_ret
  exact ⟨rfl, HB.out⟩

theorem law2 (p : Option Addr) (n c : Nat) (i : Int) (xs : List Int) (w : World) (hn : n ≤ maxLen) (hp : p = none → c = 0) (hr : CameIn w p n xs) :
    Calls Try.prog 7 #[.slice p n c, .int .i64 i] w fun e w' => e = .returned (.bool true) ∧ Below w.heap.size w w' := by
  by_cases hl : n ≤ 1048576
  · by_cases hi : i < (n : Int)
    · exact law2_in p n c i w hl hi
    · exact law2_past p n c i xs w hl (by omega) hp hr
  · exact law2_long p n c i w hn (by omega)
end Go.Proofs.Qxb6002383a
