import Derived.Test.Qxb6002383aLaw12
namespace Go.Proofs.Qxb6002383a
open Go.RowKit

theorem nl_append (xs ys : List Int) : nl (xs ++ ys) = nl xs + nl ys := by
  unfold nl Lib.countByte Lib.bytesOf
  rw [List.map_append, List.count_append]

theorem take_left' (xs ys : List Int) (k : Nat) (h : xs.length = k) : (xs ++ ys).take k = xs := by
  subst h
  exact List.take_left
theorem rowAt_own {w : World} {B n : Nat} {xs : List Int} (hx : xs.length = n) (h : w.ownsRow B 5 1 (.slice (some ⟨B, 0, none⟩) n n) n (part xs n n)) : RowAt w (some ⟨B, 0, none⟩) n xs := by
  refine ⟨hx, Or.inr ⟨B, rfl, (h.lt B rfl).2, fun i hi => ?_⟩⟩
  rw [h.cellAt i (by omega), part_full _ _ hx]
  simp [List.getElem?_eq_getElem (show i < xs.length by omega)]

set_option maxHeartbeats 400000 in
theorem law3_long (p : Option Addr) (n c : Nat) (p' : Option Addr) (n' c' : Nat) (w : World) (hn : n ≤ maxLen) (hn' : n' ≤ maxLen) (hl : 1048576 < n + n') :
    Calls Try.prog 8 #[.slice p n c, .slice p' n' c'] w fun e w' => e = .returned (.bool true) ∧ Below w.heap.size w w' := by
  have hz : decide (n + n' ≤ 1048576) = false := decide_eq_false (by omega)
  go_enter Try.func8, Try.ntmps8
  go_wp2_with (go_at_call 23; refine (zz23 _ _ _ _ _ _ _ hn hn').mono ?_; rintro e w' ⟨rfl, rfl⟩)
  go_ret
  exact ⟨rfl, Below.refl _ _⟩

set_option maxHeartbeats 400000 in
theorem law3_wide (p : Option Addr) (n c : Nat) (p' : Option Addr) (n' c' : Nat) (w : World) (hl : n + n' ≤ 1048576) (hw : 524288 < n ∨ 524288 < n') :
    Calls Try.prog 8 #[.slice p n c, .slice p' n' c'] w fun e w' => e = .returned (.bool true) ∧ Below w.heap.size w w' := by
  have hz : decide (n + n' ≤ 1048576) = true := decide_eq_true (by omega)
  by_cases h1 : 524288 < n
  · go_enter Try.func8, Try.ntmps8
    go_wp2_with (go_at_call 23; refine (zz23 _ _ _ _ _ _ _ (by unfold maxLen; omega) (by unfold maxLen; omega)).mono ?_; rintro e w' ⟨rfl, rfl⟩)
    go_ret
    exact ⟨rfl, Below.refl _ _⟩
  · have h2 : 524288 < n' := by omega
    clear hw
    go_enter Try.func8, Try.ntmps8
    go_wp2_with (go_at_call 23; refine (zz23 _ _ _ _ _ _ _ (by unfold maxLen; omega) (by unfold maxLen; omega)).mono ?_; rintro e w' ⟨rfl, rfl⟩)
    go_ret
    exact ⟨rfl, Below.refl _ _⟩

set_option maxHeartbeats 1000000 in
theorem law3_main (p : Option Addr) (n c : Nat) (p' : Option Addr) (n' c' : Nat) (xs ys : List Int) (w : World) (b1 : n ≤ 524288) (b2 : n' ≤ 524288)
    (hp : p = none → c = 0) (hp' : p' = none → c' = 0) (hr : CameIn w p n xs) (hr' : CameIn w p' n' ys) :
    Calls Try.prog 8 #[.slice p n c, .slice p' n' c'] w fun e w' => e = .returned (.bool true) ∧ Below w.heap.size w w' := by
  have hz : decide (n + n' ≤ 1048576) = true := decide_eq_true (by omega)
  obtain ⟨i0, hi, hz0, hz1, hz2⟩ := info_parts info5
  have bmake : i0.bytes * (n + n') ≤ 281474976710656 := by rw [hz2]; omega
  have bmax : n + n' ≤ maxLen := by unfold maxLen; omega
  have d1 : decide (524288 < (n : Int)) = false := decide_eq_false (by omega)
  have d2 : decide (524288 < (n' : Int)) = false := decide_eq_false (by omega)
  have HCa : Hid (CameIn w p n xs) := hr
  have HCb : Hid (CameIn w p' n' ys) := hr'
  clear hr hr'
  have HPa : Hid (p = none → c = 0) := hp
  have HPb : Hid (p' = none → c' = 0) := hp'
  clear hp hp'
  go_enter Try.func8, Try.ntmps8
  go_wp2_with (go_at_call 23; refine (zz23 _ _ _ _ _ _ _ (by unfold maxLen; omega) (by unfold maxLen; omega)).mono ?_; rintro e w' ⟨rfl, hw⟩; have hw2 := hw.symm; subst hw2; clear hw)
  refine (copy20 p n c xs w (by omega) HPa.out HCa.out).mono ?_
  rintro e w1 ⟨q, rfl, hr1, hb1⟩
  go_wp2_with fail
  refine (copy20 p' n' c' ys w1 (by omega) HPb.out (HCb.out.below hb1)).mono ?_
  rintro e w2 ⟨q', rfl, hr2, hb2⟩
  have HRa : Hid (RowAt w2 q n xs) := hr1.below hb2
  have HRb : Hid (RowAt w2 q' n' ys) := hr2
  have HB2 : Hid (Below w.heap.size w w2) := hb1.trans (hb2.mono hb1.size)
  clear hr1 hr2 hb1 hb2 HCa HCb HPa HPb
  go_wp2_with (at_make; refine wpList_make_full _ rfl _ _ 36 rfl w2.heap.size 5 i0 (.int .u8 0) 1 Try.underlying36 hi hz0 hz1 .i64 .i64 _ _ (n + n') rfl rfl (by omega) (by omega) bmake bmax (Nat.le_refl _) ?_; intro w3 hown hgr)
  rw [part_zero (xs ++ ys) (n + n')] at hown
  have hb3 : Below w2.heap.size w2 w3 := (Below.refl _ _).grown hgr (Nat.le_refl _) (fun k h => by cases h)
  clear hgr hi hz0 hz1 hz2 bmake bmax
  have HO : Hid (w3.ownsRow w2.heap.size 5 1 (.slice (some ⟨w2.heap.size, 0, none⟩) (n + n') (n + n')) (n + n') (part (xs ++ ys) (n + n') 0)) := hown
  have HB3 : Hid (Below w2.heap.size w2 w3) := hb3
  clear hown hb3
  have HXL : Hid (xs.length = n) := HRa.out.len
  have HXY : Hid ((xs ++ ys).length = n + n') := by
    show (xs ++ ys).length = n + n'
    rw [List.length_append, HRa.out.len, HRb.out.len]
  go_loopw [6] (fun i wr => ∃ k : Nat, k ≤ n ∧ i = .int .i64 k ∧ Hid (wr.ownsRow w2.heap.size 5 1 (.slice (some ⟨w2.heap.size, 0, none⟩) (n + n') (n + n')) (n + n') (part (xs ++ ys) (n + n') k)) ∧ Hid (Below w2.heap.size w2 wr))
    (fun i _ => n - (intOf i).toNat)
  case atStart => exact ⟨0, Nat.zero_le _, rfl, HO, HB3⟩
  case round =>
    obtain ⟨k, hk, rfl, HOr, HBr⟩ := hrel
    clear HO HB3
    by_cases hlt : k < n
    · obtain ⟨ga, hq, hga, hca⟩ := HRa.out.pos (by omega)
      have hsrc : wr.cell? ⟨ga, k, none⟩ = some (.int .u8 (xs.getD k 0)) := (HBr.out.cell (p := ⟨ga, k, none⟩) hga).trans (hca k hlt)
      have hgt : (xs ++ ys).getD k 0 = xs.getD k 0 := by
        simp [List.getElem?_append_left (show k < xs.length by rw [HRa.out.len]; exact hlt)]
      rw [← hgt] at hsrc
      obtain ⟨v0, hv0⟩ := part_at (xs ++ ys) (n + n') k HXY.out (by omega)
      have hdst : wr.cell? ⟨w2.heap.size, k, none⟩ = some (.int .u8 v0) := (HOr.out.cellAt k (by omega)).trans hv0
      have hfz : wr.frozen? ⟨w2.heap.size, k, none⟩ = false := HOr.out.frozenAt k
      clear hv0 hgt hca
      subst hq
      go_wp2
      go_roundw
      case rel => exact ⟨k + 1, by omega, by go_num, own_step HXY.out (by omega) HOr.out, HBr.out.setCell (Nat.le_refl _) _⟩
      case measure => simp [intOf]; omega
    · have e : k = n := by omega
      subst e
      go_wp2
      go_loopw [7] (fun i wr => ∃ j : Nat, j ≤ n' ∧ i = .int .i64 j ∧ Hid (wr.ownsRow w2.heap.size 5 1 (.slice (some ⟨w2.heap.size, 0, none⟩) (k + n') (k + n')) (k + n') (part (xs ++ ys) (k + n') (k + j))) ∧ Hid (Below w2.heap.size w2 wr))
        (fun i _ => n' - (intOf i).toNat)
      case atStart => exact ⟨0, Nat.zero_le _, rfl, HOr, HBr⟩
      case round =>
        clear HOr HBr
        obtain ⟨j, hj, rfl, HOr, HBr⟩ := hrel
        by_cases hlt : j < n'
        · obtain ⟨gb, hq, hgb, hcb⟩ := HRb.out.pos (by omega)
          have hsrc : wr.cell? ⟨gb, j, none⟩ = some (.int .u8 (ys.getD j 0)) := (HBr.out.cell (p := ⟨gb, j, none⟩) hgb).trans (hcb j hlt)
          have hgt : (xs ++ ys).getD (k + j) 0 = ys.getD j 0 := by
            have hl := HRa.out.len
            simp [List.getElem?_append_right (show xs.length ≤ k + j by omega), hl]
          rw [← hgt] at hsrc
          obtain ⟨v0, hv0⟩ := part_at (xs ++ ys) (k + n') (k + j) HXY.out (by omega)
          have hdst : wr.cell? ⟨w2.heap.size, k + j, none⟩ = some (.int .u8 v0) := (HOr.out.cellAt (k + j) (by omega)).trans hv0
          have hfz : wr.frozen? ⟨w2.heap.size, k + j, none⟩ = false := HOr.out.frozenAt (k + j)
          clear hv0 hgt hcb
          subst hq
          go_wp2
          go_roundw
          case rel => exact ⟨j + 1, by omega, by go_num, own_step (k := k + j) HXY.out (by omega) HOr.out, HBr.out.setCell (Nat.le_refl _) _⟩
          case measure => simp [intOf]; omega
        · have e : j = n' := by omega
          subst e
          have HRc : Hid (RowAt wr (some ⟨w2.heap.size, 0, none⟩) (k + j) (xs ++ ys)) := rowAt_own HXY.out HOr.out
          have HRa' : Hid (RowAt wr q k xs) := HRa.out.below HBr.out
          have HRb' : Hid (RowAt wr q' j ys) := HRb.out.below HBr.out
          have HB : Hid (Below w.heap.size w wr) := HB2.out.trans (HBr.out.mono HB2.out.size)
          clear HOr HBr HRa HRb HB2 hlt hk
          go_wp2_with fail
          refine (line_past q k k xs wr (by omega) (Int.le_refl _) HRa'.out).mono ?_
          rintro e w4 ⟨rfl, hb4⟩
          have HRb4 : Hid (RowAt w4 q' j ys) := HRb'.out.below hb4
          have HRc4 : Hid (RowAt w4 (some ⟨w2.heap.size, 0, none⟩) (k + j) (xs ++ ys)) := HRc.out.below hb4
          have HB4 : Hid (Below w.heap.size w w4) := HB.out.trans (hb4.mono HB.out.size)
          clear hb4 HRa' HRb' HRc HB
          go_wp2_with fail
          refine (line_past q' j j ys w4 (by omega) (Int.le_refl _) HRb4.out).mono ?_
          rintro e w5 ⟨rfl, hb5⟩
          have HRc5 : Hid (RowAt w5 (some ⟨w2.heap.size, 0, none⟩) (k + j) (xs ++ ys)) := HRc4.out.below hb5
          have HB5 : Hid (Below w.heap.size w w5) := HB4.out.trans (hb5.mono HB4.out.size)
          clear hb5 HRb4 HRc4 HB4
          go_wp2_with fail
          refine (line_at (some ⟨w2.heap.size, 0, none⟩) (k + j) k (xs ++ ys) w5 (by omega) (by omega) HRc5.out).mono ?_
          rintro e w6 ⟨rfl, hb6⟩
          have HRc6 : Hid (RowAt w6 (some ⟨w2.heap.size, 0, none⟩) (k + j) (xs ++ ys)) := HRc5.out.below hb6
          have HB6 : Hid (Below w.heap.size w w6) := HB5.out.trans (hb6.mono HB5.out.size)
          clear hb6 HRc5 HB5
          rw [take_left' xs ys k HXL.out]
          go_wp2_with fail
          refine (line_past (some ⟨w2.heap.size, 0, none⟩) (k + j) ((k : Int) + (j : Int)) (xs ++ ys) w6 (by omega) (by omega) HRc6.out).mono ?_
          rintro e w7 ⟨rfl, hb7⟩
          have HB7 : Hid (Below w.heap.size w w7) := HB6.out.trans (hb7.mono HB6.out.size)
          clear hb7 HRc6 HB6
          rw [nl_append]
          have n1 := nl_le xs
          have n2 := nl_le ys
          have hxl := HXL.out
          have hxy := HXY.out
          rw [List.length_append] at hxy
          have m1 : nl xs ≤ 524288 := by omega
          have m2 : nl ys ≤ 524288 := by omega
          clear n1 n2 hxl hxy HXL HXY
          go_wp2
          go_ret
          exact ⟨ret_bool (by rw [beq_iff_eq]; omega), HB7.out⟩

theorem law3 (p : Option Addr) (n c : Nat) (p' : Option Addr) (n' c' : Nat) (xs ys : List Int) (w : World) (hn : n ≤ maxLen) (hn' : n' ≤ maxLen)
    (hp : p = none → c = 0) (hp' : p' = none → c' = 0) (hr : CameIn w p n xs) (hr' : CameIn w p' n' ys) :
    Calls Try.prog 8 #[.slice p n c, .slice p' n' c'] w fun e w' => e = .returned (.bool true) ∧ Below w.heap.size w w' := by
  by_cases hl : n + n' ≤ 1048576
  · by_cases hw : 524288 < n ∨ 524288 < n'
    · exact law3_wide p n c p' n' c' w hl hw
    · exact law3_main p n c p' n' c' xs ys w (by omega) (by omega) hp hp' hr hr'
  · exact law3_long p n c p' n' c' w hn hn' (by omega)
end Go.Proofs.Qxb6002383a
