import Derived.Test.Qxb6001762aLaw1
namespace Go.Proofs.Qxb6001762a
open Go.RowKit

theorem ba_ext {a b : ByteArray} (h : a.data.toList = b.data.toList) : a = b := by
  cases a with
  | mk x => cases b with
    | mk y => cases x; cases y; simp at h; rw [h]

theorem index_joined (n r : List UInt8) (h : hasGt n = false) : Lib.index (n ++ 62 :: r) [62] = n.length := by
  refine Lib.index_first (by simp) ?_ ?_
  · unfold Lib.occAt
    rw [List.drop_left]
    simp
  · intro j hj
    unfold Lib.occAt
    rw [List.drop_append_of_le_length (by omega), List.drop_eq_getElem_cons hj]
    unfold hasGt at h
    rw [List.any_eq_false] at h
    have := h n[j] (List.getElem_mem hj)
    simp at this
    simp only [List.cons_append, List.isPrefixOf, Bool.and_true, beq_eq_false_iff_ne]
    exact fun e => this e.symm

theorem cut_joined (n r : List UInt8) (h : hasGt n = false) : Lib.cut (n ++ 62 :: r) [62] = (n, r, true) := by
  unfold Lib.cut
  rw [index_joined n r h, if_pos (by omega)]
  simp

theorem let_ne_gt {c : UInt8} (h : okN c.toNat = true) : (c == 62) = false := by
  rw [beq_eq_false_iff_ne]
  intro e
  subst e
  revert h
  decide

theorem valid_no_gt (l : List UInt8) (h : validL l = true) : hasGt l = false := by
  cases l with
  | nil => rfl
  | cons c r =>
    simp only [validL, Bool.and_eq_true, List.all_eq_true] at h
    unfold hasGt
    rw [List.any_eq_false]
    intro x hx
    rw [Bool.not_eq_true]
    rcases List.mem_cons.1 hx with rfl | hx
    · exact let_ne_gt (ok_a h.1)
    · exact let_ne_gt (h.2 x hx)

theorem data_joined (n r : ByteArray) : (n ++ { data := #[62] } ++ r).data.toList = n.data.toList ++ 62 :: r.data.toList := by
  simp [ByteArray.data_append]

/-- What splitLabel does with name, the byte 62 and rest, the name without that byte. -/
theorem split_joined (n r : ByteArray) (w : World) (hsz : n.size + r.size ≤ 1048576) (hsh : w.ShapedOpen Try.prog) (hg : hasGt n.data.toList = false) :
    (validL n.data.toList = true → Calls Try.prog 9 #[.string (n ++ { data := #[62] } ++ r)] w fun e w' => e = .returned (.tuple #[.string n, .string r, .bool true]) ∧ ∃ k, w' = w.drewN k) ∧
    (validL n.data.toList = false → Calls Try.prog 9 #[.string (n ++ { data := #[62] } ++ r)] w fun e w' => e = .returned (.tuple #[.string ⟨#[]⟩, .string (n ++ { data := #[62] } ++ r), .bool false]) ∧ ∃ k, w' = w.drewN k) := by
  have hs := joined_size (n ++ { data := #[62] } ++ r) n r (data_joined n r)
  obtain ⟨nm, rs, fd, hcut, en, er, ef⟩ := cut_at (n ++ { data := #[62] } ++ r) w hsh (by omega)
  rw [data_joined, cut_joined _ _ hg] at en er ef
  obtain rfl := ba_ext en
  obtain rfl := ba_ext er
  subst ef
  rcases split_two _ nm rs true w (by unfold maxLen; omega) hcut with ⟨ho, hc⟩ | ⟨ho, hc⟩
  · rw [Bool.true_and] at ho
    exact ⟨fun _ => hc, fun h => by rw [ho] at h; cases h⟩
  · rw [Bool.true_and] at ho
    exact ⟨(fun h => by rw [ho] at h; cases h), fun _ => hc⟩

set_option maxHeartbeats 400000 in
theorem law2_long (n r : ByteArray) (w : World) (hn : n.size ≤ maxLen) (hr : r.size ≤ maxLen) (hs : 1048576 < n.size + r.size) :
    Calls Try.prog 4 #[.string n, .string r] w fun e w' => e = .returned (.bool true) ∧ ∃ k, w' = w.drewN k := by
  have hz : decide (n.size + r.size ≤ 1048576) = false := decide_eq_false (by omega)
  go_enter Try.func4, Try.ntmps4
  go_wp2_with (go_at_call 11; refine (zz11 _ _ _ hn hr).mono ?_; rintro e w' ⟨rfl, rfl⟩)
  go_ret
  exact ⟨rfl, 0, rfl⟩

set_option maxHeartbeats 400000 in
theorem law2_bad (n r : ByteArray) (w : World) (hs : n.size + r.size ≤ 1048576) (hv : validL n.data.toList = false) :
    Calls Try.prog 4 #[.string n, .string r] w fun e w' => e = .returned (.bool true) ∧ ∃ k, w' = w.drewN k := by
  have hz : decide (n.size + r.size ≤ 1048576) = true := decide_eq_true hs
  have b1 : n.size ≤ 1048576 := by omega
  have b2 : r.size ≤ 1048576 := by omega
  go_enter Try.func4, Try.ntmps4
  go_wp2_with (first | (go_at_call 11; refine (zz11 _ _ _ (by unfold maxLen; omega) (by unfold maxLen; omega)).mono ?_; rintro e w' ⟨rfl, rfl⟩) | (go_at_call 10; refine (valid10 _ _ (by unfold maxLen; omega)).mono ?_; rintro e w' ⟨rfl, rfl⟩))
  go_ret
  exact ⟨rfl, 0, rfl⟩

set_option maxHeartbeats 400000 in
theorem law2_good (n r : ByteArray) (w : World) (hs : n.size + r.size ≤ 1048576) (hv : validL n.data.toList = true)
    (H : Hid (Calls Try.prog 9 #[.string (n ++ { data := #[62] } ++ r)] w fun e w' => e = .returned (.tuple #[.string n, .string r, .bool true]) ∧ ∃ k, w' = w.drewN k)) :
    Calls Try.prog 4 #[.string n, .string r] w fun e w' => e = .returned (.bool true) ∧ ∃ k, w' = w.drewN k := by
  have hz : decide (n.size + r.size ≤ 1048576) = true := decide_eq_true hs
  have b1 : n.size ≤ 1048576 := by omega
  have b2 : r.size ≤ 1048576 := by omega
  go_enter Try.func4, Try.ntmps4
  go_wp2_with (first | (go_at_call 11; refine (zz11 _ _ _ (by unfold maxLen; omega) (by unfold maxLen; omega)).mono ?_; rintro e w' ⟨rfl, rfl⟩) | (go_at_call 10; refine (valid10 _ _ (by unfold maxLen; omega)).mono ?_; rintro e w' ⟨rfl, rfl⟩) | (go_at_call 9; refine H.out.mono ?_; rintro e w' ⟨rfl, k, rfl⟩))
  go_ret
  exact ⟨rfl, k, rfl⟩

theorem law2 (n r : ByteArray) (w : World) (hn : n.size ≤ maxLen) (hr : r.size ≤ maxLen) (hsh : w.ShapedOpen Try.prog) :
    Calls Try.prog 4 #[.string n, .string r] w fun e w' => e = .returned (.bool true) ∧ ∃ k, w' = w.drewN k := by
  by_cases hs : n.size + r.size ≤ 1048576
  · cases hv : validL n.data.toList with
    | false => exact law2_bad n r w hs hv
    | true => exact law2_good n r w hs hv ((split_joined n r w hs hsh (valid_no_gt _ hv)).1 hv)
  · exact law2_long n r w hn hr (by omega)

set_option maxHeartbeats 400000 in
theorem law3_long (n r : ByteArray) (w : World) (hn : n.size ≤ maxLen) (hr : r.size ≤ maxLen) (hs : 1048576 < n.size + r.size) :
    Calls Try.prog 5 #[.string n, .string r] w fun e w' => e = .returned (.bool true) ∧ ∃ k, w' = w.drewN k := by
  have hz : decide (n.size + r.size ≤ 1048576) = false := decide_eq_false (by omega)
  go_enter Try.func5, Try.ntmps5
  go_wp2_with (go_at_call 12; refine (zz12 _ _ _ hn hr).mono ?_; rintro e w' ⟨rfl, rfl⟩)
  go_ret
  exact ⟨rfl, 0, rfl⟩

set_option maxHeartbeats 400000 in
theorem law3_good (n r : ByteArray) (w : World) (hs : n.size + r.size ≤ 1048576) (hv : validL n.data.toList = true) :
    Calls Try.prog 5 #[.string n, .string r] w fun e w' => e = .returned (.bool true) ∧ ∃ k, w' = w.drewN k := by
  have hz : decide (n.size + r.size ≤ 1048576) = true := decide_eq_true hs
  have b1 : n.size ≤ 1048576 := by omega
  have b2 : r.size ≤ 1048576 := by omega
  go_enter Try.func5, Try.ntmps5
  go_wp2_with (first | (go_at_call 12; refine (zz12 _ _ _ (by unfold maxLen; omega) (by unfold maxLen; omega)).mono ?_; rintro e w' ⟨rfl, rfl⟩) | (go_at_call 10; refine (valid10 _ _ (by unfold maxLen; omega)).mono ?_; rintro e w' ⟨rfl, rfl⟩))
  go_ret
  exact ⟨rfl, 0, rfl⟩

set_option maxHeartbeats 400000 in
theorem law3_gt (n r : ByteArray) (w : World) (hs : n.size + r.size ≤ 1048576) (hv : validL n.data.toList = false) (hg : hasGt n.data.toList = true) :
    Calls Try.prog 5 #[.string n, .string r] w fun e w' => e = .returned (.bool true) ∧ ∃ k, w' = w.drewN k := by
  have hz : decide (n.size + r.size ≤ 1048576) = true := decide_eq_true hs
  have b1 : n.size ≤ 1048576 := by omega
  have b2 : r.size ≤ 1048576 := by omega
  go_enter Try.func5, Try.ntmps5
  go_wp2_with (first | (go_at_call 12; refine (zz12 _ _ _ (by unfold maxLen; omega) (by unfold maxLen; omega)).mono ?_; rintro e w' ⟨rfl, rfl⟩) | (go_at_call 10; refine (valid10 _ _ (by unfold maxLen; omega)).mono ?_; rintro e w' ⟨rfl, rfl⟩) | (go_at_call 13; refine (holds13 _ _ (by unfold maxLen; omega)).mono ?_; rintro e w' ⟨rfl, rfl⟩))
  go_ret
  exact ⟨rfl, 0, rfl⟩

set_option maxHeartbeats 400000 in
theorem law3_bad (n r : ByteArray) (w : World) (hs : n.size + r.size ≤ 1048576) (hv : validL n.data.toList = false) (hg : hasGt n.data.toList = false)
    (H : Hid (Calls Try.prog 9 #[.string (n ++ { data := #[62] } ++ r)] w fun e w' => e = .returned (.tuple #[.string ⟨#[]⟩, .string (n ++ { data := #[62] } ++ r), .bool false]) ∧ ∃ k, w' = w.drewN k)) :
    Calls Try.prog 5 #[.string n, .string r] w fun e w' => e = .returned (.bool true) ∧ ∃ k, w' = w.drewN k := by
  have hz : decide (n.size + r.size ≤ 1048576) = true := decide_eq_true hs
  have b1 : n.size ≤ 1048576 := by omega
  have b2 : r.size ≤ 1048576 := by omega
  go_enter Try.func5, Try.ntmps5
  go_wp2_with (first | (go_at_call 12; refine (zz12 _ _ _ (by unfold maxLen; omega) (by unfold maxLen; omega)).mono ?_; rintro e w' ⟨rfl, rfl⟩) | (go_at_call 10; refine (valid10 _ _ (by unfold maxLen; omega)).mono ?_; rintro e w' ⟨rfl, rfl⟩) | (go_at_call 13; refine (holds13 _ _ (by unfold maxLen; omega)).mono ?_; rintro e w' ⟨rfl, rfl⟩) | (go_at_call 9; refine H.out.mono ?_; rintro e w' ⟨rfl, k, rfl⟩))
  go_ret
  exact ⟨rfl, k, rfl⟩

theorem law3 (n r : ByteArray) (w : World) (hn : n.size ≤ maxLen) (hr : r.size ≤ maxLen) (hsh : w.ShapedOpen Try.prog) :
    Calls Try.prog 5 #[.string n, .string r] w fun e w' => e = .returned (.bool true) ∧ ∃ k, w' = w.drewN k := by
  by_cases hs : n.size + r.size ≤ 1048576
  · cases hv : validL n.data.toList with
    | true => exact law3_good n r w hs hv
    | false =>
      cases hg : hasGt n.data.toList with
      | true => exact law3_gt n r w hs hv hg
      | false => exact law3_bad n r w hs hv hg ((split_joined n r w hs hsh hg).2 hv)
  · exact law3_long n r w hn hr (by omega)
end Go.Proofs.Qxb6001762a
