import Derived.Test.Qxb6001762aSplit
import Derived.Test.Qxb6001762aShelf
namespace Go.Proofs.Qxb6001762a
open Go.RowKit

/-- What strings.Cut at the separator of one byte, 62, hands back. -/
theorem cut_at (s : ByteArray) (w : World) (hsh : w.ShapedOpen Try.prog) (hs : s.size < 4294967281) :
    ∃ nm rs fd, CutAt s nm rs fd w ∧ nm.data.toList = (Lib.cut s.data.toList [62]).1 ∧ rs.data.toList = (Lib.cut s.data.toList [62]).2.1 ∧ fd = (Lib.cut s.data.toList [62]).2.2 := by
  have h := Try.strings_Cut_shaped s ⟨#[62]⟩ w hsh hs
  exact ⟨_, _, _, h, by simp, by simp, rfl⟩

theorem cut_le (l sep : List UInt8) : (Lib.cut l sep).1.length ≤ l.length := by
  unfold Lib.cut; split <;> simp; omega

/-- Where the byte is found the three parts make up the text. -/
theorem cut_parts (l : List UInt8) (h : (Lib.cut l [62]).2.2 = true) : l = (Lib.cut l [62]).1 ++ 62 :: (Lib.cut l [62]).2.1 := by
  unfold Lib.cut at h ⊢
  split at h
  case isFalse => simp at h
  case isTrue hp =>
    rw [if_pos hp]
    rcases Lib.index_spec l [62] with ⟨h1, _⟩ | ⟨i, h1, h2, h3, _⟩
    · omega
    · rw [h1]
      simp only [Int.toNat_natCast, List.length_cons, List.length_nil]
      unfold Lib.occAt at h3
      obtain ⟨t, ht⟩ := List.isPrefixOf_iff_prefix.1 h3
      have e2 : l.drop (i + 1) = t := by
        rw [← List.drop_drop, ← ht]; rfl
      rw [e2]
      have := List.take_append_drop i l
      rw [← ht] at this
      exact this.symm

theorem joined (s nm rs : ByteArray) (h : s.data.toList = nm.data.toList ++ 62 :: rs.data.toList) : ((nm ++ { data := #[62] } ++ rs).toList == s.toList) = true := by
  rw [Lib.toList_data, Lib.toList_data, h]
  simp [ByteArray.data_append]
theorem joined_size (s nm rs : ByteArray) (h : s.data.toList = nm.data.toList ++ 62 :: rs.data.toList) : s.size = nm.size + 1 + rs.size := by
  have := congrArg List.length h
  rw [List.length_append, List.length_cons, ← Lib.size_eq, ← Lib.size_eq, ← Lib.size_eq] at this
  omega

/-- What splitLabel hands back, as one of two plain contracts. -/
theorem split_two (s nm rs : ByteArray) (fd : Bool) (w : World) (hn : nm.size ≤ maxLen) (hcut : CutAt s nm rs fd w) :
    ((fd && validL nm.data.toList) = true ∧ Calls Try.prog 9 #[.string s] w fun e w' => e = .returned (.tuple #[.string nm, .string rs, .bool true]) ∧ ∃ n, w' = w.drewN n) ∨
    ((fd && validL nm.data.toList) = false ∧ Calls Try.prog 9 #[.string s] w fun e w' => e = .returned (.tuple #[.string ⟨#[]⟩, .string s, .bool false]) ∧ ∃ n, w' = w.drewN n) := by
  have h := split9 s nm rs fd w hn hcut
  cases hc : (fd && validL nm.data.toList) with
  | true =>
    refine Or.inl ⟨rfl, h.mono fun e w' ⟨h1, h2⟩ => ⟨?_, h2⟩⟩
    rcases h1 with ⟨_, h1⟩ | ⟨h1, _⟩
    · exact h1
    · rw [hc] at h1; cases h1
  | false =>
    refine Or.inr ⟨rfl, h.mono fun e w' ⟨h1, h2⟩ => ⟨?_, h2⟩⟩
    rcases h1 with ⟨h1, _⟩ | ⟨_, h1⟩
    · rw [hc] at h1; cases h1
    · exact h1

set_option maxHeartbeats 400000 in
theorem law1_long (s : ByteArray) (w : World) (h : s.size ≤ maxLen) (hs : 1048576 < s.size) :
    Calls Try.prog 3 #[.string s] w fun e w' => e = .returned (.bool true) ∧ ∃ n, w' = w.drewN n := by
  have hz : decide (s.size ≤ 1048576) = false := decide_eq_false (by omega)
  go_enter Try.func3, Try.ntmps3
  go_wp2_with (go_at_call 8; refine (zz8 _ _ h).mono ?_; rintro e w' ⟨rfl, rfl⟩)
  go_ret
  exact ⟨rfl, 0, rfl⟩

set_option maxHeartbeats 400000 in
theorem law1_no (s : ByteArray) (w : World) (hs : s.size ≤ 1048576)
    (H : Hid (Calls Try.prog 9 #[.string s] w fun e w' => e = .returned (.tuple #[.string ⟨#[]⟩, .string s, .bool false]) ∧ ∃ n, w' = w.drewN n)) :
    Calls Try.prog 3 #[.string s] w fun e w' => e = .returned (.bool true) ∧ ∃ n, w' = w.drewN n := by
  have hz : decide (s.size ≤ 1048576) = true := decide_eq_true hs
  go_enter Try.func3, Try.ntmps3
  go_wp2_with (first | (go_at_call 8; refine (zz8 _ _ (by unfold maxLen; omega)).mono ?_; rintro e w' ⟨rfl, rfl⟩) | (go_at_call 9; refine H.out.mono ?_; rintro e w' ⟨rfl, n, rfl⟩))
  go_ret
  exact ⟨rfl, n, rfl⟩

set_option maxHeartbeats 400000 in
theorem law1_yes (s nm rs : ByteArray) (w : World) (hs : s.size ≤ 1048576) (hv : validL nm.data.toList = true) (hj : s.data.toList = nm.data.toList ++ 62 :: rs.data.toList)
    (H : Hid (Calls Try.prog 9 #[.string s] w fun e w' => e = .returned (.tuple #[.string nm, .string rs, .bool true]) ∧ ∃ n, w' = w.drewN n)) :
    Calls Try.prog 3 #[.string s] w fun e w' => e = .returned (.bool true) ∧ ∃ n, w' = w.drewN n := by
  have hz : decide (s.size ≤ 1048576) = true := decide_eq_true hs
  have hsz := joined_size s nm rs hj
  have b1 : nm.size + 1 ≤ 1048576 := by omega
  have b2 : nm.size + 1 + rs.size ≤ 1048576 := by omega
  have HJ : Hid (((nm ++ { data := #[62] } ++ rs).toList == s.toList) = true) := joined s nm rs hj
  clear hj hsz
  go_enter Try.func3, Try.ntmps3
  go_wp2_with (first | (go_at_call 8; refine (zz8 _ _ (by unfold maxLen; omega)).mono ?_; rintro e w' ⟨rfl, rfl⟩) | (go_at_call 9; refine H.out.mono ?_; rintro e w' ⟨rfl, n, rfl⟩) | (go_at_call 10; refine (valid10 _ _ (by unfold maxLen; omega)).mono ?_; rintro e w' ⟨rfl, rfl⟩))
  go_ret
  exact ⟨ret_bool HJ.out, n, rfl⟩

theorem law1 (s : ByteArray) (w : World) (h : s.size ≤ maxLen) (hsh : w.ShapedOpen Try.prog) :
    Calls Try.prog 3 #[.string s] w fun e w' => e = .returned (.bool true) ∧ ∃ n, w' = w.drewN n := by
  by_cases hs : s.size ≤ 1048576
  · obtain ⟨nm, rs, fd, hcut, en, er, ef⟩ := cut_at s w hsh (by omega)
    have hle := cut_le s.data.toList [62]
    rw [← en, ← Lib.size_eq, ← Lib.size_eq] at hle
    rcases split_two s nm rs fd w (by unfold maxLen; omega) hcut with ⟨ho, hc⟩ | ⟨_, hc⟩
    · rw [Bool.and_eq_true] at ho
      refine law1_yes s nm rs w hs ho.2 ?_ hc
      rw [en, er]
      exact cut_parts _ (ef ▸ ho.1)
    · exact law1_no s w hs hc
  · exact law1_long s w h (by omega)
end Go.Proofs.Qxb6001762a
