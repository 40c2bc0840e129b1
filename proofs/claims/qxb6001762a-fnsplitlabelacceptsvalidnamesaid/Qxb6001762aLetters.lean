import Derived.Test.Qxb6001762aRows
import Derived.WalkKit
import Derived.ProofKit
import Derived.WalkSpells
import Derived.WalkLawsBesides
namespace Go.Proofs.Qxb6001762a
open Go.RowKit

def letN (n : Int) : Bool := decide ((97 ≤ n ∧ n ≤ 122) ∨ (65 ≤ n ∧ n ≤ 90))
def digN (n : Int) : Bool := decide (48 ≤ n ∧ n ≤ 57)
theorem ret_bool {a b : Bool} (h : a = b) : Ending.returned (.bool a) = .returned (.bool b) := by rw [h]

set_option maxHeartbeats 400000 in
theorem letter19 (n : Int) (w : World) : Calls Try.prog 19 #[.int .u8 n] w fun e w' => e = .returned (.bool (letN n)) ∧ w' = w := by
  go_enter Try.func19, Try.ntmps19
  go_wp2
  all_goals (go_ret; exact ⟨ret_bool (by unfold letN; rw [Bool.eq_iff_iff]; simp; omega), rfl⟩)

set_option maxHeartbeats 400000 in
theorem letter24 (n : Int) (w : World) : Calls Try.prog 24 #[.int .u8 n] w fun e w' => e = .returned (.bool (letN n)) ∧ w' = w := by
  go_enter Try.func24, Try.ntmps24
  go_wp2
  all_goals (go_ret; exact ⟨ret_bool (by unfold letN; rw [Bool.eq_iff_iff]; simp; omega), rfl⟩)

set_option maxHeartbeats 400000 in
theorem digit20 (n : Int) (w : World) : Calls Try.prog 20 #[.int .u8 n] w fun e w' => e = .returned (.bool (digN n)) ∧ w' = w := by
  go_enter Try.func20, Try.ntmps20
  go_wp2
  all_goals (go_ret; exact ⟨ret_bool (by unfold digN; rw [Bool.eq_iff_iff]; simp; omega), rfl⟩)

set_option maxHeartbeats 400000 in
theorem zz8 (s : ByteArray) (w : World) (hs : s.size ≤ maxLen) : Calls Try.prog 8 #[.string s] w fun e w' => e = .returned (.bool (decide (s.size ≤ 1048576))) ∧ w' = w := by
  unfold maxLen at hs
  go_enter Try.func8, Try.ntmps8
  go_wp2
  all_goals (go_ret; exact ⟨ret_bool (by first | (symm; apply decide_eq_false; omega) | (symm; apply decide_eq_true; omega)), rfl⟩)

set_option maxHeartbeats 400000 in
theorem zz11 (s t : ByteArray) (w : World) (hs : s.size ≤ maxLen) (ht : t.size ≤ maxLen) : Calls Try.prog 11 #[.string s, .string t] w fun e w' => e = .returned (.bool (decide (s.size + t.size ≤ 1048576))) ∧ w' = w := by
  unfold maxLen at hs ht
  go_enter Try.func11, Try.ntmps11
  go_wp2
  all_goals (go_ret; exact ⟨ret_bool (by first | (symm; apply decide_eq_false; omega) | (symm; apply decide_eq_true; omega)), rfl⟩)

set_option maxHeartbeats 400000 in
theorem zz12 (s t : ByteArray) (w : World) (hs : s.size ≤ maxLen) (ht : t.size ≤ maxLen) : Calls Try.prog 12 #[.string s, .string t] w fun e w' => e = .returned (.bool (decide (s.size + t.size ≤ 1048576))) ∧ w' = w := by
  unfold maxLen at hs ht
  go_enter Try.func12, Try.ntmps12
  go_wp2
  all_goals (go_ret; exact ⟨ret_bool (by first | (symm; apply decide_eq_false; omega) | (symm; apply decide_eq_true; omega)), rfl⟩)

end Go.Proofs.Qxb6001762a
