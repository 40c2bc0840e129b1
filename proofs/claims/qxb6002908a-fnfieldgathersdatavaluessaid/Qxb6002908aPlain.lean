import Derived.Lib.AppendStr
namespace Go.Proofs.Qxb6002908a
open Go

def nums (s : ByteArray) : List Int := s.data.toList.map (fun c => (c.toNat : Int))
def tot (xs : List ByteArray) : Nat := (xs.map (fun s => s.size + 16)).sum
def acc (xs : List ByteArray) : List Int := xs.flatMap (fun s => nums s ++ [10])

theorem nums_length (s : ByteArray) : (nums s).length = s.size := by simp [nums]
theorem nums_bytes (s : ByteArray) : ∀ x ∈ nums s, 0 ≤ x ∧ x < 256 := by
  intro x hx
  obtain ⟨c, _, rfl⟩ := List.mem_map.1 hx
  have := c.toNat_lt
  omega
theorem nums_cells (s : ByteArray) : Lib.strCells s = (nums s).map (Value.int .u8) := by
  unfold Lib.strCells nums
  simp
theorem nums_at (s : ByteArray) (j : Nat) (h : j < s.size) : (nums s).getD j 0 = (s[j].toNat : Int) := by
  unfold nums
  have hl : j < s.data.toList.length := by simpa using h
  rw [List.getD_eq_getElem?_getD, List.getElem?_map, List.getElem?_eq_getElem hl]
  rfl

theorem take_step (xs : List ByteArray) (k : Nat) (h : k < xs.length) : xs.take (k + 1) = xs.take k ++ [xs.getD k ByteArray.empty] := by
  rw [List.take_succ_eq_append_getElem h]
  simp [List.getD_eq_getElem?_getD, List.getElem?_eq_getElem h]
theorem tot_step (xs : List ByteArray) (k : Nat) (h : k < xs.length) : tot (xs.take (k + 1)) = tot (xs.take k) + (xs.getD k ByteArray.empty).size + 16 := by
  rw [take_step xs k h]
  simp [tot]; omega
theorem acc_step (xs : List ByteArray) (k : Nat) (h : k < xs.length) : acc (xs.take (k + 1)) = acc (xs.take k) ++ nums (xs.getD k ByteArray.empty) ++ [10] := by
  rw [take_step xs k h]
  simp [acc]
theorem acc_len_step (xs : List ByteArray) (k : Nat) (h : k < xs.length) : (acc (xs.take (k + 1))).length = (acc (xs.take k)).length + (xs.getD k ByteArray.empty).size + 1 := by
  rw [acc_step xs k h, List.length_append, List.length_append, nums_length]
  rfl
theorem acc_le (xs : List ByteArray) : (acc xs).length ≤ tot xs := by
  induction xs with
  | nil => simp [acc, tot]
  | cons s r ih =>
    simp only [acc, tot, List.flatMap_cons, List.map_cons, List.sum_cons, List.length_append, nums_length, List.length_singleton] at ih ⊢
    omega
theorem tot_take (xs : List ByteArray) (k : Nat) : tot (xs.take k) ≤ tot xs := by
  have := congrArg tot (List.take_append_drop k xs)
  simp only [tot, List.map_append, List.sum_append] at this ⊢
  omega
theorem acc_split (xs : List ByteArray) (k : Nat) (h : k < xs.length) : ∃ r, acc xs = acc (xs.take k) ++ (nums (xs.getD k ByteArray.empty) ++ ([10] ++ r)) := by
  refine ⟨acc (xs.drop (k + 1)), ?_⟩
  have h1 := congrArg acc (List.take_append_drop (k + 1) xs)
  rw [← h1]
  have h2 : acc (xs.take (k + 1) ++ xs.drop (k + 1)) = acc (xs.take (k + 1)) ++ acc (xs.drop (k + 1)) := List.flatMap_append
  rw [h2, acc_step xs k h]
  simp [List.append_assoc]
/-- The byte at a place within value k. -/
theorem acc_at (xs : List ByteArray) (k j : Nat) (s : ByteArray) (hs : s = xs.getD k ByteArray.empty) (h : k < xs.length) (hj : j < s.size) :
    (acc xs).getD ((acc (xs.take k)).length + j) 0 = (s[j].toNat : Int) := by
  obtain ⟨r, hr⟩ := acc_split xs k h
  rw [← hs] at hr
  rw [hr, ← nums_at _ j hj]
  have hj' : j < (nums s).length := by rw [nums_length]; exact hj
  simp only [List.getD_eq_getElem?_getD]
  rw [List.getElem?_append_right (by omega), Nat.add_sub_cancel_left, List.getElem?_append_left hj']
/-- The line feed behind value k. -/
theorem acc_lf (xs : List ByteArray) (k : Nat) (s : ByteArray) (hs : s = xs.getD k ByteArray.empty) (h : k < xs.length) :
    (acc xs).getD ((acc (xs.take k)).length + s.size) 0 = 10 := by
  obtain ⟨r, hr⟩ := acc_split xs k h
  rw [← hs] at hr
  rw [hr]
  simp only [List.getD_eq_getElem?_getD]
  rw [List.getElem?_append_right (by omega), Nat.add_sub_cancel_left, List.getElem?_append_right (by rw [nums_length]; omega), nums_length, Nat.sub_self]
  rfl
theorem acc_room (xs : List ByteArray) (k : Nat) (s : ByteArray) (hs : s = xs.getD k ByteArray.empty) (h : k < xs.length) : (acc (xs.take k)).length + s.size < (acc xs).length := by
  obtain ⟨r, hr⟩ := acc_split xs k h
  rw [← hs] at hr
  rw [hr, List.length_append, List.length_append, nums_length]
  simp
end Go.Proofs.Qxb6002908a
