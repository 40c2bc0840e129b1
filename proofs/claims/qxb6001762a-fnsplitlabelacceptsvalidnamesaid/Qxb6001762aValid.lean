import Derived.Test.Qxb6001762aLetters
namespace Go.Proofs.Qxb6001762a
open Go.RowKit

def okN (n : Int) : Bool := letN n || digN n
def validL : List UInt8 → Bool
  | [] => false
  | c :: r => letN c.toNat && r.all (fun d => okN d.toNat)

theorem validL_false_of_nil (l : List UInt8) (h : l.length = 0) : validL l = false := by
  cases l with
  | nil => rfl
  | cons a t => simp at h
theorem toList_head (s : ByteArray) (h : 0 < s.size) : s.data.toList = s[0] :: s.data.toList.drop 1 := by
  have := List.drop_eq_getElem_cons (l := s.data.toList) (i := 0) (by simpa using h)
  rw [List.drop_zero] at this
  exact this
theorem toList_tail (s : ByteArray) (k : Nat) (h1 : 1 ≤ k) (h : k < s.size) : s[k] = (s.data.toList.drop 1)[k - 1]'(by simp; omega) := by
  rw [List.getElem_drop]
  have : 1 + (k - 1) = k := by omega
  simp only [this]
  rfl
theorem validL_false_head (s : ByteArray) (h : 0 < s.size) (hl : letN s[0].toNat = false) : validL s.data.toList = false := by
  rw [toList_head s h]; simp [validL, hl]
theorem validL_false_at (s : ByteArray) (k : Nat) (h1 : 1 ≤ k) (h : k < s.size) (hl : okN s[k].toNat = false) : validL s.data.toList = false := by
  rw [toList_head s (by omega)]
  simp only [validL, Bool.and_eq_false_iff]
  right
  rw [List.all_eq_false]
  refine ⟨s[k], ?_, by simp [hl]⟩
  rw [toList_tail s k h1 h]
  exact List.getElem_mem _
theorem validL_true (s : ByteArray) (h : 0 < s.size) (hl : letN s[0].toNat = true) (ha : ∀ j (hj : j < s.size), 1 ≤ j → okN s[j].toNat = true) : validL s.data.toList = true := by
  rw [toList_head s h]
  simp only [validL, hl, Bool.true_and, List.all_eq_true]
  intro x hx
  obtain ⟨i, hi, rfl⟩ := List.getElem_of_mem hx
  have hi' : 1 + i < s.size := by simp at hi; omega
  have := ha (1 + i) hi' (by omega)
  rw [toList_tail s (1 + i) (by omega) hi'] at this
  simpa using this

theorem ok_step (s : ByteArray) (k : Nat) (hlt : k < s.size) (hok : okN s[k].toNat = true) (h : ∀ j (hj : j < s.size), 1 ≤ j → j < k → okN s[j].toNat = true) :
    ∀ j (hj : j < s.size), 1 ≤ j → j < k + 1 → okN s[j].toNat = true := by
  intro j hj h1 h2
  by_cases e : j = k
  · subst e; exact hok
  · exact h j hj h1 (by omega)
theorem ok_no {n : Int} (h1 : ¬ letN n = true) (h2 : (!digN n) = true) : okN n = false := by
  unfold okN; simp at h1 h2; simp [h1, h2]
theorem ok_dig {n : Int} (h2 : (!digN n) = false) : okN n = true := by
  unfold okN; simp at h2; simp [h2]

set_option maxHeartbeats 400000 in
theorem valid10 (s : ByteArray) (w : World) (hs : s.size ≤ maxLen) : Calls Try.prog 10 #[.string s] w fun e w' => e = .returned (.bool (validL s.data.toList)) ∧ w' = w := by
  unfold maxLen at hs
  by_cases h0 : s.size = 0
  · go_enter Try.func10, Try.ntmps10
    go_wp2
    go_ret
    exact ⟨ret_bool (validL_false_of_nil _ (by simpa using h0)).symm, rfl⟩
  · have hpos : 0 < s.size := by omega
    have hz : ((s.size : Int) == 0) = false := by rw [beq_eq_false_iff_ne]; omega
    by_cases hl : letN s[0].toNat = true
    case neg =>
      have hl' : letN s[0].toNat = false := by simpa using hl
      clear hl
      go_enter Try.func10, Try.ntmps10
      go_wp2_with (go_at_call 19; refine (letter19 _ _).mono ?_; rintro e w' ⟨rfl, rfl⟩)
      go_ret
      exact ⟨ret_bool (validL_false_head s hpos hl').symm, rfl⟩
    case pos =>
      go_enter Try.func10, Try.ntmps10
      go_wp2_with (go_at_call 19; refine (letter19 _ _).mono ?_; rintro e w' ⟨rfl, rfl⟩)
      go_loop [3] (fun i => ∃ k : Nat, 1 ≤ k ∧ k ≤ s.size ∧ i = .int .i64 k ∧ (∀ j (hj : j < s.size), 1 ≤ j → j < k → okN s[j].toNat = true)) (fun i => s.size - (intOf i).toNat)
      case atStart => exact ⟨1, by omega, by omega, rfl, fun j _ h1 h2 => by omega⟩
      case round =>
        obtain ⟨k, hk1, hk, rfl, hall⟩ := hrel
        have H : Hid (∀ j (hj : j < s.size), 1 ≤ j → j < k → okN s[j].toNat = true) := hall
        clear hall
        by_cases hlt : k < s.size
        · go_wp2_with (first | (go_at_call 19; refine (letter19 _ _).mono ?_; rintro e w' ⟨rfl, rfl⟩) | (go_at_call 20; refine (digit20 _ _).mono ?_; rintro e w' ⟨rfl, rfl⟩))
          · have hok : okN s[k].toNat = true := by unfold okN; rw [‹letN ↑s[k].toNat = true›]; rfl
            go_round
            case rel => exact ⟨k + 1, by omega, by omega, by go_num, ok_step s k hlt hok H.out⟩
            case measure => simp [intOf]; omega
          · go_ret
            exact ⟨ret_bool (validL_false_at s k hk1 hlt (ok_no ‹_› ‹_›)).symm, rfl⟩
          · have hok : okN s[k].toNat = true := ok_dig ‹_›
            go_round
            case rel => exact ⟨k + 1, by omega, by omega, by go_num, ok_step s k hlt hok H.out⟩
            case measure => simp [intOf]; omega
        · go_wp2
          go_ret
          exact ⟨ret_bool (validL_true s hpos hl (fun j hj h1 => H.out j hj h1 (by omega))).symm, rfl⟩

def hasGt (l : List UInt8) : Bool := l.any (fun c => c == 62)
theorem hasGt_at (s : ByteArray) (k : Nat) (h : k < s.size) (he : ((s[k].toNat : Int) == 62) = true) : hasGt s.data.toList = true := by
  unfold hasGt
  rw [List.any_eq_true]
  refine ⟨s[k], List.getElem_mem (l := s.data.toList) (by simpa using h), ?_⟩
  simp at he ⊢
  apply UInt8.toNat_inj.mp
  show _ = 62
  omega
theorem hasGt_none (s : ByteArray) (h : ∀ j (hj : j < s.size), ((s[j].toNat : Int) == 62) = false) : hasGt s.data.toList = false := by
  unfold hasGt
  rw [List.any_eq_false]
  intro x hx
  obtain ⟨i, hi, rfl⟩ := List.getElem_of_mem hx
  have := h i (by simpa using hi)
  intro hc
  simp at hc this
  apply this
  show ((s.data[i]).toNat : Int) = 62
  rw [hc]; rfl
theorem gt_step (s : ByteArray) (k : Nat) (hlt : k < s.size) (hok : ((s[k].toNat : Int) == 62) = false) (h : ∀ j (hj : j < s.size), j < k → ((s[j].toNat : Int) == 62) = false) :
    ∀ j (hj : j < s.size), j < k + 1 → ((s[j].toNat : Int) == 62) = false := by
  intro j hj h2
  by_cases e : j = k
  · subst e; exact hok
  · exact h j hj (by omega)

set_option maxHeartbeats 400000 in
theorem holds13 (s : ByteArray) (w : World) (hs : s.size ≤ maxLen) : Calls Try.prog 13 #[.string s] w fun e w' => e = .returned (.bool (hasGt s.data.toList)) ∧ w' = w := by
  unfold maxLen at hs
  go_enter Try.func13, Try.ntmps13
  go_wp2
  go_loop [3] (fun i => ∃ k : Nat, k ≤ s.size ∧ i = .int .i64 k ∧ (∀ j (hj : j < s.size), j < k → ((s[j].toNat : Int) == 62) = false)) (fun i => s.size - (intOf i).toNat)
  case atStart => exact ⟨0, by omega, rfl, fun j _ h2 => by omega⟩
  case round =>
    obtain ⟨k, hk, rfl, hall⟩ := hrel
    have H : Hid (∀ j (hj : j < s.size), j < k → ((s[j].toNat : Int) == 62) = false) := hall
    clear hall
    by_cases hlt : k < s.size
    · go_wp2
      · go_ret
        exact ⟨ret_bool (hasGt_at s k hlt ‹_›).symm, rfl⟩
      · go_round
        case rel => exact ⟨k + 1, by omega, by go_num, gt_step s k hlt ‹_› H.out⟩
        case measure => simp [intOf]; omega
    · go_wp2
      go_ret
      exact ⟨ret_bool (hasGt_none s (fun j hj => H.out j hj (by omega))).symm, rfl⟩
end Go.Proofs.Qxb6001762a
