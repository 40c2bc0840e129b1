import Derived.Test.Qxb6001762aValid
import Derived.Lib.CutLaws
import Derived.Deep.Draws
namespace Go.Proofs.Qxb6001762a
open Go.RowKit

abbrev CutAt (s nm rs : ByteArray) (fd : Bool) (w : World) : Prop :=
  Calls Try.prog 23 #[.string s, .string ⟨#[62]⟩] w fun e w' => e = .returned (.tuple #[.string nm, .string rs, .bool fd]) ∧ ∃ n, w' = w.drewN n

def Splits (e : Ending) (s nm rs : ByteArray) (ok : Bool) : Prop :=
  (ok = true ∧ e = .returned (.tuple #[.string nm, .string rs, .bool true])) ∨ (ok = false ∧ e = .returned (.tuple #[.string ⟨#[]⟩, .string s, .bool false]))

theorem ok_a {n : Int} (h : letN n = true) : okN n = true := by unfold okN; rw [h]; rfl
theorem ok_b {n : Int} (h : ¬ letN n = true) (_h1 : 48 ≤ n) (h2 : (!decide (n ≤ 57)) = true) : okN n = false := by
  unfold okN digN
  rw [Bool.eq_false_iff.2 h, Bool.false_or, decide_eq_false_iff_not]
  simp at h2; omega
theorem ok_c {n : Int} (h1 : 48 ≤ n) (h2 : (!decide (n ≤ 57)) = false) : okN n = true := by
  unfold okN digN
  rw [Bool.or_eq_true, decide_eq_true_iff]
  simp at h2; right; omega
theorem ok_d {n : Int} (h : ¬ letN n = true) (h1 : n < 48) : okN n = false := by
  unfold okN digN
  rw [Bool.eq_false_iff.2 h, Bool.false_or, decide_eq_false_iff_not]
  omega

set_option maxHeartbeats 400000 in
theorem split_miss (s nm rs : ByteArray) (w : World) (hcut : CutAt s nm rs false w) :
    Calls Try.prog 18 #[.string s] w fun e w' => e = .returned (.tuple #[.string ⟨#[]⟩, .string s, .bool false]) ∧ ∃ n, w' = w.drewN n := by
  go_enter Try.func18, Try.ntmps18
  go_wp2_with (go_at_call 23; refine hcut.mono ?_; rintro e w' ⟨rfl, n, rfl⟩)
  go_ret3
  exact ⟨rfl, n, rfl⟩

set_option maxHeartbeats 400000 in
theorem split_empty (s nm rs : ByteArray) (w : World) (h0 : nm.size = 0) (hcut : CutAt s nm rs true w) :
    Calls Try.prog 18 #[.string s] w fun e w' => e = .returned (.tuple #[.string ⟨#[]⟩, .string s, .bool false]) ∧ ∃ n, w' = w.drewN n := by
  have hnm : nm.toList.isEmpty = true := by
    rw [Lib.toList_data, List.isEmpty_iff]; exact List.eq_nil_of_length_eq_zero (by simpa using h0)
  go_enter Try.func18, Try.ntmps18
  go_wp2_with (go_at_call 23; refine hcut.mono ?_; rintro e w' ⟨rfl, n, rfl⟩)
  go_ret3
  exact ⟨rfl, n, rfl⟩

set_option maxHeartbeats 400000 in
theorem split_head (s nm rs : ByteArray) (w : World) (h0 : 0 < nm.size) (hl : letN nm[0].toNat = false) (hcut : CutAt s nm rs true w) :
    Calls Try.prog 18 #[.string s] w fun e w' => e = .returned (.tuple #[.string ⟨#[]⟩, .string s, .bool false]) ∧ ∃ n, w' = w.drewN n := by
  have hnm : nm.toList.isEmpty = false := by
    rw [Lib.toList_data, List.isEmpty_eq_false_iff]; intro hc
    have := congrArg List.length hc
    rw [← Lib.size_eq] at this
    simp only [List.length_nil] at this; omega
  go_enter Try.func18, Try.ntmps18
  go_wp2_with (first | (go_at_call 23; refine hcut.mono ?_; rintro e w' ⟨rfl, n, rfl⟩) | (go_at_call 24; refine (letter24 _ _).mono ?_; rintro e w' ⟨rfl, rfl⟩))
  go_ret3
  exact ⟨rfl, n, rfl⟩

set_option maxHeartbeats 400000 in
theorem split_loop (s nm rs : ByteArray) (w : World) (hs : nm.size ≤ maxLen) (h0 : 0 < nm.size) (hl : letN nm[0].toNat = true) (hcut : CutAt s nm rs true w) :
    Calls Try.prog 18 #[.string s] w fun e w' => Splits e s nm rs (validL nm.data.toList) ∧ ∃ n, w' = w.drewN n := by
  unfold maxLen at hs
  have hnm : nm.toList.isEmpty = false := by
    rw [Lib.toList_data, List.isEmpty_eq_false_iff]; intro hc
    have := congrArg List.length hc
    rw [← Lib.size_eq] at this
    simp only [List.length_nil] at this; omega
  go_enter Try.func18, Try.ntmps18
  go_wp2_with (first | (go_at_call 23; refine hcut.mono ?_; rintro e w' ⟨rfl, n, rfl⟩) | (go_at_call 24; refine (letter24 _ _).mono ?_; rintro e w' ⟨rfl, rfl⟩))
  go_loop [3, 6] (fun r i => r = .string rs ∧ ∃ k : Nat, 1 ≤ k ∧ k ≤ nm.size ∧ i = .int .i64 k ∧ (∀ j (hj : j < nm.size), 1 ≤ j → j < k → okN nm[j].toNat = true)) (fun _ i => nm.size - (intOf i).toNat)
  case atStart => exact ⟨rfl, 1, by omega, by omega, rfl, fun j _ h1 h2 => by omega⟩
  case round =>
    obtain ⟨rfl, k, hk1, hk, rfl, hall⟩ := hrel
    have H : Hid (∀ j (hj : j < nm.size), 1 ≤ j → j < k → okN nm[j].toNat = true) := hall
    clear hall
    by_cases hlt : k < nm.size
    · go_wp2_with (go_at_call 24; refine (letter24 _ _).mono ?_; rintro e w' ⟨rfl, rfl⟩)
      · have hok : okN nm[k].toNat = true := ok_a ‹_›
        go_round
        case rel => exact ⟨rfl, k + 1, by omega, by omega, by go_num, ok_step nm k hlt hok H.out⟩
        case measure => simp [intOf]; omega
      · go_ret3
        exact ⟨Or.inr ⟨validL_false_at nm k hk1 hlt (ok_b ‹_› ‹_› ‹_›), rfl⟩, n, rfl⟩
      · have hok : okN nm[k].toNat = true := ok_c ‹_› ‹_›
        go_round
        case rel => exact ⟨rfl, k + 1, by omega, by omega, by go_num, ok_step nm k hlt hok H.out⟩
        case measure => simp [intOf]; omega
      · go_ret3
        exact ⟨Or.inr ⟨validL_false_at nm k hk1 hlt (ok_d ‹_› ‹_›), rfl⟩, n, rfl⟩
    · go_wp2
      go_ret3
      exact ⟨Or.inl ⟨validL_true nm h0 hl (fun j hj h1 => H.out j hj h1 (by omega)), rfl⟩, n, rfl⟩

theorem split_all (s nm rs : ByteArray) (fd : Bool) (w : World) (hs : nm.size ≤ maxLen) (hcut : CutAt s nm rs fd w) :
    Calls Try.prog 18 #[.string s] w fun e w' => Splits e s nm rs (fd && validL nm.data.toList) ∧ ∃ n, w' = w.drewN n := by
  cases fd with
  | false => exact (split_miss s nm rs w hcut).mono fun e w' ⟨h1, h2⟩ => ⟨Or.inr ⟨rfl, h1⟩, h2⟩
  | true =>
    by_cases h0 : nm.size = 0
    · exact (split_empty s nm rs w h0 hcut).mono fun e w' ⟨h1, h2⟩ => ⟨Or.inr ⟨by rw [Bool.true_and]; exact validL_false_of_nil _ (by simpa using h0), h1⟩, h2⟩
    · have hpos : 0 < nm.size := by omega
      cases hl : letN nm[0].toNat with
      | false => exact (split_head s nm rs w hpos hl hcut).mono fun e w' ⟨h1, h2⟩ => ⟨Or.inr ⟨by rw [Bool.true_and]; exact validL_false_head nm hpos hl, h1⟩, h2⟩
      | true => exact (split_loop s nm rs w hs hpos hl hcut).mono fun e w' ⟨h1, h2⟩ => ⟨by rw [Bool.true_and]; exact h1, h2⟩

set_option maxHeartbeats 400000 in
theorem split9 (s nm rs : ByteArray) (fd : Bool) (w : World) (hs : nm.size ≤ maxLen) (hcut : CutAt s nm rs fd w) :
    Calls Try.prog 9 #[.string s] w fun e w' => Splits e s nm rs (fd && validL nm.data.toList) ∧ ∃ n, w' = w.drewN n := by
  have h18 := split_all s nm rs fd w hs hcut
  have H : Hid (Calls Try.prog 18 #[.string s] w fun e w' => Splits e s nm rs (fd && validL nm.data.toList) ∧ ∃ n, w' = w.drewN n) := h18
  clear h18 hcut
  go_enter Try.func9, Try.ntmps9
  go_wp2_with (go_at_call 18; refine H.out.mono ?_; rintro e w' ⟨hsp, n, rfl⟩; rcases hsp with ⟨ho, rfl⟩ | ⟨ho, rfl⟩)
  · go_ret3
    exact ⟨Or.inl ⟨ho, rfl⟩, n, rfl⟩
  · go_ret3
    exact ⟨Or.inr ⟨ho, rfl⟩, n, rfl⟩
end Go.Proofs.Qxb6001762a
