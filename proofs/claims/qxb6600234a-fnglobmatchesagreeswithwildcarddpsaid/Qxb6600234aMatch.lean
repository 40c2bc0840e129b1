import Derived.Test.Qxb6600234aCopy
import Derived.Lib.CutLaws
namespace Go.Proofs.Qxb6600234a
open Go.RowKit

theorem mid_append (r : List UInt8) (a b : List (List UInt8)) : mid r (a ++ b) = (mid r a).bind (fun r' => mid r' b) := by
  induction a generalizing r with
  | nil => rfl
  | cons p a ih =>
    simp only [List.cons_append, mid]
    split
    · rfl
    · exact ih _

/-- The pieces between the first and the last. -/
def mids (xs : List ByteArray) (m : Nat) : List (List UInt8) := ((xs.drop 1).take m).map (fun s => s.data.toList)
theorem mids_step (xs : List ByteArray) (k : Nat) (h : 1 + k < xs.length) : mids xs (k + 1) = mids xs k ++ [(xs.getD (1 + k) ByteArray.empty).data.toList] := by
  unfold mids
  rw [List.take_succ_eq_append_getElem (by simp; omega), List.map_append]
  congr 1
  have e : 1 + k = k + 1 := by omega
  simp only [e] at h ⊢
  simp [List.getElem?_eq_getElem h]

/-- How the greedy rest goes on. -/
theorem mid_hit {xs : List ByteArray} {k i : Nat} {r0 : List UInt8} {rest pc rest' : ByteArray} (h : 1 + k < xs.length) (hm : mid r0 (mids xs k) = some rest.data.toList) (hp : pc = xs.getD (1 + k) ByteArray.empty)
    (hi : Lib.index rest.data.toList pc.data.toList = (i : Int)) (hr : rest'.data.toList = rest.data.toList.drop (i + pc.size)) : mid r0 (mids xs (k + 1)) = some rest'.data.toList := by
  rw [mids_step xs k h, mid_append, hm, ← hp]
  show mid rest.data.toList [pc.data.toList] = _
  simp only [mid]
  rw [hi, if_neg (by omega), hr, Lib.size_eq]
  rfl
theorem mid_miss {xs : List ByteArray} {k m : Nat} {r0 : List UInt8} {rest pc : ByteArray} (h : 1 + k < xs.length) (hkm : k < m) (hm : mid r0 (mids xs k) = some rest.data.toList) (hp : pc = xs.getD (1 + k) ByteArray.empty)
    (hi : Lib.index rest.data.toList pc.data.toList = -1) : mid r0 (mids xs m) = none := by
  have h1 : mid r0 (mids xs (k + 1)) = none := by
    rw [mids_step xs k h, mid_append, hm, ← hp]
    show mid rest.data.toList [pc.data.toList] = _
    simp only [mid]
    rw [hi, if_pos (by omega)]
  have e : mids xs m = mids xs (k + 1) ++ ((((xs.drop 1).take m).drop (k + 1)).map (fun s => s.data.toList)) := by
    unfold mids
    rw [← List.map_append]
    congr 1
    have := List.take_append_drop (k + 1) ((xs.drop 1).take m)
    rw [List.take_take, show min (k + 1) m = k + 1 by omega] at this
    exact this.symm
  rw [e, mid_append, h1]
  rfl

theorem below_drewN' {B : Nat} {a w : World} (h : Below B a w) (q : Nat) : Below B a (w.drewN q) := ⟨h.os, h.tape, h.output, h.size, h.block⟩
theorem cell_heap {w w' : World} (h : w.heap = w'.heap) {a : Addr} : w.cell? a = w'.cell? a := by simp [World.cell?, h]
theorem ext_data (s : ByteArray) (a : Nat) : (s.extract a s.size).data.toList = s.data.toList.drop a := by
  rw [Lib.extract_eq]
  have h : List.take (s.size - a) (List.drop a s.data.toList) = List.drop a s.data.toList := List.take_of_length_le (by rw [List.length_drop, ← Lib.size_eq]; exact Nat.le_refl _)
  rw [h]
theorem ext_size (s : ByteArray) (a : Nat) : (s.extract a s.size).size ≤ s.size := by
  rw [Lib.size_eq, ext_data, List.length_drop, ← Lib.size_eq]
  omega
theorem glob_no {s p l : List UInt8} {ms : List (List UInt8)} (h : Lib.hasPrefix s p = false) : globB p ms l s = false := by
  unfold globB
  unfold Lib.hasPrefix at h
  rw [if_neg (by rw [h]; simp)]
  rfl
theorem glob_yes {s p l r : List UInt8} {ms : List (List UInt8)} (h : Lib.hasPrefix s p = true) (hr : r = s.drop p.length) : globB p ms l s = sufB (mid r ms) l := by
  unfold globB
  unfold Lib.hasPrefix at h
  rw [if_pos h, hr]
  rfl

set_option maxHeartbeats 1000000 in
theorem match_one (q : Option Addr) (xs : List ByteArray) (s : ByteArray) (w : World) (hr : StrsAt w q 1 xs) :
    Calls Try.prog 13 #[.slice q 1 1, .string s] w fun e w' => e = .returned (.bool (s.data.toList == (xs.getD 0 ByteArray.empty).data.toList)) ∧ Below w.heap.size w w' := by
  obtain ⟨b, o, rfl, _, hc⟩ := hr.at' (by omega)
  obtain ⟨p, hp⟩ : ∃ p, p = xs.getD 0 ByteArray.empty := ⟨_, rfl⟩
  have hc0 : w.cell? ⟨b, o, none⟩ = some (.string p) := by rw [hp]; exact hc 0 (by omega)
  rw [← hp]
  clear hc hr hp
  go_enter Try.func13, Try.ntmps13
  go_wp2
  go_ret
  refine ⟨ret_bool ?_, Below.refl _ _⟩
  rw [Lib.toList_data, Lib.toList_data]

set_option maxHeartbeats 2000000 in
theorem match_many (q : Option Addr) (m : Nat) (xs : List ByteArray) (s : ByteArray) (M : Int) (w : World) (hm : m ≤ 4096) (hs : s.size ≤ 4096) (hsz : ∀ x ∈ xs, x.size ≤ 4096) (hr : StrsAt w q (m + 2) xs) (hM : w.cell? ⟨0, 0, none⟩ = some (.int .i64 M)) :
    Calls Try.prog 13 #[.slice q (m + 2) (m + 2), .string s] w fun e w' =>
      e = .returned (.bool (globB (xs.getD 0 ByteArray.empty).data.toList (mids xs m) (xs.getD (m + 1) ByteArray.empty).data.toList s.data.toList)) ∧ Below w.heap.size w w' := by
  obtain ⟨b, o, rfl, _, hc⟩ := hr.at' (by omega)
  have HX : Hid (xs.length = m + 2) := hr.len
  have HC : Hid (∀ i, i < m + 2 → w.cell? ⟨b, o + i, none⟩ = some (.string (xs.getD i ByteArray.empty))) := hc
  have HZ : Hid (∀ x ∈ xs, x.size ≤ 4096) := hsz
  have HM : Hid (w.cell? ⟨0, 0, none⟩ = some (.int .i64 M)) := hM
  obtain ⟨p, hp⟩ : ∃ p, p = xs.getD 0 ByteArray.empty := ⟨_, rfl⟩
  obtain ⟨l, hl⟩ : ∃ l, l = xs.getD (m + 1) ByteArray.empty := ⟨_, rfl⟩
  have hc0 : w.cell? ⟨b, o, none⟩ = some (.string p) := by rw [hp]; exact hc 0 (by omega)
  have hcl : w.cell? ⟨b, o + (m + 1), none⟩ = some (.string l) := by rw [hl]; exact hc (m + 1) (by omega)
  rw [← hp, ← hl]
  clear hc hr hsz hM hp hl
  have hne : (((m : Int) + 2) == 1) = false := by rw [beq_eq_false_iff_ne]; omega
  have e2 : m + 2 - 1 - 1 = m := by omega
  have e3 : (m : Int) + 2 - 1 = (m : Int) + 1 := by omega
  cases hpre : Lib.hasPrefix s.data.toList p.data.toList with
  | false =>
    have HR : Hid (globB p.data.toList (mids xs m) l.data.toList s.data.toList = false) := glob_no hpre
    have H15 : Hid (∀ w, Calls Try.prog 15 #[.string s, .string p] w fun e w' => e = .returned (.tuple #[.string ⟨(Lib.trimPrefix s.data.toList p.data.toList).toArray⟩, .bool false]) ∧ w' = w) := by
      intro w
      have h := Try.strings_CutPrefix s p w
      rw [hpre] at h
      exact h
    clear hpre
    go_enter Try.func13, Try.ntmps13
    go_wp2_with fail
    go_quiet (fail)
    go_wp2_with fail
    refine (H15.out _).mono ?_
    rintro e w1 ⟨rfl, hw1⟩
    have HB : Hid (Below w.heap.size w w1) := by
      show Below w.heap.size w w1
      rw [hw1]; exact below_drewN' (Below.refl _ w) _
    clear hw1
    go_wp2
    go_ret
    exact ⟨ret_bool HR.out.symm, HB.out⟩
  | true =>
    obtain ⟨r0, hr0⟩ : ∃ r0 : ByteArray, r0 = ⟨(Lib.trimPrefix s.data.toList p.data.toList).toArray⟩ := ⟨_, rfl⟩
    have hd0 : r0.data.toList = s.data.toList.drop p.data.toList.length := by
      rw [hr0]; simp [Lib.trimPrefix, hpre]
    have hz0 : r0.size ≤ 4096 := by
      rw [Lib.size_eq, hd0, List.length_drop, ← Lib.size_eq]; omega
    have HG : Hid (globB p.data.toList (mids xs m) l.data.toList s.data.toList = sufB (mid r0.data.toList (mids xs m)) l.data.toList) := glob_yes hpre hd0
    have H15 : Hid (∀ w, Calls Try.prog 15 #[.string s, .string p] w fun e w' => e = .returned (.tuple #[.string r0, .bool true]) ∧ w' = w) := by
      intro w
      have h := Try.strings_CutPrefix s p w
      rw [hpre, ← hr0] at h
      exact h
    clear hpre hr0 hd0
    go_enter Try.func13, Try.ntmps13
    go_wp2_with fail
    go_quiet (fail)
    go_wp2_with fail
    refine (H15.out _).mono ?_
    rintro e w1 ⟨rfl, hw1⟩
    have HB : Hid (Below w.heap.size w w1) := by
      show Below w.heap.size w w1
      rw [hw1]; exact below_drewN' (Below.refl _ w) _
    have HH : Hid (w1.heap = w.heap) := by
      show w1.heap = w.heap
      rw [hw1]; rfl
    clear hw1
    go_wp2
    go_loop [7, 43] (fun r i => ∃ (k : Nat) (rest : ByteArray), k ≤ m ∧ rest.size ≤ 4096 ∧ r = .string rest ∧ i = .int .i64 k ∧ Hid (mid r0.data.toList (mids xs k) = some rest.data.toList)) (fun _ i => m - (intOf i).toNat)
    case atStart => exact ⟨0, r0, by omega, hz0, rfl, rfl, rfl⟩
    case round =>
      obtain ⟨k, rest, hk, hrs, rfl, rfl, HD⟩ := hrel
      by_cases hlt : k < m
      · obtain ⟨pc, hpc⟩ : ∃ pc, pc = xs.getD (1 + k) ByteArray.empty := ⟨_, rfl⟩
        have hck : w1.cell? ⟨b, o + 1 + k, none⟩ = some (.string pc) := by
          rw [cell_heap HH.out, hpc, Nat.add_assoc]
          exact HC.out (1 + k) (by omega)
        have hlen : 1 + k < xs.length := by rw [HX.out]; omega
        have hpz : pc.size ≤ 4096 := by
          rw [hpc, List.getD_eq_getElem?_getD, List.getElem?_eq_getElem hlen]
          exact HZ.out _ (List.getElem_mem hlen)
        have HPC : Hid (pc = xs.getD (1 + k) ByteArray.empty) := hpc
        have HLN : Hid (1 + k < xs.length) := hlen
        have hI := Try.strings_Index rest pc M w1 (by omega) ((cell_heap HH.out).trans HM.out)
        clear hpc hlen
        rcases Lib.indexB_cases rest pc with hix | ⟨i, hix, hroom⟩
        · have hix' : Lib.index rest.data.toList pc.data.toList = -1 := hix
          rw [hix'] at hI
          have HI : Hid (Calls Try.prog 16 #[.string rest, .string pc] w1 fun e w' => e = .returned (.int .i64 (-1)) ∧ w' = w1) := hI
          have HN : Hid (globB p.data.toList (mids xs m) l.data.toList s.data.toList = false) := by
            show globB p.data.toList (mids xs m) l.data.toList s.data.toList = false
            rw [HG.out, mid_miss HLN.out hlt HD.out HPC.out hix']
            rfl
          clear hix hix' hI
          go_wp2_with (go_at_call 16; refine HI.out.mono ?_; rintro e w' ⟨rfl, hw⟩; have hw2 := hw.symm; subst hw2; clear hw)
          go_ret
          exact ⟨ret_bool HN.out.symm, HB.out⟩
        · have hix' : Lib.index rest.data.toList pc.data.toList = (i : Int) := hix
          rw [hix'] at hI
          have HI : Hid (Calls Try.prog 16 #[.string rest, .string pc] w1 fun e w' => e = .returned (.int .i64 i) ∧ w' = w1) := hI
          have HIX : Hid (Lib.index rest.data.toList pc.data.toList = (i : Int)) := hix'
          have c1 : (0 : Int) ≤ (i : Int) + (pc.size : Int) := by omega
          have c2 : (i : Int) + (pc.size : Int) ≤ (rest.size : Int) := by omega
          clear hix hix' hI
          go_wp2_with (go_at_call 16; refine HI.out.mono ?_; rintro e w' ⟨rfl, hw⟩; have hw2 := hw.symm; subst hw2; clear hw)
          go_round
          case rel => exact ⟨k + 1, rest.extract (i + pc.size) rest.size, by omega, by have := ext_size rest (i + pc.size); omega, rfl, by go_num, mid_hit HLN.out HD.out HPC.out HIX.out (ext_data rest (i + pc.size))⟩
          case measure => simp [intOf]; omega
      · have e : k = m := by omega
        subst e
        have HHS : Hid (Calls Try.prog 17 #[.string rest, .string l] w1 fun e w' => e = .returned (.bool (globB p.data.toList (mids xs k) l.data.toList s.data.toList)) ∧ w' = w1) := by
          have h := Try.strings_HasSuffix rest l w1 (by omega)
          have e : globB p.data.toList (mids xs k) l.data.toList s.data.toList = Lib.hasSuffix rest.data.toList l.data.toList := by
            rw [HG.out, HD.out]
            rfl
          rw [← e] at h
          exact h
        clear HG HD
        go_wp2_with (go_at_call 17; refine HHS.out.mono ?_; rintro e w' ⟨rfl, hw⟩; have hw2 := hw.symm; subst hw2; clear hw)
        go_ret
        exact ⟨rfl, HB.out⟩

/-- What both sides answer: the last cell of the last row. -/
def ans (xs : List ByteArray) (s : ByteArray) : Bool := rows s.data.toList (toks (xs.map (fun x => x.data.toList))) s.data.toList.length

theorem pieces_split (xs : List ByteArray) (m : Nat) (h : xs.length = m + 2) :
    xs.map (fun x => x.data.toList) = (xs.getD 0 ByteArray.empty).data.toList :: (mids xs m ++ [(xs.getD (m + 1) ByteArray.empty).data.toList]) := by
  have h1 := mids_step xs m (by omega)
  rw [Nat.add_comm 1 m] at h1
  rw [← h1]
  cases xs with
  | nil => simp at h
  | cons x r =>
    unfold mids
    simp only [List.length_cons] at h
    simp only [List.drop_succ_cons, List.drop_zero]
    rw [List.take_of_length_le (by omega)]
    rfl

theorem match13 (q : Option Addr) (n : Nat) (xs : List ByteArray) (s : ByteArray) (M : Int) (w : World) (h1 : 1 ≤ n) (hn : n ≤ 4096) (hs : s.size ≤ 4096) (hsz : ∀ x ∈ xs, x.size ≤ 4096) (hr : StrsAt w q n xs) (hM : w.cell? ⟨0, 0, none⟩ = some (.int .i64 M)) :
    Calls Try.prog 13 #[.slice q n n, .string s] w fun e w' => e = .returned (.bool (ans xs s)) ∧ Below w.heap.size w w' := by
  by_cases h : n = 1
  · subst h
    refine (match_one q xs s w hr).mono fun e w' ⟨h1, h2⟩ => ⟨h1.trans (ret_bool ?_), h2⟩
    unfold ans
    have hl := hr.len
    match xs, hl with
    | [x], _ => exact (law_one x.data.toList s.data.toList).symm
  · obtain ⟨m, rfl⟩ : ∃ m, n = m + 2 := ⟨n - 2, by omega⟩
    refine (match_many q m xs s M w (by omega) hs hsz hr hM).mono fun e w' ⟨h1, h2⟩ => ⟨h1.trans (ret_bool ?_), h2⟩
    unfold ans
    rw [pieces_split xs m hr.len]
    exact (law_many _ _ _ _).symm

set_option maxHeartbeats 400000 in
theorem match9 (q : Option Addr) (n : Nat) (xs : List ByteArray) (s : ByteArray) (M : Int) (w : World) (h1 : 1 ≤ n) (hn : n ≤ 4096) (hs : s.size ≤ 4096) (hsz : ∀ x ∈ xs, x.size ≤ 4096) (hr : StrsAt w q n xs) (hM : w.cell? ⟨0, 0, none⟩ = some (.int .i64 M)) :
    Calls Try.prog 9 #[.slice q n n, .string s] w fun e w' => e = .returned (.bool (ans xs s)) ∧ Below w.heap.size w w' := by
  have H : Hid (Calls Try.prog 13 #[.slice q n n, .string s] w fun e w' => e = .returned (.bool (ans xs s)) ∧ Below w.heap.size w w') := match13 q n xs s M w h1 hn hs hsz hr hM
  clear hr hM hsz
  go_enter Try.func9, Try.ntmps9
  go_wp2_with (go_at_call 13; refine H.out.mono ?_; rintro e w' ⟨rfl, hb⟩)
  go_ret
  exact ⟨rfl, hb⟩
end Go.Proofs.Qxb6600234a
