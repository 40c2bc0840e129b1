import Derived.Test.Qxb6600234aTokens
import Derived.BigRegion
namespace Go.Proofs.Qxb6600234a
open Go.RowKit

theorem info4 : (Try.prog.info? 4).map (fun i => (i.zero, i.size, i.bytes)) = some (some (.bool false), 1, 1) := by kernel_rfl

/-- A row of bools, by what each cell holds. -/
def brow (F : Nat → Bool) (N : Nat) : List Value := (List.range N).map (fun j => Value.bool (F j))
theorem brow_at (F : Nat → Bool) (N j : Nat) (h : j < N) : (brow F N)[j]? = some (.bool (F j)) := by
  unfold brow
  rw [List.getElem?_map, List.getElem?_range h]
  rfl
theorem brow_set (F : Nat → Bool) (N j : Nat) (b : Bool) : (brow F N).set j (.bool b) = brow (fun x => if x = j then b else F x) N := by
  apply List.ext_getElem?
  intro i
  rw [List.getElem?_set]
  unfold brow
  by_cases hi : i < N
  · by_cases e : j = i
    · subst e
      simp [hi]
    · rw [if_neg e]
      have e' : ¬ i = j := fun h => e h.symm
      simp [hi, e']
  · simp [hi]
    intro e
    omega
theorem brow_congr {F G : Nat → Bool} {N : Nat} (h : ∀ j, j < N → F j = G j) : brow F N = brow G N := by
  unfold brow
  apply List.map_congr_left
  intro j hj
  rw [h j (List.mem_range.1 hj)]
theorem brow_zero (N : Nat) : (madeCells (Value.bool false).cells (N * 1)).toList = brow (fun _ => false) N := by
  have : (Value.bool false).cells = #[.bool false] := rfl
  rw [this, toList_madeCells_one]
  unfold brow
  apply List.ext_getElem?
  intro i
  by_cases hi : i < N
  · simp [hi]
  · simp [hi]

/-- Block a holds the row F. -/
abbrev RowOf (w : World) (base a N : Nat) (F : Nat → Bool) : Prop := w.ownsRow base 4 1 (.slice (some ⟨a, 0, none⟩) N N) N (brow F N)
theorem row_made {w : World} {base a N : Nat} (h : w.ownsRow base 4 1 (.slice (some ⟨a, 0, none⟩) N N) N (madeCells (Value.bool false).cells (N * 1)).toList) : RowOf w base a N (fun _ => false) := by
  rw [brow_zero] at h
  exact h
theorem RowOf.cell {w : World} {base a N : Nat} {F : Nat → Bool} (h : RowOf w base a N F) (j : Nat) (hj : j < N) : w.cell? ⟨a, j, none⟩ = some (.bool (F j)) :=
  (h.cellAt j (by omega)).trans (brow_at F N j hj)
theorem RowOf.store {w : World} {base a N : Nat} {F : Nat → Bool} (h : RowOf w base a N F) (j : Nat) (b : Bool) : RowOf (w.setCell ⟨a, j, none⟩ (.bool b)) base a N (fun x => if x = j then b else F x) := by
  have := (h.stored j (.bool b)).1
  rw [brow_set] at this
  exact this
theorem RowOf.other {w : World} {base a c N : Nat} {F : Nat → Bool} (h : RowOf w base a N F) (hne : a ≠ c) (j : Nat) (v : Value) : RowOf (w.setCell ⟨c, j, none⟩ v) base a N F :=
  ownsRow_setCell_other h (a := ⟨c, j, none⟩) (fun e => hne (by simpa [Value.ownBlock] using e)) v
theorem RowOf.congr {w : World} {base a N : Nat} {F G : Nat → Bool} (h : RowOf w base a N F) (e : ∀ j, j < N → F j = G j) : RowOf w base a N G := by
  unfold RowOf at h ⊢
  rw [← brow_congr e]; exact h
theorem RowOf.drewN {w : World} {base a N : Nat} {F : Nat → Bool} (h : RowOf w base a N F) (q : Nat) : RowOf (w.drewN q) base a N F := h
theorem RowOf.drew {w : World} {base a N : Nat} {F : Nat → Bool} (h : RowOf w base a N F) : RowOf w.drew base a N F := h

theorem row0_eq {s : List UInt8} {ts : List Int} (j : Nat) : (if j = 0 then true else (fun _ => false : Nat → Bool) j) = rows s (ts.take 0) j := by
  show _ = (j == 0)
  by_cases h : j = 0
  · simp [h]
  · simp [h]
theorem rows_step (s : List UInt8) (ts : List Int) (i : Nat) (h : i < ts.length) : rows s (ts.take (i + 1)) = stepB s (rows s (ts.take i)) (ts.getD i 0) := by
  unfold rows
  rw [List.take_succ_eq_append_getElem h, List.foldl_append, List.foldl_cons, List.foldl_nil]
  simp [List.getElem?_eq_getElem h]
theorem ans_eq (xs : List ByteArray) (s : ByteArray) : ans xs s = rows s.data.toList (tk xs) s.size := by
  unfold ans tk
  rw [← Lib.size_eq]
theorem tok_pos {w : World} {base T c : Nat} {p : Option Addr} {ts : List Int} (hT : T = ts.length) (h : w.ownsRow base 3 1 (.slice p ts.length c) ts.length (ts.map (Value.int .i64))) (hn : 0 < T) : ∃ g, p = some ⟨g, 0, none⟩ := by
  rcases h.2 with ⟨_, h2⟩ | ⟨g, cap, cur, hv, _⟩
  · omega
  · cases hv
    exact ⟨g, rfl⟩
theorem tok_cell {w wr : World} {base T c g i : Nat} {ts : List Int} (hT : T = ts.length) (h : w.ownsRow base 3 1 (.slice (some ⟨g, 0, none⟩) ts.length c) ts.length (ts.map (Value.int .i64))) (hb : Below w.heap.size w wr) (hi : i < T) : wr.cell? ⟨g, i, none⟩ = some (.int .i64 (ts.getD i 0)) := by
  have hl : i < ts.length := by omega
  rw [hb.cell (p := ⟨g, i, none⟩) (h.lt g rfl).2, h.cellAt i (by omega), List.getElem?_map, List.getElem?_eq_getElem hl]
  simp [List.getElem?_eq_getElem hl]

theorem star_no {R F : Nat → Bool} {t : Nat} (h1 : false = R (t + 1)) (hF : ∀ x, x ≤ t → F x = starB R x) : ∀ x, x ≤ t + 1 → (if x = t + 1 then F t else F x) = starB R x := by
  intro x hx
  by_cases e : x = t + 1
  · subst e
    rw [if_pos rfl, hF t (Nat.le_refl _)]
    simp [starB, ← h1]
  · rw [if_neg e]
    exact hF x (by omega)
theorem star_yes {R F : Nat → Bool} {t : Nat} (h1 : true = R (t + 1)) (hF : ∀ x, x ≤ t → F x = starB R x) : ∀ x, x ≤ t + 1 → (if x = t + 1 then true else F x) = starB R x := by
  intro x hx
  by_cases e : x = t + 1
  · subst e
    rw [if_pos rfl]
    simp [starB, ← h1]
  · rw [if_neg e]
    exact hF x (by omega)

theorem lit_no {s : List UInt8} {tv : Int} {R F : Nat → Bool} {t : Nat} (h1 : false = R t) (hF : ∀ x, x ≤ t → F x = litB s tv R x) : ∀ x, x ≤ t + 1 → (if x = t + 1 then false else F x) = litB s tv R x := by
  intro x hx
  by_cases e : x = t + 1
  · subst e
    rw [if_pos rfl]
    simp [litB, ← h1]
  · rw [if_neg e]
    exact hF x (by omega)

theorem lit_yes {s : ByteArray} {tv : Int} {R F : Nat → Bool} {t : Nat} (ht : t < s.size) (h1 : true = R t) (hF : ∀ x, x ≤ t → F x = litB s.data.toList tv R x) :
    ∀ x, x ≤ t + 1 → (if x = t + 1 then (wrap64 (s[t].toNat : Int) == tv) else F x) = litB s.data.toList tv R x := by
  intro x hx
  by_cases e : x = t + 1
  · subst e
    rw [if_pos rfl, wrap_byte]
    have hb : byteIs s.data.toList t tv = ((s[t].toNat : Int) == tv) := by
      unfold byteIs
      rw [List.getElem?_eq_getElem (by simpa using ht)]
      rfl
    simp only [litB, ← h1, hb, Bool.true_and]
  · rw [if_neg e]
    exact hF x (by omega)

set_option maxHeartbeats 4000000 in
theorem model10 (q : Option Addr) (n : Nat) (xs : List ByteArray) (s : ByteArray) (w : World) (h1 : 1 ≤ n) (hn : n ≤ 4096) (hs : s.size ≤ 4096) (hz : szs xs ≤ 4096) (hr : StrsAt w q n xs) :
    Calls Try.prog 10 #[.slice q n n, .string s] w fun e w' => e = .returned (.bool (ans xs s)) ∧ Below w.heap.size w w' := by
  have H14 : Hid (Calls Try.prog 14 #[.slice q n n] w fun e w' => ∃ p c, e = .returned (.slice p (tk xs).length c) ∧ w'.ownsRow w.heap.size 3 1 (.slice p (tk xs).length c) (tk xs).length ((tk xs).map (Value.int .i64)) ∧ Below w.heap.size w w') := tokens14 q n xs w h1 hn hz hr
  have HTL : Hid ((tk xs).length ≤ 8192) := by
    have h := tk_len xs
    have h2 := hr.len
    show (tk xs).length ≤ 8192
    omega
  obtain ⟨i0, hi, hz0, hz1, hz2⟩ := info_parts info4
  clear hr hz h1 hn
  go_enter Try.func10, Try.ntmps10
  go_wp2_with fail
  refine H14.out.mono ?_
  rintro e w1 ⟨pt, ct, rfl, ho1, hb1⟩
  have HO1 : Hid (w1.ownsRow w.heap.size 3 1 (.slice pt (tk xs).length ct) (tk xs).length ((tk xs).map (Value.int .i64))) := ho1
  have HB1 : Hid (Below w.heap.size w w1) := hb1
  clear ho1 hb1 H14
  obtain ⟨T, hT⟩ : ∃ T, T = (tk xs).length := ⟨_, rfl⟩
  have HT : Hid (T = (tk xs).length) := hT
  rw [← hT]
  have hTb : T ≤ 8192 := by rw [hT]; exact HTL.out
  clear hT
  have bm1 : i0.bytes * (s.size + 1) ≤ 281474976710656 := by rw [hz2]; omega
  have bm2 : s.size + 1 ≤ maxLen := by unfold maxLen; omega
  go_wp2_with (first | (at_make; refine wpList_make_full _ rfl _ (.tmp 17) 32 rfl w1.heap.size 4 i0 (.bool false) 1 Try.underlying32 hi hz0 hz1 .i64 .i64 _ _ (s.size + 1) rfl rfl (by omega) (by omega) bm1 bm2 (Nat.le_refl _) ?_; intro w2 ho2 hg2; have HO2 : Hid (RowOf w2 w1.heap.size w1.heap.size (s.size + 1) (fun _ => false)) := row_made ho2; have HG2 : Hid (w1.grownBy w2 none) := hg2; clear ho2 hg2) | (at_make; refine wpList_make_full _ rfl _ (.tmp 20) 32 rfl w1.heap.size 4 i0 (.bool false) 1 Try.underlying32 hi hz0 hz1 .i64 .i64 _ _ (s.size + 1) rfl rfl (by omega) (by omega) bm1 bm2 HG2.out.size ?_; intro w3 ho3 hg3; have HO3 : Hid (RowOf w3 w1.heap.size w2.heap.size (s.size + 1) (fun _ => false)) := row_made ho3; have HP3 : Hid (RowOf w3 w1.heap.size w1.heap.size (s.size + 1) (fun _ => false)) := HO2.out.kept hg3 (by simp [Value.ownBlock]); have HB3 : Hid (Below w1.heap.size w1 w3) := ((Below.refl _ w1).grown HG2.out (Nat.le_refl _) (fun k h => by cases h)).grown hg3 HG2.out.size (fun k h => by cases h); have HNE : Hid (w1.heap.size < w2.heap.size) := (HO2.out.lt w1.heap.size rfl).2; have hc0 : w3.cell? ⟨w1.heap.size, 0, none⟩ = some (.bool false) := HP3.out.cell 0 (by omega); have hf0 : w3.frozen? ⟨w1.heap.size, 0, none⟩ = false := HP3.out.frozenAt 0; clear ho3 hg3))
  have HRow0 : Hid (RowOf (w3.setCell ⟨w1.heap.size, 0, none⟩ (.bool true)) w1.heap.size w1.heap.size (s.size + 1) (rows s.data.toList ((tk xs).take 0))) := (HP3.out.store 0 true).congr (fun j _ => row0_eq j)
  have HRow1 : Hid (RowOf (w3.setCell ⟨w1.heap.size, 0, none⟩ (.bool true)) w1.heap.size w2.heap.size (s.size + 1) (fun _ => false)) := HO3.out.other (by have := HNE.out; omega) 0 _
  have HBel : Hid (Below w1.heap.size w1 (w3.setCell ⟨w1.heap.size, 0, none⟩ (.bool true))) := HB3.out.setCell (Nat.le_refl _) _
  have HNE' : Hid (w1.heap.size ≠ w2.heap.size) := by
    have := HNE.out
    show w1.heap.size ≠ w2.heap.size
    omega
  clear HO2 HG2 HO3 HP3 HB3 HNE hc0 hf0 hi hz0 hz1 hz2 bm1 bm2 HTL
  go_loopw [7, 8, 9] (fun pv cu ii wr => ∃ (i a c : Nat) (G : Nat → Bool), i ≤ T ∧ pv = .slice (some ⟨a, 0, none⟩) (s.size + 1) (s.size + 1) ∧ cu = .slice (some ⟨c, 0, none⟩) (s.size + 1) (s.size + 1) ∧ ii = .int .i64 i ∧ Hid (a ≠ c) ∧
      Hid (RowOf wr w1.heap.size a (s.size + 1) (rows s.data.toList ((tk xs).take i))) ∧ Hid (RowOf wr w1.heap.size c (s.size + 1) G) ∧ Hid (Below w1.heap.size w1 wr))
    (fun _ _ ii _ => T - (intOf ii).toNat)
  case atStart => exact ⟨0, w1.heap.size, w2.heap.size, _, by omega, rfl, rfl, rfl, HNE', HRow0, HRow1, HBel⟩
  case round =>
    clear HRow0 HRow1 HBel HNE'
    obtain ⟨i, a, c, G, hiT, rfl, rfl, rfl, HAC, HRa, HRc, HBr⟩ := hrel
    obtain ⟨R, hR⟩ : ∃ R, R = rows s.data.toList ((tk xs).take i) := ⟨_, rfl⟩
    rw [← hR] at HRa
    have HRR : Hid (R = rows s.data.toList ((tk xs).take i)) := hR
    clear hR
    have HaB : Hid (w1.heap.size ≤ a) := (HRa.out.lt a rfl).1
    have HcB : Hid (w1.heap.size ≤ c) := (HRc.out.lt c rfl).1
    by_cases hlt : i < T
    · obtain ⟨gt, hgt⟩ := tok_pos HT.out HO1.out (by omega)
      subst hgt
      obtain ⟨tv, htv⟩ : ∃ tv, tv = (tk xs).getD i 0 := ⟨_, rfl⟩
      have hct : wr.cell? ⟨gt, i, none⟩ = some (.int .i64 tv) := by
        rw [htv]; exact tok_cell HT.out HO1.out HBr.out hlt
      have HSt : Hid (rows s.data.toList ((tk xs).take (i + 1)) = stepB s.data.toList R tv) := by
        show rows s.data.toList ((tk xs).take (i + 1)) = stepB s.data.toList R tv
        rw [HRR.out, htv]
        exact rows_step _ _ _ (by rw [← HT.out]; exact hlt)
      clear htv
      by_cases hneg : tv < 0
      · obtain ⟨r0, hr0⟩ : ∃ b, b = R 0 := ⟨_, rfl⟩
        have ha0 : wr.cell? ⟨a, 0, none⟩ = some (.bool r0) := by rw [hr0]; exact HRa.out.cell 0 (by omega)
        have hc0 : wr.cell? ⟨c, 0, none⟩ = some (.bool (G 0)) := HRc.out.cell 0 (by omega)
        have hf0 : wr.frozen? ⟨c, 0, none⟩ = false := HRc.out.frozenAt 0
        have HRa2 : Hid (RowOf (wr.setCell ⟨c, 0, none⟩ (.bool r0)) w1.heap.size a (s.size + 1) R) := HRa.out.other HAC.out 0 _
        have HRc2 : Hid (RowOf (wr.setCell ⟨c, 0, none⟩ (.bool r0)) w1.heap.size c (s.size + 1) (fun x => if x = 0 then r0 else G x)) := HRc.out.store 0 r0
        have HB2 : Hid (Below w1.heap.size w1 (wr.setCell ⟨c, 0, none⟩ (.bool r0))) := HBr.out.setCell HcB.out _
        have HR0 : Hid (r0 = R 0) := hr0
        clear hr0
        go_wp2
        go_loopw [10] (fun jj wr => ∃ (t : Nat) (F : Nat → Bool), t ≤ s.size ∧ jj = .int .i64 (t + 1) ∧ Hid (RowOf wr w1.heap.size a (s.size + 1) R) ∧ Hid (RowOf wr w1.heap.size c (s.size + 1) F) ∧ Hid (∀ x, x ≤ t → F x = starB R x) ∧ Hid (Below w1.heap.size w1 wr))
          (fun jj _ => s.size + 1 - (intOf jj).toNat)
        case atStart => exact ⟨0, _, by omega, rfl, HRa2, HRc2, (fun x hx => by rw [show x = 0 by omega]; exact HR0.out), HB2⟩
        case round =>
          clear HRa2 HRc2 HB2 HR0 ha0 hc0 hf0 hct HRa HRc HBr
          obtain ⟨t, F, ht, rfl, HRa, HRc, HF, HBr⟩ := hrel
          by_cases htl : t < s.size
          · obtain ⟨r1, hr1⟩ : ∃ b, b = R (t + 1) := ⟨_, rfl⟩
            have ha1 : wr.cell? ⟨a, t + 1, none⟩ = some (.bool r1) := by rw [hr1]; exact HRa.out.cell (t + 1) (by omega)
            have hct0 : wr.cell? ⟨c, t, none⟩ = some (.bool (F t)) := HRc.out.cell t (by omega)
            have hct1 : wr.cell? ⟨c, t + 1, none⟩ = some (.bool (F (t + 1))) := HRc.out.cell (t + 1) (by omega)
            have hf1 : wr.frozen? ⟨c, t + 1, none⟩ = false := HRc.out.frozenAt (t + 1)
            have HR1 : Hid (r1 = R (t + 1)) := hr1
            clear hr1
            cases r1
            · go_wp2
              go_roundw
              case rel => exact ⟨t + 1, _, by omega, by go_num, HRa.out.other HAC.out _ _, HRc.out.store (t + 1) (F t), star_no HR1.out HF.out, HBr.out.setCell HcB.out _⟩
              case measure => simp [intOf]; omega
            · go_wp2
              go_roundw
              case rel => exact ⟨t + 1, _, by omega, by go_num, HRa.out.other HAC.out _ _, HRc.out.store (t + 1) true, star_yes HR1.out HF.out, HBr.out.setCell HcB.out _⟩
              case measure => simp [intOf]; omega
          · have e : t = s.size := by omega
            subst e
            have HNew : Hid (RowOf wr w1.heap.size c (s.size + 1) (rows s.data.toList ((tk xs).take (i + 1)))) := by
              show RowOf wr w1.heap.size c (s.size + 1) (rows s.data.toList ((tk xs).take (i + 1)))
              rw [HSt.out]
              exact HRc.out.congr (fun j hj => by rw [HF.out j (by omega)]; unfold stepB; rw [if_pos hneg])
            clear HRc HF HSt HRR
            go_wp2
            go_roundw
            case rel => exact ⟨i + 1, c, a, R, by omega, rfl, rfl, by go_num, HAC.out.symm, HNew, HRa, HBr⟩
            case measure => simp [intOf]; omega
      · have hc0 : wr.cell? ⟨c, 0, none⟩ = some (.bool (G 0)) := HRc.out.cell 0 (by omega)
        have hf0 : wr.frozen? ⟨c, 0, none⟩ = false := HRc.out.frozenAt 0
        have HRa2 : Hid (RowOf (wr.setCell ⟨c, 0, none⟩ (.bool false)) w1.heap.size a (s.size + 1) R) := HRa.out.other HAC.out 0 _
        have HRc2 : Hid (RowOf (wr.setCell ⟨c, 0, none⟩ (.bool false)) w1.heap.size c (s.size + 1) (fun x => if x = 0 then false else G x)) := HRc.out.store 0 false
        have HB2 : Hid (Below w1.heap.size w1 (wr.setCell ⟨c, 0, none⟩ (.bool false))) := HBr.out.setCell HcB.out _
        have HG : Hid (∀ wx, Below w1.heap.size w1 wx → wx.cell? ⟨gt, i, none⟩ = some (.int .i64 tv)) := fun wx hx => by
          have hl := (HO1.out.lt gt rfl).2
          rw [hx.cell (p := ⟨gt, i, none⟩) hl, ← HBr.out.cell (p := ⟨gt, i, none⟩) hl]
          exact hct
        go_wp2
        go_loopw [11] (fun jj wr => ∃ (t : Nat) (F : Nat → Bool), t ≤ s.size ∧ jj = .int .i64 (t + 1) ∧ Hid (RowOf wr w1.heap.size a (s.size + 1) R) ∧ Hid (RowOf wr w1.heap.size c (s.size + 1) F) ∧ Hid (∀ x, x ≤ t → F x = litB s.data.toList tv R x) ∧ Hid (Below w1.heap.size w1 wr))
          (fun jj _ => s.size + 1 - (intOf jj).toNat)
        case atStart => exact ⟨0, _, by omega, rfl, HRa2, HRc2, (fun x hx => by rw [show x = 0 by omega]; rfl), HB2⟩
        case round =>
          clear HRa2 HRc2 HB2 hc0 hf0 hct HRa HRc HBr
          obtain ⟨t, F, ht, rfl, HRa, HRc, HF, HBr⟩ := hrel
          by_cases htl : t < s.size
          · obtain ⟨r1, hr1⟩ : ∃ b, b = R t := ⟨_, rfl⟩
            have ha1 : wr.cell? ⟨a, t, none⟩ = some (.bool r1) := by rw [hr1]; exact HRa.out.cell t (by omega)
            have hct1 : wr.cell? ⟨c, t + 1, none⟩ = some (.bool (F (t + 1))) := HRc.out.cell (t + 1) (by omega)
            have hf1 : wr.frozen? ⟨c, t + 1, none⟩ = false := HRc.out.frozenAt (t + 1)
            have hct := HG.out wr HBr.out
            have HR1 : Hid (r1 = R t) := hr1
            have b1 : (0 : Int) ≤ (t : Int) := by omega
            have b2 : (t : Int) < (s.size : Int) + 1 := by omega
            have b3 : (t : Int) + 1 < (s.size : Int) + 1 := by omega
            have b4 : (t : Int) < (s.size : Int) := by omega
            have b5 : (i : Int) < (T : Int) := by omega
            clear hr1
            cases r1
            · go_wp2_with fail
              go_region
              go_wp2
              go_roundw
              case rel => exact ⟨t + 1, _, by omega, by go_num, (HRa.out.other HAC.out _ _).drew, (HRc.out.store (t + 1) false).drew, lit_no HR1.out HF.out, (HBr.out.setCell HcB.out _).drew⟩
              case measure => simp [intOf]; omega
            · go_wp2_with fail
              go_region
              go_wp2
              go_roundw
              case rel => exact ⟨t + 1, _, by omega, by go_num, (HRa.out.other HAC.out _ _).drew, (HRc.out.store (t + 1) _).drew, lit_yes htl HR1.out HF.out, (HBr.out.setCell HcB.out _).drew⟩
              case measure => simp [intOf]; omega
          · have e : t = s.size := by omega
            subst e
            have HNew : Hid (RowOf wr w1.heap.size c (s.size + 1) (rows s.data.toList ((tk xs).take (i + 1)))) := by
              show RowOf wr w1.heap.size c (s.size + 1) (rows s.data.toList ((tk xs).take (i + 1)))
              rw [HSt.out]
              exact HRc.out.congr (fun j hj => by rw [HF.out j (by omega)]; unfold stepB; rw [if_neg (by omega)])
            clear HRc HF HSt HRR HG
            go_wp2
            go_roundw
            case rel => exact ⟨i + 1, c, a, R, by omega, rfl, rfl, by go_num, HAC.out.symm, HNew, HRa, HBr⟩
            case measure => simp [intOf]; omega
    · have e : i = T := by omega
      subst e
      have hcn : wr.cell? ⟨a, s.size, none⟩ = some (.bool (ans xs s)) := by
        rw [HRa.out.cell s.size (by omega), HRR.out, ans_eq, List.take_of_length_le (by rw [← HT.out]; exact Nat.le_refl _)]
      have HBf : Hid (Below w.heap.size w wr) := HB1.out.trans (HBr.out.mono HB1.out.size)
      clear HRa HRc HBr
      go_wp2
      go_ret
      exact ⟨rfl, HBf.out⟩
end Go.Proofs.Qxb6600234a
