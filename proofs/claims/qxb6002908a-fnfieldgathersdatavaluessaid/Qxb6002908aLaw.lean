import Derived.Test.Qxb6002908aPlain
import Derived.Test.Qxb6002908aClone
import Derived.Test.Qxb6002908aZZ
namespace Go.Proofs.Qxb6002908a
open Go.RowKit

theorem below_drewN' {B : Nat} {a w : World} (h : Below B a w) (q : Nat) : Below B a (w.drewN q) := ⟨h.os, h.tape, h.output, h.size, h.block⟩
theorem cell_heap {w w' : World} (h : w.heap = w'.heap) {a : Addr} : w.cell? a = w'.cell? a := by simp [World.cell?, h]
theorem own_pos {w : World} {base e size n c : Nat} {p : Option Addr} {xs : List Value} (h : w.ownsRow base e size (.slice p n c) n xs) (hn : 0 < n) : ∃ g, p = some ⟨g, 0, none⟩ := by
  rcases h.2 with ⟨h1, h2⟩ | ⟨g, cap, cur, hv, _⟩
  · omega
  · cases hv
    exact ⟨g, rfl⟩
theorem own_at {w : World} {base g n c S : Nat} {ds : List Int} (h : w.ownsRow base 5 1 (.slice (some ⟨g, 0, none⟩) n c) n (ds.map (Value.int .u8))) (hS : S < n) : w.cell? ⟨g, S, none⟩ = some (.int .u8 (ds.getD S 0)) := by
  have hl : ds.length = n := by
    have := h.1
    simpa using this
  rw [h.cellAt S (by omega), List.getElem?_map, List.getElem?_eq_getElem (by omega)]
  simp [List.getElem?_eq_getElem (show S < ds.length by omega)]
/-- The line's block is new: the data's row and all below stay; the line reads as its bytes. -/
theorem line_made {w1 wr w2 w3 w4 : World} {L : Nat} {pd : Option Addr} {cp : Nat} {ds : List Value} {sk : ByteArray}
    (ho : wr.ownsRow w1.heap.size 5 1 (.slice pd L cp) L ds) (hb : Below w1.heap.size w1 wr) (hg2 : wr.grownBy w2 none) (hg3 : w2.grownBy w3 (some wr.heap.size)) (hg4 : w3.grownBy w4 (some wr.heap.size))
    (ho4 : w4.ownsRow w1.heap.size 5 1 (.slice (some ⟨wr.heap.size, 0, none⟩) (6 + sk.size) (sk.size + 6)) (6 + sk.size) (Lib.strCells ⟨#[100, 97, 116, 97, 58, 32]⟩ ++ Lib.strCells sk)) :
    w4.ownsRow w1.heap.size 5 1 (.slice pd L cp) L ds ∧ Below w1.heap.size w1 w4 ∧ ∀ i, i < sk.size + 6 → w4.cell? ⟨wr.heap.size, i, none⟩ = some (.int .u8 ((dataLine (nums sk)).getD i 0)) := by
  have hne : (Value.slice pd L cp).ownBlock ≠ some wr.heap.size := by
    intro e
    exact Nat.lt_irrefl _ (ho.lt _ e).2
  have o2 := ho.kept hg2 (by cases h : (Value.slice pd L cp).ownBlock <;> simp)
  have o3 := o2.kept hg3 (Or.inr hne)
  have o4 := o3.kept hg4 (Or.inr hne)
  have hB : w1.heap.size ≤ wr.heap.size := hb.size
  have b2 := hb.grown hg2 hB (fun k h => by cases h)
  have b3 := b2.grown hg3 (Nat.le_trans hB hg2.size) (fun k h => by cases h; exact hB)
  have b4 := b3.grown hg4 (Nat.le_trans hB (Nat.le_trans hg2.size hg3.size)) (fun k h => by cases h; exact hB)
  refine ⟨o4, b4, fun i hi => ?_⟩
  rw [ho4.cellAt i (by omega)]
  have e : Lib.strCells ⟨#[100, 97, 116, 97, 58, 32]⟩ ++ Lib.strCells sk = (dataLine (nums sk)).map (Value.int .u8) := by
    rw [nums_cells sk]
    rfl
  have hl : i < (dataLine (nums sk)).length := by simp [dataLine, nums_length]; omega
  rw [e, List.getElem?_map, List.getElem?_eq_getElem hl]
  simp [List.getElem?_eq_getElem hl]

/-- ZZField at the line of one value, as the law calls it. -/
theorem zz_line (sk : ByteArray) (xs : List ByteArray) (m L : Nat) (pd : Option Addr) (cp base : Nat) (M : Int) (w : World) (g : Nat) (hsz : sk.size ≤ 1048576) (hL : L ≤ 1048576)
    (hm : w.cell? ⟨0, 0, none⟩ = some (.int .i64 M)) (hbw : base ≤ w.heap.size) (hc : ∀ i, i < sk.size + 6 → w.cell? ⟨g, i, none⟩ = some (.int .u8 ((dataLine (nums sk)).getD i 0)))
    (ho : w.ownsRow base 5 1 (.slice pd L cp) L ((acc (xs.take m)).map (Value.int .u8))) :
    Calls Try.prog 8 #[.string ⟨#[]⟩, .slice pd L cp, .slice (some ⟨g, 0, none⟩) (6 + sk.size) (sk.size + 6)] w fun e w' =>
      ∃ pd' cp', e = .returned (.tuple #[.string ⟨#[]⟩, .slice pd' (L + sk.size + 1) cp']) ∧ w'.ownsRow base 5 1 (.slice pd' (L + sk.size + 1) cp') (L + sk.size + 1) ((acc (xs.take m) ++ nums sk ++ [10]).map (Value.int .u8)) ∧ Below base w w' := by
  have h := zz_data g (sk.size + 6) (nums sk) (acc (xs.take m)) ⟨#[]⟩ pd cp base L M w (by omega) (by omega) (by rw [nums_length]) (nums_bytes sk) hm hbw hc ho
  rw [nums_length] at h
  rw [Nat.add_comm 6 sk.size]
  refine h.mono fun e w' ⟨dv', h1, h2, h3⟩ => ?_
  obtain ⟨pd', cp', rfl⟩ := own_shape h2
  exact ⟨pd', cp', h1, h2, h3⟩

/-- The last call, at the line that sets the type. -/
theorem event_call {w1 W wr : World} {xs : List ByteArray} {L cp : Nat} {pd : Option Addr} {M : Int} (ho : W.ownsRow w1.heap.size 5 1 (.slice pd L cp) L ((acc xs).map (Value.int .u8))) (hh : wr.heap = W.heap) (hb : Below w1.heap.size w1 wr)
    (h0 : 0 < w1.heap.size) (hm : w1.cell? ⟨0, 0, none⟩ = some (.int .i64 M)) :
    Calls Try.prog 8 #[.string ⟨#[]⟩, .slice pd L cp, .slice (some ⟨wr.heap.size, 0, none⟩) 10 10] (wr.alloc (.cells #[.int .u8 101, .int .u8 118, .int .u8 101, .int .u8 110, .int .u8 116, .int .u8 58, .int .u8 112, .int .u8 105, .int .u8 110, .int .u8 103] 5 (10, 11))) fun e w' =>
      e = .returned (.tuple #[.string ⟨#[112, 105, 110, 103]⟩, .slice pd L cp]) ∧ Below w1.heap.size w1 w' := by
  have ho' : wr.ownsRow w1.heap.size 5 1 (.slice pd L cp) L ((acc xs).map (Value.int .u8)) := by
    unfold World.ownsRow at ho ⊢
    rw [hh]
    exact ho
  have hb2 := hb.alloc hb.size (.cells #[.int .u8 101, .int .u8 118, .int .u8 101, .int .u8 110, .int .u8 116, .int .u8 58, .int .u8 112, .int .u8 105, .int .u8 110, .int .u8 103] 5 (10, 11))
  refine (zz_event wr.heap.size (acc xs) ⟨#[]⟩ pd cp w1.heap.size L M _ ((hb2.cell (p := ⟨0, 0, none⟩) h0).trans hm) hb2.size (fun i hi => ?_) (ho'.alloc _)).mono fun e w' ⟨h1, h2⟩ => ⟨h1, hb2.trans h2⟩
  rw [World.cell?_alloc_mark]
  match i, hi with
  | 0, _ => rfl
  | 1, _ => rfl
  | 2, _ => rfl
  | 3, _ => rfl
  | 4, _ => rfl
  | 5, _ => rfl
  | 6, _ => rfl
  | 7, _ => rfl
  | 8, _ => rfl
  | 9, _ => rfl

set_option maxHeartbeats 400000 in
theorem law_long (p : Option Addr) (n c : Nat) (xs : List ByteArray) (w : World) (hn : n ≤ maxLen) (hl : 65536 < n) (hr : StrsAt w p n xs) :
    Calls Try.prog 4 #[.slice p n c] w fun e w' => e = .returned (.bool true) ∧ Below w.heap.size w w' := by
  have H6 : Hid (Calls Try.prog 6 #[.slice p n c] w fun e w' => SomeBool e ∧ w' = w) := zz6 p n c xs w hn hr
  unfold maxLen at hn
  clear hr
  go_enter Try.func4, Try.ntmps4
  go_wp2_with (go_at_call 6; refine H6.out.mono ?_; rintro e w' ⟨⟨b, rfl⟩, hw⟩; have hw2 := hw.symm; subst hw2; clear hw)
  all_goals go_ret
  all_goals exact ⟨rfl, Below.refl _ _⟩

set_option maxRecDepth 100000 in
set_option maxHeartbeats 2000000 in
theorem law_main (p : Option Addr) (n c : Nat) (xs : List ByteArray) (M : Int) (w : World) (hl : n ≤ 65536) (hp : p = none → n = 0 ∧ c = 0) (hr : StrsAt w p n xs) (hm : w.cell? ⟨0, 0, none⟩ = some (.int .i64 M)) :
    Calls Try.prog 4 #[.slice p n c] w fun e w' => e = .returned (.bool true) ∧ Below w.heap.size w w' := by
  have H6 : Hid (Calls Try.prog 6 #[.slice p n c] w fun e w' => SomeBool e ∧ w' = w) := zz6 p n c xs w (by unfold maxLen; omega) hr
  have H7 : Hid (Calls Try.prog 7 #[.slice p n c] w fun e w' => ∃ q, e = .returned (.slice q n n) ∧ StrsAt w' q n xs ∧ Below w.heap.size w w') := clone7 p n c xs w (by omega) hp hr
  have HM : Hid (w.cell? ⟨0, 0, none⟩ = some (.int .i64 M)) := hm
  have HR : Hid (StrsAt w p n xs) := hr
  have HX : Hid (xs.length = n) := hr.len
  have hd : decide (65536 < (n : Int)) = false := decide_eq_false (by omega)
  clear hr hm hp
  go_enter Try.func4, Try.ntmps4
  go_wp2_with (go_at_call 6; refine H6.out.mono ?_; rintro e w' ⟨⟨b, rfl⟩, hw⟩; have hw2 := hw.symm; subst hw2; clear hw; cases b)
  · go_ret
    exact ⟨rfl, Below.refl _ _⟩
  clear H6
  go_loop [3, 4] (fun t i => ∃ (k : Nat) (T : Int), k ≤ n ∧ 0 ≤ T ∧ T ≤ 1048576 ∧ Hid (T = tot (xs.take k)) ∧ t = .int .i64 T ∧ i = .int .i64 k) (fun _ i => n - (intOf i).toNat)
  case atStart => exact ⟨0, 0, by omega, by omega, by omega, rfl, rfl, rfl⟩
  case round =>
    obtain ⟨k, T, hk, ht0, ht, HT, rfl, rfl⟩ := hrel
    by_cases hlt : k < n
    · obtain ⟨b, o, hq, _, hc⟩ := HR.out.at' (by omega)
      obtain ⟨sk, hsk⟩ : ∃ sk, sk = xs.getD k ByteArray.empty := ⟨_, rfl⟩
      have hck : w.cell? ⟨b, o + k, none⟩ = some (.string sk) := by rw [hsk]; exact hc k hlt
      have hts := tot_step xs k (by rw [HX.out]; exact hlt)
      rw [← hsk] at hts
      have HT2 : Hid (T + (sk.size + 16) = tot (xs.take (k + 1))) := by
        have := HT.out
        show T + (sk.size + 16) = tot (xs.take (k + 1))
        omega
      clear hc hsk hts
      subst hq
      go_wp2
      · go_ret
        exact ⟨rfl, Below.refl _ _⟩
      · go_ret
        exact ⟨rfl, Below.refl _ _⟩
      · go_round
        case rel => exact ⟨k + 1, _, by omega, by omega, by omega, HT2.out, rfl, by go_num⟩
        case measure => simp [intOf]; omega
    · have e : k = n := by omega
      subst e
      have HTot : Hid (tot xs ≤ 1048576) := by
        have hx := HX.out
        have hT := HT.out
        rw [List.take_of_length_le (by omega)] at hT
        show tot xs ≤ 1048576
        omega
      clear ht ht0 hlt hk HT
      go_wp2_with fail
      refine H7.out.mono ?_
      rintro e w1 ⟨q, rfl, hr1, hb1⟩
      have HR1 : Hid (StrsAt w1 q k xs) := hr1
      have HB1 : Hid (Below w.heap.size w w1) := hb1
      have h0 : 0 < w.heap.size := World.block_lt_of_cell? w ⟨0, 0, none⟩ HM.out
      have HM1 : Hid (w1.cell? ⟨0, 0, none⟩ = some (.int .i64 M)) := (hb1.cell (p := ⟨0, 0, none⟩) h0).trans HM.out
      have H01 : Hid (0 < w1.heap.size) := Nat.lt_of_lt_of_le h0 hb1.size
      clear hr1 hb1 h0 H7 HR HM
      go_wp2
      go_loopw [5, 6, 7] (fun d et i wr => ∃ (m L : Nat) (pd : Option Addr) (cp : Nat), m ≤ k ∧ L ≤ 1048576 ∧ d = .slice pd L cp ∧ et = .string ⟨#[]⟩ ∧ i = .int .i64 m ∧ Hid (L = (acc (xs.take m)).length) ∧
          Hid (wr.ownsRow w1.heap.size 5 1 (.slice pd L cp) L ((acc (xs.take m)).map (Value.int .u8))) ∧ Hid (Below w1.heap.size w1 wr))
        (fun _ _ i _ => k - (intOf i).toNat)
      case atStart => exact ⟨0, 0, none, 0, by omega, by omega, rfl, rfl, rfl, rfl, World.ownsRow_nil _ _ _ _, Below.refl _ _⟩
      case round =>
        obtain ⟨m, L, pd, cp, hmk, hL, rfl, rfl, rfl, HL, HOr, HBr⟩ := hrel
        by_cases hlt : m < k
        · obtain ⟨b, o, hq, hbw, hc⟩ := HR1.out.at' (by omega)
          obtain ⟨sk, hsk⟩ : ∃ sk, sk = xs.getD m ByteArray.empty := ⟨_, rfl⟩
          have hck : wr.cell? ⟨b, o + m, none⟩ = some (.string sk) := by rw [hsk]; exact (HBr.out.cell (p := ⟨b, o + m, none⟩) hbw).trans (hc m hlt)
          have HSK : Hid (sk = xs.getD m ByteArray.empty) := hsk
          have hsz : sk.size ≤ 1048576 := by
            have h1 := tot_step xs m (by rw [HX.out]; exact hlt)
            have h2 := tot_take xs (m + 1)
            have h3 := HTot.out
            rw [← hsk] at h1
            omega
          obtain ⟨i0, hi, hz0, hz1, hz2⟩ := info_parts info5
          have bm1 : i0.bytes * (sk.size + 6) ≤ 281474976710656 := by rw [hz2]; omega
          have bm2 : sk.size + 6 ≤ maxLen := by unfold maxLen; omega
          have E4 : Hid (w1.heap.size ≤ wr.heap.size) := HBr.out.size
          clear hc hsk hbw
          subst hq
          go_wp2_with (first | (at_make; refine wpList_make_own _ rfl _ _ 28 rfl w1.heap.size 5 i0 (.int .u8 0) 1 Try.underlying28 hi hz0 hz1 .i64 .i64 _ (sk.size + 6) rfl rfl (by omega) bm1 bm2 E4.out ?_; intro w2 ho2 hg2; have HO2 : Hid (w2.ownsRow w1.heap.size 5 1 (.slice (some ⟨wr.heap.size, 0, none⟩) 0 (sk.size + 6)) 0 []) := ho2; have HG2 : Hid (wr.grownBy w2 none) := hg2; clear ho2 hg2) | (at_builtin; refine Lib.wpList_append_fits_string _ rfl (.tmp 59) (.const (.string ⟨#[100, 97, 116, 97, 58, 32]⟩)) 28 9 rfl w1.heap.size 5 i0 Try.underlying28 Try.underlying9 hi hz1 (some ⟨wr.heap.size, 0, none⟩) 0 (sk.size + 6) [] rfl HO2.out ⟨#[100, 97, 116, 97, 58, 32]⟩ rfl (by omega) (by show 0 + 6 ≤ sk.size + 6; omega) ?_; intro w3 ho3 hg3; have HO3 : Hid (w3.ownsRow w1.heap.size 5 1 (.slice (some ⟨wr.heap.size, 0, none⟩) 6 (sk.size + 6)) 6 (Lib.strCells ⟨#[100, 97, 116, 97, 58, 32]⟩)) := ho3; have HG3 : Hid (w2.grownBy w3 (some wr.heap.size)) := hg3; clear ho3 hg3) | (at_builtin; refine Lib.wpList_append_fits_string _ rfl (.tmp 61) (.tmp 62) 28 9 rfl w1.heap.size 5 i0 Try.underlying28 Try.underlying9 hi hz1 (some ⟨wr.heap.size, 0, none⟩) 6 (sk.size + 6) _ rfl HO3.out sk rfl (by omega) (by omega) ?_; intro w4 ho4 hg4; have HO4 : Hid (w4.ownsRow w1.heap.size 5 1 (.slice (some ⟨wr.heap.size, 0, none⟩) (6 + sk.size) (sk.size + 6)) (6 + sk.size) (Lib.strCells ⟨#[100, 97, 116, 97, 58, 32]⟩ ++ Lib.strCells sk)) := ho4; have HG4 : Hid (w3.grownBy w4 (some wr.heap.size)) := hg4; clear ho4 hg4))
          have LM := line_made HOr.out HBr.out HG2.out HG3.out HG4.out HO4.out
          have HBL : Hid (Below w1.heap.size w1 w4) := LM.2.1
          have HZ := zz_line sk xs m L pd cp w1.heap.size M w4 wr.heap.size hsz hL ((HBL.out.cell (p := ⟨0, 0, none⟩) H01.out).trans HM1.out) HBL.out.size LM.2.2 LM.1
          clear LM HO2 HG2 HO3 HG3 HO4 HG4 hi hz0 hz1 hz2 bm1 bm2 E4
          refine HZ.mono ?_
          rintro e w5 ⟨pd', cp', rfl, ho5, hb5⟩
          have HO5 : Hid (w5.ownsRow w1.heap.size 5 1 (.slice pd' (L + sk.size + 1) cp') (L + sk.size + 1) ((acc (xs.take m) ++ nums sk ++ [10]).map (Value.int .u8))) := ho5
          have HB5 : Hid (Below w1.heap.size w1 w5) := HBL.out.trans hb5
          have hlx : m < xs.length := by rw [HX.out]; exact hlt
          have HA : Hid (acc (xs.take (m + 1)) = acc (xs.take m) ++ nums sk ++ [10]) := by
            have h := acc_step xs m hlx
            rw [← HSK.out] at h
            exact h
          have HN : Hid (L + sk.size + 1 = (acc (xs.take (m + 1))).length) := by
            have h := acc_len_step xs m hlx
            have hl := HL.out
            rw [← HSK.out] at h
            show L + sk.size + 1 = (acc (xs.take (m + 1))).length
            omega
          have hL2 : L + sk.size + 1 ≤ 1048576 := by
            have h1 := HN.out
            have h2 := acc_le (xs.take (m + 1))
            have h3 := tot_take xs (m + 1)
            have h4 := HTot.out
            omega
          clear ho5 hb5 HZ HOr HBr HBL hlx
          go_wp2
          go_roundw
          case rel => exact ⟨m + 1, L + sk.size + 1, pd', cp', by omega, hL2, rfl, rfl, by go_num, HN, by show World.ownsRow _ _ _ _ _ _ _; rw [HA.out]; exact HO5.out, HB5⟩
          case measure => simp [intOf]; omega
        · have e : m = k := by omega
          subst e
          have hxl := HX.out
          have HO : Hid (wr.ownsRow w1.heap.size 5 1 (.slice pd L cp) L ((acc xs).map (Value.int .u8))) := by
            have h := HOr.out
            rw [List.take_of_length_le (by omega)] at h
            exact h
          have HLa : Hid (L = (acc xs).length) := by
            have h := HL.out
            rw [List.take_of_length_le (by omega)] at h
            exact h
          clear HOr HL hxl hlt hmk
          go_wp2
          obtain ⟨W, hW⟩ : ∃ W, W = wr := ⟨_, rfl⟩
          subst hW
          go_loopw [10, 11] (fun kk i wr => ∃ (j K : Nat), j ≤ m ∧ K ≤ 1048576 ∧ kk = .int .i64 K ∧ i = .int .i64 j ∧ Hid (K = (acc (xs.take j)).length) ∧ Hid (wr.heap = W.heap) ∧ Hid (Below w1.heap.size w1 wr))
            (fun _ i _ => m - (intOf i).toNat)
          case atStart => exact ⟨0, 0, by omega, by omega, rfl, rfl, rfl, rfl, HBr⟩
          case round =>
            clear HBr
            obtain ⟨j, K, hj, hK, rfl, rfl, HK, HH, HBr⟩ := hrel
            by_cases hlt : j < m
            · obtain ⟨b, o, hq, hbw, hc⟩ := HR1.out.at' (by omega)
              obtain ⟨sk, hsk⟩ : ∃ sk, sk = xs.getD j ByteArray.empty := ⟨_, rfl⟩
              have hck : wr.cell? ⟨b, o + j, none⟩ = some (.string sk) := by rw [hsk]; exact (HBr.out.cell (p := ⟨b, o + j, none⟩) hbw).trans (hc j hlt)
              have hjx : j < xs.length := by rw [HX.out]; exact hlt
              have HSK : Hid (sk = xs.getD j ByteArray.empty) := hsk
              have hroom : K + sk.size < L := by
                have h := acc_room xs j sk hsk hjx
                rw [HLa.out, HK.out]
                exact h
              have HJX : Hid (j < xs.length) := hjx
              obtain ⟨gd, hpd⟩ := own_pos HO.out (by omega)
              clear hc hsk hbw hjx
              subst hq
              subst hpd
              go_wp2
              go_loopw [10, 13] (fun kk jj wr => ∃ (t S : Nat), t ≤ sk.size ∧ S ≤ 1048576 ∧ kk = .int .i64 S ∧ jj = .int .i64 t ∧ Hid (S = K + t) ∧ Hid (wr.heap = W.heap) ∧ Hid (Below w1.heap.size w1 wr))
                (fun _ jj _ => sk.size - (intOf jj).toNat)
              case atStart => exact ⟨0, K, by omega, by omega, rfl, rfl, rfl, HH, HBr⟩
              case round =>
                clear HH HBr hck
                obtain ⟨t, S, ht, hS, rfl, rfl, HS, HH, HBr⟩ := hrel
                have hSL : S < L := by
                  have := HS.out
                  omega
                have hSL' : (S : Int) < (L : Int) := by omega
                have hguard : decide ((L : Int) ≤ (S : Int)) = false := decide_eq_false (by omega)
                by_cases htl : t < sk.size
                · have hcd : wr.cell? ⟨gd, S, none⟩ = some (.int .u8 (sk[t].toNat)) := by
                    rw [cell_heap HH.out, own_at HO.out hSL, HS.out, HK.out, acc_at xs j t sk HSK.out HJX.out htl]
                  go_wp2_with fail
                  go_quiet (fail)
                  go_wp2
                  go_roundw
                  case rel => exact ⟨t + 1, S + 1, by omega, by omega, by go_num, by go_num, by show S + 1 = K + (t + 1); rw [HS.out]; rfl, HH.out, below_drewN' HBr.out _⟩
                  case measure => simp [intOf]; omega
                · have e : t = sk.size := by omega
                  subst e
                  have hcd : wr.cell? ⟨gd, S, none⟩ = some (.int .u8 10) := by
                    rw [cell_heap HH.out, own_at HO.out hSL, HS.out, HK.out, acc_lf xs j sk HSK.out HJX.out]
                  have HN : Hid (S + 1 = (acc (xs.take (j + 1))).length) := by
                    have h := acc_len_step xs j HJX.out
                    rw [← HSK.out, ← HK.out] at h
                    have h2 := HS.out
                    show S + 1 = (acc (xs.take (j + 1))).length
                    omega
                  clear HK
                  go_wp2
                  go_roundw
                  case rel => exact ⟨j + 1, S + 1, by omega, by omega, by go_num, by go_num, HN, HH, HBr⟩
                  case measure => simp [intOf]; omega
            · have e : j = m := by omega
              subst e
              have hKL : K = L := by
                have h := HK.out
                have hxl := HX.out
                rw [List.take_of_length_le (by omega), ← HLa.out] at h
                exact h
              subst hKL
              have kc := fun (w : World) (C : Array Value) (n c : Nat) => Lib.run_convert_bytes_const (P := Try.prog) w 28 5 C n c Try.underlying28 Try.underlying5
              have HE := event_call (xs := xs) HO.out HH.out HBr.out H01.out HM1.out
              have HB0 : Hid (Below w.heap.size w w1) := HB1
              go_wp2_with fail
              refine HE.mono ?_
              rintro e w8 ⟨rfl, hb8⟩
              have HB8 : Hid (Below w.heap.size w w8) := HB0.out.trans (hb8.mono HB0.out.size)
              clear HE hb8 HB0 HB1 HH HBr HO HLa HK HX HTot HR1 HM1 H01 kc
              go_wp2
              go_ret
              exact ⟨rfl, HB8.out⟩

theorem law (p : Option Addr) (n c : Nat) (xs : List ByteArray) (M : Int) (w : World) (hn : n ≤ maxLen) (hp : p = none → n = 0 ∧ c = 0) (hr : StrsAt w p n xs) (hm : w.cell? ⟨0, 0, none⟩ = some (.int .i64 M)) :
    Calls Try.prog 4 #[.slice p n c] w fun e w' => e = .returned (.bool true) ∧ Below w.heap.size w w' := by
  by_cases hl : n ≤ 65536
  · exact law_main p n c xs M w hl hp hr hm
  · exact law_long p n c xs w hn (by omega) hr
end Go.Proofs.Qxb6002908a
