import Derived.Test.Qxb6002908aField
import Derived.RegionTactic
namespace Go.Proofs.Qxb6002908a
open Go.RowKit

def evLine : List Int := [101, 118, 101, 110, 116, 58, 112, 105, 110, 103]

theorem cut_event (g h m : Nat) (M : Int) (w : World)
    (hc : ∀ i, i < 10 → w.cell? ⟨g, i, none⟩ = some (.int .u8 (evLine.getD i 0))) (hs : w.cell? ⟨h, 0, none⟩ = some (.int .u8 58)) (hm : w.cell? ⟨0, 0, none⟩ = some (.int .i64 M)) :
    Calls Try.prog 11 #[.slice (some ⟨g, 0, none⟩) 10 10, .slice (some ⟨h, 0, none⟩) 1 m] w fun e w' =>
      e = .returned (.tuple #[.slice (some ⟨g, 0, none⟩) 5 10, .slice (some ⟨g, 6, none⟩) 4 4, .bool true]) ∧ ∃ q, w' = w.drewN q := by
  have h1 := Try.bytes_Cut_all (some ⟨g, 0, none⟩) (some ⟨h, 0, none⟩) 10 10 1 m evLine [58] M w rfl rfl (by decide) (by decide)
    (fun _ => ⟨g, 0, rfl, fun i hi => by rw [Nat.zero_add]; exact hc i hi⟩) (fun _ => ⟨h, 0, rfl, fun i hi => by
      have : i = 0 := by omega
      subst this
      exact hs⟩) (fun h => by cases h) (Nat.le_refl _) (by omega) (by omega) hm
  have e0 : Lib.index (Lib.bytesOf evLine) (Lib.bytesOf [58]) = 5 := by decide
  rw [e0] at h1
  exact h1

theorem trim_event (g h m : Nat) (w : World)
    (hc : ∀ i, i < 10 → w.cell? ⟨g, i, none⟩ = some (.int .u8 (evLine.getD i 0))) (hs : w.cell? ⟨h, 0, none⟩ = some (.int .u8 32)) :
    Calls Try.prog 12 #[.slice (some ⟨g, 6, none⟩) 4 4, .slice (some ⟨h, 0, none⟩) 1 m] w fun e w' => e = .returned (.slice (some ⟨g, 6, none⟩) 4 4) ∧ w' = w := by
  have h1 := Try.bytes_TrimPrefix_all (some ⟨g, 6, none⟩) (some ⟨h, 0, none⟩) 4 4 1 m [112, 105, 110, 103] [32] w rfl rfl (Nat.le_refl _)
    (fun _ => ⟨g, 6, rfl, fun i hi => by
      rw [hc (6 + i) (by omega)]
      rw [Nat.add_comm 6 i]
      rfl⟩) (fun _ => ⟨h, 0, rfl, fun i hi => by
      have : i = 0 := by omega
      subst this
      exact hs⟩)
  have e : Lib.trimPrefixV (some ⟨g, 6, none⟩) 4 4 [112, 105, 110, 103] [32] = .slice (some ⟨g, 6, none⟩) 4 4 := by
    show Lib.bytesTrimPrefix g 6 4 4 [112, 105, 110, 103] [32] = _
    unfold Lib.bytesTrimPrefix
    rw [if_neg (by decide)]
  rw [e] at h1
  exact h1

theorem conv_event (g : Nat) (w : World) (hc : ∀ i, i < 10 → w.cell? ⟨g, i, none⟩ = some (.int .u8 (evLine.getD i 0))) :
    (convert 28 9 (.slice (some ⟨g, 0, none⟩) 5 10)).run Try.prog w = .ok (.string ⟨#[101, 118, 101, 110, 116]⟩) w ∧
    (convert 28 9 (.slice (some ⟨g, 6, none⟩) 4 4)).run Try.prog w = .ok (.string ⟨#[112, 105, 110, 103]⟩) w := by
  refine ⟨?_, ?_⟩
  · exact run_convert_bytes_arg (P := Try.prog) w 28 5 Try.underlying28 Try.underlying5 g 0 5 10 [101, 118, 101, 110, 116] rfl (fun i hi => by
      rw [Nat.zero_add, hc i (by omega)]
      match i, hi with
      | 0, _ => rfl
      | 1, _ => rfl
      | 2, _ => rfl
      | 3, _ => rfl
      | 4, _ => rfl) 9 Try.underlying9
  · exact run_convert_bytes_arg (P := Try.prog) w 28 5 Try.underlying28 Try.underlying5 g 6 4 4 [112, 105, 110, 103] rfl (fun i hi => by
      rw [hc (6 + i) (by omega)]
      match i, hi with
      | 0, _ => rfl
      | 1, _ => rfl
      | 2, _ => rfl
      | 3, _ => rfl) 9 Try.underlying9

set_option maxHeartbeats 1000000 in
theorem field_event (s g : Nat) (ds : List Int) (c0 c1 c2 c3 c4 dv : Value) (et : ByteArray) (base L : Nat) (M : Int) (w : World)
    (hm : w.cell? ⟨0, 0, none⟩ = some (.int .i64 M)) (hbs : base ≤ s) (h : FieldSt w w base s g evLine (parser c0 c1 c2 c3 c4 (.string et) dv) dv L ds) :
    Calls Try.prog 10 #[.pointer (some ⟨s, 0, none⟩), .slice (some ⟨g, 0, none⟩) 10 10] w fun e w' => e = .returned (.tuple #[]) ∧
      w'.heap[s]? = some (parser c0 c1 c2 c3 c4 (.string ⟨#[112, 105, 110, 103]⟩) dv) ∧ Below base w w' := by
  have kc := fun (w : World) (C : Array Value) (n c : Nat) => Lib.run_convert_bytes_const (P := Try.prog) w 28 5 C n c Try.underlying28 Try.underlying5
  have HM : Hid (w.cell? ⟨0, 0, none⟩ = some (.int .i64 M)) := hm
  have HF : Hid (FieldSt w w base s g evLine (parser c0 c1 c2 c3 c4 (.string et) dv) dv L ds) := h
  have HBS : Hid (base ≤ s) := hbs
  clear h hm hbs
  go_enter Try.func10, Try.ntmps10
  go_wp2_with fail
  refine (cut_event g w.heap.size 1 M (w.alloc (.cells #[.int .u8 58] 5 (1, 2))) (fun i hi => (HF.out.alloc _).cells i hi) (by rw [World.cell?_alloc_mark]; rfl) (Lib.cell?_alloc_marked _ HM.out)).mono ?_
  rintro e w1 ⟨rfl, q, hq⟩
  have HF1 : Hid (FieldSt w w1 base s g evLine (parser c0 c1 c2 c3 c4 (.string et) dv) dv L ds) := by
    show FieldSt w w1 base s g evLine (parser c0 c1 c2 c3 c4 (.string et) dv) dv L ds
    rw [hq]
    exact (HF.out.alloc _).drewN q
  clear hq HF HM
  go_wp2_with fail
  refine (trim_event g w1.heap.size 1 (w1.alloc (.cells #[.int .u8 32] 5 (1, 2))) (fun i hi => (HF1.out.alloc _).cells i hi) (by rw [World.cell?_alloc_mark]; rfl)).mono ?_
  rintro e w2 ⟨rfl, hq⟩
  have HF2 : Hid (FieldSt w w2 base s g evLine (parser c0 c1 c2 c3 c4 (.string et) dv) dv L ds) := by
    show FieldSt w w2 base s g evLine (parser c0 c1 c2 c3 c4 (.string et) dv) dv L ds
    rw [hq]
    exact HF1.out.alloc _
  clear hq HF1
  obtain ⟨hcv1, hcv2⟩ := conv_event g w2 (fun i hi => HF2.out.cells i hi)
  have hdc : w2.cell? ⟨s, 5, none⟩ = some (.string et) := (cell_of_row w2 s 5 _ 33 (0, 0) HF2.out.st).trans rfl
  have hfz : w2.frozen? ⟨s, 5, none⟩ = false := frozen_of_row w2 s 5 _ 33 HF2.out.st
  go_wp2
  go_end0
  refine ⟨rfl, ?_, HF2.out.bel.setCell HBS.out _⟩
  rw [heap_setCell_same w2 s 5 _ 33 _ HF2.out.st]
  rfl

/-- The parser as ZZField makes it. -/
theorem fs_start {w : World} {base g n L : Nat} {ln ds : List Int} {et dv : Value} (hl : ln.length = n) (hbw : base ≤ w.heap.size) (hc : ∀ i, i < n → w.cell? ⟨g, i, none⟩ = some (.int .u8 (ln.getD i 0))) (ho : w.ownsRow base 5 1 dv L (ds.map (Value.int .u8))) :
    FieldSt (w.alloc (parser (.slice none 0 0) (.int .i64 0) (.int .i64 0) (.int .i64 0) (.bool false) et dv)) (w.alloc (parser (.slice none 0 0) (.int .i64 0) (.int .i64 0) (.int .i64 0) (.bool false) et dv)) base w.heap.size g ln
      (parser (.slice none 0 0) (.int .i64 0) (.int .i64 0) (.int .i64 0) (.bool false) et dv) dv L ds := by
  have hb : Below w.heap.size w (w.alloc (parser (.slice none 0 0) (.int .i64 0) (.int .i64 0) (.int .i64 0) (.bool false) et dv)) := (Below.refl _ w).alloc (Nat.le_refl _) _
  refine ⟨fun i hi => ?_, heap_alloc_new _ _, ho.alloc _, Below.refl _ _, Nat.le_trans hbw hb.size⟩
  have h := hc i (by omega)
  exact (hb.cell (p := ⟨g, i, none⟩) (World.block_lt_of_cell? w _ h)).trans h

set_option maxHeartbeats 1000000 in
theorem zz_data (g n : Nat) (vs ds : List Int) (et : ByteArray) (pd : Option Addr) (cp : Nat) (base L : Nat) (M : Int) (w : World) (hn : n ≤ 2097152) (hL : L ≤ 2097152) (hl : vs.length + 6 = n) (hb : ∀ x ∈ vs, 0 ≤ x ∧ x < 256)
    (hm : w.cell? ⟨0, 0, none⟩ = some (.int .i64 M)) (hbw : base ≤ w.heap.size) (hc : ∀ i, i < n → w.cell? ⟨g, i, none⟩ = some (.int .u8 ((dataLine vs).getD i 0))) (ho : w.ownsRow base 5 1 (.slice pd L cp) L (ds.map (Value.int .u8))) :
    Calls Try.prog 8 #[.string et, .slice pd L cp, .slice (some ⟨g, 0, none⟩) n n] w fun e w' =>
      ∃ dv', e = .returned (.tuple #[.string et, dv']) ∧ w'.ownsRow base 5 1 dv' (L + vs.length + 1) ((ds ++ vs ++ [10]).map (Value.int .u8)) ∧ Below base w w' := by
  have HF : Hid (FieldSt (w.alloc (parser (.slice none 0 0) (.int .i64 0) (.int .i64 0) (.int .i64 0) (.bool false) (.string et) (.slice pd L cp))) (w.alloc (parser (.slice none 0 0) (.int .i64 0) (.int .i64 0) (.int .i64 0) (.bool false) (.string et) (.slice pd L cp))) base w.heap.size g (dataLine vs)
      (parser (.slice none 0 0) (.int .i64 0) (.int .i64 0) (.int .i64 0) (.bool false) (.string et) (.slice pd L cp)) (.slice pd L cp) L ds) := fs_start (by simp [dataLine]; omega) hbw hc ho
  have HM : Hid ((w.alloc (parser (.slice none 0 0) (.int .i64 0) (.int .i64 0) (.int .i64 0) (.bool false) (.string et) (.slice pd L cp))).cell? ⟨0, 0, none⟩ = some (.int .i64 M)) := Lib.cell?_alloc_marked _ hm
  have HW : Hid (base ≤ w.heap.size) := hbw
  have H := field_data w.heap.size g n vs ds (.slice none 0 0) (.int .i64 0) (.int .i64 0) (.int .i64 0) (.bool false) (.string et) (.slice pd L cp) base L M _ hn hL hl hb HM.out hbw HF.out
  have HH : Hid (Calls Try.prog 10 #[.pointer (some ⟨w.heap.size, 0, none⟩), .slice (some ⟨g, 0, none⟩) n n] (w.alloc (parser (.slice none 0 0) (.int .i64 0) (.int .i64 0) (.int .i64 0) (.bool false) (.string et) (.slice pd L cp))) fun e w' => e = .returned (.tuple #[]) ∧
      ∃ dv', w'.ownsRow base 5 1 dv' (L + vs.length + 1) ((ds ++ vs ++ [10]).map (Value.int .u8)) ∧ w'.heap[w.heap.size]? = some (parser (.slice none 0 0) (.int .i64 0) (.int .i64 0) (.int .i64 0) (.bool false) (.string et) dv') ∧ Below base (w.alloc (parser (.slice none 0 0) (.int .i64 0) (.int .i64 0) (.int .i64 0) (.bool false) (.string et) (.slice pd L cp))) w') := H
  clear H HF HM hm hbw hc ho hn hL hl hb
  go_enter Try.func8, Try.ntmps8
  go_wp2_with fail
  refine HH.out.mono ?_
  rintro e w1 ⟨rfl, dv', ho1, hs1, hb1⟩
  obtain ⟨p1, cp1, hv1⟩ := own_shape ho1
  subst hv1
  have hc5 : w1.cell? ⟨w.heap.size, 5, none⟩ = some (.string et) := (cell_of_row w1 w.heap.size 5 _ 33 (0, 0) hs1).trans rfl
  have hc6 : w1.cell? ⟨w.heap.size, 6, none⟩ = some (.slice p1 (L + vs.length + 1) cp1) := (cell_of_row w1 w.heap.size 6 _ 33 (0, 0) hs1).trans rfl
  have HO : Hid (w1.ownsRow base 5 1 (.slice p1 (L + vs.length + 1) cp1) (L + vs.length + 1) ((ds ++ vs ++ [10]).map (Value.int .u8))) := ho1
  have HB : Hid (Below base w w1) := ((Below.refl base w).alloc HW.out _).trans hb1
  clear ho1 hs1 hb1 HH
  go_wp2
  go_region
  all_goals (try go_wp2)
  all_goals go_ret2
  all_goals exact ⟨_, rfl, HO.out, HB.out.drew⟩

set_option maxHeartbeats 1000000 in
theorem zz_event (g : Nat) (ds : List Int) (et : ByteArray) (pd : Option Addr) (cp : Nat) (base L : Nat) (M : Int) (w : World)
    (hm : w.cell? ⟨0, 0, none⟩ = some (.int .i64 M)) (hbw : base ≤ w.heap.size) (hc : ∀ i, i < 10 → w.cell? ⟨g, i, none⟩ = some (.int .u8 (evLine.getD i 0))) (ho : w.ownsRow base 5 1 (.slice pd L cp) L (ds.map (Value.int .u8))) :
    Calls Try.prog 8 #[.string et, .slice pd L cp, .slice (some ⟨g, 0, none⟩) 10 10] w fun e w' =>
      e = .returned (.tuple #[.string ⟨#[112, 105, 110, 103]⟩, .slice pd L cp]) ∧ Below base w w' := by
  have HF : Hid (FieldSt (w.alloc (parser (.slice none 0 0) (.int .i64 0) (.int .i64 0) (.int .i64 0) (.bool false) (.string et) (.slice pd L cp))) (w.alloc (parser (.slice none 0 0) (.int .i64 0) (.int .i64 0) (.int .i64 0) (.bool false) (.string et) (.slice pd L cp))) base w.heap.size g evLine
      (parser (.slice none 0 0) (.int .i64 0) (.int .i64 0) (.int .i64 0) (.bool false) (.string et) (.slice pd L cp)) (.slice pd L cp) L ds) := fs_start rfl hbw hc ho
  have HM : Hid ((w.alloc (parser (.slice none 0 0) (.int .i64 0) (.int .i64 0) (.int .i64 0) (.bool false) (.string et) (.slice pd L cp))).cell? ⟨0, 0, none⟩ = some (.int .i64 M)) := Lib.cell?_alloc_marked _ hm
  have HW : Hid (base ≤ w.heap.size) := hbw
  have H := field_event w.heap.size g ds (.slice none 0 0) (.int .i64 0) (.int .i64 0) (.int .i64 0) (.bool false) (.slice pd L cp) et base L M _ HM.out hbw HF.out
  have HH : Hid (Calls Try.prog 10 #[.pointer (some ⟨w.heap.size, 0, none⟩), .slice (some ⟨g, 0, none⟩) 10 10] (w.alloc (parser (.slice none 0 0) (.int .i64 0) (.int .i64 0) (.int .i64 0) (.bool false) (.string et) (.slice pd L cp))) fun e w' => e = .returned (.tuple #[]) ∧
      w'.heap[w.heap.size]? = some (parser (.slice none 0 0) (.int .i64 0) (.int .i64 0) (.int .i64 0) (.bool false) (.string ⟨#[112, 105, 110, 103]⟩) (.slice pd L cp)) ∧ Below base (w.alloc (parser (.slice none 0 0) (.int .i64 0) (.int .i64 0) (.int .i64 0) (.bool false) (.string et) (.slice pd L cp))) w') := H
  clear H HF HM hm hbw hc ho
  go_enter Try.func8, Try.ntmps8
  go_wp2_with fail
  refine HH.out.mono ?_
  rintro e w1 ⟨rfl, hs1, hb1⟩
  have hc5 : w1.cell? ⟨w.heap.size, 5, none⟩ = some (.string ⟨#[112, 105, 110, 103]⟩) := (cell_of_row w1 w.heap.size 5 _ 33 (0, 0) hs1).trans rfl
  have hc6 : w1.cell? ⟨w.heap.size, 6, none⟩ = some (.slice pd L cp) := (cell_of_row w1 w.heap.size 6 _ 33 (0, 0) hs1).trans rfl
  have HB : Hid (Below base w w1) := ((Below.refl base w).alloc HW.out _).trans hb1
  clear hs1 hb1 HH
  go_wp2
  go_region
  all_goals (try go_wp2)
  all_goals go_ret2
  all_goals exact ⟨rfl, HB.out.drew⟩
end Go.Proofs.Qxb6002908a
