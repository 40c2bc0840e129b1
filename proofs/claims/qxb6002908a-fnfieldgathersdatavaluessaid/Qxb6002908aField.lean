import Derived.Test.Qxb6002908aRows
import Derived.Test.Qxb6002908aShelf
import Derived.WalkKit
import Derived.ProofKit
import Derived.OwnWalk
import Derived.WalkSpells
import Derived.WalkLawsBesides
import Derived.OpenShut
import Derived.Lib.SlBytesConst
import Derived.Lib.SlBytesRow
import Derived.Room.AppendFits
import Derived.BigQuiet
import Derived.Deep.QuietTactic
namespace Go.Proofs.Qxb6002908a
open Go.RowKit

theorem info5 : (Try.prog.info? 5).map (fun i => (i.zero, i.size, i.bytes)) = some (some (.int .u8 0), 1, 1) := by kernel_rfl
theorem ret_bool {a b : Bool} (h : a = b) : Ending.returned (.bool a) = .returned (.bool b) := by rw [h]

/-- The bytes of the word data, a colon, a blank, and what follows. -/
def dataLine (vs : List Int) : List Int := 100 :: 97 :: 116 :: 97 :: 58 :: 32 :: vs

theorem index_data (vs : List Int) : Lib.index (Lib.bytesOf (dataLine vs)) (Lib.bytesOf [58]) = 4 := by
  have e1 : Lib.bytesOf (dataLine vs) = 100 :: 97 :: 116 :: 97 :: 58 :: 32 :: Lib.bytesOf vs := rfl
  have e2 : Lib.bytesOf [58] = [58] := rfl
  rw [e1, e2]
  simp [Lib.index, List.isPrefixOf]
theorem data_bytes {vs : List Int} (h : ∀ x ∈ vs, 0 ≤ x ∧ x < 256) : ∀ x ∈ dataLine vs, 0 ≤ x ∧ x < 256 := by
  intro x hx
  simp only [dataLine, List.mem_cons] at hx
  rcases hx with rfl | rfl | rfl | rfl | rfl | rfl | hx
  all_goals first | exact h _ hx | omega
/-- bytes.Cut at the colon. -/
theorem cut_data (g n h m : Nat) (vs : List Int) (M : Int) (w : World) (hn : n ≤ 2097152) (hl : vs.length + 6 = n) (hb : ∀ x ∈ vs, 0 ≤ x ∧ x < 256)
    (hc : ∀ i, i < n → w.cell? ⟨g, i, none⟩ = some (.int .u8 ((dataLine vs).getD i 0))) (hs : w.cell? ⟨h, 0, none⟩ = some (.int .u8 58)) (hm : w.cell? ⟨0, 0, none⟩ = some (.int .i64 M)) :
    Calls Try.prog 11 #[.slice (some ⟨g, 0, none⟩) n n, .slice (some ⟨h, 0, none⟩) 1 m] w fun e w' =>
      e = .returned (.tuple #[.slice (some ⟨g, 0, none⟩) 4 n, .slice (some ⟨g, 5, none⟩) (n - 5) (n - 5), .bool true]) ∧ ∃ q, w' = w.drewN q := by
  have h1 := Try.bytes_Cut_all (some ⟨g, 0, none⟩) (some ⟨h, 0, none⟩) n n 1 m (dataLine vs) [58] M w (by simp [dataLine]; omega) rfl (data_bytes hb) (by intro y hy; simp at hy; omega)
    (fun _ => ⟨g, 0, rfl, fun i hi => by rw [Nat.zero_add]; exact hc i hi⟩) (fun _ => ⟨h, 0, rfl, fun i hi => by
      have : i = 0 := by omega
      subst this
      exact hs⟩) (fun h => by cases h) (Nat.le_refl _) (by omega) (by omega) hm
  rw [index_data] at h1
  have e : Lib.cutV (some ⟨g, 0, none⟩) n n 1 4 = .tuple #[.slice (some ⟨g, 0, none⟩) 4 n, .slice (some ⟨g, 5, none⟩) (n - 5) (n - 5), .bool true] := by
    unfold Lib.cutV Lib.fromV
    rw [if_pos (by omega)]
    have : ¬ n = (4 : Int).toNat + 1 := by show ¬ n = 5; omega
    rw [if_neg this]
    rfl
  rw [e] at h1
  exact h1

/-- bytes.TrimPrefix behind the colon. -/
theorem trim_data (g n h m : Nat) (vs : List Int) (w : World) (hl : vs.length + 6 = n)
    (hc : ∀ i, i < n → w.cell? ⟨g, i, none⟩ = some (.int .u8 ((dataLine vs).getD i 0))) (hs : w.cell? ⟨h, 0, none⟩ = some (.int .u8 32)) :
    Calls Try.prog 12 #[.slice (some ⟨g, 5, none⟩) (n - 5) (n - 5), .slice (some ⟨h, 0, none⟩) 1 m] w fun e w' =>
      (∃ ad : Addr, e = .returned (.slice (some ad) (n - 6) (n - 6)) ∧ ∀ j, j < n - 6 → ad.add j = ⟨g, 6 + j, none⟩) ∧ w' = w := by
  have h1 := Try.bytes_TrimPrefix_all (some ⟨g, 5, none⟩) (some ⟨h, 0, none⟩) (n - 5) (n - 5) 1 m (32 :: vs) [32] w (by simp; omega) rfl (Nat.le_refl _)
    (fun _ => ⟨g, 5, rfl, fun i hi => by
      rw [hc (5 + i) (by omega)]
      rw [Nat.add_comm 5 i]
      rfl⟩) (fun _ => ⟨h, 0, rfl, fun i hi => by
      have : i = 0 := by omega
      subst this
      exact hs⟩)
  have e1 : Lib.hasPrefix (Lib.bytesOf (32 :: vs)) (Lib.bytesOf [32]) = true := by
    have : Lib.bytesOf (32 :: vs) = 32 :: Lib.bytesOf vs := rfl
    rw [this]
    simp [Lib.hasPrefix, Lib.bytesOf]
  have e : Lib.trimPrefixV (some ⟨g, 5, none⟩) (n - 5) (n - 5) (32 :: vs) [32] = Lib.sliceFrom g 5 (n - 5) (n - 5) 1 := by
    show Lib.bytesTrimPrefix g 5 (n - 5) (n - 5) (32 :: vs) [32] = _
    unfold Lib.bytesTrimPrefix
    rw [if_pos e1]
    rfl
  rw [e] at h1
  refine h1.mono fun e w' ⟨he, hw⟩ => ⟨?_, hw⟩
  unfold Lib.sliceFrom at he
  rw [show n - 5 - 1 = n - 6 by omega] at he
  by_cases h6 : n - 5 = 1
  · rw [if_pos h6] at he
    exact ⟨_, he, fun j hj => by omega⟩
  · rw [if_neg h6] at he
    exact ⟨_, he, fun j _ => by simp [Addr.add]⟩

theorem conv_name (g n : Nat) (vs : List Int) (w : World) (hl : vs.length + 6 = n) (hc : ∀ i, i < n → w.cell? ⟨g, i, none⟩ = some (.int .u8 ((dataLine vs).getD i 0))) :
    (convert 28 9 (.slice (some ⟨g, 0, none⟩) 4 n)).run Try.prog w = .ok (.string ⟨#[100, 97, 116, 97]⟩) w := by
  have h := run_convert_bytes_arg (P := Try.prog) w 28 5 Try.underlying28 Try.underlying5 g 0 4 n [100, 97, 116, 97] rfl (fun i hi => by
    rw [Nat.zero_add, hc i (by omega)]
    match i, hi with
    | 0, _ => rfl
    | 1, _ => rfl
    | 2, _ => rfl
    | 3, _ => rfl) 9 Try.underlying9
  exact h

/-- The block of the parser: its seven fields, one cell each. -/
abbrev parser (c0 c1 c2 c3 c4 et dv : Value) : Obj := .cells #[c0, c1, c2, c3, c4, et, dv] 33 (0, 0)

/-- What holds while 'field' runs: the line, the parser, the data, and all that lay below 'base'. -/
structure FieldSt (w0 w : World) (base s g : Nat) (ln : List Int) (o : Obj) (dv : Value) (L : Nat) (ds : List Int) : Prop where
  cells : ∀ i, i < ln.length → w.cell? ⟨g, i, none⟩ = some (.int .u8 (ln.getD i 0))
  st : w.heap[s]? = some o
  own : w.ownsRow base 5 1 dv L (ds.map (Value.int .u8))
  bel : Below base w0 w
  le : base ≤ w0.heap.size

theorem FieldSt.alloc {w0 w : World} {base s g : Nat} {ln : List Int} {o : Obj} {dv : Value} {L : Nat} {ds : List Int} (h : FieldSt w0 w base s g ln o dv L ds) (b : Obj) : FieldSt w0 (w.alloc b) base s g ln o dv L ds := by
  have hb : Below w.heap.size w (w.alloc b) := (Below.refl _ w).alloc (Nat.le_refl _) b
  refine ⟨fun i hi => ?_, ?_, h.own.alloc b, h.bel.alloc (Nat.le_trans h.le h.bel.size) b, h.le⟩
  · exact (hb.cell (p := ⟨g, i, none⟩) (World.block_lt_of_cell? w _ (h.cells i hi))).trans (h.cells i hi)
  · exact (hb.block s (Array.getElem?_eq_some_iff.1 h.st).1).trans h.st
theorem FieldSt.drewN {w0 w : World} {base s g : Nat} {ln : List Int} {o : Obj} {dv : Value} {L : Nat} {ds : List Int} (h : FieldSt w0 w base s g ln o dv L ds) (q : Nat) : FieldSt w0 (w.drewN q) base s g ln o dv L ds :=
  ⟨h.cells, h.st, h.own, ⟨h.bel.os, h.bel.tape, h.bel.output, h.bel.size, h.bel.block⟩, h.le⟩

theorem ownBlock_ne {w : World} {base n s : Nat} {v : Value} {xs : List Value} {C : Array Value} (h : w.ownsRow base 5 1 v n xs) (hs : w.heap[s]? = some (.cells C 33 (0, 0))) : v.ownBlock ≠ some s := by
  rcases h.2 with ⟨rfl, _⟩ | ⟨g, cap, cur, rfl, _, hg, _⟩
  · simp [Value.ownBlock]
  · intro e
    simp [Value.ownBlock] at e
    subst e
    rw [hs] at hg
    simp at hg

/-- Two appends and the store: what is left of the world. -/
theorem store_back {w0 w2 w3 w4 : World} {base s g L m : Nat} {ln ds vs : List Int} {c0 c1 c2 c3 c4 et dv v1 : Value} {b : Obj}
    (h : FieldSt w0 w2 base s g ln (parser c0 c1 c2 c3 c4 et dv) dv L ds)
    (ho3 : w3.ownsRow base 5 1 v1 (L + m) (ds.map (Value.int .u8) ++ vs.map (Value.int .u8))) (hg3 : w2.grownBy w3 dv.ownBlock)
    (hg4 : (w3.alloc b).grownBy w4 v1.ownBlock) :
    w4.heap[s]? = some (parser c0 c1 c2 c3 c4 et dv) ∧ Below base w0 w4 := by
  have hlt := (Array.getElem?_eq_some_iff.1 h.st).1
  have n2 := ownBlock_ne h.own h.st
  have s3 : w3.heap[s]? = some (parser c0 c1 c2 c3 c4 et dv) := (hg3.block s hlt (fun e => n2 e.symm)).trans h.st
  have n3 := ownBlock_ne ho3 s3
  have hlt3 := (Array.getElem?_eq_some_iff.1 s3).1
  have s3' : (w3.alloc b).heap[s]? = some (parser c0 c1 c2 c3 c4 et dv) := (heap_alloc_old w3 b hlt3).trans s3
  have hlt3' := (Array.getElem?_eq_some_iff.1 s3').1
  have hB2 : base ≤ w2.heap.size := Nat.le_trans h.le h.bel.size
  have b3 : Below base w0 w3 := h.bel.grown hg3 hB2 (fun k hk => (h.own.lt k hk).1)
  have hB3 : base ≤ w3.heap.size := Nat.le_trans hB2 hg3.size
  have b3' := b3.alloc hB3 b
  refine ⟨(hg4.block s hlt3' (fun e => n3 e.symm)).trans s3', b3'.grown hg4 (Nat.le_trans hB3 (by simp)) (fun k hk => (ho3.lt k hk).1)⟩

theorem own_shape {w : World} {base e size n : Nat} {v : Value} {xs : List Value} (h : w.ownsRow base e size v n xs) : ∃ p c, v = .slice p n c := by
  rcases h.2 with ⟨rfl, rfl⟩ | ⟨g, cap, cur, rfl, _⟩
  · exact ⟨none, 0, rfl⟩
  · exact ⟨_, _, rfl⟩
theorem field_end {w w4 : World} {base s n L : Nat} {ds vs : List Int} {c0 c1 c2 c3 c4 et dv v2 : Value} {p2 : Option Addr} {cp2 : Nat} (hv : v2 = .slice p2 (L + (n - 6) + 1) cp2)
    (ho : w4.ownsRow base 5 1 v2 (L + (n - 6) + 1) (ds.map (Value.int .u8) ++ vs.map (Value.int .u8) ++ [.int .u8 10])) (hx : w4.heap[s]? = some (parser c0 c1 c2 c3 c4 et dv) ∧ Below base w w4) (hbs : base ≤ s) (hl : vs.length + 6 = n) :
    ∃ dv', (w4.setCell ⟨s, 6, none⟩ (.slice p2 (L + (n - 6) + 1) cp2)).ownsRow base 5 1 dv' (L + vs.length + 1) ((ds ++ vs ++ [10]).map (Value.int .u8)) ∧ (w4.setCell ⟨s, 6, none⟩ (.slice p2 (L + (n - 6) + 1) cp2)).heap[s]? = some (parser c0 c1 c2 c3 c4 et dv') ∧ Below base w (w4.setCell ⟨s, 6, none⟩ (.slice p2 (L + (n - 6) + 1) cp2)) := by
  subst hv
  have hne := ownBlock_ne ho hx.1
  refine ⟨.slice p2 (L + (n - 6) + 1) cp2, ?_, ?_, hx.2.setCell hbs _⟩
  · have := ownsRow_setCell_other ho (a := ⟨s, 6, none⟩) hne (.slice p2 (L + (n - 6) + 1) cp2)
    rw [show L + vs.length + 1 = L + (n - 6) + 1 by omega]
    simpa using this
  · rw [heap_setCell_same w4 s 6 _ 33 _ hx.1]
    rfl
theorem ones_u8 (vs : List Int) : ∀ u ∈ vs.map (Value.int .u8), u.oneCell' = true := by
  intro u hu
  obtain ⟨x, _, rfl⟩ := List.mem_map.1 hu
  rfl
theorem news_data {w0 w : World} {base s g n L : Nat} {vs ds : List Int} {o : Obj} {dv : Value} {ad : Addr} (hl : vs.length + 6 = n) (hln : (dataLine vs).length = n) (ha : ∀ j, j < n - 6 → ad.add j = ⟨g, 6 + j, none⟩) (h : FieldSt w0 w base s g (dataLine vs) o dv L ds) :
    ∀ j u, (vs.map (Value.int .u8))[j]? = some u → w.cell? (ad.add j) = some u := by
  intro j u hu
  have hj : j < vs.length := by
    have := (List.getElem?_eq_some_iff.1 hu).1
    simpa using this
  rw [ha j (by omega), h.cells (6 + j) (by omega)]
  rw [List.getElem?_map, List.getElem?_eq_getElem hj] at hu
  simp at hu
  subst hu
  rw [Nat.add_comm 6 j]
  simp [dataLine, List.getElem?_eq_getElem hj]

set_option maxHeartbeats 1000000 in
theorem field_data (s g n : Nat) (vs ds : List Int) (c0 c1 c2 c3 c4 et dv : Value) (base L : Nat) (M : Int) (w : World) (hn : n ≤ 2097152) (hL : L ≤ 2097152) (hl : vs.length + 6 = n) (hb : ∀ x ∈ vs, 0 ≤ x ∧ x < 256)
    (hm : w.cell? ⟨0, 0, none⟩ = some (.int .i64 M)) (hbs : base ≤ s) (h : FieldSt w w base s g (dataLine vs) (parser c0 c1 c2 c3 c4 et dv) dv L ds) :
    Calls Try.prog 10 #[.pointer (some ⟨s, 0, none⟩), .slice (some ⟨g, 0, none⟩) n n] w fun e w' => e = .returned (.tuple #[]) ∧
      ∃ dv', w'.ownsRow base 5 1 dv' (L + vs.length + 1) ((ds ++ vs ++ [10]).map (Value.int .u8)) ∧ w'.heap[s]? = some (parser c0 c1 c2 c3 c4 et dv') ∧ Below base w w' := by
  have kc := fun (w : World) (C : Array Value) (n c : Nat) => Lib.run_convert_bytes_const (P := Try.prog) w 28 5 C n c Try.underlying28 Try.underlying5
  obtain ⟨i0, hi, hz0, hz1, hz2⟩ := info_parts info5
  have hln : (dataLine vs).length = n := by simp [dataLine]; omega
  have HM : Hid (w.cell? ⟨0, 0, none⟩ = some (.int .i64 M)) := hm
  have HF : Hid (FieldSt w w base s g (dataLine vs) (parser c0 c1 c2 c3 c4 et dv) dv L ds) := h
  have HL : Hid (vs.length + 6 = n) := hl
  have HLN : Hid ((dataLine vs).length = n) := hln
  clear h hm hl hln
  go_enter Try.func10, Try.ntmps10
  go_wp2_with fail
  refine (cut_data g n w.heap.size 1 vs M (w.alloc (.cells #[.int .u8 58] 5 (1, 2))) hn HL.out hb (fun i hi => (HF.out.alloc _).cells i (by rw [HLN.out]; exact hi)) (by rw [World.cell?_alloc_mark]; rfl) (Lib.cell?_alloc_marked _ HM.out)).mono ?_
  rintro e w1 ⟨rfl, q, hq⟩
  have HF1 : Hid (FieldSt w w1 base s g (dataLine vs) (parser c0 c1 c2 c3 c4 et dv) dv L ds) := by
    show FieldSt w w1 base s g (dataLine vs) (parser c0 c1 c2 c3 c4 et dv) dv L ds
    rw [hq]
    exact (HF.out.alloc _).drewN q
  clear hq HF HM
  go_wp2_with fail
  refine (trim_data g n w1.heap.size 1 vs (w1.alloc (.cells #[.int .u8 32] 5 (1, 2))) HL.out (fun i hi => (HF1.out.alloc _).cells i (by rw [HLN.out]; exact hi)) (by rw [World.cell?_alloc_mark]; rfl)).mono ?_
  rintro e w2 ⟨⟨ad, rfl, had⟩, hq⟩
  have HF2 : Hid (FieldSt w w2 base s g (dataLine vs) (parser c0 c1 c2 c3 c4 et dv) dv L ds) := by
    show FieldSt w w2 base s g (dataLine vs) (parser c0 c1 c2 c3 c4 et dv) dv L ds
    rw [hq]
    exact HF1.out.alloc _
  have HA : Hid (∀ j, j < n - 6 → ad.add j = ⟨g, 6 + j, none⟩) := had
  clear hq HF1 had
  have hcv := conv_name g n vs w2 HL.out (fun i hi => HF2.out.cells i (by rw [HLN.out]; exact hi))
  have hdc : w2.cell? ⟨s, 6, none⟩ = some dv := (cell_of_row w2 s 6 _ 33 (0, 0) HF2.out.st).trans rfl
  have E1 : Hid ((vs.map (Value.int .u8)).length = (n - 6) * 1) := by
    have := HL.out
    show (vs.map (Value.int .u8)).length = (n - 6) * 1
    simp; omega
  have E2 : Hid (∀ j u, (vs.map (Value.int .u8))[j]? = some u → w2.cell? (ad.add j) = some u) := news_data HL.out HLN.out HA.out HF2.out
  have E3 : Hid (L + (n - 6) ≤ maxLen ∧ (L + (n - 6)) * 1 ≤ 140737488355328 ∧ L + (n - 6) + 1 ≤ maxLen ∧ (L + (n - 6) + 1) * 1 ≤ 140737488355328) := by
    show L + (n - 6) ≤ maxLen ∧ (L + (n - 6)) * 1 ≤ 140737488355328 ∧ L + (n - 6) + 1 ≤ maxLen ∧ (L + (n - 6) + 1) * 1 ≤ 140737488355328
    unfold maxLen; omega
  have E4 : Hid (base ≤ w2.heap.size) := Nat.le_trans HF2.out.le HF2.out.bel.size
  have HBS : Hid (base ≤ s) := hbs
  clear HA hbs hb hn hL
  go_wp2_with (first | (at_builtin; refine wpList_append_own _ rfl (.tmp 34) (.tmp 35) 28 rfl base 5 i0 (.int .u8 0) 1 1 Try.underlying28 hi hz0 hz1 hz2 rfl (by decide) dv L _ rfl HF2.out.own ad (n - 6) (n - 6) (vs.map (Value.int .u8)) rfl E1.out E2.out (ones_u8 vs) E3.out.1 E3.out.2.1 E4.out ?_; intro v1 w3 ho3 hg3 _; have HO3 : Hid (w3.ownsRow base 5 1 v1 (L + (n - 6)) (ds.map (Value.int .u8) ++ vs.map (Value.int .u8))) := ho3; have HG3 : Hid (w2.grownBy w3 dv.ownBlock) := hg3; clear ho3 hg3) | (at_builtin; refine wpList_append_own _ rfl (.tmp 36) (.tmp 37) 28 rfl base 5 i0 (.int .u8 0) 1 1 Try.underlying28 hi hz0 hz1 hz2 rfl (by decide) v1 (L + (n - 6)) _ rfl (HO3.out.alloc _) ⟨w3.heap.size, 0, none⟩ 1 1 [.int .u8 10] rfl rfl (cell_one_new _ _ _) (fun u hu => by simp at hu; subst hu; rfl) E3.out.2.2.1 E3.out.2.2.2 (by have := E4.out; have := HG3.out.size; simp; omega) ?_; intro v2 w4 ho4 hg4 _; have HS4 := store_back HF2.out HO3.out HG3.out hg4; have hc4 : w4.cell? ⟨s, 6, none⟩ = some dv := (cell_of_row w4 s 6 _ 33 (0, 0) HS4.1).trans rfl; have hf4 : w4.frozen? ⟨s, 6, none⟩ = false := frozen_of_row w4 s 6 _ 33 HS4.1; have HX4 : Hid (w4.heap[s]? = some (parser c0 c1 c2 c3 c4 et dv) ∧ Below base w w4) := HS4; have HO4 : Hid (w4.ownsRow base 5 1 v2 (L + (n - 6) + 1) (ds.map (Value.int .u8) ++ vs.map (Value.int .u8) ++ [.int .u8 10])) := ho4; obtain ⟨p2, cp2, hv2⟩ := own_shape HO4.out; rw [hv2]; have HV2 : Hid (v2 = .slice p2 (L + (n - 6) + 1) cp2) := hv2; clear HS4 ho4 hg4 hv2))
  go_end0
  exact ⟨rfl, field_end HV2.out HO4.out HX4.out HBS.out HL.out⟩
end Go.Proofs.Qxb6002908a
