import Derived.Test.Qxb6600234aMatch
namespace Go.Proofs.Qxb6600234a
open Go.RowKit

theorem info3 : (Try.prog.info? 3).map (fun i => (i.zero, i.size, i.bytes)) = some (some (.int .i64 0), 1, 8) := by kernel_rfl

def numsB (s : ByteArray) : List Int := numsL s.data.toList
def tk (xs : List ByteArray) : List Int := toks (xs.map (fun x => x.data.toList))
theorem numsB_length (s : ByteArray) : (numsB s).length = s.size := by simp [numsB, numsL]
theorem numsB_step (s : ByteArray) (j : Nat) (h : j < s.size) : (numsB s).take (j + 1) = (numsB s).take j ++ [(s[j].toNat : Int)] := by
  have hl : j < s.data.toList.length := by simpa using h
  rw [List.take_succ_eq_append_getElem (by rw [numsB_length]; exact h)]
  congr 1
  simp only [numsB, numsL, List.getElem_map]
  rfl
theorem numsB_full (s : ByteArray) : (numsB s).take s.size = numsB s := List.take_of_length_le (by rw [numsB_length]; exact Nat.le_refl _)
theorem wrap_byte (c : UInt8) : wrap64 (c.toNat : Int) = c.toNat := by
  have := c.toNat_lt
  exact IntWalk.wrap64_in _ (by omega)
theorem tk_append (xs : List ByteArray) (s : ByteArray) : tk (xs ++ [s]) = tk xs ++ ((if xs.length = 0 then [] else [-1]) ++ numsB s) := by
  unfold tk numsB
  cases xs with
  | nil => simp [toks]
  | cons x r => simp [toks]
theorem take_step (xs : List ByteArray) (k : Nat) (h : k < xs.length) : xs.take (k + 1) = xs.take k ++ [xs.getD k ByteArray.empty] := by
  rw [List.take_succ_eq_append_getElem h]
  simp [List.getD_eq_getElem?_getD, List.getElem?_eq_getElem h]
theorem tk_zero (xs : List ByteArray) (s : ByteArray) (h : 0 < xs.length) (hs : s = xs.getD 0 ByteArray.empty) : tk (xs.take (0 + 1)) = tk (xs.take 0) ++ numsB s := by
  rw [take_step xs 0 h, tk_append, ← hs]
  simp
theorem tk_succ (xs : List ByteArray) (k : Nat) (s : ByteArray) (h : k < xs.length) (hk : 0 < k) (hs : s = xs.getD k ByteArray.empty) : tk (xs.take (k + 1)) = tk (xs.take k) ++ [-1] ++ numsB s := by
  rw [take_step xs k h, tk_append, ← hs, if_neg (by rw [List.length_take]; omega)]
  simp
theorem tk_len (xs : List ByteArray) : (tk xs).length ≤ szs xs + xs.length := by
  unfold tk szs
  cases xs with
  | nil => simp [toks]
  | cons x r =>
    have h : (r.map (fun x => x.data.toList)).flatMap (fun q => -1 :: numsL q) = r.flatMap (fun x => -1 :: numsB x) := by
      rw [List.flatMap_map]; rfl
    simp only [List.map_cons, toks, h, List.length_append, List.sum_cons, List.length_cons]
    have h2 : (numsL x.data.toList).length = x.size := numsB_length x
    have h3 : ∀ l : List ByteArray, (l.flatMap (fun x => -1 :: numsB x)).length ≤ (l.map (fun s => s.size)).sum + l.length := by
      intro l
      induction l with
      | nil => simp
      | cons a l ih =>
        simp only [List.flatMap_cons, List.length_append, List.length_cons, numsB_length, List.map_cons, List.sum_cons]
        omega
    have h4 := h3 r
    omega
theorem tk_take_len (xs : List ByteArray) (k : Nat) : (tk (xs.take k)).length ≤ szs xs + k := by
  have h1 := tk_len (xs.take k)
  have h2 := szs_take xs k
  have h3 := List.length_take_le k xs
  omega
theorem own_shape {w : World} {base e size n : Nat} {v : Value} {xs : List Value} (h : w.ownsRow base e size v n xs) : ∃ p c, v = .slice p n c := by
  rcases h.2 with ⟨rfl, rfl⟩ | ⟨g, cap, cur, rfl, _⟩
  · exact ⟨none, 0, rfl⟩
  · exact ⟨_, _, rfl⟩
/-- A row of ints grown by one. -/
theorem own_one {w : World} {base L : Nat} {v : Value} {ts : List Int} {x : Int} (h : w.ownsRow base 3 1 v (L + 1) (ts.map (Value.int .i64) ++ [.int .i64 x])) : w.ownsRow base 3 1 v (L + 1) ((ts ++ [x]).map (Value.int .i64)) := by
  rw [List.map_append]; exact h
theorem one_i64 {x : Int} : ∀ u ∈ [Value.int .i64 x], u.oneCell' = true := by
  intro u hu
  simp at hu; subst hu; rfl

theorem own_at_one {w : World} {base L cp : Nat} {v : Value} {p : Option Addr} {ts : List Int} {x : Int} (hv : v = .slice p (L + 1) cp) (h : w.ownsRow base 3 1 v (L + 1) (ts.map (Value.int .i64) ++ [.int .i64 x])) : w.ownsRow base 3 1 (.slice p (L + 1) cp) (L + 1) ((ts ++ [x]).map (Value.int .i64)) := by
  subst hv; exact own_one h
theorem tk_zero' (xs : List ByteArray) (m : Nat) (s : ByteArray) (h : m < xs.length) (hm : ¬ 0 < m) (hs : s = xs.getD m ByteArray.empty) : tk (xs.take (m + 1)) = tk (xs.take m) ++ numsB s := by
  have : m = 0 := by omega
  subst this
  exact tk_zero xs s h hs

set_option maxHeartbeats 2000000 in
theorem tokens14 (q : Option Addr) (n : Nat) (xs : List ByteArray) (w : World) (h1 : 1 ≤ n) (hn : n ≤ 4096) (hz : szs xs ≤ 4096) (hr : StrsAt w q n xs) :
    Calls Try.prog 14 #[.slice q n n] w fun e w' => ∃ p c, e = .returned (.slice p (tk xs).length c) ∧ w'.ownsRow w.heap.size 3 1 (.slice p (tk xs).length c) (tk xs).length ((tk xs).map (Value.int .i64)) ∧ Below w.heap.size w w' := by
  have HR : Hid (StrsAt w q n xs) := hr
  have HX : Hid (xs.length = n) := hr.len
  have HZ : Hid (szs xs ≤ 4096) := hz
  obtain ⟨i0, hi, hz0, hz1, hz2⟩ := info_parts info3
  clear hr hz
  go_enter Try.func14, Try.ntmps14
  go_wp2
  go_loop [3, 4] (fun z i => ∃ (k : Nat) (t : Int), k ≤ n ∧ 0 ≤ t ∧ t ≤ 8192 ∧ z = .int .i64 t ∧ i = .int .i64 k ∧ Hid (t = (n : Int) - 1 + szs (xs.take k))) (fun _ i => n - (intOf i).toNat)
  case atStart => exact ⟨0, (n : Int) - 1, by omega, by omega, by omega, by go_num, rfl, by show (n : Int) - 1 = (n : Int) - 1 + ((szs [] : Nat) : Int); simp [szs]⟩
  case round =>
    obtain ⟨k, t, hk, ht0, ht1, rfl, rfl, HT⟩ := hrel
    by_cases hlt : k < n
    · obtain ⟨b, o, hq, _, hc⟩ := HR.out.at' (by omega)
      obtain ⟨sk, hsk⟩ : ∃ sk, sk = xs.getD k ByteArray.empty := ⟨_, rfl⟩
      have hck : w.cell? ⟨b, o + k, none⟩ = some (.string sk) := by rw [hsk]; exact hc k hlt
      have HS : Hid (t + sk.size = (n : Int) - 1 + szs (xs.take (k + 1))) := by
        have h := szs_take_step xs k (by rw [HX.out]; exact hlt)
        have h2 := HT.out
        rw [← hsk] at h
        show t + sk.size = (n : Int) - 1 + szs (xs.take (k + 1))
        omega
      have hb : t + (sk.size : Int) ≤ 8192 := by
        have h := HS.out
        have h2 := szs_take xs (k + 1)
        have h3 := HZ.out
        omega
      clear hc hsk HT
      subst hq
      go_wp2
      go_round
      case rel => exact ⟨k + 1, _, by omega, by omega, hb, rfl, by go_num, HS.out⟩
      case measure => simp [intOf]; omega
    · obtain ⟨N, hN⟩ : ∃ N : Nat, t = N := ⟨t.toNat, by omega⟩
      have e : k = n := by omega
      subst e
      subst hN
      clear HT hlt hk
      have bm1 : i0.bytes * N ≤ 281474976710656 := by rw [hz2]; omega
      have bm2 : N ≤ maxLen := by unfold maxLen; omega
      go_wp2_with (at_make; refine wpList_make_own _ rfl _ _ 30 rfl w.heap.size 3 i0 (.int .i64 0) 1 Try.underlying30 hi hz0 hz1 .i64 .i64 _ N rfl rfl rfl bm1 bm2 (Nat.le_refl _) ?_; intro w2 ho2 hg2; have HO2 : Hid (w2.ownsRow w.heap.size 3 1 (.slice (some ⟨w.heap.size, 0, none⟩) 0 N) 0 []) := ho2; have HB2 : Hid (Below w.heap.size w w2) := (Below.refl _ w).grown hg2 (Nat.le_refl _) (fun k h => by cases h); clear ho2 hg2)
      clear bm1 bm2
      go_loopw [5, 6] (fun tv i wr => ∃ (m L : Nat) (pd : Option Addr) (cp : Nat), m ≤ k ∧ tv = .slice pd L cp ∧ i = .int .i64 m ∧ L ≤ 8192 ∧ Hid (L = (tk (xs.take m)).length) ∧
          Hid (wr.ownsRow w.heap.size 3 1 (.slice pd L cp) L ((tk (xs.take m)).map (Value.int .i64))) ∧ Hid (Below w.heap.size w wr))
        (fun _ i _ => k - (intOf i).toNat)
      case atStart => exact ⟨0, 0, _, _, by omega, rfl, rfl, by omega, rfl, HO2, HB2⟩
      case round =>
        clear HO2 HB2
        obtain ⟨m, L, pd, cp, hmk, rfl, rfl, hLb, HL, HOr, HBr⟩ := hrel
        by_cases hlt : m < k
        · obtain ⟨b, o, hq, hbw, hc⟩ := HR.out.at' (by omega)
          obtain ⟨sk, hsk⟩ : ∃ sk, sk = xs.getD m ByteArray.empty := ⟨_, rfl⟩
          have hck : wr.cell? ⟨b, o + m, none⟩ = some (.string sk) := by rw [hsk]; exact (HBr.out.cell (p := ⟨b, o + m, none⟩) hbw).trans (hc m hlt)
          have HSK : Hid (sk = xs.getD m ByteArray.empty) := hsk
          have HMX : Hid (m < xs.length) := by
            show m < xs.length
            rw [HX.out]; exact hlt
          have HBE : Hid (szs xs + k ≤ 8192) := by
            have h := HZ.out
            show szs xs + k ≤ 8192
            omega
          have HSZ : Hid (szs (xs.take m) + sk.size ≤ szs xs) := by
            have h := szs_take_step xs m HMX.out
            have h2 := szs_take xs (m + 1)
            rw [← hsk] at h
            show szs (xs.take m) + sk.size ≤ szs xs
            omega
          have hsb : sk.size ≤ 4096 := by
            have h := HSZ.out
            have h2 := HZ.out
            omega
          have hbW : b < w.heap.size := hbw
          clear hc hsk hbw
          subst hq
          by_cases hm0 : 0 < m
          · have E3 : Hid (L + 1 ≤ maxLen ∧ (L + 1) * 8 ≤ 140737488355328) := by
              show L + 1 ≤ maxLen ∧ (L + 1) * 8 ≤ 140737488355328
              unfold maxLen; omega
            have E4 : Hid (w.heap.size ≤ wr.heap.size) := HBr.out.size
            go_wp2_with (at_builtin; refine wpList_append_own _ rfl (.tmp 37) (.tmp 38) 30 rfl w.heap.size 3 i0 (.int .i64 0) 1 8 Try.underlying30 hi hz0 hz1 hz2 rfl (by decide) _ L _ rfl (HOr.out.alloc _) ⟨wr.heap.size, 0, none⟩ 1 1 [.int .i64 (-1)] rfl rfl (cell_one_new _ _ _) one_i64 E3.out.1 E3.out.2 (by have := E4.out; simp; omega) ?_; intro v2 w4 ho4 hg4 _; have HBm : Hid (Below w.heap.size w w4) := (HBr.out.alloc E4.out _).grown hg4 (by have := E4.out; simp; omega) (fun k hk => (HOr.out.lt k hk).1); have HO4 : Hid (w4.ownsRow w.heap.size 3 1 v2 (L + 1) ((tk (xs.take m)).map (Value.int .i64) ++ [.int .i64 (-1)])) := ho4; obtain ⟨p2, cp2, hv2⟩ := own_shape HO4.out; rw [hv2]; have HOm : Hid (w4.ownsRow w.heap.size 3 1 (.slice p2 (L + 1) cp2) (L + 1) ((tk (xs.take m) ++ [-1]).map (Value.int .i64))) := own_at_one hv2 HO4.out; have hck4 : w4.cell? ⟨b, o + m, none⟩ = some (.string sk) := (HBm.out.cell (p := ⟨b, o + m, none⟩) hbW).trans ((HBr.out.cell (p := ⟨b, o + m, none⟩) hbW).symm.trans hck); clear ho4 hg4 hv2 HO4)
            have HLm : Hid (L + 1 = (tk (xs.take m) ++ [-1]).length) := by
              show L + 1 = (tk (xs.take m) ++ [-1]).length
              rw [List.length_append, ← HL.out]; rfl
            clear HOr HBr E3 E4 HL
            go_wp2
            go_loopw [5, 8] (fun tv jj wr => ∃ (j L1 : Nat) (pd1 : Option Addr) (cp1 : Nat), j ≤ sk.size ∧ tv = .slice pd1 L1 cp1 ∧ jj = .int .i64 j ∧ L1 ≤ 16384 ∧ Hid (L1 = ((tk (xs.take m) ++ [-1]) ++ (numsB sk).take j).length) ∧
                Hid (wr.ownsRow w.heap.size 3 1 (.slice pd1 L1 cp1) L1 (((tk (xs.take m) ++ [-1]) ++ (numsB sk).take j).map (Value.int .i64))) ∧ Hid (Below w.heap.size w wr))
              (fun _ jj _ => sk.size - (intOf jj).toNat)
            case atStart => exact ⟨0, (L + 1), _, _, by omega, rfl, rfl, by omega, by rw [List.take_zero, List.append_nil]; exact HLm.out, by show World.ownsRow _ _ _ _ _ _ _; rw [List.take_zero, List.append_nil]; exact HOm.out, HBm⟩
            case round =>
              clear HOm HBm
              obtain ⟨j, L1, pd1, cp1, hj, rfl, rfl, hL1, HL1, HO1, HB1⟩ := hrel
              by_cases hjl : j < sk.size
              · have E3 : Hid (L1 + 1 ≤ maxLen ∧ (L1 + 1) * 8 ≤ 140737488355328) := by
                  show L1 + 1 ≤ maxLen ∧ (L1 + 1) * 8 ≤ 140737488355328
                  unfold maxLen; omega
                have E4 : Hid (w.heap.size ≤ wr.heap.size) := HB1.out.size
                go_wp2_with (at_builtin; refine wpList_append_own _ rfl (.tmp 50) (.tmp 55) 30 rfl w.heap.size 3 i0 (.int .i64 0) 1 8 Try.underlying30 hi hz0 hz1 hz2 rfl (by decide) _ L1 _ rfl (HO1.out.alloc _) ⟨wr.heap.size, 0, none⟩ 1 1 [.int .i64 (wrap64 (sk[j].toNat : Int))] rfl rfl (cell_one_new _ _ _) one_i64 E3.out.1 E3.out.2 (by have := E4.out; simp; omega) ?_; intro v2 w4 ho4 hg4 _; have HB4 : Hid (Below w.heap.size w w4) := (HB1.out.alloc E4.out _).grown hg4 (by have := E4.out; simp; omega) (fun k hk => (HO1.out.lt k hk).1); have HO4 : Hid (w4.ownsRow w.heap.size 3 1 v2 (L1 + 1) (((tk (xs.take m) ++ [-1]) ++ (numsB sk).take j).map (Value.int .i64) ++ [.int .i64 (wrap64 (sk[j].toNat : Int))])) := ho4; obtain ⟨p2, cp2, hv2⟩ := own_shape HO4.out; rw [hv2]; have HV2 : Hid (v2 = .slice p2 (L1 + 1) cp2) := hv2; clear ho4 hg4 hv2)
                have HO5 : Hid (w4.ownsRow w.heap.size 3 1 (.slice p2 (L1 + 1) cp2) (L1 + 1) (((tk (xs.take m) ++ [-1]) ++ (numsB sk).take (j + 1)).map (Value.int .i64))) := by
                  have h := own_one HO4.out
                  rw [HV2.out, wrap_byte] at h
                  rw [numsB_step sk j hjl, ← List.append_assoc]
                  exact h
                have HL5 : Hid (L1 + 1 = ((tk (xs.take m) ++ [-1]) ++ (numsB sk).take (j + 1)).length) := by
                  show L1 + 1 = ((tk (xs.take m) ++ [-1]) ++ (numsB sk).take (j + 1)).length
                  rw [numsB_step sk j hjl, ← List.append_assoc, List.length_append, ← HL1.out]
                  rfl
                have hL5 : L1 + 1 ≤ 16384 := by
                  have h := HL5.out
                  have h2 := HLm.out
                  rw [List.length_append, List.length_take, numsB_length, ← h2] at h
                  omega
                clear HO4 HV2 HO1 HB1
                go_wp2
                go_roundw
                case rel => exact ⟨j + 1, L1 + 1, p2, cp2, by omega, rfl, by go_num, hL5, HL5, HO5, HB4⟩
                case measure => simp [intOf]; omega
              · have e : j = sk.size := by omega
                subst e
                have HE : Hid (tk (xs.take (m + 1)) = (tk (xs.take m) ++ [-1]) ++ (numsB sk).take sk.size) := by
                  show tk (xs.take (m + 1)) = (tk (xs.take m) ++ [-1]) ++ (numsB sk).take sk.size
                  rw [numsB_full]
                  exact (tk_succ xs m sk HMX.out hm0 HSK.out)
                have HL6 : Hid (L1 = (tk (xs.take (m + 1))).length) := by
                  show L1 = (tk (xs.take (m + 1))).length
                  rw [HE.out]; exact HL1.out
                have hL6 : L1 ≤ 8192 := by
                  have h := HL6.out
                  have h2 := tk_take_len xs (m + 1)
                  have h3 := HBE.out
                  omega
                have HO6 : Hid (wr.ownsRow w.heap.size 3 1 (.slice pd1 L1 cp1) L1 ((tk (xs.take (m + 1))).map (Value.int .i64))) := by
                  show World.ownsRow _ _ _ _ _ _ _
                  rw [HE.out]; exact HO1.out
                clear HL1 HO1 HE
                go_wp2
                go_roundw
                case rel => exact ⟨m + 1, L1, pd1, cp1, by omega, rfl, by go_num, hL6, HL6, HO6, HB1⟩
                case measure => simp [intOf]; omega
          · go_wp2
            go_loopw [5, 8] (fun tv jj wr => ∃ (j L1 : Nat) (pd1 : Option Addr) (cp1 : Nat), j ≤ sk.size ∧ tv = .slice pd1 L1 cp1 ∧ jj = .int .i64 j ∧ L1 ≤ 16384 ∧ Hid (L1 = (tk (xs.take m) ++ (numsB sk).take j).length) ∧
                Hid (wr.ownsRow w.heap.size 3 1 (.slice pd1 L1 cp1) L1 ((tk (xs.take m) ++ (numsB sk).take j).map (Value.int .i64))) ∧ Hid (Below w.heap.size w wr))
              (fun _ jj _ => sk.size - (intOf jj).toNat)
            case atStart => exact ⟨0, L, _, _, by omega, rfl, rfl, by omega, by rw [List.take_zero, List.append_nil]; exact HL.out, by show World.ownsRow _ _ _ _ _ _ _; rw [List.take_zero, List.append_nil]; exact HOr.out, HBr⟩
            case round =>
              clear HOr HBr
              obtain ⟨j, L1, pd1, cp1, hj, rfl, rfl, hL1, HL1, HO1, HB1⟩ := hrel
              by_cases hjl : j < sk.size
              · have E3 : Hid (L1 + 1 ≤ maxLen ∧ (L1 + 1) * 8 ≤ 140737488355328) := by
                  show L1 + 1 ≤ maxLen ∧ (L1 + 1) * 8 ≤ 140737488355328
                  unfold maxLen; omega
                have E4 : Hid (w.heap.size ≤ wr.heap.size) := HB1.out.size
                go_wp2_with (at_builtin; refine wpList_append_own _ rfl (.tmp 50) (.tmp 55) 30 rfl w.heap.size 3 i0 (.int .i64 0) 1 8 Try.underlying30 hi hz0 hz1 hz2 rfl (by decide) _ L1 _ rfl (HO1.out.alloc _) ⟨wr.heap.size, 0, none⟩ 1 1 [.int .i64 (wrap64 (sk[j].toNat : Int))] rfl rfl (cell_one_new _ _ _) one_i64 E3.out.1 E3.out.2 (by have := E4.out; simp; omega) ?_; intro v2 w4 ho4 hg4 _; have HB4 : Hid (Below w.heap.size w w4) := (HB1.out.alloc E4.out _).grown hg4 (by have := E4.out; simp; omega) (fun k hk => (HO1.out.lt k hk).1); have HO4 : Hid (w4.ownsRow w.heap.size 3 1 v2 (L1 + 1) ((tk (xs.take m) ++ (numsB sk).take j).map (Value.int .i64) ++ [.int .i64 (wrap64 (sk[j].toNat : Int))])) := ho4; obtain ⟨p2, cp2, hv2⟩ := own_shape HO4.out; rw [hv2]; have HV2 : Hid (v2 = .slice p2 (L1 + 1) cp2) := hv2; clear ho4 hg4 hv2)
                have HO5 : Hid (w4.ownsRow w.heap.size 3 1 (.slice p2 (L1 + 1) cp2) (L1 + 1) ((tk (xs.take m) ++ (numsB sk).take (j + 1)).map (Value.int .i64))) := by
                  have h := own_one HO4.out
                  rw [HV2.out, wrap_byte] at h
                  rw [numsB_step sk j hjl, ← List.append_assoc]
                  exact h
                have HL5 : Hid (L1 + 1 = (tk (xs.take m) ++ (numsB sk).take (j + 1)).length) := by
                  show L1 + 1 = (tk (xs.take m) ++ (numsB sk).take (j + 1)).length
                  rw [numsB_step sk j hjl, ← List.append_assoc, List.length_append, ← HL1.out]
                  rfl
                have hL5 : L1 + 1 ≤ 16384 := by
                  have h := HL5.out
                  have h2 := HL.out
                  rw [List.length_append, List.length_take, numsB_length, ← h2] at h
                  omega
                clear HO4 HV2 HO1 HB1
                go_wp2
                go_roundw
                case rel => exact ⟨j + 1, L1 + 1, p2, cp2, by omega, rfl, by go_num, hL5, HL5, HO5, HB4⟩
                case measure => simp [intOf]; omega
              · have e : j = sk.size := by omega
                subst e
                have HE : Hid (tk (xs.take (m + 1)) = tk (xs.take m) ++ (numsB sk).take sk.size) := by
                  show tk (xs.take (m + 1)) = tk (xs.take m) ++ (numsB sk).take sk.size
                  rw [numsB_full]
                  exact (tk_zero' xs m sk HMX.out hm0 HSK.out)
                have HL6 : Hid (L1 = (tk (xs.take (m + 1))).length) := by
                  show L1 = (tk (xs.take (m + 1))).length
                  rw [HE.out]; exact HL1.out
                have hL6 : L1 ≤ 8192 := by
                  have h := HL6.out
                  have h2 := tk_take_len xs (m + 1)
                  have h3 := HBE.out
                  omega
                have HO6 : Hid (wr.ownsRow w.heap.size 3 1 (.slice pd1 L1 cp1) L1 ((tk (xs.take (m + 1))).map (Value.int .i64))) := by
                  show World.ownsRow _ _ _ _ _ _ _
                  rw [HE.out]; exact HO1.out
                clear HL1 HO1 HE
                go_wp2
                go_roundw
                case rel => exact ⟨m + 1, L1, pd1, cp1, by omega, rfl, by go_num, hL6, HL6, HO6, HB1⟩
                case measure => simp [intOf]; omega
        · have e : m = k := by omega
          subst e
          have HE : Hid (tk (xs.take m) = tk xs) := by
            have hx := HX.out
            show tk (xs.take m) = tk xs
            rw [List.take_of_length_le (by omega)]
          have HL7 : Hid (L = (tk xs).length) := by
            show L = (tk xs).length
            rw [← HE.out]; exact HL.out
          have HO7 : Hid (wr.ownsRow w.heap.size 3 1 (.slice pd L cp) L ((tk xs).map (Value.int .i64))) := by
            show World.ownsRow _ _ _ _ _ _ _
            rw [← HE.out]; exact HOr.out
          clear HL HOr HE
          go_wp2
          go_ret
          exact ⟨pd, cp, by rw [← HL7.out]; rfl, by rw [← HL7.out]; exact HO7.out, HBr.out⟩
end Go.Proofs.Qxb6600234a
