import Derived.Test.Qxb6600234aRows
import Derived.WalkKit
import Derived.ProofKit
import Derived.OpenShut
import Derived.ShutString
import Derived.ChangeOld
import Derived.Below
import Derived.SliceStrings
import Derived.HandedShaped
import Derived.Test.Qxb6600234aLaw
namespace Go.Proofs.Qxb6600234a.fnGlobMatchesAgreesWithWildcardDP
open Go.ChangeShapes Go.WideShapes Go.ChangeAt Go.RowKit
open Go.ChangeMaps (open_string shut_string)

theorem own : ownKnob Try.prog.godebug = none := by kernel_rfl
theorem laidOut : laidOutB Try.prog = true := by kernel_rfl

/-- The strings that came in, in the walk's words. -/
theorem came {W : World} {x : Addr} {len cap : Nat} {ss : List ByteArray} (hl : len ≤ cap) (hz : ss.length = cap) (hcell : ∀ i, i < ss.length → W.cell? (x.add i) = some (.string (ss.getD i ByteArray.empty))) :
    StrsAt W (some x) len (ss.take len) := by
  refine ⟨by simp; omega, fun hn => ?_⟩
  obtain ⟨b, o, sp⟩ := x
  obtain rfl : sp = none := by simpa [Addr.add] using World.cell?_spot (hcell 0 (by omega))
  have hc : ∀ i, i < len → W.cell? ⟨b, o + i, none⟩ = some (.string ((ss.take len).getD i ByteArray.empty)) := fun i hi => by
    rw [← Go.WideShapes.add_plain, hcell i (by omega)]
    simp [hi]
  exact ⟨b, o, rfl, World.block_lt_of_cell? W _ (hc 0 hn), hc⟩

set_option maxRecDepth 100000 in
theorem lifted (os : Os) (started : os.Started) (H : Type) (enc : TypeId × Value → H) :
    ReturnsInHanded {} Try.checked os 3 .any (Rows.fnGlobMatchesAgreesWithWildcardDPSpec.pre6 enc Try.prog Try.f3 Rows.fnGlobMatchesAgreesWithWildcardDPRow.domain false) (Rows.fnGlobMatchesAgreesWithWildcardDPSpec.post enc Try.prog Try.f3 false true false false) := by
  refine returnsInHanded_of_change_shaped (C := Try.checked) own started (by kernel_rfl) Try.func3
    (ChangeSpec.witness6 (enc := enc) (C := Try.checked) false ⟨#[], #[.slice none 0 0, .string ByteArray.empty], []⟩ 8 (by kernel_rfl) (by kernel_rfl) (by kernel_rfl) (by kernel_rfl)) ?_
  intro W base args ds gs before hval0 hW _ _ hsh _
  have hval : ∀ (j : Nat) t v, Try.f3.params[j]? = some t → args[j]? = some v → Value.okWide Try.prog W .any base t v := hval0
  have hW' := hW
  obtain ⟨p, q, hA0, hV, rfl, hfz, hnd⟩ := hW
  have hA : DataW.TrodAll enc Try.prog W 0 (fun _ => true) true Try.f3.params.toList args.toList ds p := hA0
  rw [Try.params3] at hA hval
  obtain ⟨v0, vs0, d0, ds0, p0, q0, hargs, rfl, rfl, h0, r0⟩ := trodAll_cons hA
  obtain ⟨v1, vs1, d1, ds1, p1, q1, rfl, rfl, rfl, h1, r1⟩ := trodAll_cons r0
  obtain ⟨rfl, rfl, rfl⟩ := trodAll_nil r1
  obtain rfl : args = #[v0, v1] := by cases args; simp_all
  obtain ⟨rfl, rfl⟩ := trodVars_none hV
  obtain ⟨a0, len0, cap0, rfl⟩ := okWide_slice Try.underlying22 (hval 0 22 v0 rfl rfl)
  have k0 := h0
  have lt0 : ∀ x ∈ p0, x.block < W.heap.size := by obtain ⟨m, hm⟩ := k0; exact DataW.trod_lt m _ _ _ hm
  obtain ⟨xs, hs, hn, hp⟩ : ∃ xs, StrsAt W a0 len0 xs ∧ len0 ≤ maxLen ∧ (a0 = none → len0 = 0 ∧ cap0 = 0) := by
    obtain ⟨fuel, hf⟩ := h0
    rcases open_strings Try.underlying22 Try.underlying9 (by kernel_rfl) hf with ⟨hcs, _⟩ | ⟨x, l, c, ss, hcs, _, hl, hm, hz, _, hcell, _⟩
    · simp [Value.cells] at hcs
      obtain ⟨rfl, rfl, rfl⟩ := hcs
      exact ⟨[], ⟨rfl, fun h => absurd h (by omega)⟩, by unfold maxLen; omega, fun _ => ⟨rfl, rfl⟩⟩
    · simp [Value.cells] at hcs
      obtain ⟨rfl, rfl, rfl⟩ := hcs
      exact ⟨ss.take len0, came hl (by simpa using hz) hcell, Nat.le_trans hl hm, fun h => by cases h⟩
  obtain ⟨a1, rfl, rfl, rfl, w1⟩ := open_string Try.underlying9 (hval 1 9 v1 rfl rfl) h1
  obtain ⟨M, hM⟩ : ∃ m, W.cell? ⟨0, 0, none⟩ = some (.int .i64 m) := Try.laysM143.s1_3 W hsh
  clear hA0 hval0
  refine (law a0 len0 cap0 xs a1 M W hn w1 hp hs hM).mono fun e W' ⟨he, bel⟩ => ?_
  subst he
  exact ⟨_, rfl, _, _, _, [], _, [], hW', trodAll_mk1 (shut_bool Try.underlying4 _), (trodAll_cons_mk (Below.trod laidOut (by kernel_rfl) (of_decide_eq_true (by kernel_rfl)) k0 bel lt0) (trodAll_cons_mk (shut_string Try.underlying9 w1) trodAll_mk0)), rfl, bel.frame _, fun h => by cases h⟩

theorem over : Rows.fnGlobMatchesAgreesWithWildcardDPRow.holds Try.pinned (OpenSpec.ofChange Rows.fnGlobMatchesAgreesWithWildcardDPSpec) :=
  OpenClaim.holds_of_wide 3 Try.f3 rfl rfl rfl rfl rfl rfl rfl ⟨rfl, rfl, rfl, rfl, rfl⟩ rfl rfl rfl rfl rfl (by kernel_rfl) Try.func3 (by kernel_rfl)
    (of_decide_eq_true (by kernel_rfl)) (by unfold Func.isWrapper; first | (rw [if_pos (by decide +kernel)]; kernel_rfl) | (rw [if_neg (by decide +kernel)]; exact ⟨rfl, rfl⟩))
    (fun os started H enc _ => lifted os started H enc)

theorem proved : Rows.FnGlobMatchesAgreesWithWildcardDPSaid :=
  over
end Go.Proofs.Qxb6600234a.fnGlobMatchesAgreesWithWildcardDP
