/-
  THE PROOF OF 'Rows.FnNoteOrderFreeKeepsGreatestVersionSaid': the shell's frame over the walk of Qxb6614774aWalk.lean.
-/
import Derived.Test.Qxb6614774aRows
import Derived.WalkKit
import Derived.ProofKit
import Derived.OpenShut
import Derived.ShutString
import Derived.ChangeOld
import Derived.Below
import Derived.Deep.SlicePairs
import Derived.Test.Qxb6614774aWalk
namespace Go.Proofs.Qxb6614774a.fnNoteOrderFreeKeepsGreatestVersion
open Go.ChangeShapes Go.WideShapes Go.ChangeAt Go.RowKit
open Go.ChangeMaps (open_string shut_string)
set_option linter.unusedVariables false

theorem own : ownKnob Try.prog.godebug = none := by kernel_rfl
theorem laidOut : laidOutB Try.prog = true := by kernel_rfl

theorem isStates_nil (w : World) : IsStates w none 0 := ⟨by omega, 0, 0, fun _ => 0, fun _ => 0, by omega, fun i hi => by omega⟩
theorem isStates_mk {w : World} {a : Addr} {len cap : Nat} (hl : len ≤ cap) (hm : cap ≤ maxLen) (V0 V1 : Nat → Value) (hc : ∀ i, i < cap → w.cell? (a.add (i * 2)) = some (V0 i) ∧ w.cell? (a.add (i * 2 + 1)) = some (V1 i))
    (h0 : ∀ i, i < cap → ∃ n, V0 i = .int .i64 n) (h1 : ∀ i, i < cap → ∃ n, V1 i = .int .i64 n) : IsStates w (some a) len := by
  unfold maxLen at hm
  obtain ⟨b, o, spot⟩ := a
  have hspot : 0 < len → spot = none := fun h => by simpa [Addr.add] using World.cell?_spot (hc 0 (by omega)).1
  refine ⟨by omega, b, o, fun i => intOf (V0 i), fun i => intOf (V1 i), fun h => by rw [hspot h], fun i hi => ?_⟩
  have hs := hspot (by omega)
  subst hs
  obtain ⟨n0, e0⟩ := h0 i (by omega)
  obtain ⟨n1, e1⟩ := h1 i (by omega)
  have c0 : w.cell? ⟨b, o + i * 2, none⟩ = some (V0 i) := by rw [← Addr.add_lit]; exact (hc i (by omega)).1
  have c1 : w.cell? ⟨b, o + i * 2 + 1, none⟩ = some (V1 i) := by rw [Nat.add_assoc, ← Addr.add_lit]; exact (hc i (by omega)).2
  refine ⟨World.block_lt_of_cell? _ _ c0, ?_, ?_⟩
  · show w.cell? _ = some (.int .i64 (intOf (V0 i)))
    rw [c0, e0]; rfl
  · show w.cell? _ = some (.int .i64 (intOf (V1 i)))
    rw [c1, e1]; rfl

/-! ### THE ROW's STEP: WRITTEN OUT: LEAVE IT -/
set_option maxRecDepth 100000 in
theorem lifted (os : Os) (started : os.Started) (H : Type) (enc : TypeId × Value → H) :
    ReturnsInHanded {} Try.checked os 3 .any (Rows.fnNoteOrderFreeKeepsGreatestVersionSpec.pre6 enc Try.prog Try.f3 Rows.fnNoteOrderFreeKeepsGreatestVersionRow.domain false) (Rows.fnNoteOrderFreeKeepsGreatestVersionSpec.post enc Try.prog Try.f3 false true false false) := by
  refine returnsInHanded_of_change (C := Try.checked) own started (by kernel_rfl) Try.func3
    (ChangeSpec.witness6 (enc := enc) (C := Try.checked) false ⟨#[], #[.string ByteArray.empty, .slice none 0 0], []⟩ 8 (by kernel_rfl) (by kernel_rfl) (by kernel_rfl) (by kernel_rfl)) ?_
  intro W base args ds gs before hval0 hW hcnd _
  have hval : ∀ (j : Nat) t v, Try.f3.params[j]? = some t → args[j]? = some v → Value.okWide Try.prog W .any base t v := hval0
  have hW' := hW
  obtain ⟨p, q, hA0, hV, rfl, hfz, hnd⟩ := hW
  have hA : DataW.TrodAll enc Try.prog W 0 (fun _ => true) true Try.f3.params.toList args.toList ds p := hA0
  rw [Try.params3] at hA hval
  obtain ⟨v0, vs0, d0, ds0, p0, q0, hargs, rfl, rfl, h0, r0⟩ := trodAll_cons hA
  obtain ⟨v1, vs1, d1, ds1, p1, q1, rfl, rfl, rfl, h1, r1⟩ := trodAll_cons r0
  obtain ⟨rfl, rfl, rfl⟩ := trodAll_nil r1
  obtain rfl : args = #[v0, v1] := by cases args; simp_all
  obtain ⟨rfl, rfl⟩ := trodVars_none hV
  obtain ⟨s, rfl, rfl, rfl, hs⟩ := open_string Try.underlying9 (hval 0 9 v0 rfl rfl) h0
  obtain ⟨a1, len1, cap1, rfl⟩ := okWide_slice Try.underlying22 (hval 1 22 v1 rfl rfl)
  have k1 := h1
  have lt1 : ∀ x ∈ p1, x.block < W.heap.size := by obtain ⟨m, hm⟩ := k1; exact DataW.trod_lt m _ _ _ hm
  have w1 : IsStates W a1 len1 := by
    obtain ⟨fuel, hf⟩ := h1
    rcases Deep.open_slice_pairs Try.underlying22 Try.underlying25 (by kernel_rfl) rfl rfl (by kernel_rfl) (by kernel_rfl) hf with ⟨hcs, _⟩ | ⟨x, l, c, m, n, V0, V1, D0, D1, P0, P1, hcs, _, hl, hm, hmm, _, hx⟩
    · simp [Value.cells] at hcs
      obtain ⟨rfl, rfl, rfl⟩ := hcs
      exact isStates_nil W
    · simp [Value.cells] at hcs
      obtain ⟨rfl, rfl, rfl⟩ := hcs
      simp only [if_true] at hmm
      subst hmm
      refine isStates_mk hl hm V0 V1 (fun i hi => ⟨(hx i hi).1, (hx i hi).2.1⟩) (fun i hi => ?_) (fun i hi => ?_)
      · obtain ⟨a, h, _⟩ := DataW.trod_int Try.underlying2 (hx i hi).2.2.1
        exact ⟨a, by simpa using h⟩
      · obtain ⟨a, h, _⟩ := DataW.trod_int Try.underlying2 (hx i hi).2.2.2
        exact ⟨a, by simpa using h⟩
  clear hA0 hval0
  refine (walk s a1 len1 cap1 W hs w1).mono fun e W' ⟨he, bel⟩ => ?_
  subst he
  exact ⟨_, rfl, _, _, _, [], _, [], hW', trodAll_mk1 (shut_bool Try.underlying4 _), (trodAll_cons_mk (shut_string Try.underlying9 hs) (trodAll_cons_mk (Below.trod laidOut (by kernel_rfl) (of_decide_eq_true (by kernel_rfl)) k1 bel lt1) trodAll_mk0)), rfl, bel.frame _, fun h => by cases h⟩

theorem over : Rows.fnNoteOrderFreeKeepsGreatestVersionRow.holds Try.pinned (OpenSpec.ofChange Rows.fnNoteOrderFreeKeepsGreatestVersionSpec) :=
  OpenClaim.holds_of_wide 3 Try.f3 rfl rfl rfl rfl rfl rfl rfl ⟨rfl, rfl, rfl, rfl, rfl⟩ rfl rfl rfl rfl rfl (by kernel_rfl) Try.func3 (by kernel_rfl)
    (of_decide_eq_true (by kernel_rfl)) (by unfold Func.isWrapper; first | (rw [if_pos (by decide +kernel)]; kernel_rfl) | (rw [if_neg (by decide +kernel)]; exact ⟨rfl, rfl⟩))
    (fun os started H enc _ => lifted os started H enc)

/-- ████ THE STATEMENT ████ -/
theorem proved : Rows.FnNoteOrderFreeKeepsGreatestVersionSaid := over
#print axioms proved
end Go.Proofs.Qxb6614774a.fnNoteOrderFreeKeepsGreatestVersion
