/-
  THE PROOF OF 'Rows.FnAlignLandsOnLeastMultipleAndStaysCardSaid': the row's step over the walk of Qxb6615664aDoorWalk.lean (after the guide's worked Mapy and Uvarint), then the tied card by the builder's one call.
-/
import Derived.Test.Qxb6615664aDoorRows
import Derived.Test.Qxb6615664aDoorTie
import Derived.Test.Qxb6615664aDoorCards
import Derived.Test.Qxb6615664aDoorWalk
import Derived.ProofKit
import Derived.OpenShut
import Derived.LaidMore
import Derived.Stop.Joined
import Derived.Stop.LaidErr
import Derived.WalkSmall
import Derived.SevenTiedAt
namespace Go.Proofs.Qxb6615664aDoor.fnAlign
open Go.ChangeShapes Go.WideShapes Go.ChangeAt Go.RowKit

theorem own : ownKnob Tryd.prog.godebug = none := by kernel_rfl
theorem laidOut : laidOutB Tryd.prog = true := by kernel_rfl

/-- The listed variable's name, as the row bears it. -/
def nE : String := Rows.fnAlignLandsOnLeastMultipleAndStaysSpec.vars.headD ""
/-- What the row lists. -/
def laid1 : List (String × DataW Unit) := Rows.fnAlignLandsOnLeastMultipleAndStaysRow.laid
theorem gE : Tryd.prog.globalNamed nE = some 2 := by kernel_rfl
theorem tE : (Tryd.prog.globals[2]?).map (·.type) = some 38 := by kernel_rfl

/-- The door's own heap meets the condition: three closed facts. -/
theorem door_met (os : Os) (args : Array Value) : laidMetH Tryd.prog laid1 ((World.doorLaid Tryd.prog 28 os).forCall (fun _ _ => 0) ⟨#[], args, []⟩).memory :=
  laidMetH_of_parts3 (fuel := 8) (laidMet_of_run' 8 (by kernel_rfl) (by kernel_rfl)) (by kernel_rfl) (by kernel_rfl)

theorem not_nil {P : Program} {W : World} {H : Type} {enc : TypeId × Value → H} {base fuel : Nat} {spare : Nat → Bool} {t : TypeId} {ms : Array (String × TypeId)} {nm : String} {d : DataW H} {p : List MemPlace} (hi : P.underlying t = some (.interface ms))
    (h : DataW.trod enc P W base spare false fuel t [.nilIface] = some (.iface nm d, p)) : False := by
  cases fuel with
  | zero => simp [DataW.trod] at h
  | succ n => simp [DataW.trod, hi] at h

/-- WHAT THE CONDITION GIVES THE WALK: the variable is not nil. -/
theorem of_laid {W : World} {v : Value} (h : laidMetH Tryd.prog laid1 W) (hv : W.var? Tryd.prog nE = some #[v]) (hi : IsIface v) : ∃ ti x, v = .iface ti x := by
  rw [MakeChecks.laidMetH_plain _ _ _ (by kernel_rfl)] at h
  obtain ⟨ps, ⟨g0, t0, cs0, f0, p0, q0, hg0, ht0, hv0, hd0, _, _⟩, _, _⟩ := h
  obtain rfl := Option.some.inj (gE.symm.trans hg0)
  obtain rfl := Option.some.inj (tE.symm.trans ht0)
  obtain rfl := Option.some.inj (hv.symm.trans hv0)
  cases v with
  | iface ti x => exact ⟨ti, x, rfl⟩
  | nilIface => exact (not_nil Tryd.underlying38 hd0).elim
  | _ => exact hi.elim

set_option maxRecDepth 100000 in
theorem lifted (os : Os) (started : os.Started) (H : Type) (enc : TypeId × Value → H) :
    ReturnsInHanded {} Tryd.checked os 3 .any (fun w args => (Rows.fnAlignLandsOnLeastMultipleAndStaysSpec.pre enc Tryd.prog Tryd.f3 [] false w args ∧ laidMetH Tryd.prog laid1 w) ∧ sizedMet enc Tryd.prog Tryd.f3 (OpenSpec.ofChange Rows.fnAlignLandsOnLeastMultipleAndStaysSpec) false w args)
      (Rows.fnAlignLandsOnLeastMultipleAndStaysSpec.post enc Tryd.prog Tryd.f3 false true false false) := by
  refine returnsInHanded_of_change_and (C := Tryd.checked) (X := fun w _ => laidMetH Tryd.prog laid1 w) (fun _ _ _ hh h => h.of_heap hh) own started (by kernel_rfl) Tryd.func3
    (ChangeSpec.witness_shaped (enc := enc) (C := Tryd.checked) (os := os) (X := fun w _ => laidMetH Tryd.prog laid1 w) false (World.doorLaid Tryd.prog 28 os) #[.slice none 0 0, .bool false, .int .i64 0, .int .i64 0, .int .i64 0] 8 rfl (World.shaped_of_RefB (by kernel_rfl) (by kernel_rfl)) (by kernel_rfl) (by kernel_rfl) (by kernel_rfl) (door_met os _)) ?_
  intro W base args ds gs before hval0 hW _ _ hL _
  have hval : ∀ (j : Nat) t v, Tryd.f3.params[j]? = some t → args[j]? = some v → Value.okWide Tryd.prog W .any base t v := hval0
  have hW' := hW
  obtain ⟨p, q, hA0, hV0, rfl, hfz, hnd⟩ := hW
  have hA : DataW.TrodAll enc Tryd.prog W 0 (fun _ => true) true Tryd.f3.params.toList args.toList ds p := hA0
  have hV : DataW.TrodVars enc Tryd.prog W (fun _ => true) [nE] gs q := hV0
  rw [Tryd.params3] at hA hval
  obtain ⟨v0, vs0, d0, ds0, p0, q0, hargs, rfl, rfl, h0, r0⟩ := trodAll_cons hA
  obtain ⟨v1, vs1, d1, ds1, p1, q1, rfl, rfl, rfl, h1, r1⟩ := trodAll_cons r0
  obtain ⟨v2, vs2, d2, ds2, p2, q2, rfl, rfl, rfl, h2, r2⟩ := trodAll_cons r1
  obtain ⟨v3, vs3, d3, ds3, p3, q3, rfl, rfl, rfl, h3, r3⟩ := trodAll_cons r2
  obtain ⟨v4, vs4, d4, ds4, p4, q4, rfl, rfl, rfl, h4, r4⟩ := trodAll_cons r3
  obtain ⟨rfl, rfl, rfl⟩ := trodAll_nil r4
  obtain rfl : args = #[v0, v1, v2, v3, v4] := by cases args; simp_all
  obtain ⟨g0, t0, cs0, f0, e0, pg, rfl, hg0, ht0, hv0, hd0, rfl⟩ := trodVars_one hV
  obtain rfl := Option.some.inj (gE.symm.trans hg0)
  obtain rfl := Option.some.inj (tE.symm.trans ht0)
  obtain ⟨o0, rfl, ho0, rfl, rfl, hc0⟩ := token_of hg0 Tryd.underlying38 hv0 hd0
  obtain ⟨be, rfl, rfl, rfl⟩ := open_bool Tryd.underlying4 (hval 1 4 v1 rfl rfl) h1
  obtain ⟨x2, rfl, rfl, rfl, w2⟩ := open_int Tryd.underlying3 (hval 2 3 v2 rfl rfl) h2
  obtain ⟨x3, rfl, rfl, rfl, w3⟩ := open_int Tryd.underlying3 (hval 3 3 v3 rfl rfl) h3
  obtain ⟨x4, rfl, rfl, rfl, w4⟩ := open_int Tryd.underlying3 (hval 4 3 v4 rfl rfl) h4
  obtain ⟨a0, len0, cap0, rfl⟩ := okWide_slice Tryd.underlying22 (hval 0 22 v0 rfl rfl)
  have k0 := h0
  have lt0 : ∀ x ∈ p0, x.block < W.heap.size := by obtain ⟨m, hm⟩ := k0; exact DataW.trod_lt m _ _ _ hm
  obtain ⟨zs, hz⟩ : ∃ zs, IsRow W a0 len0 cap0 zs := by
    obtain ⟨fuel, hf⟩ := h0
    rcases open_ints Tryd.underlying22 Tryd.underlying5 (by kernel_rfl) hf with ⟨hcs, _⟩ | ⟨x, l, c, zs, hcs, _, hl, hm, hz, _, hcell, hwz⟩
    · simp [Value.cells] at hcs
      obtain ⟨rfl, rfl, rfl⟩ := hcs
      exact ⟨[], .inl ⟨rfl, rfl, rfl, rfl⟩⟩
    · simp [Value.cells] at hcs
      obtain ⟨rfl, rfl, rfl⟩ := hcs
      exact ⟨zs, .inr ⟨_, rfl, hl, hm, by simpa using hz, hcell⟩⟩
  obtain ⟨ti, x, rfl⟩ := of_laid hL hv0 ho0
  have l2 : 2 < W.heap.size := World.block_lt_of_cell? _ _ hc0
  clear hA0 hV0 hval0
  refine (walk a0 len0 cap0 zs be x2 x3 x4 ti x W hz hc0).mono fun e W' ⟨he, bel⟩ => ?_
  subst he
  refine ⟨_, rfl, _, _, _, [], _, [.cell 2 0], hW', trodAll_mk1 (shut_bool Tryd.underlying4 _), (trodAll_cons_mk (Below.trod laidOut (by kernel_rfl) (of_decide_eq_true (by kernel_rfl)) k0 bel lt0) (trodAll_cons_mk (shut_bool Tryd.underlying4 _) (trodAll_cons_mk (shut_int Tryd.underlying3 w2) (trodAll_cons_mk (shut_int Tryd.underlying3 w3) (trodAll_cons_mk (shut_int Tryd.underlying3 w4) trodAll_mk0))))), ?_, bel.frame _, fun h => by cases h⟩
  exact vars_read1 enc gE tE Tryd.underlying38 (var?_below bel gE l2 hv0) ho0 _

/-- THE ROW's STATEMENT. -/
theorem row_holds : Rows.FnAlignLandsOnLeastMultipleAndStaysSaid :=
  OpenClaim.holds_of_wide 3 Tryd.f3 rfl rfl rfl rfl rfl rfl rfl ⟨rfl, rfl, rfl, rfl, rfl⟩ rfl rfl rfl rfl rfl (by kernel_rfl) Tryd.func3 (by kernel_rfl)
    (of_decide_eq_true (by kernel_rfl)) (by unfold Func.isWrapper; first | (rw [if_pos (by decide +kernel)]; kernel_rfl) | (rw [if_neg (by decide +kernel)]; exact ⟨rfl, rfl⟩))
    (fun os started H enc _ => lifted os started H enc)

/-- ████ THE STATEMENT: THE TIED CARD ████ -/
theorem proved : Rows.FnAlignLandsOnLeastMultipleAndStaysCardSaid :=
  Claim7.holds_tied_plain_at .later [] [.sentinel] true Rows.fnAlignLandsOnLeastMultipleAndStaysCard.stood.harness false
    row_holds (fun _ h => by cases h) (by kernel_rfl) (fun _ h => by cases h) fnAlignLandsOnLeastMultipleAndStays_row_tie rfl ⟨rfl, rfl⟩ (by kernel_rfl) rfl
    (fun f fn hf hfn => by
      obtain rfl : f = 3 := Option.some.inj ((show Tryd.prog.funcNamed Rows.fnAlignLandsOnLeastMultipleAndStaysRow.func = some 3 by kernel_rfl).symm.trans hf) |>.symm
      obtain rfl : fn = Tryd.f3 := (Option.some.inj (Tryd.func3.symm.trans hfn)).symm
      exact ⟨by kernel_rfl, fun j t ht => by
        rw [Tryd.params3] at ht
        have hm : t ∈ [22, 4, 3, 3, 3] := by simpa using Array.mem_of_getElem? ht
        have hall : ([22, 4, 3, 3, 3].all fun u => !Tryd.prog.wantsStandIn u) = true := by kernel_rfl
        exact (show Tryd.prog.wantsStandIn t = false by simpa using List.all_eq_true.1 hall t hm)⟩)
    (by kernel_rfl)
#print axioms proved
end Go.Proofs.Qxb6615664aDoor.fnAlign
