/-
  SHARED BY THE PROOFS OF SEAT b6615060a: states and items in memory; contracts of newState, newItem, builtOn.
-/
import Derived.Test.Qxb6615060aRows
import Derived.WalkKit
import Derived.Handy
import Derived.RowKit3
import Derived.Laws.Pointers
import Derived.LaidEql
import Derived.Deep.QuietTactic
import Derived.BigQuiet
namespace Go.Proofs.Qxb6615060a
open Go.RowKit

/-- w' is w with new blocks of cells and draws alone. -/
structure Ext (w w' : World) : Prop where
  grown : Grown w w'
  blk : ∀ k, k < w.heap.size → w'.heap[k]? = w.heap[k]?

namespace Ext
theorem refl (w : World) : Ext w w := ⟨Grown.refl w, fun _ _ => rfl⟩
theorem size {w w' : World} (h : Ext w w') : w.heap.size ≤ w'.heap.size := h.grown.2.2
theorem alloc {w w' : World} (h : Ext w w') (c : Array Value) (t : TypeId) : Ext w (w'.alloc (.cells c t)) :=
  ⟨h.grown.alloc c t, fun k hk => by rw [Below.heap_alloc _ _ _ (by have := h.size; omega)]; exact h.blk k hk⟩
theorem drewN {w w' : World} (h : Ext w w') (n : Nat) : Ext w (w'.drewN n) := ⟨h.grown, h.blk⟩
theorem trans {a b c : World} (h : Ext a b) (k : Ext b c) : Ext a c :=
  ⟨⟨World.keptBut_trans h.grown.1 k.grown.1, fun x => (k.grown.2.1 x).trans (h.grown.2.1 x), Nat.le_trans h.size k.size⟩, fun i hi => (k.blk i (by have := h.size; omega)).trans (h.blk i hi)⟩
end Ext

/-- A STATE lies at block x. -/
def St (w : World) (x : Nat) : Prop := ∃ cs, w.heap[x]? = some (.cells cs 53 (0, 0))
/-- AN ITEM at block it: its state, the state that it was built on. -/
structure Item (w : World) (it : Nat) (st ah : Option Addr) : Prop where
  c4 : w.cell? ⟨it, 4, none⟩ = some (.pointer ah)
  c5 : w.cell? ⟨it, 5, none⟩ = some (.pointer st)

theorem St.lt {w : World} {x : Nat} (h : St w x) : x < w.heap.size := by obtain ⟨cs, h⟩ := h; exact (Array.getElem?_eq_some_iff.1 h).1
theorem St.kept {w w' : World} {x : Nat} (h : St w x) (e : Ext w w') : St w' x := by have hl := h.lt; obtain ⟨cs, h⟩ := h; exact ⟨cs, (e.blk x hl).trans h⟩
theorem Item.kept {w w' : World} {it : Nat} {st ah : Option Addr} (h : Item w it st ah) (e : Ext w w') : Item w' it st ah := by
  have hb := e.blk it (World.block_lt_of_cell? _ _ h.c4)
  exact ⟨(World.cell?_of_block (a := ⟨it, 4, none⟩) hb).trans h.c4, (World.cell?_of_block (a := ⟨it, 5, none⟩) hb).trans h.c5⟩

theorem state13 (w : World) (s : ByteArray) :
    Calls Try.prog 13 #[.string s] w fun e w' => e = .returned (.pointer (some ⟨w.heap.size, 0, none⟩)) ∧ St w' w.heap.size ∧ Ext w w' := by
  go_enter Try.func13, Try.ntmps13
  go_wp2
  go_ret
  exact ⟨rfl, ⟨_, (MapKept.heap_alloc w _).1⟩, (Ext.refl w).alloc _ _⟩

theorem item14 (w : World) (st ah : Option Addr) :
    Calls Try.prog 14 #[.pointer st, .pointer ah] w fun e w' => ∃ it, e = .returned (.pointer (some ⟨it, 0, none⟩)) ∧ Item w' it st ah ∧ Ext w w' := by
  go_enter Try.func14, Try.ntmps14
  go_wp2
  go_ret
  exact ⟨_, rfl, ⟨by simp [go_sem], by simp [go_sem]⟩, (Ext.refl w).alloc _ _⟩

/-- What 'p == q' answers, p and q pointers to states: r. -/
def Eql (w : World) (p q : Option Addr) (r : Bool) : Prop := ∀ n, (binOp .eql 39 (.pointer p) (.pointer q)).run Try.prog (w.drewN n) = .ok (.bool r) (w.drewN n)

theorem info53 : (Try.prog.info? 53).map (fun i => decide (i.size = 0)) = some false := by kernel_rfl

theorem eql_nil (w : World) (p : Option Addr) : Eql w p none p.isNone := fun n => run_eql_pointer_nil (P := Try.prog) _ 39 p (by kernel_rfl)
theorem eql_nil_some (w : World) (a : Addr) : Eql w none (some a) false := fun n => by
  have h : ∀ d : Nat, (Op.equalIn (d + 1) 39 (.pointer none) (.pointer (some a))).run Try.prog (w.drewN n) = .ok false (w.drewN n) := fun d => by simp [Op.equalIn, run_underlying Try.underlying39]
  simp only [binOp]
  simp [Op.equal, Op.maxDepth, h 9999]
theorem eql_same (w : World) (a : Addr) : Eql w (some a) (some a) true := fun n => by
  obtain ⟨i, hi, hz⟩ := Option.map_eq_some_iff.1 info53
  have h : ∀ d : Nat, (Op.equalIn (d + 1) 39 (.pointer (some a)) (.pointer (some a))).run Try.prog (w.drewN n) = .ok true (w.drewN n) := fun d => by
    simp [Op.equalIn, run_underlying Try.underlying39, sizeOf, typeInfo, hi, run_sameAddr_same]
  simp only [binOp]
  simp [Op.equal, Op.maxDepth, h 9999]
theorem eql_other (w : World) (x y : Nat) (hx : St w x) (hy : St w y) (hne : x ≠ y) : Eql w (some ⟨x, 0, none⟩) (some ⟨y, 0, none⟩) false := fun n => by
  obtain ⟨i, hi, hz⟩ := Option.map_eq_some_iff.1 info53
  have hz' : i.size ≠ 0 := by simpa using hz
  obtain ⟨ca, ha⟩ := hx
  obtain ⟨cb, hb⟩ := hy
  have hs := run_sameAddr_other (P := Try.prog) (w.drewN n) (a := ⟨x, 0, none⟩) (b := ⟨y, 0, none⟩) (by intro e; exact hne (congrArg Addr.block e)) ha hb
  have h : ∀ d : Nat, (Op.equalIn (d + 1) 39 (.pointer (some ⟨x, 0, none⟩)) (.pointer (some ⟨y, 0, none⟩))).run Try.prog (w.drewN n) = .ok false (w.drewN n) := fun d => by
    simp [Op.equalIn, run_underlying Try.underlying39, sizeOf, typeInfo, hi, hz', hs]
  simp only [binOp]
  simp [Op.equal, Op.maxDepth, h 9999]

/-! ### builtOn -/
theorem on_none (w : World) (it : Nat) (ah ahead : Option Addr) (h : Item w it none ah) :
    Calls Try.prog 15 #[.pointer (some ⟨it, 0, none⟩), .pointer ahead] w fun e w' => e = .returned (.bool false) ∧ w' = w := by
  have h5 := h.c5
  go_enter Try.func15, Try.ntmps15
  go_wp2
  go_ret
  exact ⟨rfl, rfl⟩

theorem on_tips (w : World) (it : Nat) (x : Addr) (ah : Option Addr) (h : Item w it (some x) ah) :
    Calls Try.prog 15 #[.pointer (some ⟨it, 0, none⟩), .pointer none] w fun e w' => e = .returned (.bool ah.isNone) ∧ w' = w := by
  have h5 := h.c5
  have h4 := h.c4
  go_enter Try.func15, Try.ntmps15
  go_wp2
  go_ret
  exact ⟨rfl, rfl⟩

theorem on_item18 (w : World) (it b : Nat) (x : Addr) (ah st ah' : Option Addr) (r : Bool) (h : Item w it (some x) ah) (hb : Item w b st ah') (hr : Eql w ah st r) :
    Calls Try.prog 18 #[.pointer (some ⟨it, 0, none⟩), .pointer (some ⟨b, 0, none⟩)] w fun e w' => e = .returned (.bool r) ∧ ∃ n, w' = w.drewN n := by
  have h5 := h.c5
  have h4 := h.c4
  have h6 := hb.c5
  unfold Eql at hr
  go_enter Try.func18, Try.ntmps18
  go_wp2
  go_quiet (fail)
  go_wp2
  go_ret
  exact ⟨rfl, _, rfl⟩

theorem on_item (w : World) (it b : Nat) (x : Addr) (ah st ah' : Option Addr) (r : Bool) (h : Item w it (some x) ah) (hb : Item w b st ah') (hr : Eql w ah st r) :
    Calls Try.prog 15 #[.pointer (some ⟨it, 0, none⟩), .pointer (some ⟨b, 0, none⟩)] w fun e w' => e = .returned (.bool r) ∧ Ext w w' := by
  go_enter Try.func15, Try.ntmps15
  go_wp2_with (go_at_call 18; refine (on_item18 _ it b x ah st ah' r h hb hr).mono ?_; rintro e w' ⟨rfl, n, rfl⟩)
  go_ret
  exact ⟨rfl, (Ext.refl w).drewN n⟩

end Go.Proofs.Qxb6615060a
