/-
  SHARED BY THE PROOFS OF SEAT b6614740a: a frame word ('Only': what has turned lies in these blocks alone), the size's count, small closed facts.
-/
import Derived.Test.Qxb6614740aRows
import Derived.WalkKit
import Derived.Deep.OwnRows
import Derived.Below
import Derived.Handy
import Derived.Deep.LoopGhost
import Derived.Deep.Light
import Derived.Deep.DeepCutAuto
import Derived.Deep.QuietTactic
import Derived.BigQuiet
namespace Go.Proofs.Qxb6614740a
open Go.RowKit

theorem Try.info3 : (Try.prog.info? 3).map (fun i => (i.zero, i.size, i.bytes)) = some (some (.int .i64 0), 1, 8) := by kernel_rfl
theorem Try.info4 : (Try.prog.info? 4).map (fun i => (i.zero, i.size, i.bytes)) = some (some (.bool false), 1, 1) := by kernel_rfl

/-- WHAT THE WALK IS TOLD OF A SLICE OF INTEGERS THAT CAME IN (the shell's own word): it is nil; or it leads to a row of 'cap' cells, the numbers 'zs' (the first 'len' are its elements, the rest its spare room), each fitting its kind. -/
def IsRow (k : IntKind) (w : World) (a : Option Addr) (len cap : Nat) (zs : List Int) : Prop :=
  (a = none ∧ len = 0 ∧ cap = 0 ∧ zs = []) ∨
  ∃ x, a = some x ∧ len ≤ cap ∧ cap ≤ maxLen ∧ zs.length = cap ∧ (∀ i, i < zs.length → w.cell? (x.add i) = some (.int k (zs.getD i 0))) ∧ ∀ n ∈ zs, (Lit.int k n).wf = true

theorem IsRow.le {k : IntKind} {w : World} {a : Option Addr} {len cap : Nat} {zs : List Int} (h : IsRow k w a len cap zs) : len ≤ 9223372036854775807 := by
  rcases h with ⟨_, h, _, _⟩ | ⟨x, _, h1, h2, _⟩
  · omega
  · unfold maxLen at h2; omega

/-- The elements, by the index. -/
theorem IsRow.elems {k : IntKind} {w : World} {a : Option Addr} {len cap : Nat} {zs : List Int} (h : IsRow k w a len cap zs) :
    ∃ (b o : Nat) (Z : Nat → Int), (0 < len → a = some ⟨b, o, none⟩) ∧ ∀ i, i < len → b < w.heap.size ∧ w.cell? ⟨b, o + i, none⟩ = some (.int k (Z i)) := by
  rcases h with ⟨_, h, _, _⟩ | ⟨⟨b, o, spot⟩, ha, h1, h2, h3, h4, _⟩
  · exact ⟨0, 0, fun _ => 0, by omega, fun i hi => by omega⟩
  · refine ⟨b, o, fun i => zs.getD i 0, fun hl => ?_, fun i hi => ?_⟩
    · have hs : spot = none := by simpa [Addr.add] using World.cell?_spot (h4 0 (by omega))
      rw [ha, hs]
    · have hs : spot = none := by simpa [Addr.add] using World.cell?_spot (h4 0 (by omega))
      subst hs
      have h6 : w.cell? ⟨b, o + i, none⟩ = some (.int k (zs.getD i 0)) := by rw [← Addr.add_lit]; exact h4 i (by omega)
      exact ⟨World.block_lt_of_cell? _ _ h6, h6⟩

/-- WHAT HAS TURNED LIES IN THE BLOCKS 'bs' ALONE; no block was made. -/
structure Only (bs : List Nat) (w w' : World) : Prop where
  os : w'.os = w.os
  tape : w'.tape = w.tape
  output : w'.output = w.output
  size : w'.heap.size = w.heap.size
  block : ∀ k, k ∉ bs → w'.heap[k]? = w.heap[k]?

namespace Only
theorem refl (bs : List Nat) (w : World) : Only bs w w := ⟨rfl, rfl, rfl, rfl, fun _ _ => rfl⟩
theorem drew {bs : List Nat} {a w : World} (h : Only bs a w) : Only bs a w.drew := ⟨h.os, h.tape, h.output, h.size, h.block⟩
theorem drewN {bs : List Nat} {a w : World} (h : Only bs a w) (n : Nat) : Only bs a (w.drewN n) := ⟨h.os, h.tape, h.output, h.size, h.block⟩
theorem trans {bs : List Nat} {a b c : World} (h : Only bs a b) (k : Only bs b c) : Only bs a c :=
  ⟨k.os.trans h.os, k.tape.trans h.tape, k.output.trans h.output, k.size.trans h.size, fun i hi => (k.block i hi).trans (h.block i hi)⟩
theorem setCell {bs : List Nat} {a w : World} (h : Only bs a w) {p : Addr} (hp : p.block ∈ bs) (u : Value) : Only bs a (w.setCell p u) :=
  h.trans ⟨rfl, rfl, rfl, by simp [World.setCell], fun k hk => Below.heap_setCell _ _ _ _ (fun e => hk (e ▸ hp))⟩
theorem row {bs : List Nat} {w w' : World} (h : Only bs w w') {b : Nat} {t : TypeId} {n : Nat} {f : Nat → Value} (hb : b ∉ bs) (hr : w.rowIs b t n f) : w'.rowIs b t n f := hr.of_block (h.block b hb)
theorem below {bs : List Nat} {w w' : World} (h : Only bs w w') {B : Nat} (hB : ∀ b ∈ bs, B ≤ b) : Below B w w' :=
  ⟨h.os, h.tape, h.output, Nat.le_of_eq h.size.symm, fun k hk => h.block k (fun hm => by have := hB k hm; omega)⟩
end Only

theorem Below_row {B : Nat} {w w' : World} (h : Below B w w') {b : Nat} {t : TypeId} {n : Nat} {f : Nat → Value} (hb : b < B) (hr : w.rowIs b t n f) : w'.rowIs b t n f := hr.of_block (h.block b hb)

/-- One place of a table turned. -/
def upd {α : Type} (f : Nat → α) (k : Nat) (v : α) : Nat → α := fun j => if j = k then v else f j
theorem upd_at {α : Type} (f : Nat → α) (k : Nat) (v : α) : upd f k v k = v := by simp [upd]
theorem upd_ne {α : Type} (f : Nat → α) (k : Nat) (v : α) {j : Nat} (h : j ≠ k) : upd f k v j = f j := by simp [upd, h]

/-- How many of the first n are in. -/
def cnt (P : Nat → Bool) : Nat → Nat
  | 0 => 0
  | n + 1 => cnt P n + (if P n then 1 else 0)

theorem cnt_le (P : Nat → Bool) (n : Nat) : cnt P n ≤ n := by
  induction n with
  | zero => simp [cnt]
  | succ n ih => simp only [cnt]; split <;> omega

theorem cnt_lt (P : Nat → Bool) (n k : Nat) (hk : k < n) (h : P k = false) : cnt P n < n := by
  induction n with
  | zero => omega
  | succ n ih =>
    simp only [cnt]
    by_cases e : k = n
    · subst e; rw [h]; have := cnt_le P k; simp; omega
    · have := ih (by omega); split <;> omega

theorem cnt_false (n : Nat) : cnt (fun _ => false) n = 0 := by
  induction n with
  | zero => rfl
  | succ n ih => simp [cnt, ih]

theorem cnt_upd_past (P : Nat → Bool) (n k : Nat) (hk : n ≤ k) : cnt (upd P k true) n = cnt P n := by
  induction n with
  | zero => rfl
  | succ n ih => simp only [cnt]; rw [ih (by omega), upd_ne P k true (by omega)]

theorem cnt_upd_new (P : Nat → Bool) (n k : Nat) (hk : k < n) (h : P k = false) : cnt (upd P k true) n = cnt P n + 1 := by
  induction n with
  | zero => omega
  | succ n ih =>
    simp only [cnt]
    by_cases e : k = n
    · subst e; rw [cnt_upd_past P k k (Nat.le_refl _), upd_at, h]; simp
    · rw [ih (by omega), upd_ne P k true (by omega)]; omega

theorem upd_same (P : Nat → Bool) (k : Nat) (h : P k = true) : upd P k true = P := by
  funext j; unfold upd; split
  · rename_i e; rw [e, h]
  · rfl

theorem cnt_upd_old (P : Nat → Bool) (n k : Nat) (h : P k = true) : cnt (upd P k true) n = cnt P n := by rw [upd_same P k h]

end Go.Proofs.Qxb6614740a
