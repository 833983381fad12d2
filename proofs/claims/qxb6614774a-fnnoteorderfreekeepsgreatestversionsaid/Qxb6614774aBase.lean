/-
  SHARED BY THE PROOF OF SEAT b6614774a: the mirror's map of one key in memory; its look-up and its store; contracts of New, note, Behind, Kept.
-/
import Derived.Test.Qxb6614774aRows
import Derived.WalkKit
import Derived.Deep.OwnRows
import Derived.Below
import Derived.Handy
import Derived.Deep.LoopGhost
import Derived.Deep.Light
import Derived.Deep.DeepCutAuto
import Derived.Deep.QuietTactic
import Derived.BigQuiet
import Derived.WideMake
import Derived.ChangeMaps5
namespace Go.Proofs.Qxb6614774a
open Go.RowKit

/-- A MirrorState: user, version, mirrored; no memberships, nothing chosen. -/
def ms (s : ByteArray) (v m : Int) : Value := .agg #[.string s, .int .i64 v, .int .i64 m, .slice none 0 0, .string ByteArray.empty]

theorem zero31 (w : World) : (zeroValue 31).run Try.prog w = .ok (.agg #[.string ByteArray.empty, .int .i64 0, .int .i64 0, .slice none 0 0, .string ByteArray.empty]) w := by kernel_rfl

/-- The map's block: no entry, or the one. -/
def mob (s : ByteArray) : Option (Int × Int) → Obj
  | none => .map #[] 0
  | some (v, m) => .map #[{ key := .string s, val := ms s v m, born := 0 }] 1

theorem look_none (w : World) (mb : Nat) (s : ByteArray) (hb : w.heap[mb]? = some (mob s none)) :
    (Instr.lookup 57 (.map (some mb)) (.string s) true).run Try.prog w = .ok (.tuple #[.agg #[.string ByteArray.empty, .int .i64 0, .int .i64 0, .slice none 0 0, .string ByteArray.empty], .bool false]) w := by
  have hb' : w.heap[mb]? = some (.map #[] 0) := hb
  have hf : Instr.findNow .string (.string s) ([] : List MapEntry) 0 = some none := rfl
  have hc : (Instr.checkKey true 10000 9 (.string s)).run Try.prog w = .ok () w := MapKept.run_checkKey (k := .string s) Try.underlying9 (by simp [MapKept.IsKey]) true 9999
  simp [Instr.lookup, run_underlying Try.underlying57, MapKept.run_getObj_map hb', hc, MapKept.run_findKey Try.underlying9 hf, Result.andThen]
  rfl

theorem look_some (w : World) (mb : Nat) (s : ByteArray) (v m : Int) (hb : w.heap[mb]? = some (mob s (some (v, m)))) :
    (Instr.lookup 57 (.map (some mb)) (.string s) true).run Try.prog w = .ok (.tuple #[.agg #[.string s, .int .i64 v, .int .i64 m, .slice none 0 0, .string ByteArray.empty], .bool true]) w := by
  have hb' : w.heap[mb]? = some (.map #[{ key := .string s, val := ms s v m, born := 0 }] 1) := hb
  have hf : Instr.findNow .string (.string s) [{ key := .string s, val := ms s v m, born := 0 }] 0 = some (some (0, ms s v m)) := by
    simp [Instr.findNow, Instr.sameNow, (MapKept.bytes_beq s s).2 rfl]
  have hc : (Instr.checkKey false 10000 9 (.string s)).run Try.prog w = .ok () w := MapKept.run_checkKey (k := .string s) Try.underlying9 (by simp [MapKept.IsKey]) false 9999
  simp [Instr.lookup, run_underlying Try.underlying57, MapKept.run_getObj_map hb', hc, MapKept.run_findKey Try.underlying9 hf, Result.andThen]
  rfl

theorem put_none (w : World) (mb : Nat) (s : ByteArray) (v m : Int) (hb : w.heap[mb]? = some (mob s none)) :
    (Instr.mapUpdate 57 (.map (some mb)) (.string s) (ms s v m)).run Try.prog w = .ok () (ChangeMaps.setBlock w mb (mob s (some (v, m)))) :=
  run_mapUpdate_first w 57 9 31 mb 0 s _ Try.underlying57 Try.underlying9 hb

theorem put_some (w : World) (mb : Nat) (s : ByteArray) (v m v0 m0 : Int) (hb : w.heap[mb]? = some (mob s (some (v0, m0)))) :
    (Instr.mapUpdate 57 (.map (some mb)) (.string s) (ms s v m)).run Try.prog w = .ok () (ChangeMaps.setBlock w mb (mob s (some (v, m)))) := by
  have hb' : w.heap[mb]? = some (.map #[{ key := .string s, val := ms s v0 m0, born := 0 }] 1) := hb
  have hf : Instr.findNow .string (.string s) [{ key := .string s, val := ms s v0 m0, born := 0 }] 0 = some (some (0, ms s v0 m0)) := by
    simp [Instr.findNow, Instr.sameNow, (MapKept.bytes_beq s s).2 rfl]
  have hc : (Instr.checkKey false 10000 9 (.string s)).run Try.prog w = .ok () w := MapKept.run_checkKey (k := .string s) Try.underlying9 (by simp [MapKept.IsKey]) false 9999
  simp [Instr.mapUpdate, run_underlying Try.underlying57, MapKept.run_getObj_map hb', hc, MapKept.run_findKey Try.underlying9 hf, MapKept.run_setObj_map _ hb', Result.andThen, Instr.keyThatStays, Instr.sameBits, (MapKept.bytes_beq s s).2 rfl, ChangeMaps.setBlock, mob]

/-- THE MIRROR at block m: its field 'behind' leads to the map at block mb, which holds st. -/
structure Mi (w : World) (m mb : Nat) (s : ByteArray) (st : Option (Int × Int)) : Prop where
  cell : w.cell? ⟨m, 14, none⟩ = some (.map (some mb))
  map : w.heap[mb]? = some (mob s st)

/-- What a note of a mirror that is behind leaves. -/
def nst : Option (Int × Int) → Int → Int → Option (Int × Int)
  | none, v, m => some (v, m)
  | some (v0, m0), v, m => if v0 ≤ v then some (v, m) else some (v0, m0)

theorem new8 (w : World) (s : ByteArray) :
    Calls Try.prog 8 #[.pointer none, .pointer none, .nilIface] w fun e w' => ∃ m mb, e = .returned (.pointer (some ⟨m, 0, none⟩)) ∧ Mi w' m mb s none ∧ w.heap.size ≤ m ∧ w.heap.size ≤ mb ∧ mb ≠ m ∧ Below w.heap.size w w' := by
  have hmm := @run_makeMap Try.prog
  have hmc : ∀ w : World, (Instr.makeChan 50 (.int .i64 1)).run Try.prog w = .ok (.chan (some w.heap.size)) (w.alloc (.chan 1 #[] false 0 0 false)) := fun _ => by kernel_rfl
  go_enter Try.func8, Try.ntmps8
  go_wp2
  go_ret
  refine ⟨w.heap.size + 1 + 1 + 1 + 1, w.heap.size + 1 + 1, rfl, ⟨by simp [go_sem], ?_⟩, by omega, by omega, by omega, by go_grown⟩
  rw [Below.heap_alloc _ _ _ (by simp), Below.heap_alloc _ _ _ (by simp)]
  have := (MapKept.heap_alloc ((w.alloc (.map #[] 0)).alloc (.chan 1 #[] false 0 0 false)) (.map #[] 0)).1
  simpa [mob] using this

theorem newBare5 (w : World) (s : ByteArray) :
    Calls Try.prog 5 #[] w fun e w' => ∃ m mb, e = .returned (.pointer (some ⟨m, 0, none⟩)) ∧ Mi w' m mb s none ∧ w.heap.size ≤ m ∧ w.heap.size ≤ mb ∧ mb ≠ m ∧ Below w.heap.size w w' := by
  go_enter Try.func5, Try.ntmps5
  go_wp2_with (go_at_call 8; refine (new8 _ s).mono ?_; rintro e w' ⟨m, mb, rfl, h1, h2, h3, h4, h5⟩)
  go_ret
  exact ⟨m, mb, rfl, h1, h2, h3, h4, h5⟩

theorem behind10 (w : World) (s : ByteArray) (v m : Int) :
    Calls Try.prog 10 #[(.agg #[.string s, .int .i64 v, .int .i64 m, .slice none 0 0, .string ByteArray.empty])] w fun e w' => e = .returned (.bool (decide (m < v))) ∧ w' = w.alloc (.cells #[.string s, .int .i64 v, .int .i64 m, .slice none 0 0, .string ByteArray.empty] 31) := by
  go_enter Try.func10, Try.ntmps10
  go_wp2
  go_ret
  exact ⟨rfl, rfl⟩

namespace Mi
variable {w : World} {mi mb : Nat} {s : ByteArray} {st : Option (Int × Int)}
theorem lm (h : Mi w mi mb s st) : mi < w.heap.size := World.block_lt_of_cell? _ _ h.cell
theorem lb (h : Mi w mi mb s st) : mb < w.heap.size := (Array.getElem?_eq_some_iff.1 h.map).1
theorem ne (h : Mi w mi mb s st) : mi ≠ mb := by
  intro e
  subst e
  have h1 := h.cell
  have h2 := h.map
  cases st <;> simp [World.cell?, h2, mob] at h1
theorem kept {w' : World} {row : Option Nat} (h : Mi w mi mb s st) (hg : w.grownBy w' row) (h1 : some mi ≠ row) (h2 : some mb ≠ row) : Mi w' mi mb s st :=
  ⟨(World.cell?_of_block (a := ⟨mi, 14, none⟩) (hg.block mi h.lm h1)).trans h.cell, (hg.block mb h.lb h2).trans h.map⟩
/-- The one entry is put. -/
theorem put {w3 : World} (h : Mi w mi mb s st) (hg : w.grownBy w3 none) (v m : Int) :
    Mi (ChangeMaps.setBlock w3 mb (mob s (some (v, m)))) mi mb s (some (v, m)) ∧ w.grownBy (ChangeMaps.setBlock w3 mb (mob s (some (v, m)))) (some mb) := by
  have h3 := h.kept hg (by simp) (by simp)
  obtain ⟨es, clock, hb⟩ : ∃ es clock, w3.heap[mb]? = some (.map es clock) := by
    rw [h3.map]; cases st
    · exact ⟨_, _, rfl⟩
    · exact ⟨_, _, rfl⟩
  have hs := ChangeMaps.heap_setBlock_same hb (mob s (some (v, m)))
  refine ⟨⟨?_, hs⟩, ⟨hg.os, hg.tape, hg.output, ?_, ?_⟩⟩
  · exact (World.cell?_of_block (a := ⟨mi, 14, none⟩) (ChangeMaps.heap_setBlock_other hb _ h.ne)).trans h3.cell
  · have := hg.size; simpa [ChangeMaps.setBlock] using this
  · intro k hk hne
    rw [ChangeMaps.heap_setBlock_other hb _ (fun e => hne (by rw [e]))]
    exact hg.block k hk (by simp)
end Mi

theorem grown3 (w : World) (o1 o2 o3 : Obj) : w.grownBy (((w.alloc o1).alloc o2).alloc o3).drew.drew none :=
  ⟨rfl, rfl, rfl, by show _ ≤ (((w.alloc o1).alloc o2).alloc o3).heap.size; simp; omega, fun k hk _ => by
    show (((w.alloc o1).alloc o2).alloc o3).heap[k]? = _
    rw [Below.heap_alloc _ _ _ (by simp; omega), Below.heap_alloc _ _ _ (by simp; omega), Below.heap_alloc _ _ _ hk]⟩
theorem grown3' (w : World) (o1 o2 o3 : Obj) : w.grownBy (((w.alloc o1).alloc o2).alloc o3).drew none :=
  ⟨rfl, rfl, rfl, (grown3 w o1 o2 o3).size, (grown3 w o1 o2 o3).block⟩

theorem grown_but {w w' : World} (h : w.grownBy w' none) (row : Option Nat) : w.grownBy w' row := ⟨h.os, h.tape, h.output, h.size, fun k hk _ => h.block k hk (by simp)⟩

theorem note9_none (w : World) (mi mb : Nat) (s : ByteArray) (v m : Int) (h : Mi w mi mb s none) (hlt : m < v) :
    Calls Try.prog 9 #[.pointer (some ⟨mi, 0, none⟩), (.agg #[.string s, .int .i64 v, .int .i64 m, .slice none 0 0, .string ByteArray.empty])] w fun e w' => e = .returned (.tuple #[]) ∧ Mi w' mi mb s (some (v, m)) ∧ w.grownBy w' (some mb) := by
  have hc := h.cell
  have lm := h.lm
  have lb := h.lb
  have e1 : ∀ o1, (w.alloc o1).drew.heap[mb]? = some (mob s none) := fun o1 => (Below.heap_alloc _ _ _ lb).trans h.map
  have e2 : ∀ o1 o2, ((w.alloc o1).alloc o2).drew.heap[mb]? = some (mob s none) := fun o1 o2 => (Below.heap_alloc _ _ _ (by simp; omega)).trans (e1 o1)
  have q1 := fun o1 => look_none _ mb s (e1 o1)
  have q2 := fun o1 o2 => look_none _ mb s (e2 o1 o2)
  have q3 := fun o1 o2 o3 => put_none _ mb s v m ((h.kept (grown3 w o1 o2 o3) (by simp) (by simp)).map)
  have c3 : ∀ o1 o2 o3, (((w.alloc o1).alloc o2).alloc o3).cell? ⟨mi, 14, none⟩ = some (.map (some mb)) := fun o1 o2 o3 => (h.kept (grown3 w o1 o2 o3) (by simp) (by simp)).cell
  unfold ms at q3
  clear e1 e2
  go_enter Try.func9, Try.ntmps9
  go_wp2
  go_region
  clear q1 q2
  go_wp2_with (go_at_call 10; refine (behind10 _ s v m).mono ?_; rintro e w' ⟨rfl, rfl⟩)
  go_region
  go_wp2
  go_returns
  exact ⟨rfl, h.put (grown3 _ _ _ _) v m⟩

theorem note9_put (w : World) (mi mb : Nat) (s : ByteArray) (v m v0 m0 : Int) (h : Mi w mi mb s (some (v0, m0))) (hlt : m < v) (hge : v0 ≤ v) :
    Calls Try.prog 9 #[.pointer (some ⟨mi, 0, none⟩), (.agg #[.string s, .int .i64 v, .int .i64 m, .slice none 0 0, .string ByteArray.empty])] w fun e w' => e = .returned (.tuple #[]) ∧ Mi w' mi mb s (some (v, m)) ∧ w.grownBy w' (some mb) := by
  have hc := h.cell
  have lm := h.lm
  have lb := h.lb
  have e1 : ∀ o1, (w.alloc o1).drew.heap[mb]? = some (mob s (some (v0, m0))) := fun o1 => (Below.heap_alloc _ _ _ lb).trans h.map
  have e2 : ∀ o1 o2, ((w.alloc o1).alloc o2).drew.heap[mb]? = some (mob s (some (v0, m0))) := fun o1 o2 => (Below.heap_alloc _ _ _ (by simp; omega)).trans (e1 o1)
  have q1 := fun o1 => look_some _ mb s v0 m0 (e1 o1)
  have q2 := fun o1 o2 => look_some _ mb s v0 m0 (e2 o1 o2)
  have q3 := fun o1 o2 o3 => put_some _ mb s v m v0 m0 ((h.kept (grown3 w o1 o2 o3) (by simp) (by simp)).map)
  have c3 : ∀ o1 o2 o3, (((w.alloc o1).alloc o2).alloc o3).cell? ⟨mi, 14, none⟩ = some (.map (some mb)) := fun o1 o2 o3 => (h.kept (grown3 w o1 o2 o3) (by simp) (by simp)).cell
  unfold ms at q3
  clear e1 e2
  go_enter Try.func9, Try.ntmps9
  go_wp2
  go_region
  clear q1 q2
  go_wp2_with (go_at_call 10; refine (behind10 _ s v m).mono ?_; rintro e w' ⟨rfl, rfl⟩)
  go_region
  go_wp2
  go_returns
  exact ⟨rfl, h.put (grown3 _ _ _ _) v m⟩

theorem note9_stay (w : World) (mi mb : Nat) (s : ByteArray) (v m v0 m0 : Int) (h : Mi w mi mb s (some (v0, m0))) (hlt : m < v) (hge : ¬ v0 ≤ v) :
    Calls Try.prog 9 #[.pointer (some ⟨mi, 0, none⟩), (.agg #[.string s, .int .i64 v, .int .i64 m, .slice none 0 0, .string ByteArray.empty])] w fun e w' => e = .returned (.tuple #[]) ∧ Mi w' mi mb s (some (v0, m0)) ∧ w.grownBy w' (some mb) := by
  have hc := h.cell
  have lm := h.lm
  have lb := h.lb
  have e1 : ∀ o1, (w.alloc o1).drew.heap[mb]? = some (mob s (some (v0, m0))) := fun o1 => (Below.heap_alloc _ _ _ lb).trans h.map
  have e2 : ∀ o1 o2, ((w.alloc o1).alloc o2).drew.heap[mb]? = some (mob s (some (v0, m0))) := fun o1 o2 => (Below.heap_alloc _ _ _ (by simp; omega)).trans (e1 o1)
  have q1 := fun o1 => look_some _ mb s v0 m0 (e1 o1)
  have q2 := fun o1 o2 => look_some _ mb s v0 m0 (e2 o1 o2)
  clear e1 e2
  go_enter Try.func9, Try.ntmps9
  go_wp2
  go_region
  clear q1 q2
  go_wp2_with (go_at_call 10; refine (behind10 _ s v m).mono ?_; rintro e w' ⟨rfl, rfl⟩)
  go_returns
  exact ⟨rfl, h.kept (grown3' _ _ _ _) (by simp) (by simp), grown_but (grown3' _ _ _ _) _⟩

/-- NOTE, whatever is known. -/
theorem note9 (w : World) (mi mb : Nat) (s : ByteArray) (v m : Int) (st : Option (Int × Int)) (h : Mi w mi mb s st) (hlt : m < v) :
    Calls Try.prog 9 #[.pointer (some ⟨mi, 0, none⟩), (.agg #[.string s, .int .i64 v, .int .i64 m, .slice none 0 0, .string ByteArray.empty])] w fun e w' => e = .returned (.tuple #[]) ∧ Mi w' mi mb s (nst st v m) ∧ w.grownBy w' (some mb) := by
  match st, h with
  | none, h => exact note9_none w mi mb s v m h hlt
  | some (v0, m0), h =>
    by_cases hge : v0 ≤ v
    · rw [show nst (some (v0, m0)) v m = some (v, m) from by simp [nst, hge]]; exact note9_put w mi mb s v m v0 m0 h hlt hge
    · rw [show nst (some (v0, m0)) v m = some (v0, m0) from by simp [nst, hge]]; exact note9_stay w mi mb s v m v0 m0 h hlt hge

theorem note6 (w : World) (mi mb : Nat) (s : ByteArray) (v m : Int) (st : Option (Int × Int)) (h : Mi w mi mb s st) (hlt : m < v) :
    Calls Try.prog 6 #[.pointer (some ⟨mi, 0, none⟩), (.agg #[.string s, .int .i64 v, .int .i64 m, .slice none 0 0, .string ByteArray.empty])] w fun e w' => e = .returned (.tuple #[]) ∧ Mi w' mi mb s (nst st v m) ∧ w.grownBy w' (some mb) := by
  have hg : ∀ o, w.grownBy (w.alloc o) none := fun o => World.grownBy_alloc w o none
  have h1 := fun o => h.kept (hg o) (by simp) (by simp)
  go_enter Try.func6, Try.ntmps6
  go_wp2_with (go_at_call 9; refine (note9 _ mi mb s v m st (h1 _) hlt).mono ?_; rintro e w' ⟨rfl, hm, hgr⟩)
  go_returns
  refine ⟨rfl, hm, ⟨hgr.os, hgr.tape, hgr.output, ?_, fun k hk hne => ?_⟩⟩
  · have := hgr.size; simp at this; omega
  · rw [hgr.block k (by simp; omega) hne]
    exact (hg _).block k hk (by simp)

theorem grown2 (w : World) (o1 o2 : Obj) : w.grownBy ((w.alloc o1).alloc o2) none :=
  ⟨rfl, rfl, rfl, by simp; omega, fun k hk _ => by rw [Below.heap_alloc _ _ _ (by simp; omega), Below.heap_alloc _ _ _ hk]⟩

theorem kept7_some (w : World) (mi mb : Nat) (s : ByteArray) (v m : Int) (h : Mi w mi mb s (some (v, m))) :
    Calls Try.prog 7 #[.pointer (some ⟨mi, 0, none⟩), .string s] w fun e w' => e = .returned (.tuple #[(.agg #[.string s, .int .i64 v, .int .i64 m, .slice none 0 0, .string ByteArray.empty]), .bool true]) ∧ w.grownBy w' none := by
  have hc := h.cell
  have lm := h.lm
  have lb := h.lb
  have q1 := fun o1 => look_some (w.alloc o1) mb s v m (h.kept (World.grownBy_alloc w o1 none) (by simp) (by simp)).map
  go_enter Try.func7, Try.ntmps7
  go_wp2
  refine bodyPost_ret (v := .tuple #[(.agg #[.string s, .int .i64 v, .int .i64 m, .slice none 0 0, .string ByteArray.empty]), .bool true]) (by simp [results, Try.results7, go_sem]) rfl ⟨rfl, grown2 _ _ _⟩

theorem kept7_none (w : World) (mi mb : Nat) (s : ByteArray) (h : Mi w mi mb s none) :
    Calls Try.prog 7 #[.pointer (some ⟨mi, 0, none⟩), .string s] w fun e w' => e = .returned (.tuple #[.agg #[.string ByteArray.empty, .int .i64 0, .int .i64 0, .slice none 0 0, .string ByteArray.empty], .bool false]) ∧ w.grownBy w' none := by
  have hc := h.cell
  have lm := h.lm
  have lb := h.lb
  have q1 := fun o1 => look_none (w.alloc o1) mb s (h.kept (World.grownBy_alloc w o1 none) (by simp) (by simp)).map
  go_enter Try.func7, Try.ntmps7
  go_wp2
  refine bodyPost_ret (v := .tuple #[.agg #[.string ByteArray.empty, .int .i64 0, .int .i64 0, .slice none 0 0, .string ByteArray.empty], .bool false]) (by simp [results, Try.results7, go_sem]) rfl ⟨rfl, grown2 _ _ _⟩

end Go.Proofs.Qxb6614774a
