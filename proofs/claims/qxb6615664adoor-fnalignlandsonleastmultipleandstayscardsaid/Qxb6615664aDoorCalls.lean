/-
  CONTRACTS OF THE DECODER's FUNCTIONS.
-/
import Derived.Test.Qxb6615664aDoorRows
import Derived.Test.Qxb6615664aDoorPlain
import Derived.WalkKit
import Derived.WalkLawsBesides
import Derived.Handy
import Derived.Below
import Derived.Deep.OwnRows
import Derived.Laws.CopyOwn
import Derived.WalkSpells
namespace Go.Proofs.Qxb6615664aDoor
open Go.RowKit

/-- The four fields of a decoder: buf, order, pos, depth. -/
def decF (bv ov : Value) (p dp : Int) : Nat → Value := fun i => if i = 0 then bv else if i = 1 then ov else if i = 2 then .int .i64 p else .int .i64 dp
/-- A DECODER at block d. -/
def Dec (w : World) (d : Nat) (bv ov : Value) (p dp : Int) : Prop := w.rowIs d 36 4 (decF bv ov p dp)

theorem dec_made (w : World) (bv ov : Value) (p dp : Int) : Dec (w.alloc (.cells #[bv, ov, .int .i64 p, .int .i64 dp] 36)) w.heap.size bv ov p dp :=
  World.rowIs_alloc w #[bv, ov, .int .i64 p, .int .i64 dp] 36 (decF bv ov p dp) (by
    intro i hi
    have hi' : i < 4 := by simpa using hi
    match i, hi' with
    | 0, _ => rfl
    | 1, _ => rfl
    | 2, _ => rfl
    | 3, _ => rfl)

theorem new5 (w : World) (a : Option Addr) (len cap : Nat) (be : Bool) (p dp : Int) :
    Calls Tryd.prog 5 #[.slice a len cap, .bool be, .int .i64 p, .int .i64 dp] w fun e w' => ∃ d ov, e = .returned (.pointer (some ⟨d, 0, none⟩)) ∧ Dec w' d (.slice a len cap) ov p dp ∧ w.heap.size ≤ d ∧ Below w.heap.size w w' := by
  cases be
  · go_enter Tryd.func5, Tryd.ntmps5
    go_wp2
    go_ret
    exact ⟨_, _, rfl, dec_made w _ _ p dp, Nat.le_refl _, by go_grown⟩
  · go_enter Tryd.func5, Tryd.ntmps5
    go_wp2
    go_ret
    exact ⟨_, _, rfl, dec_made w _ _ p dp, Nat.le_refl _, by go_grown⟩

theorem pos8 (w : World) (d : Nat) (bv ov : Value) (p dp : Int) (h : Dec w d bv ov p dp) :
    Calls Tryd.prog 8 #[.pointer (some ⟨d, 0, none⟩)] w fun e w' => e = .returned (.int .i64 p) ∧ w' = w := by
  have c : w.cell? ⟨d, 2, none⟩ = some (.int .i64 p) := World.rowIs.cell h (i := 2) (by omega)
  clear h
  go_enter Tryd.func8, Tryd.ntmps8
  go_wp2
  go_ret
  exact ⟨rfl, rfl⟩
theorem depth9 (w : World) (d : Nat) (bv ov : Value) (p dp : Int) (h : Dec w d bv ov p dp) :
    Calls Tryd.prog 9 #[.pointer (some ⟨d, 0, none⟩)] w fun e w' => e = .returned (.int .i64 dp) ∧ w' = w := by
  have c : w.cell? ⟨d, 3, none⟩ = some (.int .i64 dp) := World.rowIs.cell h (i := 3) (by omega)
  clear h
  go_enter Tryd.func9, Tryd.ntmps9
  go_wp2
  go_ret
  exact ⟨rfl, rfl⟩

/-! ### align: it fits, or it does not -/
theorem align7_fits (w : World) (d : Nat) (a : Option Addr) (len cap : Nat) (ov : Value) (p n : Nat) (dp : Int) (h : Dec w d (.slice a len cap) ov (p : Int) dp) (hn : 1 ≤ n) (hn2 : n ≤ 1073741824) (hp : p ≤ 1048576) (hb : n &&& (n - 1) = 0) (hc : ceil p n ≤ len) :
    Calls Tryd.prog 7 #[.pointer (some ⟨d, 0, none⟩), .int .i64 (n : Int)] w fun e w' => e = .returned (.bool false) ∧ Dec w' d (.slice a len cap) ov (ceil p n : Int) dp ∧ ∀ B, B ≤ d → Below B w w' := by
  have c0 : w.cell? ⟨d, 0, none⟩ = some (.slice a len cap) := World.rowIs.cell h (i := 0) (by omega)
  have c2 : w.cell? ⟨d, 2, none⟩ = some (.int .i64 (p : Int)) := World.rowIs.cell h (i := 2) (by omega)
  have f2 : w.frozen? ⟨d, 2, none⟩ = false := World.rowIs.frozen h 2
  have hA := align_bits p n hn hn2 (by omega) hb
  have hfin : Dec (w.setCell ⟨d, 2, none⟩ (.int .i64 (ceil p n : Int))) d (.slice a len cap) ov (ceil p n : Int) dp := by
    refine World.rowIs.congr (World.rowIs.set h 2 _) fun i hi => ?_
    unfold decF
    by_cases e : i = 2
    · simp [e]
    · simp [e]
  clear h
  go_enter Tryd.func7, Tryd.ntmps7
  go_wp2
  go_ret
  exact ⟨rfl, hfin, fun B hB => (Below.refl _ _).setCell hB _⟩

theorem align7_fails (w : World) (d : Nat) (a : Option Addr) (len cap : Nat) (ov : Value) (p n : Nat) (dp : Int) (ti : TypeId) (x : Value) (he : w.cell? ⟨2, 0, none⟩ = some (.iface ti x)) (h : Dec w d (.slice a len cap) ov (p : Int) dp) (hn : 1 ≤ n) (hn2 : n ≤ 1073741824) (hp : p ≤ 1048576) (hb : n &&& (n - 1) = 0) (hc : ¬ ceil p n ≤ len) :
    Calls Tryd.prog 7 #[.pointer (some ⟨d, 0, none⟩), .int .i64 (n : Int)] w fun e w' => e = .returned (.bool true) ∧ w' = w := by
  have c0 : w.cell? ⟨d, 0, none⟩ = some (.slice a len cap) := World.rowIs.cell h (i := 0) (by omega)
  have c2 : w.cell? ⟨d, 2, none⟩ = some (.int .i64 (p : Int)) := World.rowIs.cell h (i := 2) (by omega)
  have hA := align_bits p n hn hn2 (by omega) hb
  clear h
  go_enter Tryd.func7, Tryd.ntmps7
  go_wp2
  go_ret
  exact ⟨rfl, rfl⟩

/-! ### ceil -/
theorem ceil10 (w : World) (p n : Nat) (hn : 1 ≤ n) (hn2 : n ≤ 1073741824) (hp : p ≤ 1048576) :
    Calls Tryd.prog 10 #[.int .i64 (p : Int), .int .i64 (n : Int)] w fun e w' => e = .returned (.int .i64 (ceil p n : Int)) ∧ w' = w := by
  have b1 : (p : Int) / (n : Int) * (n : Int) ≤ (p : Int) := by exact_mod_cast Nat.div_mul_le_self p n
  have b0 : 0 ≤ (p : Int) / (n : Int) * (n : Int) := by exact_mod_cast Nat.zero_le (p / n * n)
  have b2 : (p : Int) / (n : Int) ≤ (p : Int) := by exact_mod_cast Nat.div_le_self p n
  have b3 : 0 ≤ (p : Int) / (n : Int) := by exact_mod_cast Nat.zero_le (p / n)
  rcases ceil_cases p n hn with ⟨e1, e2⟩ | ⟨e1, e2⟩
  · have e1' : (p : Int) / (n : Int) * (n : Int) = (p : Int) := by exact_mod_cast e1
    rw [e2]
    go_enter Tryd.func10, Tryd.ntmps10
    go_wp2
    go_ret
    exact ⟨rfl, rfl⟩
  · have e1' : (p : Int) / (n : Int) * (n : Int) < (p : Int) := by exact_mod_cast e1
    have e2' : (ceil p n : Int) = (p : Int) / (n : Int) * (n : Int) + (n : Int) := by rw [e2]; push_cast; rfl
    rw [e2']
    go_enter Tryd.func10, Tryd.ntmps10
    go_wp2
    go_ret
    exact ⟨rfl, rfl⟩

/-! ### clone -/
theorem Tryd.info5 : (Tryd.prog.info? 5).map (fun i => (i.zero, i.size, i.bytes)) = some (some (.int .u8 0), 1, 1) := by kernel_rfl
theorem Tryd.size5 : (Tryd.prog.info? 5).map (·.size) = some 1 := by kernel_rfl

theorem clone6_nil (w : World) : Calls Tryd.prog 6 #[.slice none 0 0] w fun e w' => e = .returned (.slice none 0 0) ∧ w' = w := by
  have hq := Lib.run_eql_slice_nil (P := Tryd.prog) w 22 5 none 0 0 0 0 Tryd.underlying22
  go_enter Tryd.func6, Tryd.ntmps6
  go_wp2
  go_ret
  exact ⟨rfl, rfl⟩

theorem clone6_some (w : World) (x : Addr) (len cap : Nat) (zs : List Int) (hl : len ≤ 1048576) (hz : len ≤ zs.length) (hc : ∀ i, i < zs.length → w.cell? (x.add i) = some (.int .u8 (zs.getD i 0))) :
    Calls Tryd.prog 6 #[.slice (some x) len cap] w fun e w' => e = .returned (.slice (some ⟨w.heap.size, 0, none⟩) len len) ∧ Below w.heap.size w w' := by
  have hq := Lib.run_eql_slice_nil (P := Tryd.prog) w 22 5 (some x) len cap 0 0 Tryd.underlying22
  have hmk := run_make_row' (P := Tryd.prog) 22 5 (.int .u8 0) 1 Tryd.underlying22 Tryd.info5 rfl .i64 .i64 len (by omega) (by omega)
  have hnew : (w.alloc (.cells (madeCells #[.int .u8 0] len) 5)).heap[w.heap.size]? = some (.cells (madeCells #[.int .u8 0] len) 5 (0, 0)) := (MapKept.heap_alloc w _).1
  obtain ⟨w2, hcp, hB⟩ : ∃ w2, (∀ ty, (Builtin.copy_ #[22, 22] ty #[.slice (some ⟨w.heap.size, 0, none⟩) len len, .slice (some x) len cap]).run Tryd.prog (w.alloc (.cells (madeCells #[.int .u8 0] len) 5)) = .ok (goInt len) w2) ∧ Below w.heap.size w w2 := by
    have hsrc : ∀ j v, ((zs.take len).map (Value.int .u8))[j]? = some v → (w.alloc (.cells (madeCells #[.int .u8 0] len) 5)).cell? (x.add j) = some v := by
      intro j v hj
      have hj' : j < len := by
        have := (List.getElem?_eq_some_iff.1 hj).1
        simp at this; omega
      have e : v = .int .u8 (zs.getD j 0) := by
        have h2 : ((zs.take len).map (Value.int .u8))[j]? = some (.int .u8 (zs.getD j 0)) := by
          simp [hj', List.getD, show j < zs.length by omega]
        rw [h2] at hj
        exact (Option.some.inj hj).symm
      rw [e]
      have hcj := hc j (by omega)
      rw [World.cell?_alloc_old _ _ _ (by have := World.block_lt_of_cell? _ _ hcj; omega)]
      exact hcj
    have el : ((zs.take len).map (Value.int .u8)).length = len := by simp; omega
    have hr := fun ty => run_copy_row (P := Tryd.prog) (w.alloc (.cells (madeCells #[.int .u8 0] len) 5)) 22 22 ty 5 w.heap.size 0 len len x len cap (madeCells #[.int .u8 0] len) 5 ((zs.take len).map (Value.int .u8)) Tryd.underlying22 Tryd.size5 hnew
      (by rw [el]; simp) hsrc (by rw [el]; simp [size_madeCells]) (ints_oneCell .u8 _)
    simp only [el] at hr
    exact ⟨_, hr, below_setRow ((Below.refl _ _).alloc (Nat.le_refl _) _) (Nat.le_refl _) _⟩
  go_enter Tryd.func6, Tryd.ntmps6
  go_wp2
  go_ret
  exact ⟨rfl, hB⟩

end Go.Proofs.Qxb6615664aDoor
