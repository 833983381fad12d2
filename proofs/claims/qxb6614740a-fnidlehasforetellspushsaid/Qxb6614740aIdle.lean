/-
  THE CONTRACTS OF THE IDLE QUEUE: newIdleQueue, push, has and the field readers.
-/
import Derived.Test.Qxb6614740aBase
namespace Go.Proofs.Qxb6614740a
open Go.RowKit

/-- The four fields of an idleQueue in memory: ring, front, size, queued. -/
def hdF (rb qb n sz : Nat) : Nat → Value := fun i =>
  if i = 0 then .slice (some ⟨rb, 0, none⟩) n n else if i = 1 then .int .i64 0 else if i = 2 then .int .i64 (sz : Int) else .slice (some ⟨qb, 0, none⟩) n n

/-- A QUEUE at block q, its ring at block rb, its marks at block qb; n places; sz entries; front 0. -/
structure IQ (w : World) (q rb qb n sz : Nat) (R : Nat → Int) (P : Nat → Bool) : Prop where
  hd : w.rowIs q 48 4 (hdF rb qb n sz)
  ring : w.rowIs rb 3 n (fun i => .int .i64 (R i))
  qd : w.rowIs qb 4 n (fun i => .bool (P i))
  d1 : q ≠ rb
  d2 : q ≠ qb
  d3 : rb ≠ qb

namespace IQ
variable {w : World} {q rb qb n sz : Nat} {R : Nat → Int} {P : Nat → Bool}
theorem c0 (h : IQ w q rb qb n sz R P) : w.cell? ⟨q, 0, none⟩ = some (.slice (some ⟨rb, 0, none⟩) n n) := h.hd.cell (i := 0) (by omega)
theorem c1 (h : IQ w q rb qb n sz R P) : w.cell? ⟨q, 1, none⟩ = some (.int .i64 0) := h.hd.cell (i := 1) (by omega)
theorem c2 (h : IQ w q rb qb n sz R P) : w.cell? ⟨q, 2, none⟩ = some (.int .i64 (sz : Int)) := h.hd.cell (i := 2) (by omega)
theorem c3 (h : IQ w q rb qb n sz R P) : w.cell? ⟨q, 3, none⟩ = some (.slice (some ⟨qb, 0, none⟩) n n) := h.hd.cell (i := 3) (by omega)
theorem only {w' : World} {bs : List Nat} (h : IQ w q rb qb n sz R P) (o : Only bs w w') (h1 : q ∉ bs) (h2 : rb ∉ bs) (h3 : qb ∉ bs) : IQ w' q rb qb n sz R P :=
  ⟨o.row h1 h.hd, o.row h2 h.ring, o.row h3 h.qd, h.d1, h.d2, h.d3⟩
theorem drewN (h : IQ w q rb qb n sz R P) (m : Nat) : IQ (w.drewN m) q rb qb n sz R P := ⟨h.hd, h.ring, h.qd, h.d1, h.d2, h.d3⟩
theorem alloc (h : IQ w q rb qb n sz R P) (o : Obj) : IQ (w.alloc o) q rb qb n sz R P := ⟨h.hd.alloc o, h.ring.alloc o, h.qd.alloc o, h.d1, h.d2, h.d3⟩
/-- what a push of a new key leaves. -/
theorem pushed (h : IQ w q rb qb n sz R P) (k : Nat) :
    IQ (((w.setCell ⟨rb, sz, none⟩ (.int .i64 (k : Int))).setCell ⟨q, 2, none⟩ (.int .i64 ((sz : Int) + 1))).setCell ⟨qb, k, none⟩ (.bool true)) q rb qb n (sz + 1) (upd R sz (k : Int)) (upd P k true) := by
  refine ⟨?_, ?_, ?_, h.d1, h.d2, h.d3⟩
  · refine (((h.hd.setOther (a := ⟨rb, sz, none⟩) h.d1 _).set 2 _).setOther (a := ⟨qb, k, none⟩) h.d2 _).congr fun i hi => ?_
    unfold hdF
    by_cases e : i = 2
    · subst e; simp
    · simp [e]
  · refine (((h.ring.set sz _).setOther (a := ⟨q, 2, none⟩) (Ne.symm h.d1) _).setOther (a := ⟨qb, k, none⟩) h.d3 _).congr fun i hi => ?_
    unfold upd; split <;> rfl
  · refine (((h.qd.setOther (a := ⟨rb, sz, none⟩) (Ne.symm h.d3) _).setOther (a := ⟨q, 2, none⟩) (Ne.symm h.d2) _).set k _).congr fun i hi => ?_
    unfold upd; split <;> rfl
end IQ

/-! ### has -/
theorem has33 (w : World) (q rb qb n sz k : Nat) (R : Nat → Int) (P : Nat → Bool) (h : IQ w q rb qb n sz R P) (hk : k < n) :
    Calls Try.prog 33 #[.pointer (some ⟨q, 0, none⟩), .int .i64 (k : Int)] w fun e w' => e = .returned (.bool (P k)) ∧ w' = w := by
  have h3 := h.c3
  have hq := h.qd.cell hk
  clear h
  go_enter Try.func33, Try.ntmps33
  go_wp2
  go_ret
  exact ⟨rfl, rfl⟩

theorem has17 (w : World) (q rb qb n sz k : Nat) (R : Nat → Int) (P : Nat → Bool) (h : IQ w q rb qb n sz R P) (hk : k < n) :
    Calls Try.prog 17 #[.pointer (some ⟨q, 0, none⟩), .int .i64 (k : Int)] w fun e w' => e = .returned (.bool (P k)) ∧ w' = w := by
  go_enter Try.func17, Try.ntmps17
  go_wp2_with (go_at_call 33; refine (has33 _ q rb qb n sz k R P h hk).mono ?_; rintro e w' ⟨rfl, rfl⟩)
  go_ret
  exact ⟨rfl, rfl⟩

/-! ### push -/
theorem push32_old (w : World) (q rb qb n sz k : Nat) (R : Nat → Int) (P : Nat → Bool) (h : IQ w q rb qb n sz R P) (hk : k < n) (hP : P k = true) :
    Calls Try.prog 32 #[.pointer (some ⟨q, 0, none⟩), .int .i64 (k : Int)] w fun e w' => e = .returned (.tuple #[]) ∧ w' = w := by
  have h3 := h.c3
  have hq := h.qd.cell hk
  rw [hP] at hq
  clear h
  go_enter Try.func32, Try.ntmps32
  go_wp2
  go_returns
  exact ⟨rfl, rfl⟩

theorem push32_new (w : World) (q rb qb n sz k : Nat) (R : Nat → Int) (P : Nat → Bool) (h : IQ w q rb qb n sz R P) (hk : k < n) (hn : n ≤ 65536) (hP : P k = false) (hsz : sz < n) :
    Calls Try.prog 32 #[.pointer (some ⟨q, 0, none⟩), .int .i64 (k : Int)] w fun e w' => e = .returned (.tuple #[]) ∧ IQ w' q rb qb n (sz + 1) (upd R sz (k : Int)) (upd P k true) ∧ Only [q, rb, qb] w w' := by
  have h0 := h.c0
  have h1 := h.c1
  have h2 := h.c2
  have h3 := h.c3
  have hq := h.qd.cell hk
  rw [hP] at hq
  have hr := h.ring.cell hsz
  have f0 := h.hd.frozen 2
  have f1 := h.ring.frozen sz
  have f2 := h.qd.frozen k
  have d1 := h.d1
  have d2 := h.d2
  have d3 := h.d3
  go_enter Try.func32, Try.ntmps32
  go_wp2
  go_quiet (fail)
  go_wp2
  go_returns
  exact ⟨rfl, (h.drewN nq).pushed k, ((((Only.refl _ w).drewN nq).setCell (by simp) _).setCell (by simp) _).setCell (by simp) _⟩

/-- PUSH, whatever the key's mark: 'sz' grows where the key is new. -/
theorem push12 (w : World) (q rb qb n k : Nat) (R : Nat → Int) (P : Nat → Bool) (h : IQ w q rb qb n (cnt P n) R P) (hk : k < n) (hn : n ≤ 65536) :
    Calls Try.prog 12 #[.pointer (some ⟨q, 0, none⟩), .int .i64 (k : Int)] w fun e w' => e = .returned (.tuple #[]) ∧
      IQ w' q rb qb n (cnt (upd P k true) n) (if P k then R else upd R (cnt P n) (k : Int)) (upd P k true) ∧ Only [q, rb, qb] w w' := by
  by_cases hP : P k = true
  · rw [cnt_upd_old P n k hP, upd_same P k hP, if_pos hP]
    go_enter Try.func12, Try.ntmps12
    go_wp2_with (go_at_call 32; refine (push32_old _ q rb qb n _ k R P h hk hP).mono ?_; rintro e w' ⟨rfl, rfl⟩)
    go_returns
    exact ⟨rfl, h, Only.refl _ _⟩
  · have hP' : P k = false := by simpa using hP
    rw [cnt_upd_new P n k hk hP', if_neg hP]
    have hsz := cnt_lt P n k hk hP'
    go_enter Try.func12, Try.ntmps12
    go_wp2_with (go_at_call 32; refine (push32_new _ q rb qb n _ k R P h hk hn hP' hsz).mono ?_; rintro e w' ⟨rfl, hi, ho⟩)
    go_returns
    exact ⟨rfl, hi, ho⟩

/-! ### the field readers -/
theorem size13 (w : World) (q rb qb n sz : Nat) (R : Nat → Int) (P : Nat → Bool) (h : IQ w q rb qb n sz R P) :
    Calls Try.prog 13 #[.pointer (some ⟨q, 0, none⟩)] w fun e w' => e = .returned (.int .i64 (sz : Int)) ∧ w' = w := by
  have h2 := h.c2
  clear h
  go_enter Try.func13, Try.ntmps13
  go_wp2
  go_ret
  exact ⟨rfl, rfl⟩
theorem front14 (w : World) (q rb qb n sz : Nat) (R : Nat → Int) (P : Nat → Bool) (h : IQ w q rb qb n sz R P) :
    Calls Try.prog 14 #[.pointer (some ⟨q, 0, none⟩)] w fun e w' => e = .returned (.int .i64 0) ∧ w' = w := by
  have h2 := h.c1
  clear h
  go_enter Try.func14, Try.ntmps14
  go_wp2
  go_ret
  exact ⟨rfl, rfl⟩
theorem ring15 (w : World) (q rb qb n sz : Nat) (R : Nat → Int) (P : Nat → Bool) (h : IQ w q rb qb n sz R P) :
    Calls Try.prog 15 #[.pointer (some ⟨q, 0, none⟩)] w fun e w' => e = .returned (.slice (some ⟨rb, 0, none⟩) n n) ∧ w' = w := by
  have h2 := h.c0
  clear h
  go_enter Try.func15, Try.ntmps15
  go_wp2
  go_ret
  exact ⟨rfl, rfl⟩
theorem queued11 (w : World) (q rb qb n sz : Nat) (R : Nat → Int) (P : Nat → Bool) (h : IQ w q rb qb n sz R P) :
    Calls Try.prog 11 #[.pointer (some ⟨q, 0, none⟩)] w fun e w' => e = .returned (.slice (some ⟨qb, 0, none⟩) n n) ∧ w' = w := by
  have h2 := h.c3
  clear h
  go_enter Try.func11, Try.ntmps11
  go_wp2
  go_ret
  exact ⟨rfl, rfl⟩

/-! ### new -/
theorem new31 (w : World) (n : Nat) (hn : n ≤ 65536) :
    Calls Try.prog 31 #[.int .i64 (n : Int)] w fun e w' => ∃ rb qb, e = .returned (.agg #[.slice (some ⟨rb, 0, none⟩) n n, .int .i64 0, .int .i64 0, .slice (some ⟨qb, 0, none⟩) n n]) ∧
      w'.rowIs rb 3 n (fun _ => .int .i64 0) ∧ w'.rowIs qb 4 n (fun _ => .bool false) ∧ rb ≠ qb ∧ w.heap.size ≤ rb ∧ w.heap.size ≤ qb ∧ Below w.heap.size w w' := by
  have hmk22 := run_make_row' (P := Try.prog) 22 3 (.int .i64 0) 8 Try.underlying22 Try.info3 rfl .i64 .i64 n (by omega) (by omega)
  have hmk26 := run_make_row' (P := Try.prog) 26 4 (.bool false) 1 Try.underlying26 Try.info4 rfl .i64 .i64 n (by omega) (by omega)
  go_enter Try.func31, Try.ntmps31
  go_wp2
  go_region
  all_goals go_wp2
  · refine bodyPost_ret (v := .agg #[.slice (some ⟨w.heap.size + 1, 0, none⟩) n n, .int .i64 0, .int .i64 0, .slice (some ⟨w.heap.size + 1 + 1, 0, none⟩) n n]) (by simp [results, Try.results31, go_sem]) rfl ⟨w.heap.size + 1, w.heap.size + 1 + 1, rfl, ?_, ?_, by omega, by omega, by omega, ?_⟩
    · have := (World.rowIs_made (w.alloc (.cells #[.slice (some ⟨w.heap.size + 1, 0, none⟩) n n, .int .i64 0, .int .i64 0, .slice (some ⟨w.heap.size + 1 + 1, 0, none⟩) n n] 48)) (.int .i64 0) n 3).alloc (.cells (madeCells #[.bool false] n) 4)
      simpa using this.drew
    · have := World.rowIs_made ((w.alloc (.cells #[.slice (some ⟨w.heap.size + 1, 0, none⟩) n n, .int .i64 0, .int .i64 0, .slice (some ⟨w.heap.size + 1 + 1, 0, none⟩) n n] 48)).alloc (.cells (madeCells #[.int .i64 0] n) 3)) (.bool false) n 4
      simpa using this.drew
    · go_grown
  · refine bodyPost_ret (v := .agg #[.slice (some ⟨w.heap.size + 1 + 1, 0, none⟩) n n, .int .i64 0, .int .i64 0, .slice (some ⟨w.heap.size + 1, 0, none⟩) n n]) (by simp [results, Try.results31, go_sem]) rfl ⟨w.heap.size + 1 + 1, w.heap.size + 1, rfl, ?_, ?_, by omega, by omega, by omega, ?_⟩
    · have := World.rowIs_made ((w.alloc (.cells #[.slice (some ⟨w.heap.size + 1 + 1, 0, none⟩) n n, .int .i64 0, .int .i64 0, .slice (some ⟨w.heap.size + 1, 0, none⟩) n n] 48)).alloc (.cells (madeCells #[.bool false] n) 4)) (.int .i64 0) n 3
      simpa using this.drew
    · have := (World.rowIs_made (w.alloc (.cells #[.slice (some ⟨w.heap.size + 1 + 1, 0, none⟩) n n, .int .i64 0, .int .i64 0, .slice (some ⟨w.heap.size + 1, 0, none⟩) n n] 48)) (.bool false) n 4).alloc (.cells (madeCells #[.int .i64 0] n) 3)
      simpa using this.drew
    · go_grown

theorem new10 (w : World) (n : Nat) (hn : n ≤ 65536) :
    Calls Try.prog 10 #[.int .i64 (n : Int)] w fun e w' => ∃ q rb qb, e = .returned (.pointer (some ⟨q, 0, none⟩)) ∧
      IQ w' q rb qb n (cnt (fun _ => false) n) (fun _ => 0) (fun _ => false) ∧ w.heap.size ≤ q ∧ w.heap.size ≤ rb ∧ w.heap.size ≤ qb ∧ Below w.heap.size w w' := by
  rw [cnt_false]
  go_enter Try.func10, Try.ntmps10
  go_wp2_with (go_at_call 31; refine (new31 _ n hn).mono ?_; rintro e w' ⟨rb, qb, rfl, hr, hq, hne, h1, h2, hb⟩)
  go_ret
  have l1 := hr.lt
  have l2 := hq.lt
  have ls := hb.size
  have hd := World.rowIs_alloc w' #[.slice (some ⟨rb, 0, none⟩) n n, .int .i64 0, .int .i64 0, .slice (some ⟨qb, 0, none⟩) n n] 48 (hdF rb qb n 0) (by
    intro i hi
    have hi' : i < 4 := by simpa using hi
    match i, hi' with
    | 0, _ => rfl
    | 1, _ => rfl
    | 2, _ => rfl
    | 3, _ => rfl)
  exact ⟨w'.heap.size, rb, qb, rfl, ⟨hd, hr.alloc _, hq.alloc _, by omega, by omega, hne⟩, ls, h1, h2, hb.alloc ls _⟩

end Go.Proofs.Qxb6614740a
