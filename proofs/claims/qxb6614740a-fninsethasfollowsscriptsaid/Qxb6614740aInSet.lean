/-
  THE CONTRACTS OF THE SET OF BACKENDS THAT ARE IN: has, allIn, with.
-/
import Derived.Test.Qxb6614740aBase
namespace Go.Proofs.Qxb6614740a
open Go.RowKit

/-- The two fields of an inSet in memory: backends, place. -/
def isF (bb pb n m cap : Nat) : Nat → Value := fun i => if i = 0 then .slice (some ⟨bb, 0, none⟩) m cap else .slice (some ⟨pb, 0, none⟩) n n

/-- A SET at block s over n backends: its list at block bb (as long as there are backends in), its places at block pb; backend j is in (P j) just where its place is not negative. -/
structure InS (w : World) (s bb pb n cap : Nat) (L : Nat → Int) (P : Nat → Bool) : Prop where
  hd : w.rowIs s 78 2 (isF bb pb n (cnt P n) cap)
  pl : w.rowIs pb 3 n (fun i => .int .i64 (L i))
  ok : ∀ j, j < n → decide (0 ≤ L j) = P j

namespace InS
variable {w : World} {s bb pb n cap : Nat} {L : Nat → Int} {P : Nat → Bool}
theorem c0 (h : InS w s bb pb n cap L P) : w.cell? ⟨s, 0, none⟩ = some (.slice (some ⟨bb, 0, none⟩) (cnt P n) cap) := h.hd.cell (i := 0) (by omega)
theorem c1 (h : InS w s bb pb n cap L P) : w.cell? ⟨s, 1, none⟩ = some (.slice (some ⟨pb, 0, none⟩) n n) := h.hd.cell (i := 1) (by omega)
theorem blocks {w' : World} (h : InS w s bb pb n cap L P) (h1 : w'.heap[s]? = w.heap[s]?) (h2 : w'.heap[pb]? = w.heap[pb]?) : InS w' s bb pb n cap L P := ⟨h.hd.of_block h1, h.pl.of_block h2, h.ok⟩
theorem drewN (h : InS w s bb pb n cap L P) (m : Nat) : InS (w.drewN m) s bb pb n cap L P := ⟨h.hd, h.pl, h.ok⟩
theorem below {w' : World} {B : Nat} (h : InS w s bb pb n cap L P) (hb : Below B w w') (h1 : s < B) (h2 : pb < B) : InS w' s bb pb n cap L P := h.blocks (hb.block _ h1) (hb.block _ h2)
end InS

/-! ### has -/
theorem has35 (w : World) (s bb pb n cap k : Nat) (L : Nat → Int) (P : Nat → Bool) (h : InS w s bb pb n cap L P) (hk : k < n) :
    Calls Try.prog 35 #[.pointer (some ⟨s, 0, none⟩), .int .i64 (k : Int)] w fun e w' => e = .returned (.bool (P k)) ∧ w' = w := by
  have h1 := h.c1
  have hp := h.pl.cell hk
  rw [← h.ok k hk]
  clear h
  go_enter Try.func35, Try.ntmps35
  go_wp2
  go_ret
  exact ⟨rfl, rfl⟩

theorem has20 (w : World) (s bb pb n cap k : Nat) (L : Nat → Int) (P : Nat → Bool) (h : InS w s bb pb n cap L P) (hk : k < n) :
    Calls Try.prog 20 #[.pointer (some ⟨s, 0, none⟩), .int .i64 (k : Int)] w fun e w' => e = .returned (.bool (P k)) ∧ w' = w := by
  go_enter Try.func20, Try.ntmps20
  go_wp2_with (go_at_call 35; refine (has35 _ s bb pb n cap k L P h hk).mono ?_; rintro e w' ⟨rfl, hw⟩; obtain rfl := hw.symm)
  go_ret
  exact ⟨rfl, rfl⟩

/-! ### allIn -/
theorem cnt_true (n : Nat) : cnt (fun _ => true) n = n := by
  induction n with
  | zero => rfl
  | succ n ih => simp [cnt, ih]

theorem row_hd (w : World) (bb pb n m cap : Nat) : (w.alloc (.cells #[.slice (some ⟨bb, 0, none⟩) m cap, .slice (some ⟨pb, 0, none⟩) n n] 78)).rowIs w.heap.size 78 2 (isF bb pb n m cap) :=
  World.rowIs_alloc w #[.slice (some ⟨bb, 0, none⟩) m cap, .slice (some ⟨pb, 0, none⟩) n n] 78 (isF bb pb n m cap) (by
    intro i hi
    have hi' : i < 2 := by simpa using hi
    match i, hi' with
    | 0, _ => rfl
    | 1, _ => rfl)

theorem allIn34 (w : World) (n : Nat) (hn : n ≤ 4096) :
    Calls Try.prog 34 #[.int .i64 (n : Int)] w fun e w' => ∃ s bb pb L, e = .returned (.pointer (some ⟨s, 0, none⟩)) ∧ InS w' s bb pb n n L (fun _ => true) ∧ w.heap.size ≤ s ∧ w.heap.size ≤ pb ∧ Below w.heap.size w w' := by
  have hmk22 := run_make_row' (P := Try.prog) 22 3 (.int .i64 0) 8 Try.underlying22 Try.info3 rfl .i64 .i64 n (by omega) (by omega)
  go_enter Try.func34, Try.ntmps34
  go_wp2
  go_cut [3] (fun s3 wx => ∃ s bb pb, s3 = .pointer (some ⟨s, 0, none⟩) ∧ wx.rowIs s 78 2 (isF bb pb n n n) ∧ wx.rowIs bb 3 n (fun _ => .int .i64 0) ∧ wx.rowIs pb 3 n (fun _ => .int .i64 0) ∧ s ≠ bb ∧ s ≠ pb ∧ bb ≠ pb ∧ w.heap.size ≤ s ∧ w.heap.size ≤ bb ∧ w.heap.size ≤ pb ∧ Below w.heap.size w wx)
  case first =>
    go_region
    · go_wp2_with fail
      go_meet
      have r1 := ((World.rowIs_made w (.int .i64 0) n 3).alloc (.cells (madeCells #[.int .i64 0] n) 3)).alloc (.cells #[.slice (some ⟨w.heap.size, 0, none⟩) n n, .slice (some ⟨w.heap.size + 1, 0, none⟩) n n] 78)
      have r2 := (World.rowIs_made (w.alloc (.cells (madeCells #[.int .i64 0] n) 3)) (.int .i64 0) n 3).alloc (.cells #[.slice (some ⟨w.heap.size, 0, none⟩) n n, .slice (some ⟨w.heap.size + 1, 0, none⟩) n n] 78)
      have r3 := row_hd ((w.alloc (.cells (madeCells #[.int .i64 0] n) 3)).alloc (.cells (madeCells #[.int .i64 0] n) 3)) w.heap.size (w.heap.size + 1) n n n
      simp only [World.size_alloc] at r2 r3
      exact ⟨w.heap.size + 1 + 1, w.heap.size, w.heap.size + 1, rfl, r3.drew, r1.drew, r2.drew, by omega, by omega, by omega, by omega, by omega, by omega, by go_grown⟩
    · go_wp2_with fail
      go_meet
      have r1 := ((World.rowIs_made w (.int .i64 0) n 3).alloc (.cells (madeCells #[.int .i64 0] n) 3)).alloc (.cells #[.slice (some ⟨w.heap.size + 1, 0, none⟩) n n, .slice (some ⟨w.heap.size, 0, none⟩) n n] 78)
      have r2 := (World.rowIs_made (w.alloc (.cells (madeCells #[.int .i64 0] n) 3)) (.int .i64 0) n 3).alloc (.cells #[.slice (some ⟨w.heap.size + 1, 0, none⟩) n n, .slice (some ⟨w.heap.size, 0, none⟩) n n] 78)
      have r3 := row_hd ((w.alloc (.cells (madeCells #[.int .i64 0] n) 3)).alloc (.cells (madeCells #[.int .i64 0] n) 3)) (w.heap.size + 1) w.heap.size n n n
      simp only [World.size_alloc] at r2 r3
      exact ⟨w.heap.size + 1 + 1, w.heap.size + 1, w.heap.size, rfl, r3.drew, r2.drew, r1.drew, by omega, by omega, by omega, by omega, by omega, by omega, by go_grown⟩
  case rest =>
    obtain ⟨s, bb, pb, rfl, hd, hb, hp, n1, n2, n3, l1, l2, l3, hB⟩ := hcut
    go_wp2
    go_loopg [12] n (fun g i wx => ∃ t : Nat, t ≤ n ∧ g = n - t ∧ i = .int .i64 t ∧ ∃ L0 L : Nat → Int, wx.rowIs s 78 2 (isF bb pb n n n) ∧ wx.rowIs bb 3 n (fun i => .int .i64 (L0 i)) ∧ wx.rowIs pb 3 n (fun i => .int .i64 (L i)) ∧ (∀ j, 0 ≤ L j) ∧ Below w.heap.size w wx)
    case atStart => exact ⟨0, Nat.zero_le _, rfl, rfl, fun _ => 0, fun _ => 0, hd, hb, hp, fun _ => Int.le_refl _, hB⟩
    case round =>
      clear hd hb hp hB hmk22
      obtain ⟨t, ht, rfl, rfl, L0, L, hd, hb, hp, hL, hB⟩ := hrel
      by_cases htn : t < n
      · have htz : (t : Int) < (n : Int) := by omega
        have e0 := hd.cell (i := 0) (by omega)
        have e1 := hd.cell (i := 1) (by omega)
        simp only [isF] at e0 e1
        have e2 := hb.cell htn
        have e3 := hp.cell htn
        have f2 := hb.frozen t
        have f3 := hp.frozen t
        go_wp2
        go_region
        go_wp2
        go_roundg (n - (t + 1))
        case measure => omega
        case rel =>
          refine ⟨t + 1, by omega, rfl, by go_num, upd L0 t t, upd L t t, ((hd.setOther (a := ⟨bb, t, none⟩) n1 _).setOther (a := ⟨pb, t, none⟩) n2 _).drew, (((hb.set t _).setOther (a := ⟨pb, t, none⟩) n3 _).drew).congr ?_, (((hp.setOther (a := ⟨bb, t, none⟩) (Ne.symm n3) _).set t _).drew).congr ?_, ?_, ((hB.setCell l2 _).setCell l3 _).drew⟩
          · intro i _; unfold upd; split <;> rfl
          · intro i _; unfold upd; split <;> rfl
          · intro j; unfold upd; split
            · omega
            · exact hL j
      · have ht' : t = n := by omega
        subst ht'
        go_wp2
        go_ret
        refine ⟨s, bb, pb, L, rfl, ⟨?_, hp, fun j _ => by simp [hL j]⟩, l1, l3, hB⟩
        rw [cnt_true]
        exact hd

theorem allIn19 (w : World) (n : Nat) (hn : n ≤ 4096) :
    Calls Try.prog 19 #[.int .i64 (n : Int)] w fun e w' => ∃ s bb pb L, e = .returned (.pointer (some ⟨s, 0, none⟩)) ∧ InS w' s bb pb n n L (fun _ => true) ∧ w.heap.size ≤ s ∧ w.heap.size ≤ pb ∧ Below w.heap.size w w' := by
  go_enter Try.func19, Try.ntmps19
  go_wp2_with (go_at_call 34; refine (allIn34 _ n hn).mono ?_; rintro e w' ⟨s, bb, pb, L, rfl, h1, h2, h3, h4⟩)
  go_ret
  exact ⟨s, bb, pb, L, rfl, h1, h2, h3, h4⟩

/-! ### with -/
/-- Who is in behind 'with(k, x)'. -/
def wi (P : Nat → Bool) (k : Int) (x : Bool) : Nat → Bool := fun j => if (j : Int) = k then x else P j

/-- The list's row is the call's own: m entries, room for cap. -/
def Own (w : World) (bb m cap : Nat) : Prop := ∃ xs, w.ownsRow 0 3 1 (.slice (some ⟨bb, 0, none⟩) m cap) m xs

theorem Own.of_block {w w' : World} {bb m cap : Nat} (h : Own w bb m cap) (e : w'.heap[bb]? = w.heap[bb]?) : Own w' bb m cap := by
  obtain ⟨xs, h1, h2⟩ := h
  refine ⟨xs, h1, ?_⟩
  rcases h2 with ⟨h2, _⟩ | ⟨g, c, cur, hv, hg, hh, r⟩
  · simp at h2
  · refine .inr ⟨g, c, cur, hv, hg, ?_, r⟩
    simp at hv
    obtain ⟨rfl, rfl⟩ := hv
    rw [e]; exact hh

theorem Own.made {w : World} {bb cap : Nat} {f : Nat → Value} (h : w.rowIs bb 3 cap f) (hm : cap ≤ maxLen) : Own w bb 0 cap := by
  obtain ⟨c, h1, h2, _⟩ := h
  exact ⟨[], by simp, .inr ⟨bb, cap, c, rfl, Nat.zero_le _, h1, Nat.zero_le _, hm, by omega, by simp⟩⟩

theorem cnt_mono (P : Nat → Bool) {a b : Nat} (h : a ≤ b) : cnt P a ≤ cnt P b := by
  induction b with
  | zero => have : a = 0 := by omega
            subst this; exact Nat.le_refl _
  | succ b ih =>
    by_cases e : a = b + 1
    · subst e; exact Nat.le_refl _
    · have := ih (by omega); simp only [cnt]; omega

theorem cnt_wi (P : Nat → Bool) (k : Int) (x : Bool) (n : Nat) : cnt (wi P k x) n ≤ cnt P n + (if 0 ≤ k ∧ k < (n : Int) then 1 else 0) := by
  induction n with
  | zero => simp [cnt]
  | succ n ih =>
    simp only [cnt]
    by_cases e : (n : Int) = k
    · have h1 : ¬ (0 ≤ k ∧ k < (n : Int)) := by omega
      rw [if_neg h1] at ih
      have h2 : 0 ≤ k ∧ k < ((n + 1 : Nat) : Int) := by omega
      rw [if_pos h2]
      split <;> split <;> omega
    · have h3 : wi P k x n = P n := by simp [wi, e]
      rw [h3]
      by_cases h1 : 0 ≤ k ∧ k < (n : Int)
      · rw [if_pos h1] at ih
        have h2 : 0 ≤ k ∧ k < ((n + 1 : Nat) : Int) := by omega
        rw [if_pos h2]; omega
      · rw [if_neg h1] at ih
        omega

theorem cnt_wi_room (P : Nat → Bool) (k : Int) (x : Bool) (n t : Nat) (ht : t < n) (h : wi P k x t = true) : cnt (wi P k x) t + 1 ≤ cnt P n + 1 := by
  have h1 : cnt (wi P k x) (t + 1) = cnt (wi P k x) t + 1 := by simp [cnt, h]
  have h2 := cnt_mono (wi P k x) (show t + 1 ≤ n by omega)
  have h3 := cnt_wi P k x n
  split at h3 <;> omega

end Go.Proofs.Qxb6614740a
