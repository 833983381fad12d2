/-
  THE CONTRACT OF 'with'.
-/
import Derived.Test.Qxb6614740aInSet
namespace Go.Proofs.Qxb6614740a
open Go.RowKit

theorem make0 (c : Nat) (hc : c ≤ 65536) (w : World) :
    (Instr.makeSlice 22 (.int .i64 0) (.int .i64 ((c : Int) + 1))).run Try.prog w = .ok (.slice (some ⟨w.heap.size, 0, none⟩) 0 (c + 1)) (w.alloc (.cells (madeCells #[.int .i64 0] (c + 1)) 3)) := by
  obtain ⟨i, hi, hz, hs, hb⟩ := info_parts Try.info3
  have hr := run_make (P := Try.prog) w 22 3 i (.int .i64 0) Try.underlying22 hi hz .i64 .i64 0 ((c : Int) + 1) (by omega) (by omega) (by rw [hb]; omega) (by omega)
  have e : ((c : Int) + 1).toNat = c + 1 := by omega
  rw [hs, e, Nat.mul_one] at hr
  exact hr

/-- Half way through 'with': the first t backends are told. -/
structure Half (w wx : World) (s' bb' pb' n cap t : Nat) (L' : Nat → Int) (P' : Nat → Bool) : Prop where
  hd : wx.rowIs s' 78 2 (isF bb' pb' n (cnt P' t) cap)
  pl : wx.rowIs pb' 3 n (fun i => .int .i64 (L' i))
  ok : ∀ j, j < t → decide (0 ≤ L' j) = P' j
  own : Own wx bb' (cnt P' t) cap
  n1 : s' ≠ bb'
  n2 : s' ≠ pb'
  n3 : bb' ≠ pb'
  l1 : w.heap.size ≤ s'
  l2 : w.heap.size ≤ bb'
  l3 : w.heap.size ≤ pb'
  bel : Below w.heap.size w wx

namespace Half
variable {w wx : World} {s' bb' pb' n cap t : Nat} {L' : Nat → Int} {P' : Nat → Bool}
theorem drew (h : Half w wx s' bb' pb' n cap t L' P') : Half w wx.drew s' bb' pb' n cap t L' P' :=
  ⟨h.hd, h.pl, h.ok, h.own.of_block rfl, h.n1, h.n2, h.n3, h.l1, h.l2, h.l3, h.bel.drew⟩
/-- 'next.place[t] = v'. -/
theorem place (h : Half w wx s' bb' pb' n cap t L' P') (v : Int) : Half w (wx.setCell ⟨pb', t, none⟩ (.int .i64 v)) s' bb' pb' n cap t (upd L' t v) P' := by
  refine ⟨h.hd.setOther (a := ⟨pb', t, none⟩) h.n2 _, (h.pl.set t _).congr ?_, ?_, h.own.of_block (Below.heap_setCell _ _ _ _ h.n3), h.n1, h.n2, h.n3, h.l1, h.l2, h.l3, h.bel.setCell h.l3 _⟩
  · intro i _; unfold upd; split <;> rfl
  · intro j hj; rw [upd_ne _ _ _ (by omega)]; exact h.ok j hj
theorem out (h : Half w wx s' bb' pb' n cap t L' P') (hL : L' t < 0) (hP : P' t = false) : Half w wx s' bb' pb' n cap (t + 1) L' P' := by
  have e : cnt P' (t + 1) = cnt P' t := by simp [cnt, hP]
  refine ⟨by rw [e]; exact h.hd, h.pl, ?_, by rw [e]; exact h.own, h.n1, h.n2, h.n3, h.l1, h.l2, h.l3, h.bel⟩
  intro j hj
  by_cases ej : j = t
  · subst ej; rw [hP]; simp; omega
  · exact h.ok j (by omega)
theorem kept (h : Half w wx s' bb' pb' n cap t L' P') (o : Obj) {w1 : World} (hg : (wx.alloc o).drew.grownBy w1 (some bb')) : w1.rowIs s' 78 2 (isF bb' pb' n (cnt P' t) cap) := by
  have q1 := h.hd.lt
  exact (h.hd.alloc o).of_block (hg.block s' (by show s' < (wx.alloc o).heap.size; simp; omega) (by simpa using h.n1))
theorem into (h : Half w wx s' bb' pb' n cap t L' P') (hL : 0 ≤ L' t) (hP : P' t = true) (o : Obj) {w1 : World} {xs : List Value} (ho : w1.ownsRow 0 3 1 (.slice (some ⟨bb', 0, none⟩) (cnt P' t + 1) cap) (cnt P' t + 1) xs) (hg0 : (wx.alloc o).drew.grownBy w1 (some bb')) :
    Half w (w1.setCell ⟨s', 0, none⟩ (.slice (some ⟨bb', 0, none⟩) (cnt P' t + 1) cap)) s' bb' pb' n cap (t + 1) L' P' := by
  have hg : (wx.alloc o).grownBy w1 (some bb') := ⟨hg0.os, hg0.tape, hg0.output, hg0.size, hg0.block⟩
  have e : cnt P' (t + 1) = cnt P' t + 1 := by simp [cnt, hP]
  have q1 := h.hd.lt
  have q2 := h.pl.lt
  have hw : w.heap.size ≤ wx.heap.size := h.bel.size
  have b1 : w1.heap[s']? = (wx.alloc o).heap[s']? := hg.block s' (by simp; omega) (by simpa using h.n1)
  have b2 : w1.heap[pb']? = (wx.alloc o).heap[pb']? := hg.block pb' (by simp; omega) (by simpa using Ne.symm h.n3)
  refine ⟨?_, (((h.pl.alloc o).of_block b2).setOther (a := ⟨s', 0, none⟩) (Ne.symm h.n2) _), ?_, ?_, h.n1, h.n2, h.n3, h.l1, h.l2, h.l3, ?_⟩
  · refine (((h.hd.alloc o).of_block b1).set 0 _).congr fun i hi => ?_
    rw [e]; unfold isF
    by_cases e0 : i = 0
    · simp [e0]
    · simp [e0]
  · intro j hj
    by_cases ej : j = t
    · subst ej; rw [hP]; simp [hL]
    · exact h.ok j (by omega)
  · rw [e]
    exact Own.of_block (w := w1) ⟨xs, ho⟩ (Below.heap_setCell _ _ _ _ (Ne.symm h.n1))
  · exact ((h.bel.alloc hw o).grown hg (by simp; omega) (by intro k hk; obtain rfl := Option.some.inj hk; exact h.l2)).setCell h.l1 _
end Half

theorem half_start1 (w : World) (n c : Nat) (hc : c ≤ 65536) (P' : Nat → Bool) :
    Half w (((w.alloc (.cells (madeCells #[.int .i64 0] c) 3)).alloc (.cells (madeCells #[.int .i64 0] n) 3)).alloc (.cells #[.slice (some ⟨w.heap.size, 0, none⟩) 0 c, .slice (some ⟨w.heap.size + 1, 0, none⟩) n n] 78)).drew
      (w.heap.size + 1 + 1) w.heap.size (w.heap.size + 1) n c 0 (fun _ => 0) P' := by
  have r1 := ((World.rowIs_made w (.int .i64 0) c 3).alloc (.cells (madeCells #[.int .i64 0] n) 3)).alloc (.cells #[.slice (some ⟨w.heap.size, 0, none⟩) 0 c, .slice (some ⟨w.heap.size + 1, 0, none⟩) n n] 78)
  have r2 := (World.rowIs_made (w.alloc (.cells (madeCells #[.int .i64 0] c) 3)) (.int .i64 0) n 3).alloc (.cells #[.slice (some ⟨w.heap.size, 0, none⟩) 0 c, .slice (some ⟨w.heap.size + 1, 0, none⟩) n n] 78)
  have r3 := row_hd ((w.alloc (.cells (madeCells #[.int .i64 0] c) 3)).alloc (.cells (madeCells #[.int .i64 0] n) 3)) w.heap.size (w.heap.size + 1) n 0 c
  simp only [World.size_alloc] at r2 r3
  exact ⟨r3.drew, r2.drew, fun j hj => by omega, Own.made r1.drew (by unfold maxLen; omega), by omega, by omega, by omega, by omega, by omega, by omega, by go_grown⟩

theorem half_start2 (w : World) (n c : Nat) (hc : c ≤ 65536) (P' : Nat → Bool) :
    Half w (((w.alloc (.cells (madeCells #[.int .i64 0] n) 3)).alloc (.cells (madeCells #[.int .i64 0] c) 3)).alloc (.cells #[.slice (some ⟨w.heap.size + 1, 0, none⟩) 0 c, .slice (some ⟨w.heap.size, 0, none⟩) n n] 78)).drew
      (w.heap.size + 1 + 1) (w.heap.size + 1) w.heap.size n c 0 (fun _ => 0) P' := by
  have r1 := ((World.rowIs_made w (.int .i64 0) n 3).alloc (.cells (madeCells #[.int .i64 0] c) 3)).alloc (.cells #[.slice (some ⟨w.heap.size + 1, 0, none⟩) 0 c, .slice (some ⟨w.heap.size, 0, none⟩) n n] 78)
  have r2 := (World.rowIs_made (w.alloc (.cells (madeCells #[.int .i64 0] n) 3)) (.int .i64 0) c 3).alloc (.cells #[.slice (some ⟨w.heap.size + 1, 0, none⟩) 0 c, .slice (some ⟨w.heap.size, 0, none⟩) n n] 78)
  have r3 := row_hd ((w.alloc (.cells (madeCells #[.int .i64 0] n) 3)).alloc (.cells (madeCells #[.int .i64 0] c) 3)) (w.heap.size + 1) w.heap.size n 0 c
  simp only [World.size_alloc] at r2 r3
  exact ⟨r3.drew, r1.drew, fun j hj => by omega, Own.made r2.drew (by unfold maxLen; omega), by omega, by omega, by omega, by omega, by omega, by omega, by go_grown⟩

theorem one_cell (W : World) (v : Value) (t : TypeId) (z : Nat) (hz : z = W.heap.size) : ∀ j u, [v][j]? = some u → ((W.alloc (.cells #[v] t)).drew).cell? ((⟨z, 0, none⟩ : Addr).add j) = some u := by
  subst hz
  intro j u hj
  match j, hj with
  | 0, hj =>
    have e : v = u := by simpa using hj
    subst e
    simp [Addr.add, go_sem]
  | j + 1, hj => simp at hj

theorem with36 (w : World) (s bb pb n cap : Nat) (L : Nat → Int) (P : Nat → Bool) (h : InS w s bb pb n cap L P) (hn : n ≤ 4096) (k : Int) (x : Bool) :
    Calls Try.prog 36 #[.pointer (some ⟨s, 0, none⟩), .int .i64 k, .bool x] w fun e w' => ∃ s' bb' pb' cap' L', e = .returned (.pointer (some ⟨s', 0, none⟩)) ∧
      InS w' s' bb' pb' n cap' L' (wi P k x) ∧ w.heap.size ≤ s' ∧ w.heap.size ≤ pb' ∧ Below w.heap.size w w' := by
  have hcn := cnt_le P n
  have hmk22 := run_make_row' (P := Try.prog) 22 3 (.int .i64 0) 8 Try.underlying22 Try.info3 rfl .i64 .i64 n (by omega) (by omega)
  have hmk0 := make0 (cnt P n) (by omega)
  have c0 := h.c0
  have c1 := h.c1
  have ls := h.hd.lt
  have lp := h.pl.lt
  go_enter Try.func36, Try.ntmps36
  go_wp2
  go_cut [7] (fun s7 wx => ∃ s' bb' pb', s7 = .pointer (some ⟨s', 0, none⟩) ∧ Half w wx s' bb' pb' n (cnt P n + 1) 0 (fun _ => 0) (wi P k x))
  case first =>
    go_region
    · go_wp2_with fail
      go_meet
      exact ⟨_, _, _, rfl, half_start1 w n _ (by omega) _⟩
    · go_wp2_with fail
      go_meet
      exact ⟨_, _, _, rfl, half_start2 w n _ (by omega) _⟩
  case rest =>
    obtain ⟨s', bb', pb', rfl, hh⟩ := hcut
    have c1' : wc.cell? ⟨s, 1, none⟩ = some (.slice (some ⟨pb, 0, none⟩) n n) := by rw [hh.bel.cell (p := ⟨s, 1, none⟩) ls]; exact c1
    clear hmk22 hmk0 c0 c1
    go_wp2
    clear c1'
    go_loopg [29] n (fun g i wx => ∃ t : Nat, t ≤ n ∧ g = n - t ∧ i = .int .i64 t ∧ ∃ L', Half w wx s' bb' pb' n (cnt P n + 1) t L' (wi P k x))
    case atStart => exact ⟨0, Nat.zero_le _, rfl, rfl, _, hh⟩
    case round =>
      clear hh
      obtain ⟨t, ht, rfl, rfl, L', hh⟩ := hrel
      by_cases htn : t < n
      · have htz : (t : Int) < (n : Int) := by omega
        have e0 : wr.cell? ⟨s', 0, none⟩ = some (.slice (some ⟨bb', 0, none⟩) (cnt (wi P k x) t) (cnt P n + 1)) := hh.hd.cell (i := 0) (by omega)
        have e1 : wr.cell? ⟨s', 1, none⟩ = some (.slice (some ⟨pb', 0, none⟩) n n) := hh.hd.cell (i := 1) (by omega)
        have e3 := hh.pl.cell htn
        have f3 := hh.pl.frozen t
        have f0 := hh.hd.frozen 0
        have n1 := hh.n1
        have n2 := hh.n2
        have n3 := hh.n3
        have hm := hh.place (-1)
        have hcm := cnt_le (wi P k x) t
        have hI : InS (wr.setCell ⟨pb', t, none⟩ (.int .i64 (-1))) s bb pb n cap L P := h.below hm.bel ls lp
        by_cases hk : (t : Int) = k
        · subst hk
          cases x
          · have hP : wi P (t : Int) false t = false := by simp [wi]
            have hh2 := hm.out (by rw [upd_at]; decide) hP
            go_wp2_with (go_at_call 35; refine (has35 _ s bb pb n cap t L P hI htn).mono ?_; rintro e w' ⟨rfl, hw⟩; obtain rfl := hw.symm)
            go_roundg (n - (t + 1))
            case measure => omega
            case rel => exact ⟨t + 1, by omega, rfl, by go_num, _, hh2⟩
          · have hP : wi P (t : Int) true t = true := by simp [wi]
            have hroom := cnt_wi_room P (t : Int) true n t htn hP
            have hm2 := hm.place (cnt (wi P (t : Int) true) t : Int)
            obtain ⟨i0, hi, hz0, hz1, hz2⟩ := info_parts Try.info3
            obtain ⟨xs, hown⟩ := hm2.own
            go_wp2_with fail
            go_region
            clear e1 e3 f3 hI hm
            go_wp2_with (at_builtin; refine wpList_append_fits _ rfl (.tmp 69) (.tmp 71) 22 rfl 0 3 i0 1 Try.underlying22 hi hz1 bb' _ _ xs rfl ((hown.alloc _).drew) ⟨wr.heap.size, 0, none⟩ 1 1 [.int .i64 (t : Int)] rfl rfl ?hc ?h1c hroom ?_)
            case hc => exact one_cell _ _ _ _ (by simp)
            case h1c => intro u hu; simp at hu; subst hu; rfl
            intro w1 ho hg
            have hk2 := hm2.kept _ hg
            have g0 := hk2.cell (i := 0) (by omega)
            have g1 := hk2.frozen 0
            have hh2 := hm2.into (by rw [upd_at]; omega) hP _ ho hg
            clear hk2 hm2 hh e0 f0 ho hg hown
            go_wp2_with fail
            go_roundg (n - (t + 1))
            case measure => omega
            case rel => exact ⟨t + 1, by omega, rfl, by go_num, _, hh2⟩
        · have hkb : ((t : Int) == k) = false := beq_eq_false_iff_ne.2 hk
          cases hPt : P t with
          | false =>
            have hP : wi P k x t = false := by simp [wi, hk, hPt]
            have hh2 := hm.out (by rw [upd_at]; decide) hP
            go_wp2_with (go_at_call 35; refine (has35 _ s bb pb n cap t L P hI htn).mono ?_; rintro e w' ⟨rfl, hw⟩; obtain rfl := hw.symm)
            go_roundg (n - (t + 1))
            case measure => omega
            case rel => exact ⟨t + 1, by omega, rfl, by go_num, _, hh2⟩
          | true =>
            have hP : wi P k x t = true := by simp [wi, hk, hPt]
            have hroom := cnt_wi_room P k x n t htn hP
            have hm2 := hm.place (cnt (wi P k x) t : Int)
            go_wp2_with (go_at_call 35; refine (has35 _ s bb pb n cap t L P hI htn).mono ?_; rintro e w' ⟨rfl, hw⟩; obtain rfl := hw.symm)
            go_region
            obtain ⟨i0, hi, hz0, hz1, hz2⟩ := info_parts Try.info3
            obtain ⟨xs, hown⟩ := hm2.own
            clear e1 e3 f3 hI hm
            go_wp2_with (at_builtin; refine wpList_append_fits _ rfl (.tmp 69) (.tmp 71) 22 rfl 0 3 i0 1 Try.underlying22 hi hz1 bb' _ _ xs rfl ((hown.alloc _).drew) ⟨wr.heap.size, 0, none⟩ 1 1 [.int .i64 (t : Int)] rfl rfl ?hc ?h1c hroom ?_)
            case hc => exact one_cell _ _ _ _ (by simp)
            case h1c => intro u hu; simp at hu; subst hu; rfl
            intro w1 ho hg
            have hk2 := hm2.kept _ hg
            have g0 := hk2.cell (i := 0) (by omega)
            have g1 := hk2.frozen 0
            have hh2 := hm2.into (by rw [upd_at]; omega) hP _ ho hg
            clear hk2 hm2 hh e0 f0 ho hg hown
            go_wp2_with fail
            go_roundg (n - (t + 1))
            case measure => omega
            case rel => exact ⟨t + 1, by omega, rfl, by go_num, _, hh2⟩
      · have ht' : t = n := by omega
        subst ht'
        go_wp2
        go_ret
        exact ⟨s', bb', pb', _, L', rfl, ⟨hh.hd, hh.pl, hh.ok⟩, hh.l1, hh.l3, hh.bel⟩

theorem with21 (w : World) (s bb pb n cap : Nat) (L : Nat → Int) (P : Nat → Bool) (h : InS w s bb pb n cap L P) (hn : n ≤ 4096) (k : Int) (x : Bool) :
    Calls Try.prog 21 #[.pointer (some ⟨s, 0, none⟩), .int .i64 k, .bool x] w fun e w' => ∃ s' bb' pb' cap' L', e = .returned (.pointer (some ⟨s', 0, none⟩)) ∧
      InS w' s' bb' pb' n cap' L' (wi P k x) ∧ w.heap.size ≤ s' ∧ w.heap.size ≤ pb' ∧ Below w.heap.size w w' := by
  go_enter Try.func21, Try.ntmps21
  go_wp2_with (go_at_call 36; refine (with36 _ s bb pb n cap L P h hn k x).mono ?_; rintro e w' ⟨s', bb', pb', cap', L', rfl, h1, h2, h3, h4⟩)
  go_ret
  exact ⟨s', bb', pb', cap', L', rfl, h1, h2, h3, h4⟩

end Go.Proofs.Qxb6614740a
