/-
  THE WALK OF 'FnNoteOrderFreeKeepsGreatestVersion'.
-/
import Derived.Test.Qxb6614774aPlain
import Derived.Deep.RegionWith
namespace Go.Proofs.Qxb6614774a
open Go.RowKit

def okB (a b : Nat) : Bool := decide (a ≤ 1048576) && (decide (b ≤ 1048576) && decide (a + b ≤ 1048576))

theorem bytes4 (s : ByteArray) (a1 : Option Addr) (len1 cap1 : Nat) (w : World) (hl : s.size ≤ 9223372036854775807) (hl2 : len1 ≤ 9223372036854775807) :
    Calls Try.prog 4 #[.string s, .slice a1 len1 cap1] w fun e w' => e = .returned (.bool (okB s.size len1)) ∧ w' = w := by
  unfold okB
  by_cases h : s.size ≤ 1048576
  · have h1 : ¬ (1048576 : Int) < (s.size : Int) := by omega
    by_cases h2 : len1 ≤ 1048576
    · have h3 : ¬ (1048576 : Int) < (len1 : Int) := by omega
      by_cases h4 : s.size + len1 ≤ 1048576
      · have h5 : ¬ (1048576 : Int) < (s.size : Int) + (len1 : Int) := by omega
        go_enter Try.func4, Try.ntmps4
        go_wp2
        go_ret
        exact ⟨by simp, rfl⟩
      · have h5 : (1048576 : Int) < (s.size : Int) + (len1 : Int) := by omega
        go_enter Try.func4, Try.ntmps4
        go_wp2
        go_ret
        exact ⟨by simp, rfl⟩
    · have h3 : (1048576 : Int) < (len1 : Int) := by omega
      go_enter Try.func4, Try.ntmps4
      go_wp2
      go_ret
      exact ⟨by simp, rfl⟩
  · have h1 : (1048576 : Int) < (s.size : Int) := by omega
    go_enter Try.func4, Try.ntmps4
    go_wp2
    go_ret
    exact ⟨by simp [h], rfl⟩

theorem below_drewN {B : Nat} {w w' : World} (h : Below B w w') (n : Nat) : Below B w (w'.drewN n) := ⟨h.os, h.tape, h.output, h.size, h.block⟩

/-- The empty string as the walk spells it. -/
theorem note6' (w : World) (mi mb : Nat) (s : ByteArray) (v m : Int) (st : Option (Int × Int)) (h : Mi w mi mb s st) (hlt : m < v) :
    Calls Try.prog 6 #[.pointer (some ⟨mi, 0, none⟩), .agg #[.string s, .int .i64 v, .int .i64 m, .slice none 0 0, .string ⟨#[]⟩]] w fun e w' => e = .returned (.tuple #[]) ∧ Mi w' mi mb s (nst st v m) ∧ w.grownBy w' (some mb) :=
  note6 w mi mb s v m st h hlt

theorem Mi.drew {w : World} {mi mb : Nat} {s : ByteArray} {st : Option (Int × Int)} (h : Mi w mi mb s st) : Mi w.drew mi mb s st := ⟨h.cell, h.map⟩

/-- What was handed out, in a variable of the law's own. -/
structure Got (w : World) (g : Nat) (s : ByteArray) (v m : Int) : Prop where
  c0 : w.cell? ⟨g, 0, none⟩ = some (.string s)
  c1 : w.cell? ⟨g, 1, none⟩ = some (.int .i64 v)
  c2 : w.cell? ⟨g, 2, none⟩ = some (.int .i64 m)
theorem Got.made (w : World) (s : ByteArray) (v m : Int) : Got (w.alloc (.cells #[.string s, .int .i64 v, .int .i64 m, .slice none 0 0, .string ByteArray.empty] 31)) w.heap.size s v m := ⟨by simp [go_sem], by simp [go_sem], by simp [go_sem]⟩
theorem Got.kept {w w' : World} {g : Nat} {s : ByteArray} {v m : Int} (h : Got w g s v m) (hg : w.grownBy w' none) : Got w' g s v m := by
  have lg : g < w.heap.size := World.block_lt_of_cell? _ _ h.c0
  have e := hg.block g lg (by simp)
  exact ⟨(World.cell?_of_block (a := ⟨g, 0, none⟩) e).trans h.c0, (World.cell?_of_block (a := ⟨g, 1, none⟩) e).trans h.c1, (World.cell?_of_block (a := ⟨g, 2, none⟩) e).trans h.c2⟩
theorem Got.drewN {w : World} {g : Nat} {s : ByteArray} {v m : Int} (h : Got w g s v m) (n : Nat) : Got (w.drewN n) g s v m := ⟨h.c0, h.c1, h.c2⟩

set_option maxHeartbeats 4000000 in
set_option maxRecDepth 100000 in
theorem walk_big (s : ByteArray) (a1 : Option Addr) (n cap1 : Nat) (b o : Nat) (V M : Nat → Int) (w : World) (hn : n ≤ 4096) (hs : s.size + 16 * n ≤ 1048576)
    (ha : 0 < n → a1 = some ⟨b, o, none⟩) (hc : ∀ i, i < n → b < w.heap.size ∧ w.cell? ⟨b, o + i * 2, none⟩ = some (.int .i64 (V i)) ∧ w.cell? ⟨b, o + i * 2 + 1, none⟩ = some (.int .i64 (M i))) :
    Calls Try.prog 3 #[.string s, .slice a1 n cap1] w fun e w' => e = .returned (.bool true) ∧ Below w.heap.size w w' := by
  have hdb : okB s.size n = true := by unfold okB; simp; omega
  have hd1 : decide ((4096 : Int) < (n : Int)) = false := decide_eq_false (by omega)
  have hd2 : ¬ (1048576 : Int) < (s.size : Int) := by omega
  go_enter Try.func3, Try.ntmps3
  go_wp2_with (go_at_call 4; refine (bytes4 _ _ _ _ _ (by omega) (by omega)).mono ?_; rintro e w' ⟨rfl, hw⟩; obtain rfl := hw.symm)
  go_loopg [5] n (fun g i wx => ∃ t : Nat, t ≤ n ∧ g = n - t ∧ i = .int .i64 t ∧ (∀ j, j < t → M j < V j) ∧ Below w.heap.size w wx)
  case atStart => exact ⟨0, Nat.zero_le _, rfl, rfl, fun j hj => absurd hj (Nat.not_lt_zero _), Below.refl _ _⟩
  case round =>
    obtain ⟨t, ht, rfl, rfl, hM, hB⟩ := hrel
    by_cases htn : t < n
    · obtain rfl := ha (by omega)
      have htz : (t : Int) < (n : Int) := by omega
      have hM' : Hid (∀ j, j < t → M j < V j) := hM
      clear hM
      have g1 : wr.cell? ⟨b, o + t * 2, none⟩ = some (.int .i64 (V t)) := by rw [hB.cell (p := ⟨b, o + t * 2, none⟩) (hc t htn).1]; exact (hc t htn).2.1
      have g2 : wr.cell? ⟨b, o + t * 2 + 1, none⟩ = some (.int .i64 (M t)) := by rw [hB.cell (p := ⟨b, o + t * 2 + 1, none⟩) (hc t htn).1]; exact (hc t htn).2.2
      by_cases hv : V t ≤ M t
      · go_wp2_with fail
        go_quiet (fail)
        go_wp2_with fail
        go_ret
        exact ⟨rfl, below_drewN hB _⟩
      · go_wp2_with fail
        go_quiet (fail)
        go_wp2_with fail
        go_roundg (n - (t + 1))
        case measure => omega
        case rel => exact ⟨t + 1, by omega, rfl, by go_num, fun j hj => by by_cases e : j = t; (subst e; omega); exact hM'.out j (by omega), below_drewN hB _⟩
    have ht' : t = n := by omega
    subst ht'
    go_wp2_with fail
    refine (newBare5 _ s).mono ?_
    rintro e w1 ⟨m1, mb1, rfl, hm1, l1, l2, l3, hB1⟩
    have hMV : Hid (∀ j, j < t → M j < V j) := hM
    have hBf : Below w.heap.size w w1 := hB.trans (hB1.mono hB.size)
    have lw := hB.size
    clear hM hB hB1
    go_wp2_with fail
    go_loopg [7] t (fun g i wx => ∃ k : Nat, k ≤ t ∧ g = t - k ∧ i = .int .i64 k ∧ ∃ st, FW V M k st ∧ Mi wx m1 mb1 s st ∧ Below w.heap.size w wx)
    case atStart => exact ⟨0, Nat.zero_le _, rfl, rfl, none, FW.start V M, hm1, hBf⟩
    case round =>
      clear hm1 hBf
      obtain ⟨k, hk, rfl, rfl, st, hF, hm1, hBf⟩ := hrel
      by_cases hkt : k < t
      · obtain rfl := ha (by omega)
        have hkz : (k : Int) < (t : Int) := by omega
        have g1 : wr.cell? ⟨b, o + k * 2, none⟩ = some (.int .i64 (V k)) := by rw [hBf.cell (p := ⟨b, o + k * 2, none⟩) (hc k hkt).1]; exact (hc k hkt).2.1
        have g2 : wr.cell? ⟨b, o + k * 2 + 1, none⟩ = some (.int .i64 (M k)) := by rw [hBf.cell (p := ⟨b, o + k * 2 + 1, none⟩) (hc k hkt).1]; exact (hc k hkt).2.2
        have hlt := hMV.out k hkt
        go_wp2_with fail
        go_region_with (go_at_call 6; refine (note6' _ m1 mb1 s (V k) (M k) st hm1.drew hlt).mono ?_; rintro e w2 ⟨rfl, hm2, hg2⟩)
        all_goals
          go_wp2_with fail
          go_roundg (t - (k + 1))
          case measure => omega
          case rel => exact ⟨k + 1, by omega, rfl, by go_num, _, hF.step, hm2, Below.grown hBf.drew hg2 (by have := hBf.size; exact this) (by intro k hk; obtain rfl := Option.some.inj hk; omega)⟩
      have hk' : k = t := by omega
      subst hk'
      go_wp2_with fail
      refine (newBare5 _ s).mono ?_
      rintro e w2 ⟨m2, mb2, rfl, hm2, l4, l5, l6, hB2⟩
      have k1 := hm1.lm
      have k2 := hm1.lb
      have hm1' : Mi w2 m1 mb1 s st := ⟨(hB2.cell (p := ⟨m1, 14, none⟩) k1).trans hm1.cell, (hB2.block mb1 k2).trans hm1.map⟩
      have hB3 : Below w.heap.size w w2 := hBf.trans (hB2.mono hBf.size)
      have lw2 := hBf.size
      clear hm1 hBf hB2
      go_wp2_with fail
      go_loopg [9] k (fun g i wx => ∃ a : Nat, a ≤ k ∧ a = g ∧ i = .int .i64 ((a : Int) - 1) ∧ ∃ st2, BW V M a k st2 ∧ Mi wx m2 mb2 s st2 ∧ Mi wx m1 mb1 s st ∧ Below w.heap.size w wx)
      case atStart => exact ⟨k, Nat.le_refl _, rfl, by go_num, none, BW.start V M k, hm2, hm1', hB3⟩
      case round =>
        clear hm2 hm1' hB3
        obtain ⟨a, ha', rfl, rfl, st2, hW, hm2, hm1, hB3⟩ := hrel
        cases a with
        | zero =>
          by_cases hk0 : k = 0
          · subst hk0
            have e1 : st = none := by
              rcases hF with ⟨_, h⟩ | ⟨l, hl, _⟩
              · exact h
              · have := hl.lt; omega
            have e2 : st2 = none := by
              rcases hW with ⟨_, h⟩ | ⟨l, hl, _⟩
              · exact h
              · have := hl.lt; omega
            subst e1
            subst e2
            go_wp2_with fail
            refine (kept7_none _ m1 mb1 s hm1).mono ?_
            rintro e w3 ⟨rfl, hg3⟩
            have hm3 := hm2.kept hg3 (by simp) (by simp)
            have hB4 := Below.grown hB3 hg3 hB3.size (by simp)
            clear hm1 hm2 hB3 hg3
            go_wp2_with fail
            refine (kept7_none _ m2 mb2 s (hm3.kept (World.grownBy_alloc _ _ none) (by simp) (by simp))).mono ?_
            rintro e w4 ⟨rfl, hg4⟩
            have hB5 := Below.grown (hB4.alloc hB4.size _) hg4 (by have := hB4.size; simp; omega) (by simp)
            clear hm3 hB4 hg4
            go_wp2_with fail
            go_ret
            exact ⟨rfl, hB5.alloc hB5.size _⟩
          · obtain ⟨l, hl, e1⟩ : ∃ l, IsLast V k l ∧ st = some (V l, M l) := by
              rcases hF with ⟨h, _⟩ | h
              · omega
              · exact h
            obtain ⟨f, hf, e2⟩ : ∃ f, IsFirst V 0 k f ∧ st2 = some (V f, M f) := by
              rcases hW with ⟨h, _⟩ | h
              · omega
              · exact h
            subst e1
            subst e2
            clear hF hW
            have HL : Hid (IsLast V k l) := hl
            have HF : Hid (IsFirst V 0 k f) := hf
            clear hl hf
            go_wp2_with fail
            refine (kept7_some _ m1 mb1 s (V l) (M l) hm1).mono ?_
            rintro e w3 ⟨rfl, hg3⟩
            have hm3 := hm2.kept hg3 (by simp) (by simp)
            have hB4 := Below.grown hB3 hg3 hB3.size (by simp)
            clear hm1 hm2 hB3 hg3
            go_wp2_with fail
            refine (kept7_some _ m2 mb2 s (V f) (M f) (hm3.kept (World.grownBy_alloc _ _ none) (by simp) (by simp))).mono ?_
            rintro e w4 ⟨rfl, hg4⟩
            have hB5 := Below.grown (hB4.alloc hB4.size _) hg4 (by have := hB4.size; simp; omega) (by simp)
            have hkb : ((k : Int) == 0) = false := beq_eq_false_iff_ne.2 (by omega)
            have G2 := Got.made w4 s (V f) (M f)
            have G1 := ((Got.made w3 s (V l) (M l)).kept hg4).kept (World.grownBy_alloc w4 (.cells #[.string s, .int .i64 (V f), .int .i64 (M f), .slice none 0 0, .string ByteArray.empty] 31) none)
            have hB6 := hB5.alloc hB5.size (.cells #[.string s, .int .i64 (V f), .int .i64 (M f), .slice none 0 0, .string ByteArray.empty] 31)
            clear hm3 hB4 hg4 hB5
            go_wp2_with fail
            go_loopg [14, 15, 16] (k - 1) (fun g x y z wx => ∃ i f' l' : Nat, 1 ≤ i ∧ i ≤ k ∧ g = k - i ∧ x = .int .i64 (f' : Int) ∧ y = .int .i64 (l' : Int) ∧ z = .int .i64 (i : Int) ∧ IsFirst V 0 i f' ∧ IsLast V i l' ∧ Got wx w3.heap.size s (V l) (M l) ∧ Got wx w4.heap.size s (V f) (M f) ∧ Below w.heap.size w wx)
            case atStart => exact ⟨1, 0, 0, by omega, by omega, rfl, rfl, rfl, rfl, (search_start V).1, (search_start V).2, G1, G2, hB6⟩
            case round =>
              clear G1 G2 hB6
              obtain ⟨i, f', l', hi1, hik, rfl, rfl, rfl, rfl, hf', hl', G1, G2, hB5⟩ := hrel
              obtain rfl := ha (by omega)
              have lf' := hf'.lt
              have ll' := hl'.lt
              have HF' : Hid (IsFirst V 0 i f') := hf'
              have HL' : Hid (IsLast V i l') := hl'
              clear hf' hl'
              by_cases hik2 : i < k
              · have hiz : (i : Int) < (k : Int) := by omega
                have hfz : (f' : Int) < (k : Int) := by omega
                have g1 : wr.cell? ⟨b, o + i * 2, none⟩ = some (.int .i64 (V i)) := by rw [hB5.cell (p := ⟨b, o + i * 2, none⟩) (hc i hik2).1]; exact (hc i hik2).2.1
                have g2 : wr.cell? ⟨b, o + f' * 2, none⟩ = some (.int .i64 (V f')) := by rw [hB5.cell (p := ⟨b, o + f' * 2, none⟩) (hc f' (by omega)).1]; exact (hc f' (by omega)).2.1
                by_cases hq : V f' < V i
                · skip
                  go_wp2_with fail
                  go_quiet (fail)
                  go_wp2_with fail
                  go_roundg (k - (i + 1))
                  case measure => omega
                  case rel => exact ⟨i + 1, i, i, by omega, by omega, rfl, rfl, rfl, by go_num, (search_gt HF'.out HL'.out hq).1, (search_gt HF'.out HL'.out hq).2, G1.drewN _, G2.drewN _, below_drewN hB5 _⟩
                by_cases hq2 : V i = V f'
                · have hb : (V i == V f') = true := beq_iff_eq.2 hq2
                  have HQ : Hid (V i = V f') := hq2
                  clear hq2
                  go_wp2_with fail
                  go_quiet (fail)
                  go_wp2_with fail
                  go_quiet (fail)
                  go_wp2_with fail
                  go_roundg (k - (i + 1))
                  case measure => omega
                  case rel => exact ⟨i + 1, f', i, by omega, by omega, rfl, rfl, rfl, by go_num, (search_eq HF'.out HL'.out HQ.out).1, (search_eq HF'.out HL'.out HQ.out).2, G1.drewN _, G2.drewN _, below_drewN hB5 _⟩
                have hb : (V i == V f') = false := beq_eq_false_iff_ne.2 hq2
                have HQ : Hid (V i < V f') := by show V i < V f'; omega
                clear hq2
                go_wp2_with fail
                go_quiet (fail)
                go_wp2_with fail
                go_quiet (fail)
                go_wp2_with fail
                go_roundg (k - (i + 1))
                case measure => omega
                case rel => exact ⟨i + 1, f', l', by omega, by omega, rfl, rfl, rfl, by go_num, (search_lt HF'.out HL'.out HQ.out).1, (search_lt HF'.out HL'.out HQ.out).2, G1.drewN _, G2.drewN _, below_drewN hB5 _⟩
              · have hik3 : i = k := by omega
                subst hik3
                obtain rfl := HF'.out.unique HF.out
                obtain rfl := HL'.out.unique HL.out
                have hfz : (f' : Int) < (i : Int) := by omega
                have hlz : (l' : Int) < (i : Int) := by omega
                have g1 : wr.cell? ⟨b, o + l' * 2, none⟩ = some (.int .i64 (V l')) := by rw [hB5.cell (p := ⟨b, o + l' * 2, none⟩) (hc l' ll').1]; exact (hc l' ll').2.1
                have g2 : wr.cell? ⟨b, o + l' * 2 + 1, none⟩ = some (.int .i64 (M l')) := by rw [hB5.cell (p := ⟨b, o + l' * 2 + 1, none⟩) (hc l' ll').1]; exact (hc l' ll').2.2
                have g3 : wr.cell? ⟨b, o + f' * 2, none⟩ = some (.int .i64 (V f')) := by rw [hB5.cell (p := ⟨b, o + f' * 2, none⟩) (hc f' lf').1]; exact (hc f' lf').2.1
                have g4 : wr.cell? ⟨b, o + f' * 2 + 1, none⟩ = some (.int .i64 (M f')) := by rw [hB5.cell (p := ⟨b, o + f' * 2 + 1, none⟩) (hc f' lf').1]; exact (hc f' lf').2.2
                have p0 := G1.c0
                have p1 := G1.c1
                have p2 := G1.c2
                have p3 := G2.c0
                have p4 := G2.c1
                have p5 := G2.c2
                go_wp2_with fail
                go_quiet (fail)
                go_wp2_with fail
                go_ret
                exact ⟨rfl, below_drewN hB5 _⟩
        | succ a =>
          obtain rfl := ha (by omega)
          have hak : a < k := by omega
          have hkz : (a : Int) < (k : Int) := by omega
          have g1 : wr.cell? ⟨b, o + a * 2, none⟩ = some (.int .i64 (V a)) := by rw [hB3.cell (p := ⟨b, o + a * 2, none⟩) (hc a hak).1]; exact (hc a hak).2.1
          have g2 : wr.cell? ⟨b, o + a * 2 + 1, none⟩ = some (.int .i64 (M a)) := by rw [hB3.cell (p := ⟨b, o + a * 2 + 1, none⟩) (hc a hak).1]; exact (hc a hak).2.2
          have hlt := hMV.out a hak
          go_wp2_with fail
          go_region_with (go_at_call 6; refine (note6' _ m2 mb2 s (V a) (M a) st2 hm2.drew hlt).mono ?_; rintro e w3 ⟨rfl, hm3, hg3⟩)
          all_goals
            go_wp2_with fail
            go_roundg a
            case measure => omega
            case rel => exact ⟨a, by omega, rfl, by go_num, _, hW.step hak, hm3, hm1.drew.kept hg3 (by simp; omega) (by simp; omega), Below.grown hB3.drew hg3 (by have := hB3.size; exact this) (by intro k hk; obtain rfl := Option.some.inj hk; omega)⟩

/-- What the walk is told of the slice of states that came in. -/
def IsStates (w : World) (a : Option Addr) (len : Nat) : Prop :=
  len ≤ 9223372036854775807 ∧ ∃ (b o : Nat) (V M : Nat → Int), (0 < len → a = some ⟨b, o, none⟩) ∧ ∀ i, i < len → b < w.heap.size ∧ w.cell? ⟨b, o + i * 2, none⟩ = some (.int .i64 (V i)) ∧ w.cell? ⟨b, o + i * 2 + 1, none⟩ = some (.int .i64 (M i))

set_option maxRecDepth 100000 in
theorem walk (s : ByteArray) (a1 : Option Addr) (len1 cap1 : Nat) (w : World) (hs : s.size ≤ maxLen) (w1 : IsStates w a1 len1) :
    Calls Try.prog 3 #[.string s, .slice a1 len1 cap1] w fun e w' => e = .returned (.bool true) ∧ Below w.heap.size w w' := by
  unfold maxLen at hs
  have hl := w1.1
  cases hb : okB s.size len1 with
  | true =>
    have hb2 : s.size ≤ 1048576 ∧ len1 ≤ 1048576 := by unfold okB at hb; simp at hb; omega
    have hd2 : ¬ (1048576 : Int) < (s.size : Int) := by omega
    by_cases g3 : (4096 : Int) < (len1 : Int)
    · go_enter Try.func3, Try.ntmps3
      go_wp2_with (go_at_call 4; refine (bytes4 _ _ _ _ _ hs hl).mono ?_; rintro e w' ⟨rfl, rfl⟩)
      go_ret
      exact ⟨rfl, Below.refl _ _⟩
    by_cases g4 : (1048576 : Int) < (s.size : Int) + 16 * (len1 : Int)
    · have g3' : decide ((4096 : Int) < (len1 : Int)) = false := decide_eq_false g3
      go_enter Try.func3, Try.ntmps3
      go_wp2_with (go_at_call 4; refine (bytes4 _ _ _ _ _ hs hl).mono ?_; rintro e w' ⟨rfl, rfl⟩)
      go_ret
      exact ⟨rfl, Below.refl _ _⟩
    obtain ⟨_, b, o, V, M, ha, hc⟩ := w1
    exact walk_big s a1 len1 cap1 b o V M w (by omega) (by omega) ha hc
  | false =>
    go_enter Try.func3, Try.ntmps3
    go_wp2_with (go_at_call 4; refine (bytes4 _ _ _ _ _ hs hl).mono ?_; rintro e w' ⟨rfl, rfl⟩)
    go_ret
    exact ⟨rfl, Below.refl _ _⟩

end Go.Proofs.Qxb6614774a
