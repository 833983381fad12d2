/-
  THE PLAIN LAW: which mirror is kept, forwards and backwards. No Go in sight (but for 'nst', what one note leaves).
-/
import Derived.Test.Qxb6614774aBase
namespace Go.Proofs.Qxb6614774a

/-- l: the last place of the greatest among the first k. -/
structure IsLast (V : Nat → Int) (k l : Nat) : Prop where
  lt : l < k
  le : ∀ j, j < k → V j ≤ V l
  after : ∀ j, l < j → j < k → V j < V l
/-- f: the first place of the greatest among those from a up to n. -/
structure IsFirst (V : Nat → Int) (a n f : Nat) : Prop where
  ge : a ≤ f
  lt : f < n
  le : ∀ j, a ≤ j → j < n → V j ≤ V f
  before : ∀ j, a ≤ j → j < f → V j < V f

theorem IsLast.unique {V : Nat → Int} {k l l' : Nat} (h : IsLast V k l) (h' : IsLast V k l') : l = l' := by
  have a1 := h.le l' h'.lt
  have a2 := h'.le l h.lt
  have b1 := h.after l'
  have b2 := h'.after l
  have c1 := h.lt
  have c2 := h'.lt
  by_cases e : l < l'
  · have := b1 e c2; omega
  · by_cases e' : l' < l
    · have := b2 e' c1; omega
    · omega

theorem IsFirst.unique {V : Nat → Int} {a n f f' : Nat} (h : IsFirst V a n f) (h' : IsFirst V a n f') : f = f' := by
  have a1 := h.le f' h'.ge h'.lt
  have a2 := h'.le f h.ge h.lt
  have b1 := h.before f' h'.ge
  have b2 := h'.before f h.ge
  by_cases e : f' < f
  · have := b1 e; omega
  · by_cases e' : f < f'
    · have := b2 e'; omega
    · omega

/-- What is kept behind the first k notes. -/
def FW (V M : Nat → Int) (k : Nat) (st : Option (Int × Int)) : Prop := (k = 0 ∧ st = none) ∨ ∃ l, IsLast V k l ∧ st = some (V l, M l)
/-- What is kept behind the notes of the places n - 1 down to a. -/
def BW (V M : Nat → Int) (a n : Nat) (st : Option (Int × Int)) : Prop := (a = n ∧ st = none) ∨ ∃ f, IsFirst V a n f ∧ st = some (V f, M f)

theorem FW.start (V M : Nat → Int) : FW V M 0 none := .inl ⟨rfl, rfl⟩
theorem BW.start (V M : Nat → Int) (n : Nat) : BW V M n n none := .inl ⟨rfl, rfl⟩

theorem FW.step {V M : Nat → Int} {k : Nat} {st : Option (Int × Int)} (h : FW V M k st) : FW V M (k + 1) (nst st (V k) (M k)) := by
  rcases h with ⟨rfl, rfl⟩ | ⟨l, hl, rfl⟩
  · refine .inr ⟨0, ⟨by omega, fun j hj => ?_, fun j h1 h2 => by omega⟩, rfl⟩
    have : j = 0 := by omega
    subst this; omega
  · right
    have c1 := hl.lt
    by_cases e : V l ≤ V k
    · refine ⟨k, ⟨by omega, fun j hj => ?_, fun j h1 h2 => by omega⟩, by simp [nst, e]⟩
      by_cases ej : j = k
      · subst ej; omega
      · have := hl.le j (by omega); omega
    · refine ⟨l, ⟨by omega, fun j hj => ?_, fun j h1 h2 => ?_⟩, by simp [nst, e]⟩
      · by_cases ej : j = k
        · subst ej; omega
        · exact hl.le j (by omega)
      · by_cases ej : j = k
        · subst ej; omega
        · exact hl.after j h1 (by omega)

theorem BW.step {V M : Nat → Int} {a n : Nat} {st : Option (Int × Int)} (h : BW V M (a + 1) n st) (ha : a < n) : BW V M a n (nst st (V a) (M a)) := by
  rcases h with ⟨h1, rfl⟩ | ⟨f, hf, rfl⟩
  · refine .inr ⟨a, ⟨by omega, by omega, fun j h2 h3 => ?_, fun j h2 h3 => by omega⟩, rfl⟩
    have : j = a := by omega
    subst this; omega
  · right
    have c1 := hf.lt
    have c2 := hf.ge
    by_cases e : V f ≤ V a
    · refine ⟨a, ⟨by omega, by omega, fun j h2 h3 => ?_, fun j h2 h3 => by omega⟩, by simp [nst, e]⟩
      by_cases ej : j = a
      · subst ej; omega
      · have := hf.le j (by omega) h3; omega
    · refine ⟨f, ⟨by omega, by omega, fun j h2 h3 => ?_, fun j h2 h3 => ?_⟩, by simp [nst, e]⟩
      · by_cases ej : j = a
        · subst ej; omega
        · exact hf.le j (by omega) h3
      · by_cases ej : j = a
        · subst ej; omega
        · exact hf.before j (by omega) h3

theorem FW.out {V M : Nat → Int} {k l : Nat} {st : Option (Int × Int)} (h : FW V M k st) (hl : IsLast V k l) : st = some (V l, M l) := by
  rcases h with ⟨rfl, _⟩ | ⟨l', h', rfl⟩
  · have := hl.lt; omega
  · rw [h'.unique hl]
theorem BW.out {V M : Nat → Int} {n f : Nat} {st : Option (Int × Int)} (h : BW V M 0 n st) (hf : IsFirst V 0 n f) : st = some (V f, M f) := by
  rcases h with ⟨rfl, _⟩ | ⟨f', h', rfl⟩
  · have := hf.lt; omega
  · rw [h'.unique hf]

/-! ### the law's own search -/
theorem search_start (V : Nat → Int) : IsFirst V 0 1 0 ∧ IsLast V 1 0 :=
  ⟨⟨by omega, by omega, fun j _ h => by have : j = 0 := by omega
                                        subst this; omega, fun j _ h => by omega⟩,
   ⟨by omega, fun j h => by have : j = 0 := by omega
                            subst this; omega, fun j h1 h2 => by omega⟩⟩
theorem search_gt {V : Nat → Int} {i f l : Nat} (hf : IsFirst V 0 i f) (hl : IsLast V i l) (h : V f < V i) : IsFirst V 0 (i + 1) i ∧ IsLast V (i + 1) i := by
  refine ⟨⟨by omega, by omega, fun j _ hj => ?_, fun j _ hj => ?_⟩, ⟨by omega, fun j hj => ?_, fun j h1 h2 => by omega⟩⟩
  · by_cases e : j = i
    · subst e; omega
    · have := hf.le j (by omega) (by omega); omega
  · have := hf.le j (by omega) hj; omega
  · by_cases e : j = i
    · subst e; omega
    · have := hf.le j (by omega) (by omega); omega
theorem search_eq {V : Nat → Int} {i f l : Nat} (hf : IsFirst V 0 i f) (hl : IsLast V i l) (h : V i = V f) : IsFirst V 0 (i + 1) f ∧ IsLast V (i + 1) i := by
  have c := hf.lt
  refine ⟨⟨by omega, by omega, fun j _ hj => ?_, fun j h1 hj => hf.before j h1 hj⟩, ⟨by omega, fun j hj => ?_, fun j h1 h2 => by omega⟩⟩
  · by_cases e : j = i
    · subst e; omega
    · exact hf.le j (by omega) (by omega)
  · by_cases e : j = i
    · subst e; omega
    · have := hf.le j (by omega) (by omega); omega
theorem search_lt {V : Nat → Int} {i f l : Nat} (hf : IsFirst V 0 i f) (hl : IsLast V i l) (h : V i < V f) : IsFirst V 0 (i + 1) f ∧ IsLast V (i + 1) l := by
  have c := hf.lt
  have c2 := hl.lt
  have c3 := hl.le f c
  refine ⟨⟨by omega, by omega, fun j _ hj => ?_, fun j h1 hj => hf.before j h1 hj⟩, ⟨by omega, fun j hj => ?_, fun j h1 h2 => ?_⟩⟩
  · by_cases e : j = i
    · subst e; omega
    · exact hf.le j (by omega) (by omega)
  · by_cases e : j = i
    · subst e; omega
    · exact hl.le j (by omega)
  · by_cases e : j = i
    · subst e; omega
    · exact hl.after j h1 (by omega)
end Go.Proofs.Qxb6614774a
