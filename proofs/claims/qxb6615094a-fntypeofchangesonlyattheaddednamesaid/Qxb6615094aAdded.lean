/-
  THE PLAIN LAW of 'FnTypeOfChangesOnlyAtTheAddedName': what one name more turns in the answers.
-/
import Derived.Test.Qxb6615094aTypeOf
namespace Go.Proofs.Qxb6615094a
set_option linter.unusedVariables false

theorem getD_snoc_lt (l : List ByteArray) (x : ByteArray) (n : Nat) (h : n < l.length) : (l ++ [x]).getD n ByteArray.empty = l.getD n ByteArray.empty := by
  simp only [List.getD_eq_getElem?_getD]
  rw [List.getElem?_append_left h]

theorem getD_snoc_len (l : List ByteArray) (x : ByteArray) (n : Nat) (h : n = l.length) : (l ++ [x]).getD n ByteArray.empty = x := by
  subst h
  simp [List.getD_eq_getElem?_getD]

theorem lookTo_snoc_lt (s1 s2 : List ByteArray) (x y s : ByteArray) (hl : s2.length = s1.length) : ∀ n, n ≤ s1.length → lookTo (s1 ++ [x]) (s2 ++ [y]) n s = lookTo s1 s2 n s
  | 0, _ => rfl
  | n + 1, h => by
    simp only [lookTo]
    rw [getD_snoc_lt s1 x n (by omega), getD_snoc_lt s2 y n (by omega), lookTo_snoc_lt s1 s2 x y s hl n (by omega)]

theorem lookTo_snoc (s1 s2 : List ByteArray) (x y s : ByteArray) (hl : s2.length = s1.length) :
    lookTo (s1 ++ [x]) (s2 ++ [y]) (s1.length + 1) s = if x.toList == s.toList then some y else lookTo s1 s2 s1.length s := by
  simp only [lookTo]
  rw [getD_snoc_len s1 x _ rfl, getD_snoc_len s2 y _ hl.symm, lookTo_snoc_lt s1 s2 x y s hl _ (Nat.le_refl _)]

theorem among_snoc (ss : List ByteArray) (x s : ByteArray) : among (ss ++ [x]) s = (among ss s || x.toList == s.toList) := by
  simp [among]

/-- An import more: at q. -/
theorem import_hit (f : ByteArray → Bool) (s1 s2 : List ByteArray) (q x y : ByteArray) (hl : s2.length = s1.length) (he : (q.toList == x.toList) = true) (hq : qual q = false) :
    ansT (lookTo (s1 ++ [x]) (s2 ++ [y]) (s1.length + 1)) q = y ∧ ansB f (lookTo (s1 ++ [x]) (s2 ++ [y]) (s1.length + 1)) q = true := by
  have e : (x.toList == q.toList) = true := by rw [beq_iff_eq] at he ⊢; exact he.symm
  simp [ansT, ansB, hq, lookTo_snoc s1 s2 x y q hl, e]

theorem import_qual (f : ByteArray → Bool) (g g' : ByteArray → Option ByteArray) (q : ByteArray) (hq : qual q = true) :
    ansT g' q = ansT g q ∧ ansB f g' q = ansB f g q := by
  simp [ansT, ansB, hq]

theorem import_miss (f : ByteArray → Bool) (s1 s2 : List ByteArray) (q x y : ByteArray) (hl : s2.length = s1.length) (he : (q.toList == x.toList) = false) :
    ansT (lookTo (s1 ++ [x]) (s2 ++ [y]) (s1.length + 1)) q = ansT (lookTo s1 s2 s1.length) q ∧ ansB f (lookTo (s1 ++ [x]) (s2 ++ [y]) (s1.length + 1)) q = ansB f (lookTo s1 s2 s1.length) q := by
  have e : (x.toList == q.toList) = false := by rw [beq_eq_false_iff_ne] at he ⊢; exact fun h => he h.symm
  simp [ansT, ansB, lookTo_snoc s1 s2 x y q hl, e]

/-- A type more loaded: at q. -/
theorem load_hit (s0 : List ByteArray) (g : ByteArray → Option ByteArray) (q x : ByteArray) (he : (q.toList == x.toList) = true) (hq : qual q = true) :
    ansT g q = q ∧ ansB (among (s0 ++ [x])) g q = true := by
  have e : (x.toList == q.toList) = true := by rw [beq_iff_eq] at he ⊢; exact he.symm
  simp [ansT, ansB, hq, among_snoc, e]

theorem load_plain (f f' : ByteArray → Bool) (g : ByteArray → Option ByteArray) (q : ByteArray) (hq : qual q = false) : ansB f' g q = ansB f g q := by
  simp [ansB, hq]

theorem load_miss (s0 : List ByteArray) (g : ByteArray → Option ByteArray) (q x : ByteArray) (he : (q.toList == x.toList) = false) : ansB (among (s0 ++ [x])) g q = ansB (among s0) g q := by
  have e : (x.toList == q.toList) = false := by rw [beq_eq_false_iff_ne] at he ⊢; exact fun h => he h.symm
  simp [ansB, among_snoc, e]
end Go.Proofs.Qxb6615094a
