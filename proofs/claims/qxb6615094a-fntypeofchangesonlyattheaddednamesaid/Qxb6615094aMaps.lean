/-
  THE TWO MAPS OF A SCOPE, in plain words: 'OwnsSet' (map[Type]bool, every element true or absent) and 'OwnsTypes' (map[string]Type); what a store and a look-up do to them.
-/
import Derived.Test.Qxb6615094aLeaf
import Derived.Maps.OwnSet
import Derived.Maps.StringElems
namespace Go.Proofs.Qxb6615094a
open Go.RowKit Go.Maps Go.WideMaps
set_option linter.unusedVariables false

theorem law28 : Keyed Try.prog 28 := string_keyed Try.underlying28
theorem law9 : Keyed Try.prog 9 := string_keyed Try.underlying9
theorem zero4 (w : World) : (zeroValue 4).run Try.prog w = .ok (.bool false) w := by kernel_rfl
theorem zero28 (w : World) : (zeroValue 28).run Try.prog w = .ok (.string ⟨#[]⟩) w := by kernel_rfl

theorem plainElem_bool_inv {H : Type} {P : Program} {e : TypeId} (he : P.underlying e = some .bool) {v : Value} {z : DataW H × List MemPlace} (h : plainElem P e v = some z) : ∃ x : Bool, v = .bool x ∧ z = (.lit (.bool x), []) := by
  unfold plainElem at h
  rw [he] at h
  cases v <;> simp at h
  exact ⟨_, rfl, h.symm⟩

theorem bytes_ext {a b : ByteArray} (h : a.data.toList = b.data.toList) : a = b := by
  cases a; cases b
  simp only [ByteArray.mk.injEq]
  exact Array.toList_inj.1 h

theorem beq_bytes (a b : ByteArray) : (a.toList == b.toList) = decide (a = b) := by
  rw [Bool.eq_iff_iff]
  simp only [beq_iff_eq, decide_eq_true_eq, ByteArray.toList_eq]
  exact ⟨bytes_ext, fun h => by rw [h]⟩

def key (s : ByteArray) : Lit := .string s.data.toList
theorem key_isKey (s : ByteArray) : WideAt.IsKeyLit (key s) := by trivial
theorem key_ne {a b : ByteArray} (h : a ≠ b) : key a ≠ key b := fun e => h (bytes_ext (by simpa [key] using e))

/-- Block b is a map[Type]bool of at most n entries in which the name s is true just if f s. -/
def OwnsSet (w : World) (b n : Nat) (f : ByteArray → Bool) : Prop :=
  ∃ D : DataW Unit, w.ownsMap Try.prog 28 (plainElem Try.prog 4) b n D ∧ ∀ s, D.atKey (key s) (.lit (.bool false)) = .lit (.bool (f s))

/-- Block b is a map[string]Type of at most n entries that holds g s at s. -/
def OwnsTypes (w : World) (b n : Nat) (g : ByteArray → Option ByteArray) : Prop :=
  ∃ D : DataW Unit, w.ownsMap Try.prog 9 (plainElem Try.prog 28) b n D ∧ ∀ s, has D (key s) = (g s).isSome ∧ D.atKey (key s) (.lit (.string [])) = .lit (.string ((g s).getD ⟨#[]⟩).data.toList)

theorem OwnsSet.made (w : World) : OwnsSet (w.alloc (.map #[] 0)) w.heap.size 0 (fun _ => false) :=
  ⟨.map [], World.ownsMap_made _ _ _ _, fun s => rfl⟩
theorem OwnsTypes.made (w : World) : OwnsTypes (w.alloc (.map #[] 0)) w.heap.size 0 (fun _ => none) :=
  ⟨.map [], World.ownsMap_made _ _ _ _, fun s => ⟨rfl, rfl⟩⟩

theorem OwnsSet.kept {w w' : World} {row : Option Nat} {b n : Nat} {f : ByteArray → Bool} (h : OwnsSet w b n f) (hg : w.grownBy w' row) (hne : some b ≠ row) : OwnsSet w' b n f := by
  obtain ⟨D, h1, h2⟩ := h
  exact ⟨D, h1.kept hg hne, h2⟩
theorem OwnsTypes.kept {w w' : World} {row : Option Nat} {b n : Nat} {f : ByteArray → Option ByteArray} (h : OwnsTypes w b n f) (hg : w.grownBy w' row) (hne : some b ≠ row) : OwnsTypes w' b n f := by
  obtain ⟨D, h1, h2⟩ := h
  exact ⟨D, h1.kept hg hne, h2⟩
theorem OwnsSet.block {w w' : World} {b n : Nat} {f : ByteArray → Bool} (h : OwnsSet w b n f) (hb : w'.heap[b]? = w.heap[b]?) : OwnsSet w' b n f := by
  obtain ⟨D, ⟨es, clock, h1⟩, h2⟩ := h
  exact ⟨D, ⟨es, clock, hb.trans h1.1, h1.2⟩, h2⟩
theorem OwnsTypes.block {w w' : World} {b n : Nat} {f : ByteArray → Option ByteArray} (h : OwnsTypes w b n f) (hb : w'.heap[b]? = w.heap[b]?) : OwnsTypes w' b n f := by
  obtain ⟨D, ⟨es, clock, h1⟩, h2⟩ := h
  exact ⟨D, ⟨es, clock, hb.trans h1.1, h1.2⟩, h2⟩
theorem OwnsSet.lt {w : World} {b n : Nat} {f : ByteArray → Bool} (h : OwnsSet w b n f) : b < w.heap.size := by obtain ⟨D, h1, _⟩ := h; exact h1.lt
theorem OwnsTypes.lt {w : World} {b n : Nat} {f : ByteArray → Option ByteArray} (h : OwnsTypes w b n f) : b < w.heap.size := by obtain ⟨D, h1, _⟩ := h; exact h1.lt

/-- 'm[s] = true'. -/
theorem OwnsSet.update {w : World} {b n : Nat} {f : ByteArray → Bool} (h : OwnsSet w b n f) (hn : n < maxLen) {s : ByteArray} (hs : s.size ≤ maxLen) :
    ∃ w', (Instr.mapUpdate 35 (.map (some b)) (.string s) (.bool true)).run Try.prog w = .ok () w' ∧ OwnsSet w' b (n + 1) (fun x => f x || s.toList == x.toList) ∧ w.grownBy w' (some b) := by
  obtain ⟨D, h1, h2⟩ := h
  obtain ⟨w', hrun, hown, hg⟩ := h1.update law28 Try.underlying35 hn (keyOf_string_mk Try.underlying28 hs) (plainElem_bool Try.underlying4 true)
  refine ⟨w', hrun, ⟨_, hown, fun x => ?_⟩, hg⟩
  simp only [beq_bytes]
  by_cases e : s = x
  · subst e
    show (D.put (key s) _).atKey (key s) _ = _
    rw [atKey_put_same h1.isMap (key_isKey s)]
    simp
  · show (D.put (key s) _).atKey (key x) _ = _
    rw [atKey_put_other (key_ne (fun h => e h.symm)), h2]
    simp [e]

/-- 'm[s]'. -/
theorem OwnsSet.look {w : World} {b n : Nat} {f : ByteArray → Bool} (h : OwnsSet w b n f) {s : ByteArray} (hs : s.size ≤ maxLen) :
    (Instr.lookup 35 (.map (some b)) (.string s) false).run Try.prog w = .ok (.bool (f s)) w := by
  obtain ⟨D, h1, h2⟩ := h
  obtain ⟨v, ps, hrun, hv⟩ := h1.lookup law28 Try.underlying35 (zero4 w) (plainElem_bool Try.underlying4 false) (keyOf_string_mk Try.underlying28 hs)
  obtain ⟨x, rfl, hx⟩ := plainElem_bool_inv Try.underlying4 hv
  simp only [Prod.mk.injEq] at hx
  have e := h2 s
  unfold key at e
  rw [hx.1] at e
  simp only [DataW.lit.injEq, Lit.bool.injEq] at e
  rw [hrun, e]

/-- 'm[s] = v'. -/
theorem OwnsTypes.update {w : World} {b n : Nat} {g : ByteArray → Option ByteArray} (h : OwnsTypes w b n g) (hn : n < maxLen) {s v : ByteArray} (hs : s.size ≤ maxLen) (hv : v.size ≤ maxLen) :
    ∃ w', (Instr.mapUpdate 39 (.map (some b)) (.string s) (.string v)).run Try.prog w = .ok () w' ∧ OwnsTypes w' b (n + 1) (fun x => if s.toList == x.toList then some v else g x) ∧ w.grownBy w' (some b) := by
  obtain ⟨D, h1, h2⟩ := h
  obtain ⟨w', hrun, hown, hg⟩ := h1.update law9 Try.underlying39 hn (keyOf_string_mk Try.underlying9 hs) (plainElem_string Try.underlying28 hv)
  refine ⟨w', hrun, ⟨_, hown, fun x => ?_⟩, hg⟩
  simp only [beq_bytes]
  by_cases e : s = x
  · subst e
    refine ⟨?_, ?_⟩
    · show has (D.put (key s) _) (key s) = _
      rw [has_put_same h1.isMap (key_isKey s)]
      simp
    · show (D.put (key s) _).atKey (key s) _ = _
      rw [atKey_put_same h1.isMap (key_isKey s)]
      simp
  · refine ⟨?_, ?_⟩
    · show has (D.put (key s) _) (key x) = _
      rw [has_put_other (key_ne (fun h => e h.symm)), (h2 x).1]
      simp [e]
    · show (D.put (key s) _).atKey (key x) _ = _
      rw [atKey_put_other (key_ne (fun h => e h.symm)), (h2 x).2]
      simp [e]

/-- 'v, ok := m[s]'. -/
theorem OwnsTypes.look {w : World} {b n : Nat} {g : ByteArray → Option ByteArray} (h : OwnsTypes w b n g) {s : ByteArray} (hs : s.size ≤ maxLen) :
    (Instr.lookup 39 (.map (some b)) (.string s) true).run Try.prog w = .ok (.tuple #[.string ((g s).getD ⟨#[]⟩), .bool (g s).isSome]) w := by
  obtain ⟨D, h1, h2⟩ := h
  obtain ⟨v, ps, hrun, hv⟩ := h1.look_ok law9 Try.underlying39 (zero28 w) (plainElem_string (H := Unit) (s := ⟨#[]⟩) Try.underlying28 (Nat.zero_le _)) (keyOf_string_mk Try.underlying9 hs)
  obtain ⟨x, rfl, hx, _⟩ := plainElem_string_inv Try.underlying28 hv
  simp only [Prod.mk.injEq] at hx
  have e := (h2 s).2
  have e1 := (h2 s).1
  unfold key at e e1
  have hx1 := hx.1
  rw [show (DataW.lit (Lit.string (ByteArray.mk #[]).data.toList) : DataW Unit) = .lit (.string []) from rfl, e] at hx1
  simp only [DataW.lit.injEq, Lit.string.injEq] at hx1
  rw [hrun, e1, bytes_ext hx1]

end Go.Proofs.Qxb6615094a
