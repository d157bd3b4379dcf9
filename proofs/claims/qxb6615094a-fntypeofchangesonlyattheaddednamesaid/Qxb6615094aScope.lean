/-
  'ZZnewTypeScope' and 'ZZtypeOf': a scope in memory, and what it answers.
-/
import Derived.Test.Qxb6615094aMaps
import Derived.RegionTactic
import Derived.ChangeAlike
import Derived.Deep.QuietTactic
import Derived.BigQuiet
namespace Go.Proofs.Qxb6615094a
open Go.RowKit Go.Maps
set_option linter.unusedVariables false

theorem Strs.later {w w' : World} {a : Option Addr} {ss : List ByteArray} (h : Strs w a ss) (hb : Below w.heap.size w w') : Strs w' a ss := by
  rcases h with rfl | ⟨b, off, rfl, hc⟩
  · exact Or.inl rfl
  · exact Or.inr ⟨b, off, rfl, fun i hi => (hb.cell (World.block_lt_of_cell? _ _ (hc i hi))).trans (hc i hi)⟩

/-- BLOCK p OF w IS A SCOPE: a name is loaded just if f; g gives what is imported under it. -/
def Scope (w : World) (p : Nat) (f : ByteArray → Bool) (g : ByteArray → Option ByteArray) : Prop :=
  ∃ tb ml mt n1 n2, w.cell? ⟨p, 0, none⟩ = some (.pointer (some ⟨tb, 0, none⟩)) ∧ w.cell? ⟨p, 2, none⟩ = some (.map (some mt)) ∧ w.cell? ⟨tb, 0, none⟩ = some (.map (some ml)) ∧ OwnsSet w ml n1 f ∧ OwnsTypes w mt n2 g

def NewScope (w : World) (f : ByteArray → Bool) (g : ByteArray → Option ByteArray) (e : Ending) (w' : World) : Prop :=
  ∃ p, e = .returned (.pointer (some ⟨p, 0, none⟩)) ∧ Scope w' p f g ∧ Below w.heap.size w w'

theorem Below.shrink {B : Nat} {w w' : World} (h : Below B w w') (hB : w.heap.size ≤ B) : Below w.heap.size w w' := h.mono hB

set_option maxHeartbeats 1000000 in
theorem newScope_any (a0 a1 a2 : Option Addr) (c0 c1 c2 : Nat) (s0 s1 s2 : List ByteArray) (w : World)
    (l0 : s0.length ≤ 131072) (l1 : s1.length ≤ 131072) (l2 : s2.length = s1.length)
    (b0 : ∀ s ∈ s0, s.size ≤ maxLen) (b1 : ∀ s ∈ s1, s.size ≤ maxLen) (b2 : ∀ s ∈ s2, s.size ≤ maxLen)
    (S0 : Strs w a0 s0) (S1 : Strs w a1 s1) (S2 : Strs w a2 s2) :
    Calls Try.prog 8 #[.slice a0 s0.length c0, .slice a1 s1.length c1, .slice a2 s2.length c2] w fun e w' =>
      NewScope w (among s0) (lookTo s1 s2 s1.length) e w' := by
  have hmm := @run_makeMap Try.prog
  have L2 : Hid (s2.length = s1.length) := l2
  have l2' : s2.length ≤ 131072 := by omega
  clear l2
  go_enter Try.func8, Try.ntmps8
  go_wp2
  go_loopw [8] (fun i wr => ∃ k : Nat, k ≤ s0.length ∧ i = .int .i64 k ∧ OwnsSet wr w.heap.size k (fun x => among (s0.take k) x) ∧ Below w.heap.size w wr ∧ wr.cell? ⟨w.heap.size + 1 + 1, 0, none⟩ = some (.map (some w.heap.size)))
    (fun i _ => s0.length - (intOf i).toNat)
  case atStart =>
    exact ⟨0, Nat.zero_le _, rfl, ((OwnsSet.made w).kept (World.grownBy_alloc _ _ none) (by simp)).kept (World.grownBy_alloc _ _ none) (by simp),
      (((Below.refl _ _).alloc (Nat.le_refl _) _).alloc (by simp) _).alloc (by simp; omega) _, by simp [go_sem]⟩
  case round =>
    obtain ⟨k, hk, rfl, hown, hbel, hts⟩ := hrel
    by_cases hlt : k < s0.length
    · obtain ⟨b, o, hix, hck⟩ := (S0.later hbel).get hlt
      have hbk := b0 _ (getD_mem s0 k hlt)
      have hst : Hid (∀ x, among (s0.take (k + 1)) x = (among (s0.take k) x || (s0.getD k ByteArray.empty).toList == x.toList)) := fun x => among_take_succ s0 x k hlt
      generalize s0.getD k ByteArray.empty = s at hck hbk hst
      obtain ⟨w1, hrun, hown1, hg1⟩ := (show OwnsSet wr.drew _ _ _ from hown).update (by unfold maxLen; omega) hbk
      have R1 : OwnsSet w1 w.heap.size (k + 1) (fun x => among (s0.take (k + 1)) x) := by
        have e : (fun x => among (s0.take (k + 1)) x) = (fun x => among (s0.take k) x || s.toList == x.toList) := funext hst.out
        rw [e]; exact hown1
      have R2 : Below w.heap.size w w1 := hbel.drew.grown hg1 hbel.size (fun j hj => by cases hj; exact Nat.le_refl _)
      have R3 : w1.cell? ⟨w.heap.size + 1 + 1, 0, none⟩ = some (.map (some w.heap.size)) := by
        have hlt2 := World.block_lt_of_cell? _ _ hts
        exact (World.cell?_of_block (hg1.block (w.heap.size + 1 + 1) hlt2 (by simp; omega))).trans hts
      clear hown1 hg1 hown
      go_wp2
      go_region
      go_wp2
      go_roundw
      case rel => exact ⟨k + 1, by omega, by go_num, R1, R2, R3⟩
      case measure => simp [intOf]; omega
    · rw [show s0.take k = s0 from List.take_of_length_le (by omega)] at hown
      have hB : w.heap.size + 1 + 1 < wr.heap.size := World.block_lt_of_cell? _ _ hts
      have S1r := S1.later hbel
      have S2r := S2.later hbel
      clear S0 S1 S2
      obtain ⟨v, rfl⟩ : ∃ v, v = wr := ⟨wr, rfl⟩
      go_wp2
      go_loopw [10] (fun i wr => ∃ j : Nat, j ≤ s1.length ∧ i = .int .i64 j ∧ OwnsTypes wr (v.heap.size + 1) j (fun x => lookTo s1 s2 j x) ∧ Below v.heap.size v wr ∧ wr.cell? ⟨v.heap.size + 1 + 1, 0, none⟩ = some (.pointer (some ⟨w.heap.size + 1 + 1, 0, none⟩)) ∧ wr.cell? ⟨v.heap.size + 1 + 1, 2, none⟩ = some (.map (some (v.heap.size + 1))))
        (fun i _ => s1.length - (intOf i).toNat)
      case atStart =>
        refine ⟨0, Nat.zero_le _, rfl, ?_, (((Below.refl _ _).alloc (Nat.le_refl _) _).alloc (by simp) _).alloc (by simp; omega) _, by simp [go_sem], by simp [go_sem]⟩
        have hm := OwnsTypes.made (v.alloc (.map #[] 0))
        have e : (v.alloc (.map #[] 0)).heap.size = v.heap.size + 1 := by simp
        rw [e] at hm
        exact hm.kept (World.grownBy_alloc _ _ none) (by simp)
      case round =>
        obtain ⟨j, hj, rfl, hot, hbv, hc0, hc2⟩ := hrel
        by_cases hlj : j < s1.length
        · have hlj2 : j < s2.length := by have := L2.out; omega
          obtain ⟨b, o, hix, hck⟩ := (S1r.later hbv).get hlj
          obtain ⟨b', o', hix', hck'⟩ := (S2r.later hbv).get hlj2
          have hbk := b1 _ (getD_mem s1 j hlj)
          have hbk' := b2 _ (getD_mem s2 j hlj2)
          have hst : Hid (∀ x, lookTo s1 s2 (j + 1) x = if (s1.getD j ByteArray.empty).toList == x.toList then some (s2.getD j ByteArray.empty) else lookTo s1 s2 j x) := fun x => rfl
          generalize s1.getD j ByteArray.empty = s at hck hbk hst
          generalize s2.getD j ByteArray.empty = t at hck' hbk' hst
          obtain ⟨w1, hrun, hown1, hg1⟩ := (show OwnsTypes wr.drew _ _ _ from hot).update (by unfold maxLen; omega) hbk hbk'
          have R1 : OwnsTypes w1 (v.heap.size + 1) (j + 1) (fun x => lookTo s1 s2 (j + 1) x) := by
            have e : (fun x => lookTo s1 s2 (j + 1) x) = (fun x => if s.toList == x.toList then some t else lookTo s1 s2 j x) := funext hst.out
            rw [e]; exact hown1
          have R2 : Below v.heap.size v w1 := hbv.drew.grown hg1 hbv.size (fun j hj => by cases hj; omega)
          have hlt2 := World.block_lt_of_cell? _ _ hc0
          have R3 : w1.cell? ⟨v.heap.size + 1 + 1, 0, none⟩ = some (.pointer (some ⟨w.heap.size + 1 + 1, 0, none⟩)) :=
            (World.cell?_of_block (hg1.block (v.heap.size + 1 + 1) hlt2 (by simp))).trans hc0
          have R4 : w1.cell? ⟨v.heap.size + 1 + 1, 2, none⟩ = some (.map (some (v.heap.size + 1))) :=
            (World.cell?_of_block (hg1.block (v.heap.size + 1 + 1) hlt2 (by simp))).trans hc2
          clear hown1 hg1 hot
          go_wp2
          go_region
          go_wp2
          go_roundw
          case rel => exact ⟨j + 1, by omega, by go_num, R1, R2, R3, R4⟩
          case measure => simp [intOf]; omega
        · have ej : j = s1.length := by omega
          have F : NewScope w (among s0) (lookTo s1 s2 s1.length) (.returned (.pointer (some ⟨v.heap.size + 1 + 1, 0, none⟩))) wr := by
            subst ej
            refine ⟨_, rfl, ⟨_, _, _, _, _, hc0, hc2, (hbv.cell hB).trans hts, hown.block (hbv.block _ hown.lt), hot⟩, ?_⟩
            exact hbel.trans (hbv.mono hbel.size)
          clear ej hot hc0 hc2 hown
          go_wp2
          go_ret
          exact F
end Go.Proofs.Qxb6615094a
