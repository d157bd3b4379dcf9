/-
  THE BYTES: 'zzClone', 'zzEqualBytes', 'zzSameBytes' and the two guards on size.
-/
import Derived.Test.Qxb6615558aProg
import Derived.WalkKit
import Derived.WalkSpells
import Derived.WalkLawsBesides
import Derived.RegionTactic
import Derived.ChangeAlike
import Derived.Deep.QuietTactic
import Derived.BigQuiet
namespace Go.Proofs.Qxb6615558a
open Go.RowKit
set_option linter.unusedVariables false

/-- A SLICE OF BYTES: the slice at 'a' of length 'zs.length' holds the numbers 'zs'. -/
def Ints (w : World) (a : Option Addr) (zs : List Int) : Prop :=
  zs = [] ∨ ∃ b off, a = some ⟨b, off, none⟩ ∧ ∀ i, i < zs.length → w.cell? ⟨b, off + i, none⟩ = some (.int .u8 (zs.getD i 0))

theorem Ints.get {w : World} {a : Option Addr} {zs : List Int} (h : Ints w a zs) {k : Nat} (hk : k < zs.length) :
    ∃ b o, (∀ (W : World) (cap : Nat), (Instr.indexAt 22 (.slice a zs.length cap) (.int .i64 k)).run Try.prog W = .ok (.pointer (some ⟨b, o, none⟩)) W) ∧ w.cell? ⟨b, o, none⟩ = some (.int .u8 (zs.getD k 0)) := by
  rcases h with rfl | ⟨b, off, rfl, hc⟩
  · simp at hk
  · refine ⟨b, off + k, fun W cap => ?_, hc k hk⟩
    rw [run_indexAt_slice (h := by kernel_rfl), if_pos (by omega)]
    have e : ∀ W : World, (sizeOf (Try.prog.elem 22)).run Try.prog W = .ok 1 W := fun _ => by kernel_rfl
    simp only [e, Result.andThen, Addr.add, Int.toNat_natCast, Nat.mul_one]
    split
    · rename_i h; simp [h]
    · rfl

theorem Ints.kept {w w' : World} {a : Option Addr} {zs : List Int} (h : Ints w a zs) {row : Option Nat} (hg : w.grownBy w' row) (hne : ∀ x, a = some x → some x.block ≠ row) : Ints w' a zs := by
  rcases h with rfl | ⟨b, off, rfl, hc⟩
  · exact Or.inl rfl
  · exact Or.inr ⟨b, off, rfl, fun i hi => (World.cell?_of_block (hg.block b (World.block_lt_of_cell? _ _ (hc i hi)) (hne _ rfl))).trans (hc i hi)⟩

theorem Ints.later {w w' : World} {a : Option Addr} {zs : List Int} (h : Ints w a zs) (hb : Below w.heap.size w w') : Ints w' a zs := by
  rcases h with rfl | ⟨b, off, rfl, hc⟩
  · exact Or.inl rfl
  · exact Or.inr ⟨b, off, rfl, fun i hi => (hb.cell (World.block_lt_of_cell? _ _ (hc i hi))).trans (hc i hi)⟩

theorem info5 : (Try.prog.info? 5).map (fun i => (i.zero, i.size, i.bytes)) = some (some (.int .u8 0), 1, 1) := by kernel_rfl

def blank (c : Nat) : Array Value := madeCells #[.int .u8 0] c
theorem size_blank (c : Nat) : (blank c).size = c := size_madeCells _ _

theorem run_mk (n : Nat) (hc : n ≤ 1048576) (w : World) :
    (Instr.makeSlice 22 (.int .i64 n) (.int .i64 n)).run Try.prog w = .ok (.slice (some ⟨w.heap.size, 0, none⟩) n n) (w.alloc (.cells (blank n) 5)) := by
  obtain ⟨i0, hi, hz0, hz1, hz2⟩ := info_parts info5
  have hr := run_make (P := Try.prog) w 22 5 i0 (.int .u8 0) Try.underlying22 hi hz0 .i64 .i64 n n (by omega) (by omega) (by rw [hz2]; omega) (by omega)
  rw [hz1] at hr
  simpa [blank, Value.cells] using hr

/-- It hands back a copy: nil where the slice is nil; nothing old is written. -/
def Cloned (w : World) (a : Option Addr) (zs : List Int) (e : Ending) (w' : World) : Prop :=
  ∃ a' c', e = .returned (.slice a' zs.length c') ∧ a'.isNone = a.isNone ∧ Ints w' a' zs ∧ (∀ x, a' = some x → w.heap.size ≤ x.block ∧ x.block < w'.heap.size) ∧ Below w.heap.size w w'

theorem heap_store {w : World} {b o : Nat} {cs : Array Value} {t : TypeId} {fr : Nat × Nat} (h : w.heap[b]? = some (.cells cs t fr)) (v : Value) : (w.setCell ⟨b, o, none⟩ v).heap[b]? = some (.cells (cs.setIfInBounds o v) t fr) := by
  rw [show w.setCell ⟨b, o, none⟩ v = w.setRow b (cs.setIfInBounds o v) from setCell_eq_setRow w b o cs t fr v h]
  exact setRow_heap w b cs _ t fr h

set_option maxHeartbeats 400000 in
theorem clone_any (a : Option Addr) (c : Nat) (zs : List Int) (w : World) (hl : zs.length ≤ 1048576) (hZ : Ints w a zs) :
    Calls Try.prog 6 #[.slice a zs.length c] w fun e w' => Cloned w a zs e w' := by
  have hn := fun (W : World) (a : Option Addr) (n c : Nat) => Lib.run_eql_slice_nil (P := Try.prog) W 22 5 a n c 0 0 Try.underlying22
  cases a with
  | none =>
    have hz : zs = [] := by
      rcases hZ with h | ⟨b, off, h, _⟩
      · exact h
      · cases h
    subst hz
    go_enter Try.func6, Try.ntmps6
    go_wp2
    go_ret
    exact ⟨none, 0, rfl, rfl, Or.inl rfl, fun x h => (by cases h), Below.refl _ _⟩
  | some x =>
    have hmk := run_mk zs.length hl
    go_enter Try.func6, Try.ntmps6
    go_wp2
    go_loopw [4] (fun i wr => ∃ k : Nat, k ≤ zs.length ∧ i = .int .i64 k ∧ (∃ cur : Array Value, wr.heap[w.heap.size]? = some (.cells cur 5 (0, 0)) ∧ cur.size = zs.length ∧ ∀ j, j < k → cur[j]? = some (.int .u8 (zs.getD j 0))) ∧ Below w.heap.size w wr)
      (fun i _ => zs.length - (intOf i).toNat)
    case atStart => exact ⟨0, Nat.zero_le _, rfl, ⟨blank zs.length, (MapKept.heap_alloc w _).1, size_blank _, fun j hj => by omega⟩, (Below.refl _ _).alloc (Nat.le_refl _) _⟩
    case round =>
      obtain ⟨k, hk, rfl, ⟨cur, hcur, hsz, hset⟩, hbel⟩ := hrel
      by_cases hlt : k < zs.length
      · obtain ⟨b, o, hix, hck⟩ := (hZ.later hbel).get hlt
        obtain ⟨old, hold⟩ : ∃ old, wr.cell? ⟨w.heap.size, k, none⟩ = some old := ⟨cur[k]'(by omega), by simp [World.cell?, hcur, hsz, hlt]⟩
        have hfr : wr.frozen? ⟨w.heap.size, k, none⟩ = false := by simp [World.frozen?, hcur]
        have R1 : ∃ cur' : Array Value, (wr.setCell ⟨w.heap.size, k, none⟩ (.int .u8 (zs.getD k 0))).heap[w.heap.size]? = some (.cells cur' 5 (0, 0)) ∧ cur'.size = zs.length ∧ ∀ j, j < k + 1 → cur'[j]? = some (.int .u8 (zs.getD j 0)) := by
          refine ⟨_, heap_store hcur _, by simpa using hsz, fun j hj => ?_⟩
          by_cases e : j = k
          · subst e
            simp [hsz, hlt]
          · rw [Array.getElem?_setIfInBounds, if_neg (fun h => e h.symm)]
            exact hset j (by omega)
        have R2 : Below w.heap.size w (wr.setCell ⟨w.heap.size, k, none⟩ (.int .u8 (zs.getD k 0))) := hbel.setCell (Nat.le_refl _) _
        have HR1 : Hid (∃ cur' : Array Value, (wr.setCell ⟨w.heap.size, k, none⟩ (.int .u8 (zs.getD k 0))).heap[w.heap.size]? = some (.cells cur' 5 (0, 0)) ∧ cur'.size = zs.length ∧ ∀ j, j < k + 1 → cur'[j]? = some (.int .u8 (zs.getD j 0))) := R1
        clear R1
        generalize hv : zs.getD k 0 = v at hck HR1 R2
        clear hcur hsz hset hv
        go_wp2
        go_roundw
        case rel => exact ⟨k + 1, by omega, by go_num, HR1.out, R2⟩
        case measure => simp [intOf]; omega
      · have F : Cloned w (some x) zs (.returned (.slice (some ⟨w.heap.size, 0, none⟩) zs.length zs.length)) wr := by
          refine ⟨_, _, rfl, rfl, Or.inr ⟨w.heap.size, 0, rfl, fun i hi => ?_⟩, fun y hy => ?_, hbel⟩
          · simp only [World.cell?, hcur, Nat.zero_add]
            exact hset i (by omega)
          · cases hy
            exact ⟨Nat.le_refl _, (Array.getElem?_eq_some_iff.1 hcur).1⟩
        clear hcur hsz hset
        go_wp2
        go_ret
        exact F

set_option maxHeartbeats 400000 in
theorem equal_any (a b : Option Addr) (c d : Nat) (zs : List Int) (w : World) (hl : zs.length ≤ 1048576) (hA : Ints w a zs) (hB : Ints w b zs) :
    Calls Try.prog 20 #[.slice a zs.length c, .slice b zs.length d] w fun e w' => e = .returned (.bool true) ∧ ∃ n, w' = w.drewN n := by
  go_enter Try.func20, Try.ntmps20
  go_wp2
  go_loopw [5] (fun i wr => ∃ k : Nat, k ≤ zs.length ∧ i = .int .i64 k ∧ ∃ n, wr = w.drewN n) (fun i _ => zs.length - (intOf i).toNat)
  case atStart => exact ⟨0, Nat.zero_le _, rfl, 0, rfl⟩
  case round =>
    obtain ⟨k, hk, rfl, n, rfl⟩ := hrel
    by_cases hlt : k < zs.length
    · obtain ⟨b1, o1, hix1, hck1⟩ := hA.get hlt
      obtain ⟨b2, o2, hix2, hck2⟩ := hB.get hlt
      generalize zs.getD k 0 = v at hck1 hck2
      go_wp2
      go_quiet (fail)
      go_wp2
      go_roundw
      case rel => exact ⟨k + 1, by omega, by go_num, _, rfl⟩
      case measure => simp [intOf]; omega
    · go_wp2
      go_ret
      exact ⟨rfl, n, rfl⟩

set_option maxHeartbeats 400000 in
theorem same_any (a b : Option Addr) (c d : Nat) (zs : List Int) (w : World) (hl : zs.length ≤ 1048576) (hA : Ints w a zs) (hB : Ints w b zs) (hab : a.isNone = b.isNone) :
    Calls Try.prog 11 #[.slice a zs.length c, .slice b zs.length d] w fun e w' => e = .returned (.bool true) ∧ ∃ n, w' = w.drewN n := by
  have hn := fun (W : World) (a : Option Addr) (n c : Nat) => Lib.run_eql_slice_nil (P := Try.prog) W 22 5 a n c 0 0 Try.underlying22
  have he := equal_any a b c d zs w hl hA hB
  have HE : Hid (Calls Try.prog 20 #[.slice a zs.length c, .slice b zs.length d] w fun e w' => e = .returned (.bool true) ∧ ∃ n, w' = w.drewN n) := he
  clear he
  go_enter Try.func11, Try.ntmps11
  go_wp2_with fail
  refine HE.out.mono ?_
  rintro e w1 ⟨rfl, n, rfl⟩
  go_wp2
  go_ret
  exact ⟨rfl, n, rfl⟩

/-- It answers a bool; nothing is written. -/
def Answers (e : Ending) : Prop := ∃ r : Bool, e = .returned (.bool r)
theorem Answers.no : Answers (.returned (.bool false)) := ⟨false, rfl⟩
theorem Answers.yes : Answers (.returned (.bool true)) := ⟨true, rfl⟩

set_option maxHeartbeats 400000 in
theorem guardR_any (a : Option Addr) (n c : Nat) (s : ByteArray) (d : Int) (w : World) (hn : n ≤ maxLen) (hs : s.size ≤ maxLen) :
    Calls Try.prog 5 #[.slice a n c, .string s, .int .i64 d] w fun e w' => Answers e ∧ w' = w := by
  unfold maxLen at *
  go_enter Try.func5, Try.ntmps5
  go_wp2
  all_goals
    go_ret
    first | exact ⟨Answers.no, rfl⟩ | exact ⟨Answers.yes, rfl⟩

set_option maxHeartbeats 400000 in
theorem guardW_any (a : Option Addr) (n c : Nat) (s : ByteArray) (d d' : Int) (w : World) (hn : n ≤ maxLen) (hs : s.size ≤ maxLen) :
    Calls Try.prog 12 #[.slice a n c, .string s, .int .i64 d, .int .i64 d'] w fun e w' => Answers e ∧ w' = w := by
  unfold maxLen at *
  go_enter Try.func12, Try.ntmps12
  go_wp2
  all_goals
    go_ret
    first | exact ⟨Answers.no, rfl⟩ | exact ⟨Answers.yes, rfl⟩
end Go.Proofs.Qxb6615558a
