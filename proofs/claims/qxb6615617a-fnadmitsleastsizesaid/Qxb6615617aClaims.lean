/-
  THE CLAIMS: 'zzBytes_FnAdmitsLeastSize', 'zzClaimsOK', 'zzClaimMap'.
-/
import Derived.Test.Qxb6615617aProg
import Derived.WalkKit
import Derived.WalkSpells
import Derived.WalkLawsBesides
import Derived.Maps.OwnSet
import Derived.Maps.RangeWalk
namespace Go.Proofs.Qxb6615617a
open Go.RowKit Go.Maps
set_option linter.unusedVariables false

/-- A SLICE OF int64: the slice at 'a' of length 'zs.length' holds the numbers 'zs'. -/
def Ints (w : World) (a : Option Addr) (zs : List Int) : Prop :=
  zs = [] ∨ ∃ b off, a = some ⟨b, off, none⟩ ∧ ∀ i, i < zs.length → w.cell? ⟨b, off + i, none⟩ = some (.int .i64 (zs.getD i 0))

theorem Ints.get {w : World} {a : Option Addr} {zs : List Int} (h : Ints w a zs) {k : Nat} (hk : k < zs.length) :
    ∃ b o, (∀ (W : World) (cap : Nat), (Instr.indexAt 25 (.slice a zs.length cap) (.int .i64 k)).run Try.prog W = .ok (.pointer (some ⟨b, o, none⟩)) W) ∧ w.cell? ⟨b, o, none⟩ = some (.int .i64 (zs.getD k 0)) := by
  rcases h with rfl | ⟨b, off, rfl, hc⟩
  · simp at hk
  · refine ⟨b, off + k, fun W cap => ?_, hc k hk⟩
    rw [run_indexAt_slice (h := by kernel_rfl), if_pos (by omega)]
    have e : ∀ W : World, (sizeOf (Try.prog.elem 25)).run Try.prog W = .ok 1 W := fun _ => by kernel_rfl
    simp only [e, Result.andThen, Addr.add, Int.toNat_natCast, Nat.mul_one]
    split
    · rename_i h; simp [h]
    · rfl

theorem Ints.later {w w' : World} {a : Option Addr} {zs : List Int} (h : Ints w a zs) (hb : Below w.heap.size w w') : Ints w' a zs := by
  rcases h with rfl | ⟨b, off, rfl, hc⟩
  · exact Or.inl rfl
  · exact Or.inr ⟨b, off, rfl, fun i hi => (hb.cell (World.block_lt_of_cell? _ _ (hc i hi))).trans (hc i hi)⟩

theorem getD_mem (zs : List Int) (k : Nat) (h : k < zs.length) : zs.getD k 0 ∈ zs := by
  rw [List.getD_eq_getElem?_getD, List.getElem?_eq_getElem h]
  exact List.getElem_mem h

theorem mem_take_succ (zs : List Int) (k : Nat) (h : k < zs.length) (x : Int) : x ∈ zs.take (k + 1) ↔ x = zs.getD k 0 ∨ x ∈ zs.take k := by
  rw [List.take_succ_eq_append_getElem h, List.mem_append, List.getD_eq_getElem?_getD, List.getElem?_eq_getElem h]
  simp [or_comm]

/-- It answers a bool; where that is true, p holds. -/
def Answers (p : Prop) (e : Ending) : Prop := ∃ r : Bool, e = .returned (.bool r) ∧ (r = true → p)
theorem Answers.no {p : Prop} : Answers p (.returned (.bool false)) := ⟨false, rfl, fun h => by cases h⟩
theorem Answers.yes {p : Prop} (h : p) : Answers p (.returned (.bool true)) := ⟨true, rfl, fun _ => h⟩

set_option maxHeartbeats 400000 in
theorem guard_any (a : Option Addr) (n c : Nat) (x0 x1 x3 x4 x5 : Int) (w : World) (hn : n ≤ maxLen) :
    Calls Try.prog 7 #[.int .i64 x0, .int .i64 x1, .slice a n c, .int .i64 x3, .int .i64 x4, .int .i64 x5] w fun e w' => Answers True e ∧ w' = w := by
  unfold maxLen at hn
  go_enter Try.func7, Try.ntmps7
  go_wp2
  all_goals
    go_ret
    first | exact ⟨Answers.no, rfl⟩ | exact ⟨Answers.yes trivial, rfl⟩

/-- Every number lies between 0 and 2 to the 60. -/
def Fine (zs : List Int) : Prop := ∀ z ∈ zs, 0 ≤ z ∧ z ≤ 1152921504606846976

set_option maxHeartbeats 400000 in
theorem claimsOK_any (a : Option Addr) (c : Nat) (zs : List Int) (w : World) (hl : zs.length ≤ 65536) (hZ : Ints w a zs) :
    Calls Try.prog 8 #[.slice a zs.length c] w fun e w' => Answers (Fine zs) e ∧ w' = w := by
  go_enter Try.func8, Try.ntmps8
  go_wp2
  go_loop [3] (fun i => ∃ k : Nat, k ≤ zs.length ∧ i = .int .i64 k ∧ Hid (Fine (zs.take k))) (fun i => zs.length - (intOf i).toNat)
  case atStart => exact ⟨0, Nat.zero_le _, rfl, fun z hz => by simp at hz⟩
  case round =>
    obtain ⟨k, hk, rfl, hf⟩ := hrel
    by_cases hlt : k < zs.length
    · obtain ⟨b, o, hix, hck⟩ := hZ.get hlt
      have hst : Hid (0 ≤ zs.getD k 0 ∧ zs.getD k 0 ≤ 1152921504606846976 → Fine (zs.take (k + 1))) := by
        intro h z hz
        rcases (mem_take_succ zs k hlt z).1 hz with rfl | hz
        · exact h
        · exact hf.out z hz
      generalize zs.getD k 0 = v at hck hst
      by_cases h0 : 0 ≤ v
      · by_cases h1 : v ≤ 1152921504606846976
        · go_wp2
          go_round
          case rel => exact ⟨k + 1, by omega, by go_num, hst.out ⟨h0, h1⟩⟩
          case measure => simp [intOf]; omega
        · go_wp2
          go_ret
          exact ⟨Answers.no, rfl⟩
      · go_wp2
        go_ret
        exact ⟨Answers.no, rfl⟩
    · have hf2 : Fine zs := by
        have := hf.out
        rwa [List.take_of_length_le (by omega)] at this
      go_wp2
      go_ret
      exact ⟨Answers.yes (by first | trivial | exact hf2), rfl⟩

theorem law2 : Keyed Try.prog 2 := int_keyed Try.underlying2
theorem zero3 (w : World) : (zeroValue 3).run Try.prog w = .ok (.int .i64 0) w := by kernel_rfl

/-- Block b is a map[int64]int of at most n entries whose keys are the numbers of 'zs'. -/
def Keys (w : World) (b n : Nat) (zs : List Int) : Prop :=
  ∃ D : DataW Unit, w.ownsMap Try.prog 2 (plainElem Try.prog 3) b n D ∧ ∀ x, has D (.int .i64 x) = true ↔ x ∈ zs

theorem Keys.later {w w' : World} {b n : Nat} {zs : List Int} (h : Keys w b n zs) (hb : w'.heap[b]? = w.heap[b]?) : Keys w' b n zs := by
  obtain ⟨D, ⟨es, clock, h1⟩, h2⟩ := h
  exact ⟨D, ⟨es, clock, hb.trans h1.1, h1.2⟩, h2⟩
theorem Keys.lt {w : World} {b n : Nat} {zs : List Int} (h : Keys w b n zs) : b < w.heap.size := by obtain ⟨D, h1, _⟩ := h; exact h1.lt

theorem run_makeMap_hint (n : Int) (w : World) : (Instr.makeMap 28 (some (.int .i64 n))).run Try.prog w = .ok (.map (some w.heap.size)) (w.alloc (.map #[] 0)) := by
  simp [Instr.makeMap, run_underlying Try.underlying28, asInt, asIntOf, newObj, go_sem]
  rfl

theorem keys_put {D : DataW Unit} (hD : IsMap D) {zs : List Int} (h : ∀ x, has D (.int .i64 x) = true ↔ x ∈ zs) (v : Int) (d : DataW Unit) (x : Int) : has (D.put (.int .i64 v) d) (.int .i64 x) = true ↔ x = v ∨ x ∈ zs := by
  by_cases e : x = v
  · subst e
    rw [has_put_same hD (show WideAt.IsKeyLit (.int .i64 x) from by trivial)]
    simp
  · rw [has_put_other (fun h => e (by simpa using h)), h]
    simp [e]

/-- It hands back a new map of just those keys. -/
def Mapped (w : World) (zs : List Int) (e : Ending) (w' : World) : Prop :=
  ∃ b n, e = .returned (.map (some b)) ∧ Keys w' b n zs ∧ w.heap.size ≤ b ∧ Below w.heap.size w w'

set_option maxHeartbeats 400000 in
theorem claimMap_any (a : Option Addr) (c : Nat) (zs : List Int) (w : World) (hl : zs.length ≤ 65536) (hZ : Ints w a zs) (hF : Fine zs) :
    Calls Try.prog 9 #[.slice a zs.length c] w fun e w' => Mapped w zs e w' := by
  have hmm := run_makeMap_hint
  go_enter Try.func9, Try.ntmps9
  go_wp2
  go_loopw [4] (fun i wr => ∃ k : Nat, k ≤ zs.length ∧ i = .int .i64 k ∧ Keys wr w.heap.size k (zs.take k) ∧ Below w.heap.size w wr)
    (fun i _ => zs.length - (intOf i).toNat)
  case atStart => exact ⟨0, Nat.zero_le _, rfl, ⟨.map [], World.ownsMap_made _ _ _ _, fun x => by simp [has]⟩, (Below.refl _ _).alloc (Nat.le_refl _) _⟩
  case round =>
    obtain ⟨k, hk, rfl, ⟨D, hown, hks⟩, hbel⟩ := hrel
    have HK : Hid (∀ x, has D (.int .i64 x) = true ↔ x ∈ zs.take k) := hks
    clear hks
    by_cases hlt : k < zs.length
    · obtain ⟨b, o, hix, hck⟩ := (hZ.later hbel).get hlt
      have hfv := hF _ (getD_mem zs k hlt)
      have hms : Hid (∀ x, x ∈ zs.take (k + 1) ↔ x = zs.getD k 0 ∨ x ∈ zs.take k) := mem_take_succ zs k hlt
      generalize zs.getD k 0 = v at hck hfv hms
      have hkey : keyOf Try.prog 2 (.int .i64 v) = some (.int .i64 v) := keyOf_int_mk Try.underlying2 (WalkArith.wf_i64 (by omega))
      go_wp2_with (first
        | (at_lookup; refine wpList_lookup_own_int _ rfl _ _ 28 rfl 2 3 .i64 law2 Try.underlying28 Try.underlying3 (zero3 _) w.heap.size k _ rfl hown _ _ rfl hkey ?_; intro c hat hwc)
        | (at_mapUpdate; refine wpList_mapUpdate_own _ rfl _ _ _ 28 rfl 2 3 law2 Try.underlying28 _ w.heap.size k _ rfl hown (by unfold maxLen; omega) _ _ _ rfl rfl hkey _ [] (plainElem_int Try.underlying3 (wrap64_wf _)) ?_; intro w1 hown1 hgrow1))
      go_roundw
      case rel => exact ⟨k + 1, by omega, by go_num, ⟨_, hown1, fun x => by rw [keys_put hown.isMap HK.out]; exact (hms.out x).symm⟩, hbel.grown hgrow1 hbel.size (fun j hj => by cases hj; exact Nat.le_refl _)⟩
      case measure => simp [intOf]; omega
    · have F : Mapped w zs (.returned (.map (some w.heap.size))) wr := by
        have e : zs.take k = zs := List.take_of_length_le (by omega)
        have hk2 := HK.out
        rw [e] at hk2
        exact ⟨_, _, rfl, ⟨D, hown, hk2⟩, Nat.le_refl _, hbel⟩
      clear hown HK
      go_wp2
      go_ret
      exact F
end Go.Proofs.Qxb6615617a
