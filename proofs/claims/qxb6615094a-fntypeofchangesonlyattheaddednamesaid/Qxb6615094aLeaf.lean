/-
  THE LEAVES of the roads of seat b6615094a: contracts of 'qualified' (over strings.HasPrefix), 'zzIsQualifiedName', 'zzStringsBytes', 'zzContainsName', 'zzLastIndexName'.
-/
import Derived.Test.Qxb6615094aProg
import Derived.WalkKit
import Derived.WalkSpells
import Derived.WalkLawsBesides
namespace Go.Proofs.Qxb6615094a
open Go.RowKit
set_option linter.unusedVariables false

/-- A name that opens with a slash. -/
def qual (s : ByteArray) : Bool := s.data.toList.head? == some 47

theorem qual_at (s : ByteArray) (h : 0 < s.size) : ((s[0].toNat : Int) == 47) = qual s := by
  obtain ⟨⟨l⟩⟩ := s
  match l, h with
  | [], h => simp [ByteArray.size] at h
  | c :: r, _ =>
    show ((c.toNat : Int) == 47) = (some c == some 47)
    rw [Bool.eq_iff_iff]
    simp only [beq_iff_eq, Option.some.injEq]
    constructor
    · intro h
      exact UInt8.toNat_inj.1 (by show c.toNat = 47; omega)
    · intro h
      subst h
      rfl

theorem qual_empty (s : ByteArray) (h : ¬ 0 < s.size) : qual s = false := by
  obtain ⟨⟨l⟩⟩ := s
  match l, h with
  | [], _ => rfl
  | c :: r, h => simp [ByteArray.size] at h

theorem qual_prefix (s : ByteArray) (h : 0 < s.size) : ((s.extract 0 1).toList == [47]) = qual s := by
  rw [ByteArray.toList_eq]
  obtain ⟨⟨l⟩⟩ := s
  match l, h with
  | [], h => simp [ByteArray.size] at h
  | c :: r, _ =>
    simp [ByteArray.data_extract, qual]

set_option maxHeartbeats 400000 in
theorem isQual_any (s : ByteArray) (w : World) (hs : s.size ≤ maxLen) :
    Calls Try.prog 7 #[.string s] w fun e w' => e = .returned (.bool (qual s)) ∧ w' = w := by
  unfold maxLen at hs
  by_cases h : 0 < s.size
  · go_enter Try.func7, Try.ntmps7
    go_wp2
    go_ret
    exact ⟨by rw [← qual_at s h]; rfl, rfl⟩
  · go_enter Try.func7, Try.ntmps7
    go_wp2
    go_ret
    exact ⟨by rw [qual_empty s h]; rfl, rfl⟩

set_option maxHeartbeats 400000 in
theorem qualified_any (s : ByteArray) (w : World) (hs : s.size ≤ maxLen) :
    Calls Try.prog 14 #[.string s] w fun e w' => e = .returned (.bool (qual s)) ∧ w' = w := by
  unfold maxLen at hs
  by_cases h : 0 < s.size
  · go_enter Try.func14, Try.ntmps14
    go_wp2
    go_ret
    exact ⟨by rw [← qual_prefix s h]; rfl, rfl⟩
  · go_enter Try.func14, Try.ntmps14
    go_wp2
    go_ret
    exact ⟨by rw [qual_empty s h]; rfl, rfl⟩

/-- A SLICE OF STRINGS: the slice at 'a' of length 'ss.length' holds the strings 'ss'. -/
def Strs (w : World) (a : Option Addr) (ss : List ByteArray) : Prop :=
  ss = [] ∨ ∃ b off, a = some ⟨b, off, none⟩ ∧ ∀ i, i < ss.length → w.cell? ⟨b, off + i, none⟩ = some (.string (ss.getD i ByteArray.empty))

theorem getD_mem (ss : List ByteArray) (k : Nat) (h : k < ss.length) : ss.getD k ByteArray.empty ∈ ss := by
  rw [List.getD_eq_getElem?_getD, List.getElem?_eq_getElem h]
  exact List.getElem_mem h

/-- The element at k: the walk's own fact on the index, whatever the slice's address, and the cell. -/
theorem Strs.get {w : World} {a : Option Addr} {ss : List ByteArray} (h : Strs w a ss) {k : Nat} (hk : k < ss.length) :
    ∃ b o, (∀ (W : World) (cap : Nat), (Instr.indexAt 22 (.slice a ss.length cap) (.int .i64 k)).run Try.prog W = .ok (.pointer (some ⟨b, o, none⟩)) W) ∧ w.cell? ⟨b, o, none⟩ = some (.string (ss.getD k ByteArray.empty)) := by
  rcases h with rfl | ⟨b, off, rfl, hc⟩
  · simp at hk
  · refine ⟨b, off + k, fun W cap => ?_, hc k hk⟩
    rw [run_indexAt_slice (h := by kernel_rfl), if_pos (by omega)]
    have e : ∀ W : World, (sizeOf (Try.prog.elem 22)).run Try.prog W = .ok 1 W := fun _ => by kernel_rfl
    simp only [e, Result.andThen, Addr.add, Int.toNat_natCast, Nat.mul_one]
    split
    · rename_i h; simp [h]
    · rfl

set_option maxHeartbeats 400000 in
theorem stringsBytes_any (t : Int) (a : Option Addr) (cap : Nat) (ss : List ByteArray) (w : World) (h0 : 0 ≤ t) (h1 : t ≤ 1048576) (hl : ss.length ≤ 65536)
    (hb : ∀ s ∈ ss, s.size ≤ 1048576) (hS : Strs w a ss) :
    Calls Try.prog 6 #[.int .i64 t, .slice a ss.length cap] w fun e w' => (∃ r : Int, e = .returned (.int .i64 r) ∧ 0 ≤ r ∧ r ≤ 4194304) ∧ w' = w := by
  go_enter Try.func6, Try.ntmps6
  go_wp2
  go_loop [0, 5] (fun n i => ∃ k : Nat, k ≤ ss.length ∧ i = .int .i64 k ∧ ∃ r : Int, 0 ≤ r ∧ r ≤ 4194304 ∧ n = .int .i64 r) (fun _ i => ss.length - (intOf i).toNat)
  case atStart => exact ⟨0, Nat.zero_le _, rfl, _, by omega, by omega, rfl⟩
  case round =>
    obtain ⟨k, hk, rfl, r, hr0, hr1, rfl⟩ := hrel
    by_cases hlt : k < ss.length
    · obtain ⟨b, o, hix, hck⟩ := hS.get hlt
      have hbk := hb _ (getD_mem ss k hlt)
      generalize ss.getD k ByteArray.empty = s at hck hbk
      by_cases hr : r ≤ 1048576
      · go_wp2
        go_round
        case rel => exact ⟨k + 1, by omega, by go_num, _, by omega, by omega, rfl⟩
        case measure => simp [intOf]; omega
      · go_wp2
        go_ret
        exact ⟨⟨r, rfl, hr0, hr1⟩, rfl⟩
    · go_wp2
      go_ret
      exact ⟨⟨r, rfl, hr0, hr1⟩, rfl⟩

/-- Is the name among them? -/
def among (ss : List ByteArray) (s : ByteArray) : Bool := ss.any (fun x => x.toList == s.toList)

theorem among_take_succ (ss : List ByteArray) (s : ByteArray) (k : Nat) (h : k < ss.length) : among (ss.take (k + 1)) s = (among (ss.take k) s || (ss.getD k ByteArray.empty).toList == s.toList) := by
  unfold among
  rw [List.take_succ_eq_append_getElem h, List.any_append, List.getD_eq_getElem?_getD, List.getElem?_eq_getElem h]
  simp

theorem among_of_take (ss : List ByteArray) (s : ByteArray) (k : Nat) (h : among (ss.take k) s = true) : among ss s = true := by
  unfold among at *
  rw [List.any_eq_true] at *
  obtain ⟨x, hx, he⟩ := h
  exact ⟨x, List.mem_of_mem_take hx, he⟩

set_option maxHeartbeats 400000 in
theorem contains_any (a : Option Addr) (cap : Nat) (ss : List ByteArray) (s : ByteArray) (w : World) (hl : ss.length ≤ 65536) (hS : Strs w a ss) :
    Calls Try.prog 10 #[.slice a ss.length cap, .string s] w fun e w' => e = .returned (.bool (among ss s)) ∧ w' = w := by
  go_enter Try.func10, Try.ntmps10
  go_wp2
  go_loop [5] (fun i => ∃ k : Nat, k ≤ ss.length ∧ i = .int .i64 k ∧ Hid (among (ss.take k) s = false)) (fun i => ss.length - (intOf i).toNat)
  case atStart => exact ⟨0, Nat.zero_le _, rfl, rfl⟩
  case round =>
    obtain ⟨k, hk, rfl, hn⟩ := hrel
    by_cases hlt : k < ss.length
    · obtain ⟨b, o, hix, hck⟩ := hS.get hlt
      have hst : Hid (among (ss.take (k + 1)) s = (among (ss.take k) s || (ss.getD k ByteArray.empty).toList == s.toList)) := among_take_succ ss s k hlt
      generalize ss.getD k ByteArray.empty = x at hck hst
      cases he : x.toList == s.toList
      · go_wp2
        go_round
        case rel => exact ⟨k + 1, by omega, by go_num, by show among _ _ = false; rw [hst.out, hn.out, he]; rfl⟩
        case measure => simp [intOf]; omega
      · go_wp2
        go_ret
        exact ⟨by rw [among_of_take ss s (k + 1) (by rw [hst.out, he]; simp)]; rfl, rfl⟩
    · go_wp2
      go_ret
      have hn2 := hn.out
      rw [List.take_of_length_le (by omega)] at hn2
      exact ⟨by rw [hn2]; rfl, rfl⟩

/-- What was last imported under the name s, of the first n pairs. -/
def lookTo (ps is : List ByteArray) : Nat → ByteArray → Option ByteArray
  | 0, _ => none
  | n + 1, s => if (ps.getD n ByteArray.empty).toList == s.toList then some (is.getD n ByteArray.empty) else lookTo ps is n s

set_option maxHeartbeats 400000 in
theorem lastIndex_any (a : Option Addr) (cap : Nat) (ss : List ByteArray) (s : ByteArray) (w : World) (hl : ss.length ≤ 65536) (hS : Strs w a ss) :
    Calls Try.prog 11 #[.slice a ss.length cap, .string s] w fun e w' =>
      ((e = .returned (.int .i64 (-1)) ∧ ∀ is, lookTo ss is ss.length s = none) ∨ ∃ k : Nat, e = .returned (.int .i64 k) ∧ k < ss.length ∧ ∀ is, lookTo ss is ss.length s = some (is.getD k ByteArray.empty)) ∧ w' = w := by
  go_enter Try.func11, Try.ntmps11
  go_wp2
  go_loop [5] (fun i => ∃ k : Nat, k ≤ ss.length ∧ i = .int .i64 ((k : Int) - 1) ∧ Hid (∀ is, lookTo ss is ss.length s = lookTo ss is k s)) (fun i => (intOf i + 1).toNat)
  case atStart => exact ⟨ss.length, Nat.le_refl _, rfl, fun _ => rfl⟩
  case round =>
    obtain ⟨k, hk, rfl, hn⟩ := hrel
    match k, hk, hn with
    | 0, hk, hn =>
      go_wp2
      go_ret
      exact ⟨Or.inl ⟨rfl, fun is => hn.out is⟩, rfl⟩
    | k + 1, hk, hn =>
      obtain ⟨b, o, hix, hck⟩ := hS.get (k := k) (by omega)
      have hst : Hid (∀ is, lookTo ss is (k + 1) s = if (ss.getD k ByteArray.empty).toList == s.toList then some (is.getD k ByteArray.empty) else lookTo ss is k s) := fun is => rfl
      generalize ss.getD k ByteArray.empty = x at hck hst
      rw [show ((k + 1 : Nat) : Int) - 1 = (k : Int) from by omega]
      cases he : x.toList == s.toList
      · go_wp2
        go_round
        case rel => exact ⟨k, by omega, by go_num, fun is => by rw [hn.out is, hst.out is, he]; rfl⟩
        case measure => simp [intOf]
      · go_wp2
        go_ret
        exact ⟨Or.inr ⟨k, rfl, by omega, fun is => by rw [hn.out is, hst.out is, he]; rfl⟩, rfl⟩
end Go.Proofs.Qxb6615094a
