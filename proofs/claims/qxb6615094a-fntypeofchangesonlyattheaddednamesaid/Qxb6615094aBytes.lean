/-
  THE TWO GUARDS ON SIZE: 'zzBytes_FnTypeOfResolvesPlainAndQualified', 'zzBytes_FnTypeOfChangesOnlyAtTheAddedName': they answer some bool, write nothing, and where they say yes every string is short.
-/
import Derived.Test.Qxb6615094aLeaf
namespace Go.Proofs.Qxb6615094a
open Go.RowKit
set_option linter.unusedVariables false

/-- Every string is at most 1<<20 bytes long. -/
def Short (ss : List ByteArray) : Prop := ∀ s ∈ ss, s.size ≤ 1048576

theorem short_take_succ {ss : List ByteArray} {k : Nat} (h : k < ss.length) (hs : Short (ss.take k)) (hx : (ss.getD k ByteArray.empty).size ≤ 1048576) : Short (ss.take (k + 1)) := by
  intro s hm
  rw [List.take_succ_eq_append_getElem h, List.mem_append] at hm
  rcases hm with hm | hm
  · exact hs s hm
  · simp only [List.mem_singleton] at hm
    subst hm
    rw [List.getD_eq_getElem?_getD, List.getElem?_eq_getElem h] at hx
    exact hx

theorem short_all {ss : List ByteArray} {k : Nat} (h : ¬ k < ss.length) (hs : Short (ss.take k)) : Short ss := by
  rwa [List.take_of_length_le (by omega)] at hs

/-- It answers a bool; where that is true, p holds. -/
def Answers (p : Prop) (e : Ending) : Prop := ∃ r : Bool, e = .returned (.bool r) ∧ (r = true → p)
theorem Answers.no {p : Prop} : Answers p (.returned (.bool false)) := ⟨false, rfl, fun h => by cases h⟩
theorem Answers.yes {p : Prop} (h : p) : Answers p (.returned (.bool true)) := ⟨true, rfl, fun _ => h⟩

set_option maxHeartbeats 4000000 in
theorem bytesR_any (a0 a1 a2 : Option Addr) (c0 c1 c2 : Nat) (s0 s1 s2 : List ByteArray) (q : ByteArray) (w : World)
    (l0 : s0.length ≤ maxLen) (l1 : s1.length ≤ maxLen) (l2 : s2.length ≤ maxLen) (lq : q.size ≤ maxLen)
    (b0 : ∀ s ∈ s0, s.size ≤ maxLen) (b1 : ∀ s ∈ s1, s.size ≤ maxLen) (b2 : ∀ s ∈ s2, s.size ≤ maxLen)
    (S0 : Strs w a0 s0) (S1 : Strs w a1 s1) (S2 : Strs w a2 s2) :
    Calls Try.prog 5 #[.slice a0 s0.length c0, .slice a1 s1.length c1, .slice a2 s2.length c2, .string q] w fun e w' => Answers (Short s0 ∧ Short s1 ∧ Short s2) e ∧ w' = w := by
  unfold maxLen at *
  by_cases g0 : ¬ s0.length ≤ 1048576
  · go_enter Try.func5, Try.ntmps5
    go_wp2
    go_ret
    exact ⟨Answers.no, rfl⟩
  go_enter Try.func5, Try.ntmps5
  go_wp2
  go_loop [9, 10] (fun n i => ∃ k : Nat, k ≤ s0.length ∧ i = .int .i64 k ∧ Short (s0.take k) ∧ ∃ r : Int, 0 ≤ r ∧ r ≤ 1048576 ∧ n = .int .i64 r) (fun _ i => s0.length - (intOf i).toNat)
  case atStart => exact ⟨0, Nat.zero_le _, rfl, by simp [Short], _, by omega, by omega, rfl⟩
  case round =>
    obtain ⟨k0, hk0, rfl, hs, r0, hr00, hr10, rfl⟩ := hrel
    by_cases hlt : k0 < s0.length
    · obtain ⟨b, o, hix, hck⟩ := S0.get hlt
      have hbk := b0 _ (getD_mem s0 k0 hlt)
      have hst : Hid ((s0.getD k0 ByteArray.empty).size ≤ 1048576 → Short (s0.take (k0 + 1))) := short_take_succ hlt hs
      generalize s0.getD k0 ByteArray.empty = s at hck hbk hst
      by_cases hr : s.size ≤ 1048576
      · by_cases hr' : r0 + s.size ≤ 1048576
        · go_wp2
          go_round
          case rel => exact ⟨k0 + 1, by omega, by go_num, hst.out hr, _, by omega, by omega, rfl⟩
          case measure => simp [intOf]; omega
        · go_wp2
          go_ret
          exact ⟨Answers.no, rfl⟩
      · go_wp2
        go_ret
        exact ⟨Answers.no, rfl⟩
    have sh0 : Short s0 := short_all hlt hs
    clear hs
    by_cases g1 : ¬ s1.length ≤ 1048576
    · go_wp2
      go_ret
      exact ⟨Answers.no, rfl⟩
    by_cases g1' : ¬ r0 + s1.length ≤ 1048576
    · go_wp2
      go_ret
      exact ⟨Answers.no, rfl⟩
    go_wp2
    go_loop [9, 11] (fun n i => ∃ k : Nat, k ≤ s1.length ∧ i = .int .i64 k ∧ Short (s1.take k) ∧ ∃ r : Int, 0 ≤ r ∧ r ≤ 1048576 ∧ n = .int .i64 r) (fun _ i => s1.length - (intOf i).toNat)
    case atStart => exact ⟨0, Nat.zero_le _, rfl, by simp [Short], _, by omega, by omega, rfl⟩
    case round =>
      obtain ⟨k1, hk1, rfl, hs, r1, hr01, hr11, rfl⟩ := hrel
      by_cases hlt : k1 < s1.length
      · obtain ⟨b, o, hix, hck⟩ := S1.get hlt
        have hbk := b1 _ (getD_mem s1 k1 hlt)
        have hst : Hid ((s1.getD k1 ByteArray.empty).size ≤ 1048576 → Short (s1.take (k1 + 1))) := short_take_succ hlt hs
        generalize s1.getD k1 ByteArray.empty = s at hck hbk hst
        by_cases hr : s.size ≤ 1048576
        · by_cases hr' : r1 + s.size ≤ 1048576
          · go_wp2
            go_round
            case rel => exact ⟨k1 + 1, by omega, by go_num, hst.out hr, _, by omega, by omega, rfl⟩
            case measure => simp [intOf]; omega
          · go_wp2
            go_ret
            exact ⟨Answers.no, rfl⟩
        · go_wp2
          go_ret
          exact ⟨Answers.no, rfl⟩
      have sh1 : Short s1 := short_all hlt hs
      clear hs
      by_cases g2 : ¬ s2.length ≤ 1048576
      · go_wp2
        go_ret
        exact ⟨Answers.no, rfl⟩
      by_cases g2' : ¬ r1 + s2.length ≤ 1048576
      · go_wp2
        go_ret
        exact ⟨Answers.no, rfl⟩
      go_wp2
      go_loop [9, 12] (fun n i => ∃ k : Nat, k ≤ s2.length ∧ i = .int .i64 k ∧ Short (s2.take k) ∧ ∃ r : Int, 0 ≤ r ∧ r ≤ 1048576 ∧ n = .int .i64 r) (fun _ i => s2.length - (intOf i).toNat)
      case atStart => exact ⟨0, Nat.zero_le _, rfl, by simp [Short], _, by omega, by omega, rfl⟩
      case round =>
        obtain ⟨k2, hk2, rfl, hs, r2, hr02, hr12, rfl⟩ := hrel
        by_cases hlt : k2 < s2.length
        · obtain ⟨b, o, hix, hck⟩ := S2.get hlt
          have hbk := b2 _ (getD_mem s2 k2 hlt)
          have hst : Hid ((s2.getD k2 ByteArray.empty).size ≤ 1048576 → Short (s2.take (k2 + 1))) := short_take_succ hlt hs
          generalize s2.getD k2 ByteArray.empty = s at hck hbk hst
          by_cases hr : s.size ≤ 1048576
          · by_cases hr' : r2 + s.size ≤ 1048576
            · go_wp2
              go_round
              case rel => exact ⟨k2 + 1, by omega, by go_num, hst.out hr, _, by omega, by omega, rfl⟩
              case measure => simp [intOf]; omega
            · go_wp2
              go_ret
              exact ⟨Answers.no, rfl⟩
          · go_wp2
            go_ret
            exact ⟨Answers.no, rfl⟩
        have sh2 : Short s2 := short_all hlt hs
        clear hs
        by_cases gq : ¬ q.size ≤ 1048576
        · go_wp2
          go_ret
          exact ⟨Answers.no, rfl⟩
        by_cases gq' : ¬ r2 + q.size ≤ 1048576
        · go_wp2
          go_ret
          exact ⟨Answers.no, rfl⟩
        go_wp2
        go_ret
        exact ⟨Answers.yes trivial, rfl⟩

set_option maxHeartbeats 4000000 in
theorem bytesC_any (a0 a1 a2 : Option Addr) (c0 c1 c2 : Nat) (s0 s1 s2 : List ByteArray) (q : ByteArray) (z : Bool) (x y : ByteArray) (w : World)
    (l0 : s0.length ≤ maxLen) (l1 : s1.length ≤ maxLen) (l2 : s2.length ≤ maxLen) (lq : q.size ≤ maxLen) (lx : x.size ≤ maxLen) (ly : y.size ≤ maxLen)
    (b0 : ∀ s ∈ s0, s.size ≤ maxLen) (b1 : ∀ s ∈ s1, s.size ≤ maxLen) (b2 : ∀ s ∈ s2, s.size ≤ maxLen)
    (S0 : Strs w a0 s0) (S1 : Strs w a1 s1) (S2 : Strs w a2 s2) :
    Calls Try.prog 12 #[.slice a0 s0.length c0, .slice a1 s1.length c1, .slice a2 s2.length c2, .string q, .bool z, .string x, .string y] w fun e w' => Answers (Short s0 ∧ Short s1 ∧ Short s2) e ∧ w' = w := by
  unfold maxLen at *
  by_cases g0 : ¬ s0.length ≤ 1048576
  · go_enter Try.func12, Try.ntmps12
    go_wp2
    go_ret
    exact ⟨Answers.no, rfl⟩
  go_enter Try.func12, Try.ntmps12
  go_wp2
  go_loop [15, 16] (fun n i => ∃ k : Nat, k ≤ s0.length ∧ i = .int .i64 k ∧ Short (s0.take k) ∧ ∃ r : Int, 0 ≤ r ∧ r ≤ 1048576 ∧ n = .int .i64 r) (fun _ i => s0.length - (intOf i).toNat)
  case atStart => exact ⟨0, Nat.zero_le _, rfl, by simp [Short], _, by omega, by omega, rfl⟩
  case round =>
    obtain ⟨k0, hk0, rfl, hs, r0, hr00, hr10, rfl⟩ := hrel
    by_cases hlt : k0 < s0.length
    · obtain ⟨b, o, hix, hck⟩ := S0.get hlt
      have hbk := b0 _ (getD_mem s0 k0 hlt)
      have hst : Hid ((s0.getD k0 ByteArray.empty).size ≤ 1048576 → Short (s0.take (k0 + 1))) := short_take_succ hlt hs
      generalize s0.getD k0 ByteArray.empty = s at hck hbk hst
      by_cases hr : s.size ≤ 1048576
      · by_cases hr' : r0 + s.size ≤ 1048576
        · go_wp2
          go_round
          case rel => exact ⟨k0 + 1, by omega, by go_num, hst.out hr, _, by omega, by omega, rfl⟩
          case measure => simp [intOf]; omega
        · go_wp2
          go_ret
          exact ⟨Answers.no, rfl⟩
      · go_wp2
        go_ret
        exact ⟨Answers.no, rfl⟩
    have sh0 : Short s0 := short_all hlt hs
    clear hs
    by_cases g1 : ¬ s1.length ≤ 1048576
    · go_wp2
      go_ret
      exact ⟨Answers.no, rfl⟩
    by_cases g1' : ¬ r0 + s1.length ≤ 1048576
    · go_wp2
      go_ret
      exact ⟨Answers.no, rfl⟩
    go_wp2
    go_loop [15, 17] (fun n i => ∃ k : Nat, k ≤ s1.length ∧ i = .int .i64 k ∧ Short (s1.take k) ∧ ∃ r : Int, 0 ≤ r ∧ r ≤ 1048576 ∧ n = .int .i64 r) (fun _ i => s1.length - (intOf i).toNat)
    case atStart => exact ⟨0, Nat.zero_le _, rfl, by simp [Short], _, by omega, by omega, rfl⟩
    case round =>
      obtain ⟨k1, hk1, rfl, hs, r1, hr01, hr11, rfl⟩ := hrel
      by_cases hlt : k1 < s1.length
      · obtain ⟨b, o, hix, hck⟩ := S1.get hlt
        have hbk := b1 _ (getD_mem s1 k1 hlt)
        have hst : Hid ((s1.getD k1 ByteArray.empty).size ≤ 1048576 → Short (s1.take (k1 + 1))) := short_take_succ hlt hs
        generalize s1.getD k1 ByteArray.empty = s at hck hbk hst
        by_cases hr : s.size ≤ 1048576
        · by_cases hr' : r1 + s.size ≤ 1048576
          · go_wp2
            go_round
            case rel => exact ⟨k1 + 1, by omega, by go_num, hst.out hr, _, by omega, by omega, rfl⟩
            case measure => simp [intOf]; omega
          · go_wp2
            go_ret
            exact ⟨Answers.no, rfl⟩
        · go_wp2
          go_ret
          exact ⟨Answers.no, rfl⟩
      have sh1 : Short s1 := short_all hlt hs
      clear hs
      by_cases g2 : ¬ s2.length ≤ 1048576
      · go_wp2
        go_ret
        exact ⟨Answers.no, rfl⟩
      by_cases g2' : ¬ r1 + s2.length ≤ 1048576
      · go_wp2
        go_ret
        exact ⟨Answers.no, rfl⟩
      go_wp2
      go_loop [15, 18] (fun n i => ∃ k : Nat, k ≤ s2.length ∧ i = .int .i64 k ∧ Short (s2.take k) ∧ ∃ r : Int, 0 ≤ r ∧ r ≤ 1048576 ∧ n = .int .i64 r) (fun _ i => s2.length - (intOf i).toNat)
      case atStart => exact ⟨0, Nat.zero_le _, rfl, by simp [Short], _, by omega, by omega, rfl⟩
      case round =>
        obtain ⟨k2, hk2, rfl, hs, r2, hr02, hr12, rfl⟩ := hrel
        by_cases hlt : k2 < s2.length
        · obtain ⟨b, o, hix, hck⟩ := S2.get hlt
          have hbk := b2 _ (getD_mem s2 k2 hlt)
          have hst : Hid ((s2.getD k2 ByteArray.empty).size ≤ 1048576 → Short (s2.take (k2 + 1))) := short_take_succ hlt hs
          generalize s2.getD k2 ByteArray.empty = s at hck hbk hst
          by_cases hr : s.size ≤ 1048576
          · by_cases hr' : r2 + s.size ≤ 1048576
            · go_wp2
              go_round
              case rel => exact ⟨k2 + 1, by omega, by go_num, hst.out hr, _, by omega, by omega, rfl⟩
              case measure => simp [intOf]; omega
            · go_wp2
              go_ret
              exact ⟨Answers.no, rfl⟩
          · go_wp2
            go_ret
            exact ⟨Answers.no, rfl⟩
        have sh2 : Short s2 := short_all hlt hs
        clear hs
        by_cases gq : ¬ q.size ≤ 1048576
        · go_wp2
          go_ret
          exact ⟨Answers.no, rfl⟩
        by_cases gq' : ¬ r2 + q.size ≤ 1048576
        · go_wp2
          go_ret
          exact ⟨Answers.no, rfl⟩
        by_cases gx : ¬ x.size ≤ 1048576
        · go_wp2
          go_ret
          exact ⟨Answers.no, rfl⟩
        by_cases gx' : ¬ r2 + q.size + x.size ≤ 1048576
        · go_wp2
          go_ret
          exact ⟨Answers.no, rfl⟩
        by_cases gy : ¬ y.size ≤ 1048576
        · go_wp2
          go_ret
          exact ⟨Answers.no, rfl⟩
        by_cases gy' : ¬ r2 + q.size + x.size + y.size ≤ 1048576
        · go_wp2
          go_ret
          exact ⟨Answers.no, rfl⟩
        go_wp2
        go_ret
        exact ⟨Answers.yes trivial, rfl⟩

end Go.Proofs.Qxb6615094a
