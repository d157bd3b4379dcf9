/-
  THE WALK OF 'FnAuthorityRuleOnlyAtTwoDelimiters': it returns true.
-/
import Derived.Test.Qxb6608627aRules
namespace Go.Proofs.Qxb6608627a
open Go.RowKit
set_option linter.unusedVariables false

/-- What the loop's variables hold when k bytes have been looked at. -/
def At (A B : ByteArray) (k : Nat) (n f s : Value) : Prop :=
  (k ≤ 58 ∧ n = .int .i64 0 ∧ f = .string ⟨#[]⟩ ∧ s = .string ⟨#[]⟩) ∨ (58 < k ∧ k ≤ 64 ∧ n = .int .i64 1 ∧ f = .string A ∧ s = .string ⟨#[]⟩) ∨ (64 < k ∧ n = .int .i64 2 ∧ f = .string A ∧ s = .string B)

set_option maxRecDepth 100000 in
set_option maxHeartbeats 1000000 in
theorem rule_core (A B rc : ByteArray) (c : Int) (w : World) (eA : A.toList.isEmpty = false) (eB : B.toList.isEmpty = false) (eAB : (A.toList == B.toList) = false)
    (RP : Hid (∀ w, Calls Try.prog 6 #[.int .u8 58] w fun e w' => e = .returned (.string A) ∧ w' = w)) (RU : Hid (∀ w, Calls Try.prog 6 #[.int .u8 64] w fun e w' => e = .returned (.string B) ∧ w' = w))
    (RC : Hid (∀ w, Calls Try.prog 6 #[.int .u8 c] w fun e w' => e = .returned (.string rc) ∧ w' = w))
    (hc : Hid (rc.toList.isEmpty = true ∨ (rc.toList.isEmpty = false ∧ (∀ w, Calls Try.prog 7 #[.int .u8 c] w fun e w' => e = .returned (.bool true) ∧ w' = w) ∧ ((rc.toList == A.toList) = true ∨ ((rc.toList == A.toList) = false ∧ (rc.toList == B.toList) = true))))) :
    Calls Try.prog 3 #[.int .u8 c] w fun e w' => e = .returned (.bool true) ∧ w' = w := by
  go_enter Try.func3, Try.ntmps3
  go_wp2_with fail
  refine (RC.out _).mono ?_
  rintro e w ⟨rfl, rfl⟩
  clear RC
  go_wp2_with fail
  go_loop [4, 5, 6, 7] (fun n f s i => ∃ k : Nat, k ≤ 256 ∧ i = .int .i64 k ∧ At A B k n f s) (fun _ _ _ i => 256 - (intOf i).toNat)
  case atStart => exact ⟨0, Nat.zero_le _, rfl, Or.inl ⟨Nat.zero_le _, rfl, rfl, rfl⟩⟩
  case round =>
    obtain ⟨k, hk, rfl, hat⟩ := hrel
    by_cases hlt : k < 256
    · by_cases h58 : k = 58
      · subst h58
        rcases hat with ⟨_, rfl, rfl, rfl⟩ | ⟨h, _⟩ | ⟨h, _⟩
        · go_wp2_with fail
          refine (RP.out _).mono ?_
          rintro e w1 ⟨rfl, rfl⟩
          go_wp2_with fail
          refine (delim_port _).mono ?_
          rintro e w2 ⟨rfl, rfl⟩
          go_wp2
          go_round
          case rel => exact ⟨59, by omega, by go_num, Or.inr (Or.inl ⟨by omega, by omega, rfl, rfl, rfl⟩)⟩
          case measure => simp [intOf]
        · omega
        · omega
      · by_cases h64 : k = 64
        · subst h64
          rcases hat with ⟨h, _⟩ | ⟨_, _, rfl, rfl, rfl⟩ | ⟨h, _⟩
          · omega
          · go_wp2_with fail
            refine (RU.out _).mono ?_
            rintro e w1 ⟨rfl, rfl⟩
            go_wp2_with fail
            refine (delim_user _).mono ?_
            rintro e w2 ⟨rfl, rfl⟩
            go_wp2
            go_round
            case rel => exact ⟨65, by omega, by go_num, Or.inr (Or.inr ⟨by omega, rfl, rfl, rfl⟩)⟩
            case measure => simp [intOf]
          · omega
        · have RN := fun w => rule_none (k : Int) w (by rw [beq_eq_false_iff_ne]; omega) (by rw [beq_eq_false_iff_ne]; omega)
          have HN : Hid (∀ w, Calls Try.prog 6 #[.int .u8 (k : Int)] w fun e w' => e = .returned (.string ⟨#[]⟩) ∧ w' = w) := RN
          clear RN
          have HA : Hid (∀ n f s, At A B k n f s → At A B (k + 1) n f s) := by
            intro n f s h
            rcases h with ⟨h, h'⟩ | ⟨h, h', h''⟩ | ⟨h, h'⟩
            · exact Or.inl ⟨by omega, h'⟩
            · exact Or.inr (Or.inl ⟨by omega, by omega, h''⟩)
            · exact Or.inr (Or.inr ⟨by omega, h'⟩)
          have HA2 := HA.out _ _ _ hat
          clear HA hat
          go_wp2_with fail
          refine (HN.out _).mono ?_
          rintro e w1 ⟨rfl, rfl⟩
          go_wp2
          go_round
          case rel => exact ⟨k + 1, by omega, by go_num, HA2⟩
          case measure => simp [intOf]; omega
    · rcases hat with ⟨h, _⟩ | ⟨_, h, _⟩ | ⟨_, rfl, rfl, rfl⟩
      · omega
      · omega
      · clear RP RU
        rcases hc.out with h | ⟨h, hd, h' | ⟨h', h''⟩⟩
        · clear hc
          go_wp2
          go_ret
          exact ⟨rfl, rfl⟩
        · have HD : Hid (∀ w, Calls Try.prog 7 #[.int .u8 c] w fun e w' => e = .returned (.bool true) ∧ w' = w) := hd
          clear hc hd
          go_wp2_with fail
          refine (HD.out _).mono ?_
          rintro e w1 ⟨rfl, rfl⟩
          go_wp2
          go_ret
          exact ⟨rfl, rfl⟩
        · have HD : Hid (∀ w, Calls Try.prog 7 #[.int .u8 c] w fun e w' => e = .returned (.bool true) ∧ w' = w) := hd
          clear hc hd
          go_wp2_with fail
          refine (HD.out _).mono ?_
          rintro e w1 ⟨rfl, rfl⟩
          go_wp2
          go_ret
          exact ⟨rfl, rfl⟩

theorem rule_walk (c : Int) (w : World) : Calls Try.prog 3 #[.int .u8 c] w fun e w' => e = .returned (.bool true) ∧ w' = w := by
  by_cases h58 : c = 58
  · subst h58
    exact rule_core portRule userRule portRule 58 w port_some user_some port_user rule_port rule_user rule_port (Or.inr ⟨port_some, delim_port, Or.inl (by simp)⟩)
  · by_cases h64 : c = 64
    · subst h64
      exact rule_core portRule userRule userRule 64 w port_some user_some port_user rule_port rule_user rule_user (Or.inr ⟨user_some, delim_user, Or.inr ⟨user_port, by simp⟩⟩)
    · exact rule_core portRule userRule ⟨#[]⟩ c w port_some user_some port_user rule_port rule_user (fun w => rule_none c w (by rw [beq_eq_false_iff_ne]; exact h58) (by rw [beq_eq_false_iff_ne]; exact h64)) (Or.inl (by rw [ByteArray.toList_eq]; rfl))
end Go.Proofs.Qxb6608627a
