/-
  'ZZauthorityRule', 'zzIsGenDelim' and the walk of 'FnAuthorityRuleOnlyAtTwoDelimiters'.
-/
import Derived.Test.Qxb6608627aProg
import Derived.WalkKit
import Derived.WalkSpells
import Derived.WalkLawsBesides
namespace Go.Proofs.Qxb6608627a
open Go.RowKit
set_option linter.unusedVariables false

/-- The rule on ports, the rule on user info: their bytes. -/
def portRule : ByteArray := ⟨#[110, 111, 32, 112, 111, 114, 116, 32, 105, 115, 32, 97, 108, 108, 111, 119, 101, 100]⟩
def userRule : ByteArray := ⟨#[110, 111, 32, 117, 115, 101, 114, 32, 105, 110, 102, 111, 32, 105, 115, 32, 97, 108, 108, 111, 119, 101, 100]⟩

set_option maxHeartbeats 400000 in
theorem rule_port (w : World) : Calls Try.prog 6 #[.int .u8 58] w fun e w' => e = .returned (.string portRule) ∧ w' = w := by
  go_enter Try.func6, Try.ntmps6
  go_wp2
  go_ret
  exact ⟨rfl, rfl⟩

set_option maxHeartbeats 400000 in
theorem rule_user (w : World) : Calls Try.prog 6 #[.int .u8 64] w fun e w' => e = .returned (.string userRule) ∧ w' = w := by
  go_enter Try.func6, Try.ntmps6
  go_wp2
  go_ret
  exact ⟨rfl, rfl⟩

set_option maxHeartbeats 400000 in
theorem rule_none (n : Int) (w : World) (h1 : (n == 58) = false) (h2 : (n == 64) = false) : Calls Try.prog 6 #[.int .u8 n] w fun e w' => e = .returned (.string ⟨#[]⟩) ∧ w' = w := by
  go_enter Try.func6, Try.ntmps6
  go_wp2
  go_ret
  exact ⟨rfl, rfl⟩

set_option maxHeartbeats 400000 in
theorem delim_port (w : World) : Calls Try.prog 7 #[.int .u8 58] w fun e w' => e = .returned (.bool true) ∧ w' = w := by
  go_enter Try.func7, Try.ntmps7
  go_wp2
  go_ret
  exact ⟨rfl, rfl⟩

set_option maxHeartbeats 400000 in
theorem delim_user (w : World) : Calls Try.prog 7 #[.int .u8 64] w fun e w' => e = .returned (.bool true) ∧ w' = w := by
  go_enter Try.func7, Try.ntmps7
  go_wp2
  go_ret
  exact ⟨rfl, rfl⟩

theorem port_some : portRule.toList.isEmpty = false := by rw [ByteArray.toList_eq]; rfl
theorem user_some : userRule.toList.isEmpty = false := by rw [ByteArray.toList_eq]; rfl
theorem port_user : (portRule.toList == userRule.toList) = false := by rw [ByteArray.toList_eq, ByteArray.toList_eq]; rfl
theorem user_port : (userRule.toList == portRule.toList) = false := by rw [ByteArray.toList_eq, ByteArray.toList_eq]; rfl

end Go.Proofs.Qxb6608627a
