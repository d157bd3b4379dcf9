/-
  'ZZrunWords' and the walks of 'FnRunWordsShift', 'FnRunWordsStep'.
-/
import Derived.Test.Qxb6615617aProg
import Derived.WalkKit
import Derived.WalkSpells
import Derived.WalkLawsBesides
namespace Go.Proofs.Qxb6615617a
open Go.RowKit
set_option linter.unusedVariables false

theorem ret_int {k : IntKind} {a b : Int} (h : a = b) : Ending.returned (.int k a) = .returned (.int k b) := by rw [h]

/-- How many words x bools take. -/
def words (x : Int) : Int := (x + 63) / 64

set_option maxHeartbeats 400000 in
theorem runWords_any (x : Int) (w : World) (h0 : 0 ≤ x) (h1 : x ≤ 9223372036854775744) :
    Calls Try.prog 6 #[.int .i64 x] w fun e w' => e = .returned (.int .i64 (words x)) ∧ w' = w := by
  go_enter Try.func6, Try.ntmps6
  go_wp2
  go_ret
  exact ⟨rfl, rfl⟩

theorem words_bd (x : Int) (h0 : 0 ≤ x) (h1 : x ≤ 9223372036854775744) : 0 ≤ words x ∧ words x ≤ 144115188075855871 := by unfold words; omega
theorem words_step (x : Int) (h0 : 0 ≤ x) (h : x % 64 = 0) : words (x + 1) = words x + 1 := by unfold words; omega
theorem words_stay (x : Int) (h0 : 0 ≤ x) (h : ¬ x % 64 = 0) : words (x + 1) = words x := by unfold words; omega
theorem words_shift (x k : Int) (h0 : 0 ≤ x) (h1 : 0 ≤ k) : words (x + 64 * k) = words x + k := by unfold words; omega
theorem words_whole (k : Int) (h1 : 0 ≤ k) : words (64 * k) = k := by unfold words; omega

set_option maxHeartbeats 400000 in
theorem step_walk (x : Int) (w : World) :
    Calls Try.prog 4 #[.int .i64 x] w fun e w' => e = .returned (.bool true) ∧ w' = w := by
  by_cases h0 : 0 ≤ x
  · by_cases h1 : x ≤ 9223372036854775743
    · have H1 : Hid (Calls Try.prog 6 #[.int .i64 x] w fun e w' => e = .returned (.int .i64 (words x)) ∧ w' = w) := runWords_any x w h0 (by omega)
      have H2 : Hid (Calls Try.prog 6 #[.int .i64 (x + 1)] w fun e w' => e = .returned (.int .i64 (words (x + 1))) ∧ w' = w) := runWords_any (x + 1) w (by omega) (by omega)
      obtain ⟨hb0, hb1⟩ := words_bd x h0 (by omega)
      by_cases hm : x % 64 = 0
      · rw [words_step x h0 hm] at H2
        have hm' : (x % 64 == 0) = true := by simp [hm]
        clear hm
        generalize words x = n at H1 H2 hb0 hb1
        go_enter Try.func4, Try.ntmps4
        go_wp2_with fail
        refine H1.out.mono ?_
        rintro e w1 ⟨rfl, rfl⟩
        go_wp2_with fail
        refine H2.out.mono ?_
        rintro e w2 ⟨rfl, rfl⟩
        go_wp2
        go_ret
        exact ⟨rfl, rfl⟩
      · rw [words_stay x h0 hm] at H2
        have hm' : (x % 64 == 0) = false := by simp [hm]
        clear hm
        generalize words x = n at H1 H2 hb0 hb1
        go_enter Try.func4, Try.ntmps4
        go_wp2_with fail
        refine H1.out.mono ?_
        rintro e w1 ⟨rfl, rfl⟩
        go_wp2_with fail
        refine H2.out.mono ?_
        rintro e w2 ⟨rfl, rfl⟩
        go_wp2
        go_ret
        exact ⟨rfl, rfl⟩
    · go_enter Try.func4, Try.ntmps4
      go_wp2
      go_ret
      exact ⟨rfl, rfl⟩
  · go_enter Try.func4, Try.ntmps4
    go_wp2
    go_ret
    exact ⟨rfl, rfl⟩

set_option maxHeartbeats 400000 in
theorem shift_walk (x k : Int) (w : World) :
    Calls Try.prog 3 #[.int .i64 x, .int .i64 k] w fun e w' => e = .returned (.bool true) ∧ w' = w := by
  by_cases h0 : ¬ 0 ≤ x
  · go_enter Try.func3, Try.ntmps3
    go_wp2
    go_ret
    exact ⟨rfl, rfl⟩
  by_cases h1 : ¬ x ≤ 9223372036854775744
  · go_enter Try.func3, Try.ntmps3
    go_wp2
    go_ret
    exact ⟨rfl, rfl⟩
  by_cases h2 : ¬ 0 ≤ k
  · go_enter Try.func3, Try.ntmps3
    go_wp2
    go_ret
    exact ⟨rfl, rfl⟩
  by_cases h3 : ¬ k ≤ (9223372036854775744 - x) / 64
  · go_enter Try.func3, Try.ntmps3
    go_wp2
    go_ret
    exact ⟨rfl, rfl⟩
  have g0 : 0 ≤ x := by omega
  have g1 : x ≤ 9223372036854775744 := by omega
  have g2 : 0 ≤ k := by omega
  have g3 : k ≤ (9223372036854775744 - x) / 64 := by omega
  have g4 : x + 64 * k ≤ 9223372036854775744 := by omega
  have H1 : Hid (Calls Try.prog 6 #[.int .i64 (x + 64 * k)] w fun e w' => e = .returned (.int .i64 (words (x + 64 * k))) ∧ w' = w) := runWords_any _ w (by omega) (by omega)
  have H2 : Hid (Calls Try.prog 6 #[.int .i64 x] w fun e w' => e = .returned (.int .i64 (words x)) ∧ w' = w) := runWords_any _ w (by omega) (by omega)
  have H3 : Hid (Calls Try.prog 6 #[.int .i64 (64 * k)] w fun e w' => e = .returned (.int .i64 (words (64 * k))) ∧ w' = w) := runWords_any _ w (by omega) (by omega)
  obtain ⟨hb0, hb1⟩ := words_bd x g0 g1
  rw [words_shift x k g0 g2] at H1
  rw [words_whole k g2] at H3
  generalize words x = n at H1 H2 hb0 hb1
  go_enter Try.func3, Try.ntmps3
  go_wp2_with fail
  refine H1.out.mono ?_
  rintro e w1 ⟨rfl, rfl⟩
  go_wp2_with fail
  refine H2.out.mono ?_
  rintro e w2 ⟨rfl, rfl⟩
  go_wp2_with fail
  refine H3.out.mono ?_
  rintro e w3 ⟨rfl, rfl⟩
  go_wp2
  go_ret
  exact ⟨rfl, rfl⟩
end Go.Proofs.Qxb6615617a
