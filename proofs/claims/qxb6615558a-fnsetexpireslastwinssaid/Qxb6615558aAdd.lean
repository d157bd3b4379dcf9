/-
  'time.Time.Add' AT THE ZERO TIME: some time without a location; nothing old is written.
-/
import Derived.Test.Qxb6615558aLease
import Derived.Test.Qxb6615558aBits
namespace Go.Proofs.Qxb6615558a
open Go.RowKit
set_option linter.unusedVariables false

set_option maxHeartbeats 400000 in
theorem nsec_zero (b : Nat) (w : World) (h : w.cell? ⟨b, 0, none⟩ = some (.int .u64 0)) :
    Calls Try.prog 14 #[.pointer (some ⟨b, 0, none⟩)] w fun e w' => e = .returned (.int .i32 0) ∧ w' = w := by
  go_enter Try.func14, Try.ntmps14
  go_wp2
  go_ret
  have e : wrap32 (0 : Int) = 0 := by unfold wrap32; omega
  exact ⟨by rw [nsec_none, e]; rfl, rfl⟩

set_option maxHeartbeats 400000 in
theorem addSec_any (b : Nat) (n y d : Int) (l : Value) (w : World) (h0 : w.cell? ⟨b, 0, none⟩ = some (.int .u64 n)) (h1 : w.cell? ⟨b, 1, none⟩ = some (.int .i64 0)) (f1 : w.frozen? ⟨b, 1, none⟩ = false)
    (hn : 0 ≤ n) (hn' : n < 1073741824) :
    Calls Try.prog 15 #[.pointer (some ⟨b, 0, none⟩), .int .i64 d] w fun e w' => e = .returned (.tuple #[]) ∧ ∃ y, w' = w.setCell ⟨b, 1, none⟩ (.int .i64 y) := by
  have hm := mono_no n hn hn'
  clear hn hn'
  go_enter Try.func15, Try.ntmps15
  go_wp2_with fail
  all_goals
    go_end0
    exact ⟨rfl, _, rfl⟩

/-- It hands back some time without a location; the world has at most new blocks. -/
def GivesTime (w : World) (e : Ending) (w' : World) : Prop := ∃ x y, e = .returned (.agg #[.int .u64 x, .int .i64 y, .pointer none]) ∧ w.grownBy w' none

set_option maxHeartbeats 400000 in
theorem add_at (d m k : Int) (w : World) (ht : d.tmod 1000000000 = m) (hm0 : -1000000000 < m) (hm1 : m < 1000000000) (hk : m < 0 ∧ k = m + 1000000000 ∨ 0 ≤ m ∧ k = m) :
    Calls Try.prog 8 #[.agg #[.int .u64 0, .int .i64 0, .pointer none], .int .i64 d] w fun e w' => GivesTime w e w' := by
  rcases hk with ⟨hneg, rfl⟩ | ⟨hpos, rfl⟩
  · have hwall := wall_of (m + 1000000000) (by omega) (by omega)
    have hmono := mono_no (m + 1000000000) (by omega) (by omega)
    go_enter Try.func8, Try.ntmps8
    go_wp2_with (go_at_call 14; refine (nsec_zero _ _ (by simp [go_sem])).mono ?_; rintro e w' ⟨rfl, rfl⟩)
    refine (addSec_any w.heap.size (m + 1000000000) 0 _ undef _ (by simp [go_sem]) (by simp [go_sem]) (by simp [go_sem]) (by omega) (by omega)).mono ?_
    rintro e w1 ⟨rfl, y, rfl⟩
    go_wp2_with fail
    refine bodyPost_ret (v := .agg #[.int .u64 (m + 1000000000), .int .i64 y, .pointer none]) (by simp [results, Try.results8, go_sem]) rfl ⟨_, _, rfl, ?_⟩
    exact (World.grownBy_alloc w _ none).trans (World.grownBy_alloc _ _ none)
  · have hwall := wall_of k (by omega) (by omega)
    have hmono := mono_no k (by omega) (by omega)
    go_enter Try.func8, Try.ntmps8
    go_wp2_with (go_at_call 14; refine (nsec_zero _ _ (by simp [go_sem])).mono ?_; rintro e w' ⟨rfl, rfl⟩)
    refine (addSec_any w.heap.size k 0 _ undef _ (by simp [go_sem]) (by simp [go_sem]) (by simp [go_sem]) (by omega) (by omega)).mono ?_
    rintro e w1 ⟨rfl, y, rfl⟩
    go_wp2_with fail
    refine bodyPost_ret (v := .agg #[.int .u64 k, .int .i64 y, .pointer none]) (by simp [results, Try.results8, go_sem]) rfl ⟨_, _, rfl, ?_⟩
    exact (World.grownBy_alloc w _ none).trans (World.grownBy_alloc _ _ none)

theorem add_any (d : Int) (w : World) :
    Calls Try.prog 8 #[.agg #[.int .u64 0, .int .i64 0, .pointer none], .int .i64 d] w fun e w' => GivesTime w e w' := by
  have h1 : d.tmod 1000000000 < 1000000000 := Int.tmod_lt_of_pos d (by omega)
  have h0 : -1000000000 < d.tmod 1000000000 := by
    have := Int.lt_tmod_of_pos d (b := 1000000000) (by omega)
    omega
  by_cases hn : d.tmod 1000000000 < 0
  · exact add_at d _ _ w rfl h0 h1 (Or.inl ⟨hn, rfl⟩)
  · exact add_at d _ _ w rfl h0 h1 (Or.inr ⟨by omega, rfl⟩)
end Go.Proofs.Qxb6615558a
