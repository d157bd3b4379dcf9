/-
  THE BUDGET: 'ZZnewBudget', 'ZZnewShare', 'admits', 'ZZadmits'.
-/
import Derived.Test.Qxb6615617aClaims
import Derived.RegionTactic
import Derived.ChangeAlike
import Derived.Deep.QuietTactic
import Derived.BigQuiet
namespace Go.Proofs.Qxb6615617a
open Go.RowKit Go.Maps
set_option linter.unusedVariables false

/-- Block p is a budget. -/
structure BudgetAt (w : World) (p : Nat) (size held ent : Int) (m : Nat) : Prop where
  c2 : w.cell? ⟨p, 2, none⟩ = some (.int .i64 size)
  c3 : w.cell? ⟨p, 3, none⟩ = some (.int .i64 held)
  c4 : w.cell? ⟨p, 4, none⟩ = some (.int .i64 ent)
  c5 : w.cell? ⟨p, 5, none⟩ = some (.map (some m))

/-- Block p is a share. -/
structure ShareAt (w : World) (p : Nat) (read rest : Int) : Prop where
  c1 : w.cell? ⟨p, 1, none⟩ = some (.int .i64 read)
  c2 : w.cell? ⟨p, 2, none⟩ = some (.int .i64 rest)

theorem BudgetAt.later {w w' : World} {p : Nat} {size held ent : Int} {m : Nat} (h : BudgetAt w p size held ent m) (hb : Below w.heap.size w w') : BudgetAt w' p size held ent m :=
  have hlt := World.block_lt_of_cell? _ _ h.c2
  ⟨(hb.cell (p := ⟨p, 2, none⟩) hlt).trans h.c2, (hb.cell (p := ⟨p, 3, none⟩) hlt).trans h.c3, (hb.cell (p := ⟨p, 4, none⟩) hlt).trans h.c4, (hb.cell (p := ⟨p, 5, none⟩) hlt).trans h.c5⟩
theorem ShareAt.later {w w' : World} {p : Nat} {read rest : Int} (h : ShareAt w p read rest) (hb : Below w.heap.size w w') : ShareAt w' p read rest :=
  have hlt := World.block_lt_of_cell? _ _ h.c2
  ⟨(hb.cell (p := ⟨p, 1, none⟩) hlt).trans h.c1, (hb.cell (p := ⟨p, 2, none⟩) hlt).trans h.c2⟩

set_option maxHeartbeats 400000 in
theorem newBudget_any (size held ent : Int) (m : Nat) (w : World) :
    Calls Try.prog 10 #[.int .i64 size, .int .i64 held, .int .i64 ent, .map (some m)] w fun e w' => e = .returned (.pointer (some ⟨w.heap.size, 0, none⟩)) ∧ BudgetAt w' w.heap.size size held ent m ∧ Below w.heap.size w w' := by
  go_enter Try.func10, Try.ntmps10
  go_wp2
  go_ret
  exact ⟨rfl, ⟨by simp [go_sem], by simp [go_sem], by simp [go_sem], by simp [go_sem]⟩, (Below.refl _ _).alloc (Nat.le_refl _) _⟩

set_option maxHeartbeats 400000 in
theorem newShare_any (b : Option Addr) (read rest : Int) (w : World) :
    Calls Try.prog 12 #[.pointer b, .int .i64 read, .int .i64 rest] w fun e w' => e = .returned (.pointer (some ⟨w.heap.size, 0, none⟩)) ∧ ShareAt w' w.heap.size read rest ∧ Below w.heap.size w w' := by
  go_enter Try.func12, Try.ntmps12
  go_wp2
  go_ret
  exact ⟨rfl, ⟨by simp [go_sem], by simp [go_sem]⟩, (Below.refl _ _).alloc (Nat.le_refl _) _⟩

/-- All keys that are no longer to come are at most x. -/
def Met (D : DataW Unit) (left : Lit → Bool) (x : Int) : Prop := ∀ t, has D (.int .i64 t) = true → left (.int .i64 t) = false → t ≤ x

theorem met_start (D : DataW Unit) (x : Int) : Met D (has D) x := fun t h1 h2 => by rw [h1] at h2; cases h2

theorem met_step {D : DataW Unit} {left : Lit → Bool} {x y z : Int} (h : Met D left x) (hxy : x ≤ y) (hzy : z ≤ y) : Met D (fun t => left t && !t.sameKey (.int .i64 z)) y := by
  intro t h1 h2
  simp only [Bool.and_eq_false_iff, Bool.not_eq_false'] at h2
  rcases h2 with h2 | h2
  · have := h t h1 h2; omega
  · have e := WideAt.sameKey_eq h2
    simp only [Lit.int.injEq, true_and] at e
    omega

set_option maxHeartbeats 800000 in
theorem admits_any (pb ps m n : Nat) (zs : List Int) (size held ent read rest most : Int) (w : World) (hB : BudgetAt w pb size held ent m) (hS : ShareAt w ps read rest) (hK : Keys w m n zs)
    (g1 : -4611686018427387904 ≤ size) (g2 : size ≤ 4611686018427387904) (g3 : 0 ≤ held) (g4 : held ≤ 1152921504606846976) (g5 : 0 ≤ ent) (g6 : ent ≤ 1152921504606846976) (g7 : 0 ≤ read) (g8 : read ≤ 1152921504606846976)
    (hr : rest ≤ most) (hz : ∀ z ∈ zs, z ≤ most) (hm : most = rest ∨ most ∈ zs) :
    Calls Try.prog 14 #[.pointer (some ⟨pb, 0, none⟩), .pointer (some ⟨ps, 0, none⟩)] w fun e w' => e = .returned (.bool (decide (read ≤ size - held) && decide (most ≤ size - ent - read))) ∧ Below w.heap.size w w' := by
  obtain ⟨D, hown, hks⟩ := hK
  have HZ : Hid (∀ z, has D (.int .i64 z) = true → z ≤ most) := fun z h => hz z ((hks z).1 h)
  have HM : Hid (most = rest ∨ has D (.int .i64 most) = true) := by
    rcases hm with h | h
    · exact Or.inl h
    · exact Or.inr ((hks most).2 h)
  clear hz hm hks
  have b5 := hB.c5
  have s2 := hS.c2
  go_enter Try.func14, Try.ntmps14
  go_wp2_with (at_range; refine wpList_range_own _ rfl _ 28 rfl 2 3 law2 Try.underlying28 _ m n D rfl hown ?_; intro w0 hrg0 hg0 hs0)
  go_frame
  go_loopw [5] (fun v wr => ∃ (left : Lit → Bool) (cnt : Nat) (x : Int), v = .int .i64 x ∧ wr.ranges Try.prog 2 (plainElem Try.prog 3) m w.heap.size n D left cnt ∧ Below w.heap.size w wr ∧ rest ≤ x ∧ x ≤ most ∧ Met D left x)
    (fun _ wr => wr.rangeLeft m w.heap.size)
  case atStart => exact ⟨_, _, rest, rfl, hrg0, (Below.refl _ _).grown hg0 (Nat.le_refl _) (fun k hk => by cases hk), Int.le_refl _, hr, met_start D rest⟩
  case round =>
    obtain ⟨left, cnt, x, rfl, hrg, hbel, hx0, hx1, hmet⟩ := hrel
    go_wp2_with (at_next; refine wpList_next_ranges_ii _ rfl _ rfl 2 3 .i64 .i64 law2 Try.underlying2 Try.underlying3 m w.heap.size n _ _ _ rfl hrg ?_ ?_)
    · intro _ hl0
      have ex : x = most := by
        rcases HM.out with h | h
        · omega
        · have := hmet most h (hl0 _)
          omega
      have EX : Hid (x = most) := ex
      clear ex hmet hrg hrg0 hg0 hs0 hown b5 s2
      have hB' := hB.later hbel
      have hS' := hS.later hbel
      have b2 := hB'.c2
      have b3 := hB'.c3
      have b4 := hB'.c4
      have s1 := hS'.c1
      clear hB hS hB' hS'
      by_cases hg : read ≤ size - held
      · have hd : decide (read ≤ size - held) = true := by simpa using hg
        go_wp2_with fail
        go_quiet (fail)
        go_wp2
        go_ret
        refine ⟨?_, below_drewN hbel _⟩
        rw [← EX.out]
        first | rfl | (rw [hd]; rfl)
      · have hd : decide (read ≤ size - held) = false := by simpa using hg
        go_wp2_with fail
        go_quiet (fail)
        go_wp2
        go_ret
        refine ⟨?_, below_drewN hbel _⟩
        first | rfl | (rw [hd]; rfl)
    · intro z c w1 cnt1 hwx hwc hlx hat hrg1 hlt hg1 hs1 hen
      have hzm := HZ.out z (has_true_of_atKey hat)
      have hb1 : Below w.heap.size w w1 := hbel.grown hg1 hbel.size (fun j hj => by cases hj; exact Nat.le_refl _)
      have hm1 := fun y (h1 : x ≤ y) (h2 : z ≤ y) => met_step (z := z) hmet h1 h2
      have HM1 : Hid (∀ y, x ≤ y → z ≤ y → Met D (fun t => left t && !t.sameKey (.int .i64 z)) y) := hm1
      have ME : Hid (w1.rangeLeft m w.heap.size < wr.rangeLeft m w.heap.size) := by
        show w1.rangeLeft m w.heap.size < wr.rangeLeft m w.heap.size
        rw [hrg1.left_eq, hrg.left_eq]; exact hlt
      clear hm1 hmet hat hg1 hrg hrg0 hg0 hs0 hown b5 s2 hB hS
      by_cases hxz : x < z
      · go_wp2
        go_roundw
        case rel => exact ⟨_, cnt1, z, rfl, hrg1, hb1, by omega, hzm, HM1.out z (by omega) (by omega)⟩
        case measure => exact ME.out
      · go_wp2
        go_roundw
        case rel => exact ⟨_, cnt1, x, rfl, hrg1, hb1, hx0, hx1, HM1.out x (by omega) (by omega)⟩
        case measure => exact ME.out

set_option maxHeartbeats 800000 in
theorem zzAdmits_any (pb ps m n : Nat) (zs : List Int) (size held ent read rest most : Int) (w : World) (hB : BudgetAt w pb size held ent m) (hS : ShareAt w ps read rest) (hK : Keys w m n zs)
    (g1 : -4611686018427387904 ≤ size) (g2 : size ≤ 4611686018427387904) (g3 : 0 ≤ held) (g4 : held ≤ 1152921504606846976) (g5 : 0 ≤ ent) (g6 : ent ≤ 1152921504606846976) (g7 : 0 ≤ read) (g8 : read ≤ 1152921504606846976)
    (hr : rest ≤ most) (hz : ∀ z ∈ zs, z ≤ most) (hm : most = rest ∨ most ∈ zs) :
    Calls Try.prog 11 #[.pointer (some ⟨pb, 0, none⟩), .pointer (some ⟨ps, 0, none⟩)] w fun e w' => e = .returned (.bool (decide (read ≤ size - held) && decide (most ≤ size - ent - read))) ∧ Below w.heap.size w w' := by
  have h := admits_any pb ps m n zs size held ent read rest most w hB hS hK g1 g2 g3 g4 g5 g6 g7 g8 hr hz hm
  generalize (decide (read ≤ size - held) && decide (most ≤ size - ent - read)) = r at h ⊢
  have H : Hid (Calls Try.prog 14 #[.pointer (some ⟨pb, 0, none⟩), .pointer (some ⟨ps, 0, none⟩)] w fun e w' => e = .returned (.bool r) ∧ Below w.heap.size w w') := h
  clear h hB hS hK g1 g2 g3 g4 g5 g6 g7 g8 hr hz hm
  go_enter Try.func11, Try.ntmps11
  go_wp2_with fail
  refine H.out.mono ?_
  rintro e w1 ⟨rfl, hb⟩
  go_wp2
  go_ret
  exact ⟨rfl, hb⟩
end Go.Proofs.Qxb6615617a
