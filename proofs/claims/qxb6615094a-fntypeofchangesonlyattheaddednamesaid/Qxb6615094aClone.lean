/-
  MAKE AND COPY of a slice of strings, as laws for the walk.
-/
import Derived.Test.Qxb6615094aTypeOf
import Derived.Laws.CopyOwn
import Derived.Deep.DeepAppendRoom
import Derived.Deep.DeepCutAuto
namespace Go.Proofs.Qxb6615094a
open Go.RowKit Go.Maps
set_option linter.unusedVariables false

/-- Block g is a row of strings of the call's own that holds 'ss' and has room for 'cap'. -/
def RowIs (w : World) (g : Nat) (ss : List ByteArray) (cap : Nat) : Prop :=
  w.ownsRow 0 9 1 (.slice (some ⟨g, 0, none⟩) ss.length cap) ss.length (ss.map Value.string)

theorem RowIs.strs {w : World} {g cap : Nat} {ss : List ByteArray} (h : RowIs w g ss cap) : Strs w (some ⟨g, 0, none⟩) ss := by
  refine Or.inr ⟨g, 0, rfl, fun i hi => ?_⟩
  obtain ⟨_, ⟨h, _⟩ | ⟨g', cap', cur, hv, _, hh, hc, _, hs, ht⟩⟩ := h
  · cases h
  · simp only [Value.slice.injEq, Option.some.injEq, Addr.mk.injEq] at hv
    obtain ⟨⟨rfl, -, -⟩, -, rfl⟩ := hv
    have e : cur.toList[i]? = some (.string (ss.getD i ByteArray.empty)) := by
      have e1 : (cur.toList.take (ss.length * 1))[i]? = (ss.map Value.string)[i]? := by rw [ht]
      rw [List.getElem?_take_of_lt (by omega)] at e1
      rw [e1, List.getElem?_map, List.getElem?_eq_getElem hi, List.getD_eq_getElem?_getD, List.getElem?_eq_getElem hi]
      rfl
    rw [Array.getElem?_toList] at e
    simp [World.cell?, hh, e]

theorem RowIs.later {w w' : World} {g cap : Nat} {ss : List ByteArray} (h : RowIs w g ss cap) (hb : w'.heap[g]? = w.heap[g]?) : RowIs w' g ss cap := by
  obtain ⟨h1, ⟨h, _⟩ | ⟨g', cap', cur, hv, h2, hh, h3⟩⟩ := h
  · cases h
  · have hv0 := hv
    simp only [Value.slice.injEq, Option.some.injEq, Addr.mk.injEq] at hv
    obtain ⟨⟨rfl, -, -⟩, -, rfl⟩ := hv
    exact ⟨h1, Or.inr ⟨_, _, cur, hv0, h2, hb.trans hh, h3⟩⟩

theorem RowIs.lt {w : World} {g cap : Nat} {ss : List ByteArray} (h : RowIs w g ss cap) : g < w.heap.size := by
  obtain ⟨h1, ⟨h, _⟩ | ⟨g', cap', cur, hv, h2, hh, h3⟩⟩ := h
  · cases h
  · simp only [Value.slice.injEq, Option.some.injEq, Addr.mk.injEq] at hv
    obtain ⟨⟨rfl, -, -⟩, -, rfl⟩ := hv
    exact (Array.getElem?_eq_some_iff.1 hh).1

/-- 'make([]string, n, c)'. -/
def blank (c : Nat) : Array Value := madeCells #[.string ⟨#[]⟩] c
theorem size_blank (c : Nat) : (blank c).size = c := size_madeCells _ _

theorem info9 : (Try.prog.info? 9).map (fun i => (i.zero, i.size, i.bytes)) = some (some (.string ⟨#[]⟩), 1, 16) := by kernel_rfl
theorem size9 : (Try.prog.info? 9).map (·.size) = some 1 := by kernel_rfl

theorem run_mk (n c : Nat) (h : n ≤ c) (hc : c ≤ 131072) (w : World) :
    (Instr.makeSlice 22 (.int .i64 n) (.int .i64 c)).run Try.prog w = .ok (.slice (some ⟨w.heap.size, 0, none⟩) n c) (w.alloc (.cells (blank c) 9)) := by
  obtain ⟨i0, hi, hz0, hz1, hz2⟩ := info_parts info9
  have hr := run_make (P := Try.prog) w 22 9 i0 (.string ⟨#[]⟩) Try.underlying22 hi hz0 .i64 .i64 n c (by omega) (by omega) (by rw [hz2]; omega) (by omega)
  rw [hz1] at hr
  simpa [blank, Value.cells] using hr

/-- 'copy(d, s)', d a row of the call's own of just that length: the walk's own equation, and what stands behind it. -/
theorem run_copy_strs (w : World) (g dc sc : Nat) (sa : Option Addr) (ss : List ByteArray)
    (cur : Array Value) (hg : w.heap[g]? = some (.cells cur 9 (0, 0))) (hsz : cur.size = dc) (hfit : ss.length ≤ dc) (hdc : dc ≤ maxLen) (hS : Strs w sa ss) :
    ∃ w', (∀ ty, (Builtin.copy_ #[22, 22] ty #[.slice (some ⟨g, 0, none⟩) ss.length dc, .slice sa ss.length sc]).run Try.prog w = .ok (.int .i64 ss.length) w') ∧ RowIs w' g ss dc ∧ w.grownBy w' (some g) := by
  have hl : (ss.map Value.string).length = ss.length := by simp
  have hc1 : ∀ v ∈ ss.map Value.string, v.oneCell' = true := fun v hv => by obtain ⟨x, _, rfl⟩ := List.mem_map.1 hv; rfl
  by_cases h0 : ss.length = 0
  · obtain rfl : ss = [] := List.eq_nil_of_length_eq_zero h0
    refine ⟨w, fun ty => run_copy_none (P := Try.prog) w 22 22 ty 9 (some ⟨g, 0, none⟩) sa 0 dc 0 sc Try.underlying22 size9 rfl, ?_, ⟨rfl, rfl, rfl, Nat.le_refl _, fun _ _ _ => rfl⟩⟩
    exact ⟨by simp, Or.inr ⟨g, dc, cur, rfl, Nat.zero_le _, hg, hfit, hdc, by simpa using hsz, by simp⟩⟩
  · rcases hS with rfl | ⟨b, off, rfl, hc⟩
    · simp at h0
    have hsrc : ∀ j v, (ss.map Value.string)[j]? = some v → w.cell? ((⟨b, off, none⟩ : Addr).add j) = some v := by
      intro j v hj
      have hj' : j < ss.length := by
        have := (List.getElem?_eq_some_iff.1 hj).1
        simpa using this
      rw [List.getElem?_map, List.getElem?_eq_getElem hj'] at hj
      have e := hc j hj'
      rw [List.getD_eq_getElem?_getD, List.getElem?_eq_getElem hj'] at e
      have ea : (⟨b, off, none⟩ : Addr).add j = ⟨b, off + j, none⟩ := by unfold Addr.add; split <;> simp_all
      rw [ea, e]
      simpa using hj
    have hr := fun ty => run_copy_row (P := Try.prog) w 22 22 ty 9 g 0 ss.length dc ⟨b, off, none⟩ ss.length sc cur 9 (ss.map Value.string) Try.underlying22 size9 hg (by rw [hl]; exact (Nat.min_self _).symm) hsrc (by rw [hl]; omega) hc1
    rw [hl] at hr
    refine ⟨_, hr, ⟨by simp, Or.inr ⟨g, dc, _, rfl, Nat.zero_le _, setRow_heap w g _ _ 9 _ hg, hfit, hdc, ?_, ?_⟩⟩, ?_⟩
    · simp; omega
    · simp
    · exact ⟨rfl, rfl, rfl, by simp [World.setRow], fun k _ hk => setRow_other w g k _ (fun e => hk (by rw [e]))⟩

/-- MAKE AND COPY TOGETHER, as the walk meets them. -/
theorem run_clone (w : World) (n : Nat) (sa : Option Addr) (ss : List ByteArray) (sc : Nat) (h : ss.length ≤ n) (hn : n ≤ 131072) (hS : Strs w sa ss) :
    ∃ w', (∀ ty, (Builtin.copy_ #[22, 22] ty #[.slice (some ⟨w.heap.size, 0, none⟩) ss.length n, .slice sa ss.length sc]).run Try.prog (w.alloc (.cells (blank n) 9)) = .ok (.int .i64 ss.length) w') ∧
      RowIs w' w.heap.size ss n ∧ Below w.heap.size w w' := by
  have hb : Below w.heap.size w (w.alloc (.cells (blank n) 9)) := (Below.refl _ _).alloc (Nat.le_refl _) _
  obtain ⟨w', hr, hrow, hg⟩ := run_copy_strs (w.alloc (.cells (blank n) 9)) w.heap.size n sc sa ss (blank n) (MapKept.heap_alloc w _).1 (size_blank n) h (by unfold maxLen; omega) (hS.later hb)
  exact ⟨w', hr, hrow, hb.grown hg (by simp) (fun k hk => by cases hk; exact Nat.le_refl _)⟩

theorem RowIs.alloc {w : World} {g cap : Nat} {ss : List ByteArray} (h : RowIs w g ss cap) (o : Obj) : RowIs (w.alloc o) g ss cap := h.later (Below.heap_alloc w o g h.lt)
theorem RowIs.below {w w' : World} {g cap : Nat} {ss : List ByteArray} (h : RowIs w g ss cap) (hb : Below w.heap.size w w') : RowIs w' g ss cap := h.later (hb.block g h.lt)
theorem RowIs.grown {w w' : World} {g cap : Nat} {ss : List ByteArray} (h : RowIs w g ss cap) {row : Option Nat} (hg : w.grownBy w' row) (hne : some g ≠ row) : RowIs w' g ss cap := h.later (hg.block g h.lt hne)

theorem run_mk1 (n : Nat) (hc : n ≤ 65536) (w : World) :
    (Instr.makeSlice 22 (.int .i64 n) (.int .i64 ((n : Int) + 1))).run Try.prog w = .ok (.slice (some ⟨w.heap.size, 0, none⟩) n (n + 1)) (w.alloc (.cells (blank (n + 1)) 9)) :=
  run_mk n (n + 1) (by omega) (by omega) w

/-- 'append(s, x)' where there is room, for the walk. -/
theorem wpList_append_row {w : World} {ops : Array Oper} {rest : List Oper} {o : Oper} {a : Act} {Q : Exit → Act → World → Prop} (hgd : o.guard = none) (s t : Operand)
    (ho : o.op = .call { callee := .builtin .append, args := #[s, t], argTypes := #[22, 22] })
    (g : Nat) (ss : List ByteArray) (cap : Nat) (x : ByteArray) (hs : a.eval s = .slice (some ⟨g, 0, none⟩) ss.length cap) (b : Nat) (hx : a.eval t = .slice (some ⟨b, 0, none⟩) 1 1)
    (hroom : ss.length + 1 ≤ cap) (hrow : RowIs w g ss cap) (hc : w.cell? ⟨b, 0, none⟩ = some (.string x))
    (h : ∀ w', RowIs w' g (ss ++ [x]) cap → w.grownBy w' (some g) → wpList Try.prog ops Q rest (a.put o.dst (.slice (some ⟨g, 0, none⟩) (ss.length + 1) cap)) w') : wpList Try.prog ops Q (o :: rest) a w := by
  obtain ⟨i0, hi, hz0, hz1, hz2⟩ := info_parts info9
  refine wpList_append_own_spare w hgd s t 22 ho 0 9 i0 1 Try.underlying22 hi hz1 g ss.length cap (ss.map Value.string) hs hrow ⟨b, 0, none⟩ 1 1 [.string x] hx rfl ?_ ?_ hroom ?_
  · intro j u hj
    match j, hj with
    | 0, hj =>
      have : u = .string x := by simpa using hj.symm
      rw [this]
      exact hc
    | j + 1, hj => simp at hj
  · intro u hu
    have : u = .string x := by simpa using hu
    rw [this]; rfl
  · intro w' h1 h2
    refine h w' ?_ h2
    have e1 : (ss ++ [x]).length = ss.length + 1 := by simp
    have e2 : (ss ++ [x]).map Value.string = ss.map Value.string ++ [.string x] := by simp
    unfold RowIs
    rw [e1, e2]
    exact h1
end Go.Proofs.Qxb6615094a
