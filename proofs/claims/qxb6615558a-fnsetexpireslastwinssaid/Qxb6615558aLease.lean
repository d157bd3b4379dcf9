/-
  THE LEASE IN MEMORY: 'ZZnewLease', 'setExpires', 'ZZsetExpires', 'ExpiresAt'.
-/
import Derived.Test.Qxb6615558aLocks
import Derived.Conc.MuLone
import Derived.WalkKit
import Derived.WalkSpells
import Derived.WalkLawsBesides
namespace Go.Proofs.Qxb6615558a
open Go.RowKit
open Go.MuLone
set_option linter.unusedVariables false

/-- The fourteen cells of a lease: its file, its node, the lock's state word, the time at which it expires. -/
def leaseCells (f : Value) (s : ByteArray) (m x y : Int) : Array Value :=
  #[f, .string s, .chan none, .int .i64 0, .nilFunc, .chan none, .int .i32 m, .int .u32 0, .int .u64 x, .int .i64 y, .pointer none, .int .i32 0, .int .u32 0, .bool false]

/-- Block b of w is a lease; nobody holds its lock. -/
def Lease (w : World) (b : Nat) (f : Value) (s : ByteArray) (x y : Int) : Prop := w.heap[b]? = some (.cells (leaseCells f s 0 x y) 46 (0, 0))

theorem Lease.lt {w : World} {b : Nat} {f : Value} {s : ByteArray} {x y : Int} (h : Lease w b f s x y) : b < w.heap.size := (Array.getElem?_eq_some_iff.1 h).1
theorem Lease.kept {w w' : World} {b : Nat} {f : Value} {s : ByteArray} {x y : Int} (h : Lease w b f s x y) (hb : w'.heap[b]? = w.heap[b]?) : Lease w' b f s x y := hb.trans h

theorem newLease_any (f : Option Addr) (n c : Nat) (s : ByteArray) (w : World) :
    Calls Try.prog 7 #[.slice f n c, .string s] w fun e w' => e = .returned (.pointer (some ⟨w.heap.size, 0, none⟩)) ∧ w' = w.alloc (.cells (leaseCells (.slice f n c) s 0 0 0) 46) := by
  go_enter Try.func7, Try.ntmps7
  go_wp2
  go_ret
  exact ⟨rfl, rfl⟩

theorem heap_setCell_at {w : World} {b o : Nat} {cs : Array Value} {t : TypeId} {fr : Nat × Nat} (h : w.heap[b]? = some (.cells cs t fr)) (v : Value) : (w.setCell ⟨b, o, none⟩ v).heap[b]? = some (.cells (cs.setIfInBounds o v) t fr) := by
  rw [show w.setCell ⟨b, o, none⟩ v = w.setRow b (cs.setIfInBounds o v) from setCell_eq_setRow w b o cs t fr v h]
  exact setRow_heap w b cs _ t fr h

theorem grownBy_setCell (w : World) (b o : Nat) (v : Value) : w.grownBy (w.setCell ⟨b, o, none⟩ v) (some b) :=
  ⟨rfl, rfl, rfl, by simp [World.setCell], fun k _ hk => Below.heap_setCell _ _ _ _ (fun e => hk (by rw [e]))⟩

theorem grownBy_trans' {a b c : World} {g : Nat} (h : a.grownBy b (some g)) (k : b.grownBy c (some g)) : a.grownBy c (some g) :=
  ⟨k.os.trans h.os, k.tape.trans h.tape, k.output.trans h.output, Nat.le_trans h.size k.size, fun i hi hne => (k.block i (Nat.lt_of_lt_of_le hi h.size) hne).trans (h.block i hi hne)⟩

set_option maxHeartbeats 800000 in
theorem setExpires_any (b : Nat) (f : Value) (s : ByteArray) (x0 y0 x y : Int) (w : World) (hL : Lease w b f s x0 y0) :
    Calls Try.prog 17 #[.pointer (some ⟨b, 0, none⟩), .agg #[.int .u64 x, .int .i64 y, .pointer none]] w fun e w' => e = .returned (.tuple #[]) ∧ Lease w' b f s x y ∧ w.grownBy w' (some b) := by
  have hlt := hL.lt
  have h1 : (w.alloc (.cells #[.int .u64 x, .int .i64 y, .pointer none] 30)).heap[b]? = some (.cells (leaseCells f s 0 x0 y0) 46 (0, 0)) := (Below.heap_alloc w _ b hlt).trans hL
  have a6 : (w.alloc (.cells #[.int .u64 x, .int .i64 y, .pointer none] 30)).cell? ⟨b, 6, none⟩ = some (.int .i32 0) := by simp [World.cell?, h1, leaseCells]
  have z6 : (w.alloc (.cells #[.int .u64 x, .int .i64 y, .pointer none] 30)).frozen? ⟨b, 6, none⟩ = false := by simp [World.frozen?, h1]
  have c6 : w.cell? ⟨b, 6, none⟩ = some (.int .i32 0) := by simp [World.cell?, show w.heap[b]? = _ from hL, leaseCells]
  have c8 : w.cell? ⟨b, 8, none⟩ = some (.int .u64 x0) := by simp [World.cell?, show w.heap[b]? = _ from hL, leaseCells]
  have c9 : w.cell? ⟨b, 9, none⟩ = some (.int .i64 y0) := by simp [World.cell?, show w.heap[b]? = _ from hL, leaseCells]
  have c10 : w.cell? ⟨b, 10, none⟩ = some (.pointer none) := by simp [World.cell?, show w.heap[b]? = _ from hL, leaseCells]
  have f6 : w.frozen? ⟨b, 6, none⟩ = false := by simp [World.frozen?, show w.heap[b]? = _ from hL]
  have f8 : w.frozen? ⟨b, 8, none⟩ = false := by simp [World.frozen?, show w.heap[b]? = _ from hL]
  have f9 : w.frozen? ⟨b, 9, none⟩ = false := by simp [World.frozen?, show w.heap[b]? = _ from hL]
  have f10 : w.frozen? ⟨b, 10, none⟩ = false := by simp [World.frozen?, show w.heap[b]? = _ from hL]
  go_enter_defers Try.func17, Try.ntmps17
  go_wp2_with (go_at_call 18; refine (lock_free Try.muLib ⟨b, 6, none⟩ _ a6 z6).mono ?_; rintro e w' ⟨rfl, rfl⟩)
  refine leaves_cons (f := 19) (args := #[.pointer (some ⟨b, 6, none⟩)]) (by simp) (by simp [go_sem]) ?_
  have g0 : w.heap[b]? = some (.cells (leaseCells f s 0 x0 y0) 46 (0, 0)) := hL
  have g1 := heap_setCell_at (o := 6) g0 (.int .i32 1)
  have g2 := heap_setCell_at (o := 8) g1 (.int .u64 x)
  have g3 := heap_setCell_at (o := 9) g2 (.int .i64 y)
  have g4 := heap_setCell_at (o := 10) g3 (.pointer none)
  have g5 := (Below.heap_alloc _ (.cells #[.int .u64 x, .int .i64 y, .pointer none] 30) b (Array.getElem?_eq_some_iff.1 g4).1).trans g4
  refine (unlock_deferred Try.muLib ⟨b, 6, none⟩ .returning _ ?_ ?_).mono ?_
  · simp [World.cell?, g5, leaseCells]
  · simp [World.frozen?, g5]
  rintro e u' w'' ⟨rfl, rfl, rfl⟩
  refine ⟨_, results_none rfl _ _ _, rfl, heap_setCell_at (o := 6) g5 (.int .i32 0), ?_⟩
  refine grownBy_trans' ?_ (grownBy_setCell _ b 6 _)
  refine grownBy_trans' ?_ (World.grownBy_alloc _ _ _)
  refine grownBy_trans' ?_ (grownBy_setCell _ b 10 _)
  refine grownBy_trans' ?_ (grownBy_setCell _ b 9 _)
  refine grownBy_trans' ?_ (grownBy_setCell _ b 8 _)
  exact grownBy_setCell _ b 6 _

set_option maxHeartbeats 800000 in
theorem zzSetExpires_any (b : Nat) (f : Value) (s : ByteArray) (x0 y0 x y : Int) (w : World) (hL : Lease w b f s x0 y0) :
    Calls Try.prog 9 #[.pointer (some ⟨b, 0, none⟩), .agg #[.int .u64 x, .int .i64 y, .pointer none]] w fun e w' => e = .returned (.tuple #[]) ∧ Lease w' b f s x y ∧ w.grownBy w' (some b) := by
  have hL1 : Lease (w.alloc (.cells #[.int .u64 x, .int .i64 y, .pointer none] 30)) b f s x0 y0 := hL.kept (Below.heap_alloc w _ b hL.lt)
  go_enter Try.func9, Try.ntmps9
  go_wp2_with fail
  refine (setExpires_any b f s x0 y0 x y _ hL1).mono ?_
  rintro e w1 ⟨rfl, hL2, hg⟩
  go_wp2
  go_end0
  exact ⟨rfl, hL2, grownBy_trans' (World.grownBy_alloc _ _ _) hg⟩

set_option maxHeartbeats 800000 in
theorem expiresAt_any (b : Nat) (f : Value) (s : ByteArray) (x y : Int) (w : World) (hL : Lease w b f s x y) :
    Calls Try.prog 10 #[.pointer (some ⟨b, 0, none⟩)] w fun e w' => e = .returned (.agg #[.int .u64 x, .int .i64 y, .pointer none]) ∧ Lease w' b f s x y ∧ w.grownBy w' (some b) := by
  have hlt := hL.lt
  have h1 : (w.alloc (.cells #[.int .u64 0, .int .i64 0, .pointer none] 30)).heap[b]? = some (.cells (leaseCells f s 0 x y) 46 (0, 0)) := (Below.heap_alloc w _ b hlt).trans hL
  have a6 : (w.alloc (.cells #[.int .u64 0, .int .i64 0, .pointer none] 30)).cell? ⟨b, 6, none⟩ = some (.int .i32 0) := by simp [World.cell?, h1, leaseCells]
  have z6 : (w.alloc (.cells #[.int .u64 0, .int .i64 0, .pointer none] 30)).frozen? ⟨b, 6, none⟩ = false := by simp [World.frozen?, h1]
  have c6 : w.cell? ⟨b, 6, none⟩ = some (.int .i32 0) := by simp [World.cell?, show w.heap[b]? = _ from hL, leaseCells]
  have c8 : w.cell? ⟨b, 8, none⟩ = some (.int .u64 x) := by simp [World.cell?, show w.heap[b]? = _ from hL, leaseCells]
  have c9 : w.cell? ⟨b, 9, none⟩ = some (.int .i64 y) := by simp [World.cell?, show w.heap[b]? = _ from hL, leaseCells]
  have c10 : w.cell? ⟨b, 10, none⟩ = some (.pointer none) := by simp [World.cell?, show w.heap[b]? = _ from hL, leaseCells]
  have f6 : w.frozen? ⟨b, 6, none⟩ = false := by simp [World.frozen?, show w.heap[b]? = _ from hL]
  go_enter_defers Try.func10, Try.ntmps10
  go_wp2_with (go_at_call 18; refine (lock_free Try.muLib ⟨b, 6, none⟩ _ a6 z6).mono ?_; rintro e w' ⟨rfl, rfl⟩)
  refine leaves_cons (f := 19) (args := #[.pointer (some ⟨b, 6, none⟩)]) (by simp) (by simp [go_sem]) ?_
  have g0 : w.heap[b]? = some (.cells (leaseCells f s 0 x y) 46 (0, 0)) := hL
  have g1 := heap_setCell_at (o := 6) g0 (.int .i32 1)
  have g5 := (Below.heap_alloc _ (.cells #[.int .u64 x, .int .i64 y, .pointer none] 30) b (Array.getElem?_eq_some_iff.1 g1).1).trans g1
  have e0 : ((w.setCell ⟨b, 6, none⟩ (.int .i32 1)).alloc (.cells #[.int .u64 x, .int .i64 y, .pointer none] 30)).heap[w.heap.size]? = some (.cells #[.int .u64 x, .int .i64 y, .pointer none] 30 (0, 0)) := by
    have := (MapKept.heap_alloc (w.setCell ⟨b, 6, none⟩ (.int .i32 1)) (.cells #[.int .u64 x, .int .i64 y, .pointer none] 30)).1
    rwa [show (w.setCell ⟨b, 6, none⟩ (.int .i32 1)).heap.size = w.heap.size from by simp [World.setCell]] at this
  have e1 := (Below.heap_setCell ((w.setCell ⟨b, 6, none⟩ (.int .i32 1)).alloc (.cells #[.int .u64 x, .int .i64 y, .pointer none] 30)) ⟨b, 6, none⟩ (.int .i32 0) w.heap.size (by show w.heap.size ≠ b; omega)).trans e0
  refine (unlock_deferred Try.muLib ⟨b, 6, none⟩ .returning _ ?_ ?_).mono ?_
  · simp [World.cell?, g5, leaseCells]
  · simp [World.frozen?, g5]
  rintro e u' w'' ⟨rfl, rfl, rfl⟩
  have r0 := congrArg (fun o => match o with | some (Obj.cells c _ _) => c[0]? | _ => none) e1
  have hc0 : (((w.setCell ⟨b, 6, none⟩ (.int .i32 1)).alloc (.cells #[.int .u64 x, .int .i64 y, .pointer none] 30)).setCell ⟨b, 6, none⟩ (.int .i32 0)).cell? ⟨w.heap.size, 0, none⟩ = some (.int .u64 x) := by simp only [World.cell?, e1]; rfl
  have hc1 : (((w.setCell ⟨b, 6, none⟩ (.int .i32 1)).alloc (.cells #[.int .u64 x, .int .i64 y, .pointer none] 30)).setCell ⟨b, 6, none⟩ (.int .i32 0)).cell? ⟨w.heap.size, 1, none⟩ = some (.int .i64 y) := by simp only [World.cell?, e1]; rfl
  have hc2 : (((w.setCell ⟨b, 6, none⟩ (.int .i32 1)).alloc (.cells #[.int .u64 x, .int .i64 y, .pointer none] 30)).setCell ⟨b, 6, none⟩ (.int .i32 0)).cell? ⟨w.heap.size, 2, none⟩ = some (.pointer none) := by simp only [World.cell?, e1]; rfl
  clear r0
  refine ⟨.agg #[.int .u64 x, .int .i64 y, .pointer none], ?_, rfl, heap_setCell_at (o := 6) g5 (.int .i32 0), ?_⟩
  · generalize (((w.setCell ⟨b, 6, none⟩ (.int .i32 1)).alloc (.cells #[.int .u64 x, .int .i64 y, .pointer none] 30)).setCell ⟨b, 6, none⟩ (.int .i32 0)) = W at hc0 hc1 hc2 ⊢
    simp [results, Try.results10, go_sem, hc0, hc1, hc2]
  refine grownBy_trans' ?_ (grownBy_setCell _ b 6 _)
  refine grownBy_trans' ?_ (World.grownBy_alloc _ _ _)
  exact grownBy_setCell _ b 6 _
end Go.Proofs.Qxb6615558a
