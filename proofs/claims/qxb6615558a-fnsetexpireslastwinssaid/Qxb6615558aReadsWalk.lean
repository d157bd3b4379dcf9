/-
  THE WALK OF 'FnSetExpiresReadsBack': it returns true.
-/
import Derived.Test.Qxb6615558aAdd
import Derived.Test.Qxb6615558aBytes
namespace Go.Proofs.Qxb6615558a
open Go.RowKit
set_option linter.unusedVariables false

/-- Block p is a time's variable. -/
def TimeAt (w : World) (p : Nat) (x y : Int) : Prop :=
  w.cell? ⟨p, 0, none⟩ = some (.int .u64 x) ∧ w.cell? ⟨p, 1, none⟩ = some (.int .i64 y) ∧ w.cell? ⟨p, 2, none⟩ = some (.pointer none)

theorem TimeAt.lt {w : World} {p : Nat} {x y : Int} (h : TimeAt w p x y) : p < w.heap.size := World.block_lt_of_cell? _ _ h.1
theorem TimeAt.block {w w' : World} {p : Nat} {x y : Int} (h : TimeAt w p x y) (hb : w'.heap[p]? = w.heap[p]?) : TimeAt w' p x y :=
  ⟨(World.cell?_of_block (a := ⟨p, 0, none⟩) hb).trans h.1, (World.cell?_of_block (a := ⟨p, 1, none⟩) hb).trans h.2.1, (World.cell?_of_block (a := ⟨p, 2, none⟩) hb).trans h.2.2⟩
theorem TimeAt.grown {w w' : World} {p b : Nat} {x y : Int} (h : TimeAt w p x y) (hg : w.grownBy w' (some b)) (hne : p ≠ b) : TimeAt w' p x y :=
  h.block (hg.block p h.lt (fun e => hne (Option.some.inj e)))
theorem TimeAt.alloc {w : World} {p : Nat} {x y : Int} (h : TimeAt w p x y) (o : Obj) : TimeAt (w.alloc o) p x y := h.block (Below.heap_alloc w o p h.lt)
theorem TimeAt.made (w : World) (x y : Int) : TimeAt (w.alloc (.cells #[.int .u64 x, .int .i64 y, .pointer none] 30)) w.heap.size x y := by
  have h := (MapKept.heap_alloc w (.cells #[.int .u64 x, .int .i64 y, .pointer none] 30)).1
  refine ⟨?_, ?_, ?_⟩ <;> simp only [World.cell?, h] <;> rfl

theorem Lease.alloc {w : World} {b : Nat} {f : Value} {s : ByteArray} {x y : Int} (h : Lease w b f s x y) (o : Obj) : Lease (w.alloc o) b f s x y := h.kept (Below.heap_alloc w o b h.lt)
theorem Lease.file {w : World} {b : Nat} {f : Value} {s : ByteArray} {x y : Int} (h : Lease w b f s x y) : w.cell? ⟨b, 0, none⟩ = some f := by
  simp [World.cell?, show w.heap[b]? = _ from h, leaseCells]

theorem lease_new (f : Option Addr) (n c : Nat) (s : ByteArray) (w : World) :
    Calls Try.prog 7 #[.slice f n c, .string s] w fun e w' => e = .returned (.pointer (some ⟨w.heap.size, 0, none⟩)) ∧ Lease w' w.heap.size (.slice f n c) s 0 0 ∧ Below w.heap.size w w' := by
  refine (newLease_any f n c s w).mono ?_
  rintro e w' ⟨rfl, rfl⟩
  exact ⟨rfl, (MapKept.heap_alloc w _).1, (Below.refl _ _).alloc (Nat.le_refl _) _⟩

theorem below_of_grown {w w' : World} (h : w.grownBy w' none) : Below w.heap.size w w' := ⟨h.os, h.tape, h.output, h.size, fun k hk => h.block k hk (by simp)⟩
theorem below_of_row {B : Nat} {w0 w w' : World} {b : Nat} (hb : Below B w0 w) (h : w.grownBy w' (some b)) (hB : B ≤ w.heap.size) (hBb : B ≤ b) : Below B w0 w' := hb.grown h hB (fun k hk => by cases hk; exact hBb)

theorem Ints.alloc {w : World} {a : Option Addr} {zs : List Int} (h : Ints w a zs) (o : Obj) : Ints (w.alloc o) a zs := h.later ((Below.refl _ _).alloc (Nat.le_refl _) _)

theorem nil_at (d : Nat) (W : World) : (Op.equalIn (d + 1) 28 (.pointer none) (.pointer none)).run Try.prog W = .ok true W := by
  simp [Op.equalIn, run_underlying Try.underlying28]
theorem nil_nil (W : World) : (Op.equalIn 9999 28 (.pointer none) (.pointer none)).run Try.prog W = .ok true W := nil_at 9998 W

/-- WHAT STANDS BEHIND THE LEASE's MAKING, at every later step: the lease, the two copies of the file, nothing old written. -/
structure Stands (w0 w : World) (b : Nat) (a1 a2 : Option Addr) (n c1 : Nat) (zs : List Int) (s : ByteArray) (x y : Int) : Prop where
  lease : Lease w b (.slice a1 n c1) s x y
  z1 : Ints w a1 zs
  z2 : Ints w a2 zs
  n1 : ∀ p, a1 = some p → p.block < b
  n2 : ∀ p, a2 = some p → p.block < b
  below : Below w0.heap.size w0 w
  old : w0.heap.size ≤ b

theorem Stands.alloc {w0 w : World} {b : Nat} {a1 a2 : Option Addr} {n c1 : Nat} {zs : List Int} {s : ByteArray} {x y : Int} (h : Stands w0 w b a1 a2 n c1 zs s x y) (o : Obj) : Stands w0 (w.alloc o) b a1 a2 n c1 zs s x y :=
  ⟨h.lease.alloc o, h.z1.alloc o, h.z2.alloc o, h.n1, h.n2, h.below.alloc h.below.size o, h.old⟩

theorem Stands.turned {w0 w w' : World} {b : Nat} {a1 a2 : Option Addr} {n c1 : Nat} {zs : List Int} {s : ByteArray} {x y x' y' : Int} (h : Stands w0 w b a1 a2 n c1 zs s x y) (hg : w.grownBy w' (some b)) (hL : Lease w' b (.slice a1 n c1) s x' y') : Stands w0 w' b a1 a2 n c1 zs s x' y' :=
  ⟨hL, h.z1.kept hg (fun p hp e => by have := h.n1 p hp; have := Option.some.inj e; omega), h.z2.kept hg (fun p hp e => by have := h.n2 p hp; have := Option.some.inj e; omega), h.n1, h.n2, below_of_row h.below hg h.below.size h.old, h.old⟩

theorem Stands.grown {w0 w w' : World} {b : Nat} {a1 a2 : Option Addr} {n c1 : Nat} {zs : List Int} {s : ByteArray} {x y : Int} (h : Stands w0 w b a1 a2 n c1 zs s x y) (hg : w.grownBy w' none) : Stands w0 w' b a1 a2 n c1 zs s x y :=
  have hb := below_of_grown hg
  ⟨h.lease.kept (hb.block _ h.lease.lt), h.z1.later hb, h.z2.later hb, h.n1, h.n2, h.below.trans (hb.mono h.below.size), h.old⟩

set_option maxHeartbeats 2000000 in
theorem reads_walk (a : Option Addr) (c : Nat) (zs : List Int) (s : ByteArray) (d : Int) (w : World) (hn : zs.length ≤ maxLen) (hs : s.size ≤ maxLen) (hZ : Ints w a zs) :
    Calls Try.prog 3 #[.slice a zs.length c, .string s, .int .i64 d] w fun e w' => e = .returned (.bool true) ∧ Below w.heap.size w w' := by
  have HG : Hid (Calls Try.prog 5 #[.slice a zs.length c, .string s, .int .i64 d] w fun e w' => Answers e ∧ w' = w) := guardR_any a zs.length c s d w hn hs
  unfold maxLen at hn hs
  go_enter Try.func3, Try.ntmps3
  go_wp2_with fail
  refine HG.out.mono ?_
  rintro e w ⟨⟨r, rfl⟩, rfl⟩
  clear HG
  cases r
  · go_wp2
    go_ret
    exact ⟨rfl, Below.refl _ _⟩
  by_cases g0 : ¬ zs.length ≤ 1048576
  · go_wp2
    go_ret
    exact ⟨rfl, Below.refl _ _⟩
  by_cases g1 : ¬ s.size ≤ 1048576
  · go_wp2
    go_ret
    exact ⟨rfl, Below.refl _ _⟩
  by_cases g2 : ¬ zs.length + s.size ≤ 1048576
  · go_wp2
    go_ret
    exact ⟨rfl, Below.refl _ _⟩
  go_wp2_with fail
  refine (clone_any a c zs w (by omega) hZ).mono ?_
  rintro e w1 ⟨a1, c1, rfl, hn1, Z1, hx1, hb1⟩
  go_wp2_with fail
  refine (clone_any a1 c1 zs w1 (by omega) Z1).mono ?_
  rintro e w2 ⟨a2, c2, rfl, hn2, Z2, hx2, hb2⟩
  have Z1' := Z1.later hb2
  have hB2 : Below w.heap.size w w2 := hb1.trans (hb2.mono hb1.size)
  have hsz2 := hb2.size
  clear hZ Z1 hn1 hb1 hb2
  have HN2 : Hid (a2.isNone = a1.isNone) := hn2
  clear hn2
  go_wp2_with fail
  refine (lease_new a1 zs.length c1 s w2).mono ?_
  rintro e w3 ⟨rfl, hL3, hb3⟩
  have ST3 : Stands w w3 w2.heap.size a1 a2 zs.length c1 zs s 0 0 :=
    ⟨hL3, Z1'.later hb3, Z2.later hb3, fun p hp => Nat.lt_of_lt_of_le (hx1 p hp).2 hsz2, fun p hp => (hx2 p hp).2, hB2.trans (hb3.mono hB2.size), hB2.size⟩
  clear Z1' Z2 hB2 hb3 hL3 hx1 hx2 hsz2
  go_wp2_with fail
  refine (add_any d w3).mono ?_
  rintro e w4 ⟨x, y, rfl, hg4⟩
  have ST4 := ST3.grown hg4
  clear ST3 hg4
  have hlt4 := ST4.lease.lt
  go_wp2_with fail
  have ST5 := ST4.alloc (.cells #[.int .u64 x, .int .i64 y, .pointer none] 30)
  refine (zzSetExpires_any w2.heap.size (.slice a1 zs.length c1) s 0 0 x y _ ST5.lease).mono ?_
  rintro e w6 ⟨rfl, hL6, hg6⟩
  have ST6 := ST5.turned hg6 hL6
  have T6 := (TimeAt.made w4 x y).grown hg6 (by omega)
  clear ST4 ST5 hL6 hg6
  go_wp2_with fail
  refine (expiresAt_any w2.heap.size (.slice a1 zs.length c1) s x y w6 ST6.lease).mono ?_
  rintro e w7 ⟨rfl, hL7, hg7⟩
  have ST7 := ST6.turned hg7 hL7
  have T7 := T6.grown hg7 (by omega)
  have hlt7 := ST7.lease.lt
  clear ST6 T6 hL7 hg7
  go_wp2_with fail
  have ST8 := ST7.alloc (.cells #[.int .u64 x, .int .i64 y, .pointer none] 30)
  have T8 := T7.alloc (.cells #[.int .u64 x, .int .i64 y, .pointer none] 30)
  have U8 := TimeAt.made w7 x y
  refine (expiresAt_any w2.heap.size (.slice a1 zs.length c1) s x y _ ST8.lease).mono ?_
  rintro e w9 ⟨rfl, hL9, hg9⟩
  have ST9 := ST8.turned hg9 hL9
  have T9 := T8.grown hg9 (by omega)
  have U9 := U8.grown hg9 (by omega)
  clear ST7 ST8 T7 T8 U8 hL9 hg9
  have t0 := (T9.alloc (.cells #[.int .u64 x, .int .i64 y, .pointer none] 30)).1
  have t1 := (T9.alloc (.cells #[.int .u64 x, .int .i64 y, .pointer none] 30)).2.1
  have t2 := (T9.alloc (.cells #[.int .u64 x, .int .i64 y, .pointer none] 30)).2.2
  have u0 := (U9.alloc (.cells #[.int .u64 x, .int .i64 y, .pointer none] 30)).1
  have u1 := (U9.alloc (.cells #[.int .u64 x, .int .i64 y, .pointer none] 30)).2.1
  have u2 := (U9.alloc (.cells #[.int .u64 x, .int .i64 y, .pointer none] 30)).2.2
  have ST10 := ST9.alloc (.cells #[.int .u64 x, .int .i64 y, .pointer none] 30)
  have hfile := ST10.lease.file
  clear T9 U9 ST9
  have hnil := nil_nil
  go_wp2_with fail
  refine (same_any a1 a2 c1 c2 zs _ (by omega) ST10.z1 ST10.z2 HN2.out.symm).mono ?_
  rintro e w11 ⟨rfl, n11, rfl⟩
  go_wp2
  go_ret
  exact ⟨rfl, below_drewN ST10.below _⟩
end Go.Proofs.Qxb6615558a
