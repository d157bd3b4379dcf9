/-
  THE WALK OF 'FnSetExpiresLastWins': it returns true.
-/
import Derived.Test.Qxb6615558aReadsWalk
namespace Go.Proofs.Qxb6615558a
open Go.RowKit
set_option linter.unusedVariables false

set_option maxHeartbeats 2000000 in
theorem last_walk (a : Option Addr) (c : Nat) (zs : List Int) (s : ByteArray) (d d' : Int) (w : World) (hn : zs.length ≤ maxLen) (hs : s.size ≤ maxLen) (hZ : Ints w a zs) :
    Calls Try.prog 4 #[.slice a zs.length c, .string s, .int .i64 d, .int .i64 d'] w fun e w' => e = .returned (.bool true) ∧ Below w.heap.size w w' := by
  have HG : Hid (Calls Try.prog 12 #[.slice a zs.length c, .string s, .int .i64 d, .int .i64 d'] w fun e w' => Answers e ∧ w' = w) := guardW_any a zs.length c s d d' w hn hs
  unfold maxLen at hn hs
  go_enter Try.func4, Try.ntmps4
  go_wp2_with fail
  refine HG.out.mono ?_
  rintro e w ⟨⟨r, rfl⟩, rfl⟩
  clear HG
  cases r
  · go_wp2
    go_ret
    exact ⟨rfl, Below.refl _ _⟩
  by_cases g0 : ¬ zs.length ≤ 1048576
  · go_wp2
    go_ret
    exact ⟨rfl, Below.refl _ _⟩
  by_cases g1 : ¬ s.size ≤ 1048576
  · go_wp2
    go_ret
    exact ⟨rfl, Below.refl _ _⟩
  by_cases g2 : ¬ zs.length + s.size ≤ 1048576
  · go_wp2
    go_ret
    exact ⟨rfl, Below.refl _ _⟩
  go_wp2_with fail
  refine (clone_any a c zs w (by omega) hZ).mono ?_
  rintro e w1 ⟨a1, c1, rfl, hn1, Z1, hx1, hb1⟩
  go_wp2_with fail
  refine (clone_any a1 c1 zs w1 (by omega) Z1).mono ?_
  rintro e w2 ⟨a2, c2, rfl, hn2, Z2, hx2, hb2⟩
  have Z1' := Z1.later hb2
  have hB2 : Below w.heap.size w w2 := hb1.trans (hb2.mono hb1.size)
  have hsz2 := hb2.size
  clear hZ Z1 hn1 hb1 hb2
  have HN2 : Hid (a2.isNone = a1.isNone) := hn2
  clear hn2
  go_wp2_with fail
  refine (lease_new a1 zs.length c1 s w2).mono ?_
  rintro e w3 ⟨rfl, hL3, hb3⟩
  have ST3 : Stands w w3 w2.heap.size a1 a2 zs.length c1 zs s 0 0 :=
    ⟨hL3, Z1'.later hb3, Z2.later hb3, fun p hp => Nat.lt_of_lt_of_le (hx1 p hp).2 hsz2, fun p hp => (hx2 p hp).2, hB2.trans (hb3.mono hB2.size), hB2.size⟩
  clear Z1' Z2 hB2 hb3 hL3 hx1 hx2 hsz2
  go_wp2_with fail
  refine (add_any d w3).mono ?_
  rintro e w4 ⟨x1, y1, rfl, hg4⟩
  have ST4 := ST3.grown hg4
  clear ST3 hg4
  have hlt4 := ST4.lease.lt
  have ST4a := ST4.alloc (.cells #[.int .u64 x1, .int .i64 y1, .pointer none] 30)
  have T4a := TimeAt.made w4 x1 y1
  clear ST4
  go_wp2_with fail
  refine (add_any d' _).mono ?_
  rintro e w5 ⟨x2, y2, rfl, hg5⟩
  have ST5 := ST4a.grown hg5
  have T5 := T4a.block ((below_of_grown hg5).block _ T4a.lt)
  clear ST4a T4a hg5
  have hlt5 := ST5.lease.lt
  have ST5a := ST5.alloc (.cells #[.int .u64 x2, .int .i64 y2, .pointer none] 30)
  have T5a := T5.alloc (.cells #[.int .u64 x2, .int .i64 y2, .pointer none] 30)
  have V5a := TimeAt.made w5 x2 y2
  clear ST5 T5
  have p0 := T5a.1
  have p1 := T5a.2.1
  have p2 := T5a.2.2
  go_wp2_with fail
  clear p0 p1 p2
  refine (zzSetExpires_any w2.heap.size (.slice a1 zs.length c1) s 0 0 x1 y1 _ ST5a.lease).mono ?_
  rintro e w6 ⟨rfl, hL6, hg6⟩
  have ST6 := ST5a.turned hg6 hL6
  have T6 := T5a.grown hg6 (by omega)
  have V6 := V5a.grown hg6 (by omega)
  clear ST5a T5a V5a hL6 hg6
  go_wp2_with fail
  refine (expiresAt_any w2.heap.size (.slice a1 zs.length c1) s x1 y1 w6 ST6.lease).mono ?_
  rintro e w7 ⟨rfl, hL7, hg7⟩
  have ST7 := ST6.turned hg7 hL7
  have T7 := T6.grown hg7 (by omega)
  have V7 := V6.grown hg7 (by omega)
  have hlt7 := ST7.lease.lt
  clear ST6 T6 V6 hL7 hg7
  have ST7a := ST7.alloc (.cells #[.int .u64 x1, .int .i64 y1, .pointer none] 30)
  have T7a := T7.alloc (.cells #[.int .u64 x1, .int .i64 y1, .pointer none] 30)
  have V7a := V7.alloc (.cells #[.int .u64 x1, .int .i64 y1, .pointer none] 30)
  have A7a := TimeAt.made w7 x1 y1
  clear ST7 T7 V7
  go_wp2_with fail
  refine (zzSetExpires_any w2.heap.size (.slice a1 zs.length c1) s x1 y1 0 0 _ ST7a.lease).mono ?_
  rintro e w8 ⟨rfl, hL8, hg8⟩
  have ST8 := ST7a.turned hg8 hL8
  have T8 := T7a.grown hg8 (by omega)
  have V8 := V7a.grown hg8 (by omega)
  have A8 := A7a.grown hg8 (by omega)
  clear ST7a T7a V7a A7a hL8 hg8
  go_wp2_with fail
  refine (expiresAt_any w2.heap.size (.slice a1 zs.length c1) s 0 0 w8 ST8.lease).mono ?_
  rintro e w9 ⟨rfl, hL9, hg9⟩
  have ST9 := ST8.turned hg9 hL9
  have T9 := T8.grown hg9 (by omega)
  have V9 := V8.grown hg9 (by omega)
  have A9 := A8.grown hg9 (by omega)
  have hlt9 := ST9.lease.lt
  clear ST8 T8 V8 A8 hL9 hg9
  have ST9a := ST9.alloc (.cells #[.int .u64 0, .int .i64 0, .pointer none] 30)
  have T9a := T9.alloc (.cells #[.int .u64 0, .int .i64 0, .pointer none] 30)
  have V9a := V9.alloc (.cells #[.int .u64 0, .int .i64 0, .pointer none] 30)
  have A9a := A9.alloc (.cells #[.int .u64 0, .int .i64 0, .pointer none] 30)
  have B9a := TimeAt.made w9 0 0
  clear ST9 T9 V9 A9
  have p0 := V9a.1
  have p1 := V9a.2.1
  have p2 := V9a.2.2
  go_wp2_with fail
  clear p0 p1 p2
  refine (zzSetExpires_any w2.heap.size (.slice a1 zs.length c1) s 0 0 x2 y2 _ ST9a.lease).mono ?_
  rintro e w10 ⟨rfl, hL10, hg10⟩
  have ST10 := ST9a.turned hg10 hL10
  have T10 := T9a.grown hg10 (by omega)
  have V10 := V9a.grown hg10 (by omega)
  have A10 := A9a.grown hg10 (by omega)
  have B10 := B9a.grown hg10 (by omega)
  clear ST9a T9a V9a A9a B9a hL10 hg10
  go_wp2_with fail
  refine (expiresAt_any w2.heap.size (.slice a1 zs.length c1) s x2 y2 w10 ST10.lease).mono ?_
  rintro e w11 ⟨rfl, hL11, hg11⟩
  have ST11 := ST10.turned hg11 hL11
  have T11 := T10.grown hg11 (by omega)
  have V11 := V10.grown hg11 (by omega)
  have A11 := A10.grown hg11 (by omega)
  have B11 := B10.grown hg11 (by omega)
  clear ST10 T10 V10 A10 B10 hL11 hg11
  have ST12 := ST11.alloc (.cells #[.int .u64 x2, .int .i64 y2, .pointer none] 30)
  have t0 := (T11.alloc (.cells #[.int .u64 x2, .int .i64 y2, .pointer none] 30)).1
  have t1 := (T11.alloc (.cells #[.int .u64 x2, .int .i64 y2, .pointer none] 30)).2.1
  have t2 := (T11.alloc (.cells #[.int .u64 x2, .int .i64 y2, .pointer none] 30)).2.2
  have v0 := (V11.alloc (.cells #[.int .u64 x2, .int .i64 y2, .pointer none] 30)).1
  have v1 := (V11.alloc (.cells #[.int .u64 x2, .int .i64 y2, .pointer none] 30)).2.1
  have v2 := (V11.alloc (.cells #[.int .u64 x2, .int .i64 y2, .pointer none] 30)).2.2
  have k0 := (A11.alloc (.cells #[.int .u64 x2, .int .i64 y2, .pointer none] 30)).1
  have k1 := (A11.alloc (.cells #[.int .u64 x2, .int .i64 y2, .pointer none] 30)).2.1
  have k2 := (A11.alloc (.cells #[.int .u64 x2, .int .i64 y2, .pointer none] 30)).2.2
  have j0 := (B11.alloc (.cells #[.int .u64 x2, .int .i64 y2, .pointer none] 30)).1
  have j1 := (B11.alloc (.cells #[.int .u64 x2, .int .i64 y2, .pointer none] 30)).2.1
  have j2 := (B11.alloc (.cells #[.int .u64 x2, .int .i64 y2, .pointer none] 30)).2.2
  have hfile := ST12.lease.file
  have hnil := nil_nil
  clear ST11 T11 V11 A11 B11
  go_wp2_with fail
  refine (same_any a1 a2 c1 c2 zs _ (by omega) ST12.z1 ST12.z2 HN2.out.symm).mono ?_
  rintro e w13 ⟨rfl, n13, rfl⟩
  go_wp2
  go_ret
  exact ⟨rfl, below_drewN ST12.below _⟩
end Go.Proofs.Qxb6615558a
