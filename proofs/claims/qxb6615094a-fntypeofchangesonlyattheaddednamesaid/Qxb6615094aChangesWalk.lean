/-
  THE WALK OF 'FnTypeOfChangesOnlyAtTheAddedName': it returns true.
-/
import Derived.Test.Qxb6615094aBytes
import Derived.Test.Qxb6615094aClone
import Derived.Test.Qxb6615094aAdded
namespace Go.Proofs.Qxb6615094a
open Go.RowKit Go.Maps
set_option linter.unusedVariables false

theorem Scope.later {w w' : World} {p : Nat} {f : ByteArray → Bool} {g : ByteArray → Option ByteArray} (h : Scope w p f g) (hb : Below w.heap.size w w') : Scope w' p f g := by
  obtain ⟨tb, ml, mt, n1, n2, h0, h2, ht, hf, hg⟩ := h
  exact ⟨tb, ml, mt, n1, n2, (hb.cell (World.block_lt_of_cell? _ _ h0)).trans h0, (hb.cell (World.block_lt_of_cell? _ _ h2)).trans h2, (hb.cell (World.block_lt_of_cell? _ _ ht)).trans ht, hf.block (hb.block _ hf.lt), hg.block (hb.block _ hg.lt)⟩

/-- WHAT THE LAST LINES OF THE LAW ASK of the two answers. -/
def Told (z eq ql : Bool) (q y T1 T2 : ByteArray) (O1 O2 : Bool) : Prop :=
  (z = true → eq = true → ql = false → T2 = y ∧ O2 = true) ∧ (z = false → eq = true → ql = true → T2 = q ∧ O2 = true) ∧
  (eq = false ∨ (z = true ∧ ql = true) ∨ (z = false ∧ ql = false) → T2 = T1 ∧ O2 = O1)

theorem told (z : Bool) (q x y : ByteArray) (s0 s1 s2 t0 t1 t2 : List ByteArray) (hl : s2.length = s1.length)
    (h : (z = true ∧ t0 = s0 ∧ t1 = s1 ++ [x] ∧ t2 = s2 ++ [y]) ∨ (z = false ∧ t0 = s0 ++ [x] ∧ t1 = s1 ∧ t2 = s2)) :
    Told z (q.toList == x.toList) (qual q) q y (ansT (lookTo s1 s2 s1.length) q) (ansT (lookTo t1 t2 t1.length) q) (ansB (among s0) (lookTo s1 s2 s1.length) q) (ansB (among t0) (lookTo t1 t2 t1.length) q) := by
  rcases h with ⟨rfl, rfl, rfl, rfl⟩ | ⟨rfl, rfl, rfl, rfl⟩
  · have el : (s1 ++ [x]).length = s1.length + 1 := by simp
    rw [el]
    refine ⟨fun _ he hq => import_hit _ s1 s2 q x y hl he hq, fun h => (by cases h), fun h => ?_⟩
    rcases h with he | ⟨_, hq⟩ | ⟨h, _⟩
    · exact import_miss _ s1 s2 q x y hl he
    · exact import_qual _ _ _ q hq
    · cases h
  · refine ⟨fun h => (by cases h), fun _ he hq => load_hit s0 _ q x he hq, fun h => ?_⟩
    rcases h with he | ⟨h, _⟩ | ⟨_, hq⟩
    · exact ⟨rfl, load_miss s0 _ q x he⟩
    · cases h
    · exact ⟨rfl, load_plain _ _ _ q hq⟩

set_option maxRecDepth 100000 in
set_option maxHeartbeats 4000000 in
theorem changes_walk (a0 a1 a2 : Option Addr) (c0 c1 c2 : Nat) (s0 s1 s2 : List ByteArray) (q : ByteArray) (z : Bool) (x y : ByteArray) (w : World)
    (l0 : s0.length ≤ maxLen) (l1 : s1.length ≤ maxLen) (l2 : s2.length ≤ maxLen) (lq : q.size ≤ maxLen) (lx : x.size ≤ maxLen) (ly : y.size ≤ maxLen)
    (b0 : ∀ s ∈ s0, s.size ≤ maxLen) (b1 : ∀ s ∈ s1, s.size ≤ maxLen) (b2 : ∀ s ∈ s2, s.size ≤ maxLen)
    (S0 : Strs w a0 s0) (S1 : Strs w a1 s1) (S2 : Strs w a2 s2) :
    Calls Try.prog 4 #[.slice a0 s0.length c0, .slice a1 s1.length c1, .slice a2 s2.length c2, .string q, .bool z, .string x, .string y] w fun e w' => e = .returned (.bool true) ∧ Below w.heap.size w w' := by
  have HB : Hid (Calls Try.prog 12 #[.slice a0 s0.length c0, .slice a1 s1.length c1, .slice a2 s2.length c2, .string q, .bool z, .string x, .string y] w fun e w' => Answers (Short s0 ∧ Short s1 ∧ Short s2) e ∧ w' = w) :=
    bytesC_any a0 a1 a2 c0 c1 c2 s0 s1 s2 q z x y w l0 l1 l2 lq lx ly b0 b1 b2 S0 S1 S2
  unfold maxLen at l0 l1 l2
  have LQ : Hid (q.size ≤ maxLen) := lq
  have LX : Hid (x.size ≤ maxLen) := lx
  have LY : Hid (y.size ≤ maxLen) := ly
  unfold maxLen at lq lx ly
  have B0 : Hid (∀ s ∈ s0, s.size ≤ maxLen) := b0
  have B1 : Hid (∀ s ∈ s1, s.size ≤ maxLen) := b1
  have B2 : Hid (∀ s ∈ s2, s.size ≤ maxLen) := b2
  clear b0 b1 b2
  go_enter Try.func4, Try.ntmps4
  go_wp2_with fail
  refine HB.out.mono ?_
  rintro e w ⟨⟨r, rfl, hr⟩, rfl⟩
  cases r
  · as_aux_lemma =>
    go_wp2
    go_ret
    exact ⟨rfl, Below.refl _ _⟩
  have HR : Hid (Short s0 ∧ Short s1 ∧ Short s2) := hr rfl
  clear hr HB
  by_cases g0 : ¬ s0.length ≤ 65536
  · as_aux_lemma =>
    go_wp2
    go_ret
    exact ⟨rfl, Below.refl _ _⟩
  by_cases g1 : ¬ s1.length ≤ 65536
  · as_aux_lemma =>
    go_wp2
    go_ret
    exact ⟨rfl, Below.refl _ _⟩
  by_cases g2 : ¬ s2.length ≤ 65536
  · as_aux_lemma =>
    go_wp2
    go_ret
    exact ⟨rfl, Below.refl _ _⟩
  by_cases gq : ¬ q.size ≤ 1048576
  · as_aux_lemma =>
    go_wp2
    go_ret
    exact ⟨rfl, Below.refl _ _⟩
  by_cases gx : ¬ x.size ≤ 1048576
  · as_aux_lemma =>
    go_wp2
    go_ret
    exact ⟨rfl, Below.refl _ _⟩
  by_cases gy : ¬ y.size ≤ 1048576
  · as_aux_lemma =>
    go_wp2
    go_ret
    exact ⟨rfl, Below.refl _ _⟩
  have hn := fun (W : World) (a : Option Addr) (n c : Nat) => run_neq_slice_nil_any (P := Try.prog) W 22 9 a n c 0 0 Try.underlying22
  go_upto_if 64 with fail
  go_cut [0] (fun v w' => ∃ a c, v = .slice a s0.length c ∧ Strs w' a s0 ∧ Below w.heap.size w w')
  case first =>
    as_aux_lemma =>
    cases a0 with
    | none =>
      go_wp2
      go_meet
      case rel => exact ⟨_, _, rfl, S0, Below.refl _ _⟩
    | some x =>
      have hmk := run_mk s0.length s0.length (Nat.le_refl _) (by omega)
      obtain ⟨w', hcp, hrow, hbel⟩ := run_clone w s0.length (some x) s0 c0 (Nat.le_refl _) (by omega) S0
      go_wp2_with fail
      go_meet
      case rel => exact ⟨_, _, rfl, hrow.strs, hbel⟩
  case rest =>
  as_aux_lemma =>
  obtain ⟨x0, rfl⟩ : ∃ x0, x0 = wc := ⟨wc, rfl⟩
  obtain ⟨a0', c0', rfl, S0', hb0⟩ := hcut
  have S1' := S1.later hb0
  have S2' := S2.later hb0
  clear S0 S1 S2
  go_upto_if 73 with fail
  go_cut [1] (fun v w' => ∃ a c, v = .slice a s1.length c ∧ Strs w' a s1 ∧ Below x0.heap.size x0 w')
  case first =>
    as_aux_lemma =>
    cases a1 with
    | none =>
      go_wp2
      go_meet
      case rel => exact ⟨_, _, rfl, S1', Below.refl _ _⟩
    | some x =>
      have hmk := run_mk s1.length s1.length (Nat.le_refl _) (by omega)
      obtain ⟨w', hcp, hrow, hbel⟩ := run_clone x0 s1.length (some x) s1 c1 (Nat.le_refl _) (by omega) S1'
      go_wp2_with fail
      go_meet
      case rel => exact ⟨_, _, rfl, hrow.strs, hbel⟩
  case rest =>
  as_aux_lemma =>
  obtain ⟨x1, rfl⟩ : ∃ x1, x1 = wc := ⟨wc, rfl⟩
  obtain ⟨a1', c1', rfl, T1, hb1⟩ := hcut
  have T0 := S0'.later hb1
  have T2 := S2'.later hb1
  have hB1 : Below w.heap.size w x1 := hb0.trans (hb1.mono hb0.size)
  clear S0' S1' S2' hb0 hb1
  go_upto_if 82 with fail
  go_cut [2] (fun v w' => ∃ a c, v = .slice a s2.length c ∧ Strs w' a s2 ∧ Below x1.heap.size x1 w')
  case first =>
    as_aux_lemma =>
    cases a2 with
    | none =>
      go_wp2
      go_meet
      case rel => exact ⟨_, _, rfl, T2, Below.refl _ _⟩
    | some x =>
      have hmk := run_mk s2.length s2.length (Nat.le_refl _) (by omega)
      obtain ⟨w', hcp, hrow, hbel⟩ := run_clone x1 s2.length (some x) s2 c2 (Nat.le_refl _) (by omega) T2
      go_wp2_with fail
      go_meet
      case rel => exact ⟨_, _, rfl, hrow.strs, hbel⟩
  case rest =>
  as_aux_lemma =>
  obtain ⟨x2, rfl⟩ : ∃ x2, x2 = wc := ⟨wc, rfl⟩
  obtain ⟨a2', c2', rfl, U2, hb2⟩ := hcut
  have U0 := T0.later hb2
  have U1 := T1.later hb2
  have hB2 : Below w.heap.size w x2 := hB1.trans (hb2.mono hB1.size)
  clear T0 T1 T2 hb2 hB1 hn
  by_cases ht0 : ¬ (q.size : Int) + x.size ≤ 1048576
  · as_aux_lemma =>
    go_wp2
    go_ret
    exact ⟨rfl, hB2⟩
  by_cases ht1 : ¬ (q.size : Int) + x.size + y.size ≤ 1048576
  · as_aux_lemma =>
    go_wp2
    go_ret
    exact ⟨rfl, hB2⟩
  go_wp2_with fail
  refine (stringsBytes_any _ _ _ s0 _ (by omega) (by omega) (by omega) HR.out.1 U0).mono ?_
  rintro e x3 ⟨⟨r0, rfl, hr00, hr01⟩, rfl⟩
  by_cases hu0 : ¬ r0 ≤ 1048576
  · as_aux_lemma =>
    go_wp2
    go_ret
    exact ⟨rfl, hB2⟩
  go_wp2_with fail
  refine (stringsBytes_any _ _ _ s1 _ (by omega) (by omega) (by omega) HR.out.2.1 U1).mono ?_
  rintro e x4 ⟨⟨r1, rfl, hr10, hr11⟩, rfl⟩
  by_cases hu1 : ¬ r1 ≤ 1048576
  · as_aux_lemma =>
    go_wp2
    go_ret
    exact ⟨rfl, hB2⟩
  go_wp2_with fail
  refine (stringsBytes_any _ _ _ s2 _ (by omega) (by omega) (by omega) HR.out.2.2 U2).mono ?_
  rintro e x5 ⟨⟨r2, rfl, hr20, hr21⟩, rfl⟩
  by_cases hu2 : ¬ r2 ≤ 1048576
  · as_aux_lemma =>
    go_wp2
    go_ret
    exact ⟨rfl, hB2⟩
  go_upto_if 122 with fail
  go_cut [18] (fun v w' => v = .int .i64 r2 ∧ w' = x5 ∧ s1.length ≤ s2.length ∧ s2.length ≤ s1.length)
  case first =>
    as_aux_lemma =>
    by_cases hl1 : ¬ s1.length ≤ s2.length
    · as_aux_lemma =>
      go_wp2
      go_ret
      exact ⟨rfl, hB2⟩
    by_cases hl2 : ¬ s2.length ≤ s1.length
    · as_aux_lemma =>
      go_wp2
      go_ret
      exact ⟨rfl, hB2⟩
    go_wp2
    go_meet
    case rel => exact ⟨rfl, rfl, by omega, by omega⟩
  case rest =>
  as_aux_lemma =>
  obtain ⟨rfl, rfl, hl1, hl2⟩ := hcut
  have L21 : Hid (s2.length = s1.length) := (by omega : s2.length = s1.length)
  obtain ⟨x6, rfl⟩ : ∃ x6, x6 = wc := ⟨wc, rfl⟩
  have hm0 := run_mk1 s0.length (by omega)
  have hm1 := run_mk1 s1.length (by omega)
  have hm2 := run_mk1 s2.length (by omega)
  obtain ⟨y0, hcp0, R0, hy0⟩ := run_clone x6 (s0.length + 1) a0' s0 c0' (by omega) (by omega) U0
  have B0 : Below w.heap.size w y0 := hB2.trans (hy0.mono hB2.size)
  obtain ⟨y1, hcp1, R1, hy1⟩ := run_clone y0 (s1.length + 1) a1' s1 c1' (by omega) (by omega) (U1.later hy0)
  obtain ⟨y2, hcp2, R2, hy2⟩ := run_clone y1 (s2.length + 1) a2' s2 c2' (by omega) (by omega) ((U2.later hy0).later hy1)
  have hz2 : y1.heap.size < y2.heap.size := R2.lt
  have hz1 : y0.heap.size < y1.heap.size := R1.lt
  have hz0 : x6.heap.size < y0.heap.size := R0.lt
  have Q0 : RowIs y2 x6.heap.size s0 (s0.length + 1) := (R0.below hy1).below hy2
  have Q1 : RowIs y2 y0.heap.size s1 (s1.length + 1) := R1.below hy2
  have Q2 : RowIs y2 y1.heap.size s2 (s2.length + 1) := R2
  have hby : Below x6.heap.size x6 y2 := (hy0.trans (hy1.mono (by omega))).trans (hy2.mono (by omega))
  clear R0 R1 R2 B0
  go_upto_if 150 with fail
  clear hcp0 hcp1 hcp2 hm0 hm1 hm2 hy0 hy1 hy2
  go_cut [19, 20, 21] (fun v0 v1 v2 w' => ∃ t0 t1 t2 : List ByteArray, v0 = .slice (some ⟨x6.heap.size, 0, none⟩) t0.length (s0.length + 1) ∧ v1 = .slice (some ⟨y0.heap.size, 0, none⟩) t1.length (s1.length + 1) ∧ v2 = .slice (some ⟨y1.heap.size, 0, none⟩) t2.length (s2.length + 1) ∧
    RowIs w' x6.heap.size t0 (s0.length + 1) ∧ RowIs w' y0.heap.size t1 (s1.length + 1) ∧ RowIs w' y1.heap.size t2 (s2.length + 1) ∧ Below x6.heap.size x6 w' ∧
    Hid ((z = true ∧ t0 = s0 ∧ t1 = s1 ++ [x] ∧ t2 = s2 ++ [y]) ∨ (z = false ∧ t0 = s0 ++ [x] ∧ t1 = s1 ∧ t2 = s2)))
  case first =>
    as_aux_lemma =>
    cases z
    · go_wp2_with (at_builtin; refine wpList_append_row rfl _ _ rfl x6.heap.size s0 _ x rfl _ rfl (Nat.le_refl _) (Q0.alloc _) (by simp [go_sem]) ?_; intro w1 V0 hg1)
      go_meet
      case rel =>
        refine ⟨s0 ++ [x], s1, s2, by simp, rfl, rfl, V0, (Q1.alloc _).grown hg1 (by simp; omega), (Q2.alloc _).grown hg1 (by simp; omega), ?_, Or.inr ⟨rfl, rfl, rfl, rfl⟩⟩
        exact (hby.alloc (by omega) _).grown hg1 (by simp; omega) (fun k hk => by cases hk; exact Nat.le_refl _)
    · go_upto_region 44 with (at_builtin; refine wpList_append_row rfl _ _ rfl y0.heap.size s1 _ x rfl _ rfl (Nat.le_refl _) (Q1.alloc _) (by simp [go_sem]) ?_; intro w1 V1 hg1)
      have e0 := (Q0.alloc (.cells #[.string x] 9)).grown hg1 (by simp; omega)
      have e2 := (Q2.alloc (.cells #[.string x] 9)).grown hg1 (by simp; omega)
      have eb : Below x6.heap.size x6 w1 := (hby.alloc (by omega) (.cells #[.string x] 9)).grown hg1 (by simp; omega) (fun k hk => by cases hk; omega)
      have hs1 := hg1.size
      simp at hs1
      clear hg1 Q0 Q1 Q2
      go_wp2_with (at_builtin; refine wpList_append_row rfl _ _ rfl y1.heap.size s2 _ y rfl _ rfl (Nat.le_refl _) (e2.alloc _) (by simp [go_sem]) ?_; intro w2 V2 hg2)
      go_meet
      case rel =>
        refine ⟨s0, s1 ++ [x], s2 ++ [y], rfl, by simp, by simp, (e0.alloc _).grown hg2 (by simp; omega), (V1.alloc _).grown hg2 (by simp; omega), V2, ?_, Or.inl ⟨rfl, rfl, rfl, rfl⟩⟩
        exact (eb.alloc (by omega) _).grown hg2 (by simp; omega) (fun k hk => by cases hk; omega)
  case rest =>
  as_aux_lemma =>
  obtain ⟨x7, rfl⟩ : ∃ x7, x7 = wc := ⟨wc, rfl⟩
  obtain ⟨t0, t1, t2, rfl, rfl, rfl, P0, P1, P2, hb7, hcase⟩ := hcut
  have V0 := U0.later hb7
  have V1 := U1.later hb7
  have V2 := U2.later hb7
  have hB7 : Below w.heap.size w x7 := hB2.trans (hb7.mono hB2.size)
  clear U0 U1 U2 hby hb7 hB2 Q0 Q1 Q2 hz0 hz1 hz2
  have K : Hid (t0.length ≤ 131072 ∧ t1.length ≤ 131072 ∧ t2.length = t1.length ∧ (∀ s ∈ t0, s.size ≤ maxLen) ∧ (∀ s ∈ t1, s.size ≤ maxLen) ∧ ∀ s ∈ t2, s.size ≤ maxLen) := by
    have hl := L21.out
    rcases hcase.out with ⟨_, rfl, rfl, rfl⟩ | ⟨_, rfl, rfl, rfl⟩
    · refine ⟨by omega, by simp; omega, by simp; omega, B0.out, fun s hs => ?_, fun s hs => ?_⟩
      · rcases List.mem_append.1 hs with hs | hs
        · exact B1.out s hs
        · rw [List.mem_singleton.1 hs]; exact LX.out
      · rcases List.mem_append.1 hs with hs | hs
        · exact B2.out s hs
        · rw [List.mem_singleton.1 hs]; exact LY.out
    · refine ⟨by simp; omega, by omega, by omega, fun s hs => ?_, B1.out, B2.out⟩
      rcases List.mem_append.1 hs with hs | hs
      · exact B0.out s hs
      · rw [List.mem_singleton.1 hs]; exact LX.out
  have TL : Hid (Told z (q.toList == x.toList) (qual q) q y (ansT (lookTo s1 s2 s1.length) q) (ansT (lookTo t1 t2 t1.length) q) (ansB (among s0) (lookTo s1 s2 s1.length) q) (ansB (among t0) (lookTo t1 t2 t1.length) q)) := told z q x y s0 s1 s2 t0 t1 t2 L21.out hcase.out
  clear hcase
  go_wp2_with fail
  refine (newScope_any _ _ _ _ _ _ s0 s1 s2 _ (by omega) (by omega) L21.out B0.out B1.out B2.out V0 V1 V2).mono ?_
  rintro e x8 ⟨p1, rfl, hsc1, hb8⟩
  have hB8 : Below w.heap.size w x8 := hB7.trans (hb8.mono hB7.size)
  have G0 := P0.strs.later hb8
  have G1 := P1.strs.later hb8
  have G2 := P2.strs.later hb8
  clear V0 V1 V2 P0 P1 P2 hb8 hB7
  go_wp2_with fail
  refine (newScope_any _ _ _ _ _ _ t0 t1 t2 _ K.out.1 K.out.2.1 K.out.2.2.1 K.out.2.2.2.1 K.out.2.2.2.2.1 K.out.2.2.2.2.2 G0 G1 G2).mono ?_
  rintro e x9 ⟨p2, rfl, hsc2, hb9⟩
  have hB9 : Below w.heap.size w x9 := hB8.trans (hb9.mono hB8.size)
  have hsc1' := hsc1.later hb9
  clear hsc1 G0 G1 G2 hb9 hB8 K
  have H1 : Hid (Calls Try.prog 9 #[.pointer (some ⟨p1, 0, none⟩), .string q] x9 fun e w' => e = .returned (.tuple #[.string (ansT (lookTo s1 s2 s1.length) q), .bool (ansB (among s0) (lookTo s1 s2 s1.length) q)]) ∧ ∃ n, w' = x9.drewN n) := zzTypeOf_any p1 q _ _ x9 hsc1' LQ.out
  have H2 : Hid (∀ n, Calls Try.prog 9 #[.pointer (some ⟨p2, 0, none⟩), .string q] (x9.drewN n) fun e w' => e = .returned (.tuple #[.string (ansT (lookTo t1 t2 t1.length) q), .bool (ansB (among t0) (lookTo t1 t2 t1.length) q)]) ∧ ∃ m, w' = (x9.drewN n).drewN m) := fun n => zzTypeOf_any p2 q _ _ (x9.drewN n) hsc2 LQ.out
  generalize ansT (lookTo s1 s2 s1.length) q = T1 at TL H1
  generalize ansB (among s0) (lookTo s1 s2 s1.length) q = O1 at TL H1
  generalize ansT (lookTo t1 t2 t1.length) q = T2 at TL H2
  generalize ansB (among t0) (lookTo t1 t2 t1.length) q = O2 at TL H2
  have HQ : Hid (∀ w, Calls Try.prog 7 #[.string q] w fun e w' => e = .returned (.bool (qual q)) ∧ w' = w) := fun w => isQual_any q w LQ.out
  clear hsc1' hsc2
  go_wp2_with fail
  refine H1.out.mono ?_
  rintro e x10 ⟨rfl, n1, rfl⟩
  go_wp2_with fail
  refine (H2.out _).mono ?_
  rintro e x11 ⟨rfl, n2, rfl⟩
  clear H1 H2
  go_upto_if 185 with fail
  cases z
  · cases he : (q.toList == x.toList)
    · obtain ⟨hT, hO⟩ := TL.out.2.2 (Or.inl he)
      clear TL
      as_aux_lemma =>
      go_wp2_with (go_at_call 7; refine (HQ.out _).mono ?_; rintro e w2 ⟨rfl, rfl⟩)
      go_ret
      exact ⟨by first | (simp; done) | simp [hT, hO], below_drewN hB9 _⟩
    · cases hq : qual q
      · rw [hq] at HQ
        obtain ⟨hT, hO⟩ := TL.out.2.2 (Or.inr (Or.inr ⟨rfl, hq⟩))
        clear TL
        as_aux_lemma =>
        go_wp2_with (go_at_call 7; refine (HQ.out _).mono ?_; rintro e w2 ⟨rfl, rfl⟩)
        go_ret
        exact ⟨by first | (simp; done) | simp [hT, hO], below_drewN hB9 _⟩
      · rw [hq] at HQ
        obtain ⟨hT, hO⟩ := TL.out.2.1 rfl he hq
        clear TL
        as_aux_lemma =>
        go_wp2_with (go_at_call 7; refine (HQ.out _).mono ?_; rintro e w2 ⟨rfl, rfl⟩)
        go_ret
        exact ⟨by first | (simp; done) | simp [hT, hO], below_drewN hB9 _⟩
  · cases he : (q.toList == x.toList)
    · obtain ⟨hT, hO⟩ := TL.out.2.2 (Or.inl he)
      clear TL
      as_aux_lemma =>
      go_wp2_with (go_at_call 7; refine (HQ.out _).mono ?_; rintro e w2 ⟨rfl, rfl⟩)
      go_ret
      exact ⟨by first | (simp; done) | simp [hT, hO], below_drewN hB9 _⟩
    · cases hq : qual q
      · rw [hq] at HQ
        obtain ⟨hT, hO⟩ := TL.out.1 rfl he hq
        clear TL
        as_aux_lemma =>
        go_wp2_with (go_at_call 7; refine (HQ.out _).mono ?_; rintro e w2 ⟨rfl, rfl⟩)
        go_ret
        exact ⟨by first | (simp; done) | simp [hT, hO], below_drewN hB9 _⟩
      · rw [hq] at HQ
        obtain ⟨hT, hO⟩ := TL.out.2.2 (Or.inr (Or.inl ⟨rfl, hq⟩))
        clear TL
        as_aux_lemma =>
        go_wp2_with (go_at_call 7; refine (HQ.out _).mono ?_; rintro e w2 ⟨rfl, rfl⟩)
        go_ret
        exact ⟨by first | (simp; done) | simp [hT, hO], below_drewN hB9 _⟩
end Go.Proofs.Qxb6615094a
