/-
  THE WALK OF 'FnTypeOfResolvesPlainAndQualified': it returns true.
-/
import Derived.Test.Qxb6615094aBytes
import Derived.Test.Qxb6615094aClone
namespace Go.Proofs.Qxb6615094a
open Go.RowKit Go.Maps
set_option linter.unusedVariables false

set_option maxRecDepth 100000 in
set_option maxHeartbeats 4000000 in
theorem resolves_walk (a0 a1 a2 : Option Addr) (c0 c1 c2 : Nat) (s0 s1 s2 : List ByteArray) (q : ByteArray) (w : World)
    (l0 : s0.length ≤ maxLen) (l1 : s1.length ≤ maxLen) (l2 : s2.length ≤ maxLen) (lq : q.size ≤ maxLen)
    (b0 : ∀ s ∈ s0, s.size ≤ maxLen) (b1 : ∀ s ∈ s1, s.size ≤ maxLen) (b2 : ∀ s ∈ s2, s.size ≤ maxLen)
    (S0 : Strs w a0 s0) (S1 : Strs w a1 s1) (S2 : Strs w a2 s2) :
    Calls Try.prog 3 #[.slice a0 s0.length c0, .slice a1 s1.length c1, .slice a2 s2.length c2, .string q] w fun e w' => e = .returned (.bool true) ∧ Below w.heap.size w w' := by
  have hB := bytesR_any a0 a1 a2 c0 c1 c2 s0 s1 s2 q w l0 l1 l2 lq b0 b1 b2 S0 S1 S2
  have HB : Hid (Calls Try.prog 5 #[.slice a0 s0.length c0, .slice a1 s1.length c1, .slice a2 s2.length c2, .string q] w fun e w' => Answers (Short s0 ∧ Short s1 ∧ Short s2) e ∧ w' = w) := hB
  clear hB
  unfold maxLen at l0 l1 l2
  have LQ : Hid (q.size ≤ maxLen) := lq
  unfold maxLen at lq
  have B0 : Hid (∀ s ∈ s0, s.size ≤ maxLen) := b0
  have B1 : Hid (∀ s ∈ s1, s.size ≤ maxLen) := b1
  have B2 : Hid (∀ s ∈ s2, s.size ≤ maxLen) := b2
  clear b0 b1 b2
  go_enter Try.func3, Try.ntmps3
  go_wp2_with fail
  refine HB.out.mono ?_
  rintro e w ⟨⟨r, rfl, hr⟩, rfl⟩
  cases r
  · go_wp2
    go_ret
    exact ⟨rfl, Below.refl _ _⟩
  have HR : Hid (Short s0 ∧ Short s1 ∧ Short s2) := hr rfl
  clear hr HB
  by_cases g0 : ¬ s0.length ≤ 65536
  · go_wp2
    go_ret
    exact ⟨rfl, Below.refl _ _⟩
  by_cases g1 : ¬ s1.length ≤ 65536
  · go_wp2
    go_ret
    exact ⟨rfl, Below.refl _ _⟩
  by_cases g2 : ¬ s2.length ≤ 65536
  · go_wp2
    go_ret
    exact ⟨rfl, Below.refl _ _⟩
  by_cases gq : ¬ q.size ≤ 1048576
  · go_wp2
    go_ret
    exact ⟨rfl, Below.refl _ _⟩
  have hn := fun (W : World) (a : Option Addr) (n c : Nat) => run_neq_slice_nil_any (P := Try.prog) W 22 9 a n c 0 0 Try.underlying22
  go_upto_if 46 with fail
  go_cut [0] (fun v w' => ∃ a c, v = .slice a s0.length c ∧ Strs w' a s0 ∧ Below w.heap.size w w')
  case first =>
    cases a0 with
    | none =>
      go_wp2
      go_meet
      case rel => exact ⟨_, _, rfl, S0, Below.refl _ _⟩
    | some x =>
      have hmk := run_mk s0.length s0.length (Nat.le_refl _) (by omega)
      obtain ⟨w', hcp, hrow, hbel⟩ := run_clone w s0.length (some x) s0 c0 (Nat.le_refl _) (by omega) S0
      go_wp2_with fail
      go_meet
      case rel => exact ⟨_, _, rfl, hrow.strs, hbel⟩
  case rest =>
  obtain ⟨x0, rfl⟩ : ∃ x0, x0 = wc := ⟨wc, rfl⟩
  obtain ⟨a0', c0', rfl, S0', hb0⟩ := hcut
  have S1' := S1.later hb0
  have S2' := S2.later hb0
  clear S0 S1 S2
  go_upto_if 55 with fail
  go_cut [1] (fun v w' => ∃ a c, v = .slice a s1.length c ∧ Strs w' a s1 ∧ Below x0.heap.size x0 w')
  case first =>
    cases a1 with
    | none =>
      go_wp2
      go_meet
      case rel => exact ⟨_, _, rfl, S1', Below.refl _ _⟩
    | some x =>
      have hmk := run_mk s1.length s1.length (Nat.le_refl _) (by omega)
      obtain ⟨w', hcp, hrow, hbel⟩ := run_clone x0 s1.length (some x) s1 c1 (Nat.le_refl _) (by omega) S1'
      go_wp2_with fail
      go_meet
      case rel => exact ⟨_, _, rfl, hrow.strs, hbel⟩
  case rest =>
  obtain ⟨x1, rfl⟩ : ∃ x1, x1 = wc := ⟨wc, rfl⟩
  obtain ⟨a1', c1', rfl, T1, hb1⟩ := hcut
  have T0 := S0'.later hb1
  have T2 := S2'.later hb1
  have hB1 : Below w.heap.size w x1 := hb0.trans (hb1.mono hb0.size)
  clear S0' S1' S2' hb0 hb1
  go_upto_if 64 with fail
  go_cut [2] (fun v w' => ∃ a c, v = .slice a s2.length c ∧ Strs w' a s2 ∧ Below x1.heap.size x1 w')
  case first =>
    cases a2 with
    | none =>
      go_wp2
      go_meet
      case rel => exact ⟨_, _, rfl, T2, Below.refl _ _⟩
    | some x =>
      have hmk := run_mk s2.length s2.length (Nat.le_refl _) (by omega)
      obtain ⟨w', hcp, hrow, hbel⟩ := run_clone x1 s2.length (some x) s2 c2 (Nat.le_refl _) (by omega) T2
      go_wp2_with fail
      go_meet
      case rel => exact ⟨_, _, rfl, hrow.strs, hbel⟩
  case rest =>
  obtain ⟨x2, rfl⟩ : ∃ x2, x2 = wc := ⟨wc, rfl⟩
  obtain ⟨a2', c2', rfl, U2, hb2⟩ := hcut
  have U0 := T0.later hb2
  have U1 := T1.later hb2
  have hB2 : Below w.heap.size w x2 := hB1.trans (hb2.mono hB1.size)
  clear T0 T1 T2 hb2 hB1 hn
  go_wp2_with fail
  refine (stringsBytes_any _ _ _ s0 _ (by omega) (by omega) (by omega) HR.out.1 U0).mono ?_
  rintro e x3 ⟨⟨r0, rfl, hr00, hr01⟩, rfl⟩
  by_cases ht : ¬ r0 ≤ 1048576
  · go_wp2
    go_ret
    exact ⟨rfl, hB2⟩
  go_wp2_with fail
  refine (stringsBytes_any _ _ _ s1 _ (by omega) (by omega) (by omega) HR.out.2.1 U1).mono ?_
  rintro e x4 ⟨⟨r1, rfl, hr10, hr11⟩, rfl⟩
  by_cases ht1 : ¬ r1 ≤ 1048576
  · go_wp2
    go_ret
    exact ⟨rfl, hB2⟩
  go_wp2_with fail
  refine (stringsBytes_any _ _ _ s2 _ (by omega) (by omega) (by omega) HR.out.2.2 U2).mono ?_
  rintro e x5 ⟨⟨r2, rfl, hr20, hr21⟩, rfl⟩
  by_cases ht2 : ¬ r2 ≤ 1048576
  · go_wp2
    go_ret
    exact ⟨rfl, hB2⟩
  go_upto_if 92 with fail
  go_cut [12] (fun v w' => v = .int .i64 r2 ∧ w' = x5 ∧ s1.length ≤ s2.length ∧ s2.length ≤ s1.length)
  case first =>
    by_cases hl1 : ¬ s1.length ≤ s2.length
    · go_wp2
      go_ret
      exact ⟨rfl, hB2⟩
    by_cases hl2 : ¬ s2.length ≤ s1.length
    · go_wp2
      go_ret
      exact ⟨rfl, hB2⟩
    go_wp2
    go_meet
    case rel => exact ⟨rfl, rfl, by omega, by omega⟩
  case rest =>
  obtain ⟨rfl, rfl, hl1, hl2⟩ := hcut
  go_wp2_with fail
  go_loop [13] (fun i => ∃ k : Nat, k ≤ s2.length ∧ i = .int .i64 k ∧ Hid (∀ j, j < k → qual (s2.getD j ByteArray.empty) = true)) (fun i => s2.length - (intOf i).toNat)
  case atStart => exact ⟨0, Nat.zero_le _, rfl, fun j hj => by omega⟩
  case round =>
  obtain ⟨k, hk, rfl, hall⟩ := hrel
  by_cases hlt : k < s2.length
  · obtain ⟨b, o, hix, hck⟩ := U2.get hlt
    have hbk := B2.out _ (getD_mem s2 k hlt)
    have hst : Hid (qual (s2.getD k ByteArray.empty) = true → ∀ j, j < k + 1 → qual (s2.getD j ByteArray.empty) = true) := by
      intro h j hj
      by_cases e : j = k
      · rw [e]; exact h
      · exact hall.out j (by omega)
    generalize s2.getD k ByteArray.empty = s at hck hbk hst
    have hQ := fun w => isQual_any s w hbk
    have HQ : Hid (∀ w, Calls Try.prog 7 #[.string s] w fun e w' => e = .returned (.bool (qual s)) ∧ w' = w) := hQ
    clear hQ
    cases hq : qual s
    · rw [hq] at HQ
      clear hst hq
      go_wp2_with (go_at_call 7; refine (HQ.out _).mono ?_; rintro e w' ⟨rfl, rfl⟩)
      go_ret
      exact ⟨rfl, hB2⟩
    · have hst2 : Hid (∀ j, j < k + 1 → qual (s2.getD j ByteArray.empty) = true) := hst.out hq
      rw [hq] at HQ
      clear hst hq
      go_wp2_with (go_at_call 7; refine (HQ.out _).mono ?_; rintro e w' ⟨rfl, rfl⟩)
      go_round
      case rel => exact ⟨k + 1, by omega, by go_num, hst2⟩
      case measure => simp [intOf]; omega
  have hall2 : Hid (∀ j, j < s2.length → qual (s2.getD j ByteArray.empty) = true) := fun j hj => hall.out j (by omega)
  clear hall
  go_wp2_with fail
  refine (newScope_any _ _ _ _ _ _ s0 s1 s2 _ (by omega) (by omega) (by omega) B0.out B1.out B2.out U0 U1 U2).mono ?_
  rintro e x6 ⟨p, rfl, hsc, hb6⟩
  have V0 := U0.later hb6
  have V1 := U1.later hb6
  have V2 := U2.later hb6
  have hB6 : Below w.heap.size w x6 := hB2.trans (hb6.mono hB2.size)
  clear U0 U1 U2 hB2 hb6
  have l21 : s2.length = s1.length := by omega
  have L21 : Hid (s2.length = s1.length) := l21
  clear l21
  have HQ : Hid (∀ w, Calls Try.prog 7 #[.string q] w fun e w' => e = .returned (.bool (qual q)) ∧ w' = w) := fun w => isQual_any q w LQ.out
  have HT : Hid (Calls Try.prog 9 #[.pointer (some ⟨p, 0, none⟩), .string q] x6 fun e w' => e = .returned (.tuple #[.string (ansT (lookTo s1 s2 s1.length) q), .bool (ansB (among s0) (lookTo s1 s2 s1.length) q)]) ∧ ∃ n, w' = x6.drewN n) := zzTypeOf_any p q _ _ x6 hsc LQ.out
  cases hq : qual q
  · rw [show ansT (lookTo s1 s2 s1.length) q = (lookTo s1 s2 s1.length q).getD ⟨#[]⟩ from by simp [ansT, hq], show ansB (among s0) (lookTo s1 s2 s1.length) q = (lookTo s1 s2 s1.length q).isSome from by simp [ansB, hq]] at HT
    rw [hq] at HQ
    clear hq
    cases hl : lookTo s1 s2 s1.length q with
    | none =>
      rw [hl] at HT
      have HL : Hid (lookTo s1 s2 s1.length q = none) := hl
      clear hl
      go_wp2_with fail
      refine HT.out.mono ?_
      rintro e x7 ⟨rfl, n7, rfl⟩
      go_wp2_with fail
      refine (HQ.out _).mono ?_
      rintro e x8 ⟨rfl, rfl⟩
      go_wp2_with fail
      have W1 : Strs (x6.drewN n7) a1' s1 := V1
      refine (lastIndex_any _ _ s1 q _ (by omega) W1).mono ?_
      rintro e x9 ⟨⟨rfl, hno⟩ | ⟨k', rfl, hk', hyes⟩, rfl⟩
      · clear hno
        go_wp2
        go_ret
        exact ⟨rfl, below_drewN hB6 _⟩
      · have := hyes s2
        rw [HL.out] at this
        cases this
    | some t =>
      rw [hl] at HT
      have HL : Hid (lookTo s1 s2 s1.length q = some t) := hl
      clear hl
      go_wp2_with fail
      refine HT.out.mono ?_
      rintro e x7 ⟨rfl, n7, rfl⟩
      go_wp2_with fail
      refine (HQ.out _).mono ?_
      rintro e x8 ⟨rfl, rfl⟩
      go_wp2_with fail
      have W1 : Strs (x6.drewN n7) a1' s1 := V1
      refine (lastIndex_any _ _ s1 q _ (by omega) W1).mono ?_
      rintro e x9 ⟨⟨rfl, hno⟩ | ⟨k', rfl, hk', hyes⟩, rfl⟩
      · have := hno s2
        rw [HL.out] at this
        cases this
      · have hkk : k' < s2.length := by have := L21.out; omega
        have ht : s2.getD k' ByteArray.empty = t := by
          have e1 := hyes s2
          rw [HL.out] at e1
          exact (Option.some.inj e1).symm
        have hqt := hall2.out k' hkk
        have hbt := B2.out _ (getD_mem s2 k' hkk)
        have W2 : Strs (x6.drewN n7) a2' s2 := V2
        obtain ⟨b, o, hix, hck⟩ := W2.get hkk
        rw [ht] at hqt hbt hck
        have hsc' : Scope (x6.drewN n7) p (among s0) (lookTo s1 s2 s1.length) := hsc
        have HT2 : Hid (Calls Try.prog 9 #[.pointer (some ⟨p, 0, none⟩), .string t] (x6.drewN n7) fun e w' => e = .returned (.tuple #[.string (ansT (lookTo s1 s2 s1.length) t), .bool (ansB (among s0) (lookTo s1 s2 s1.length) t)]) ∧ ∃ n, w' = (x6.drewN n7).drewN n) := zzTypeOf_any p t _ _ _ hsc' hbt
        rw [show ansT (lookTo s1 s2 s1.length) t = t from by simp [ansT, hqt], show ansB (among s0) (lookTo s1 s2 s1.length) t = among s0 t from by simp [ansB, hqt]] at HT2
        clear hyes ht hqt HT HQ hsc' hsc
        go_wp2_with fail
        refine HT2.out.mono ?_
        rintro e x10 ⟨rfl, n10, rfl⟩
        go_wp2_with fail
        have W0 : Strs (x6.drewN (n7 + n10)) a0' s0 := V0
        refine (contains_any _ _ s0 t _ (by omega) W0).mono ?_
        rintro e x11 ⟨rfl, rfl⟩
        go_wp2
        go_ret
        exact ⟨rfl, below_drewN hB6 _⟩
  · rw [show ansT (lookTo s1 s2 s1.length) q = q from by simp [ansT, hq], show ansB (among s0) (lookTo s1 s2 s1.length) q = among s0 q from by simp [ansB, hq]] at HT
    rw [hq] at HQ
    clear hq
    go_wp2_with fail
    refine HT.out.mono ?_
    rintro e x7 ⟨rfl, n7, rfl⟩
    go_wp2_with fail
    refine (HQ.out _).mono ?_
    rintro e x8 ⟨rfl, rfl⟩
    go_wp2_with fail
    have W0 : Strs (x6.drewN n7) a0' s0 := V0
    refine (contains_any _ _ s0 q _ (by omega) W0).mono ?_
    rintro e x9 ⟨rfl, rfl⟩
    go_wp2
    go_ret
    refine ⟨rfl, below_drewN hB6 _⟩
end Go.Proofs.Qxb6615094a
