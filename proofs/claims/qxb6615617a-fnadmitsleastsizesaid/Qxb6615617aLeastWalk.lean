/-
  THE WALK OF 'FnAdmitsLeastSize': it returns true.
-/
import Derived.Test.Qxb6615617aBudget
import Derived.Deep.DeepCutAuto
namespace Go.Proofs.Qxb6615617a
open Go.RowKit Go.Maps
set_option linter.unusedVariables false

theorem yes_at (nd d held ent read x : Int) (h0 : 0 ≤ d) (h1 : held + read ≤ nd) (h2 : ent + read + x ≤ nd) : (decide (read ≤ nd + d - held) && decide (x ≤ nd + d - ent - read)) = true := by
  simp only [Bool.and_eq_true, decide_eq_true_eq]
  omega

theorem no_at (nd d held ent read x : Int) (h0 : 0 ≤ d) (h3 : nd = held + read ∨ nd = ent + read + x) : (decide (read ≤ nd - 1 - d - held) && decide (x ≤ nd - 1 - d - ent - read)) = false := by
  simp only [Bool.and_eq_false_iff, decide_eq_false_iff_not]
  omega

set_option maxRecDepth 100000 in
set_option maxHeartbeats 2000000 in
theorem least_core (held ent : Int) (a : Option Addr) (c : Nat) (zs : List Int) (read rest d : Int) (w : World) (hn : zs.length ≤ 65536) (hZ : Ints w a zs)
    (h1 : 0 ≤ held) (h2 : held ≤ 1152921504606846976) (h3 : 0 ≤ ent) (h4 : ent ≤ 1152921504606846976) (h5 : 0 ≤ read) (h6 : read ≤ 1152921504606846976) (h7 : 0 ≤ rest) (h8 : rest ≤ 1152921504606846976) (h9 : 0 ≤ d) (h10 : d ≤ 1152921504606846976) :
    Calls Try.prog 5 #[.int .i64 held, .int .i64 ent, .slice a zs.length c, .int .i64 read, .int .i64 rest, .int .i64 d] w fun e w' => e = .returned (.bool true) ∧ Below w.heap.size w w' := by
  have HG : Hid (Calls Try.prog 7 #[.int .i64 held, .int .i64 ent, .slice a zs.length c, .int .i64 read, .int .i64 rest, .int .i64 d] w fun e w' => Answers True e ∧ w' = w) := guard_any a zs.length c held ent read rest d w (by unfold maxLen; omega)
  go_enter Try.func5, Try.ntmps5
  go_wp2_with fail
  refine HG.out.mono ?_
  rintro e w ⟨⟨r, rfl, -⟩, rfl⟩
  clear HG
  cases r
  · go_wp2
    go_ret
    exact ⟨rfl, Below.refl _ _⟩
  go_wp2_with fail
  refine (claimsOK_any a c zs w hn hZ).mono ?_
  rintro e w ⟨⟨r, rfl, hr⟩, rfl⟩
  cases r
  · go_wp2
    go_ret
    exact ⟨rfl, Below.refl _ _⟩
  have hF : Hid (Fine zs) := hr rfl
  clear hr
  go_wp2_with fail
  refine (claimMap_any a c zs w hn hZ hF.out).mono ?_
  rintro e w1 ⟨m, n, rfl, hK, hm0, hb1⟩
  have hZ1 := hZ.later hb1
  clear hZ hm0
  go_wp2_with fail
  go_loop [14, 15] (fun v i => ∃ (k : Nat) (x : Int), k ≤ zs.length ∧ i = .int .i64 k ∧ v = .int .i64 x ∧ rest ≤ x ∧ x ≤ 1152921504606846976 ∧ Hid ((∀ z ∈ zs.take k, z ≤ x) ∧ (x = rest ∨ x ∈ zs))) (fun _ i => zs.length - (intOf i).toNat)
  case atStart => exact ⟨0, rest, Nat.zero_le _, rfl, rfl, Int.le_refl _, h8, ⟨fun z hz => by simp at hz, Or.inl rfl⟩⟩
  case round =>
  obtain ⟨k, x, hk, rfl, rfl, hx0, hx1, hx⟩ := hrel
  by_cases hlt : k < zs.length
  · obtain ⟨b, o, hix, hck⟩ := hZ1.get hlt
    have hmem := getD_mem zs k hlt
    have hfv := hF.out _ hmem
    have hms : Hid (∀ y, y ∈ zs.take (k + 1) ↔ y = zs.getD k 0 ∨ y ∈ zs.take k) := mem_take_succ zs k hlt
    have HME : Hid (zs.getD k 0 ∈ zs) := hmem
    clear hmem
    generalize zs.getD k 0 = v at hck hfv hms HME
    obtain ⟨hv0, hv1⟩ := hfv
    by_cases hxv : x < v
    · go_wp2
      go_round
      case rel =>
        refine ⟨k + 1, v, by omega, by go_num, rfl, by omega, hv1, ⟨fun z hz => ?_, Or.inr HME.out⟩⟩
        rcases (hms.out z).1 hz with rfl | hz
        · exact Int.le_refl _
        · have := hx.out.1 z hz; omega
      case measure => simp [intOf]; omega
    · go_wp2
      go_round
      case rel =>
        refine ⟨k + 1, x, by omega, by go_num, rfl, hx0, hx1, ⟨fun z hz => ?_, hx.out.2⟩⟩
        rcases (hms.out z).1 hz with rfl | hz
        · omega
        · exact hx.out.1 z hz
      case measure => simp [intOf]; omega
  have HX : Hid ((∀ z ∈ zs, z ≤ x) ∧ (x = rest ∨ x ∈ zs)) := by
    have := hx.out
    rwa [List.take_of_length_le (by omega)] at this
  clear hx hZ1
  go_upto_if 100 with fail
  go_cut [16] (fun v w' => ∃ nd : Int, v = .int .i64 nd ∧ w' = w1 ∧ held + read ≤ nd ∧ ent + read + x ≤ nd ∧ nd ≤ 3458764513820540928 ∧ Hid (nd = held + read ∨ nd = ent + read + x))
  case first =>
    by_cases he : held + read < ent + read + x
    · go_wp2
      go_meet
      case rel => exact ⟨_, rfl, rfl, by omega, Int.le_refl _, by omega, Or.inr rfl⟩
    · go_wp2
      go_meet
      case rel => exact ⟨_, rfl, rfl, Int.le_refl _, by omega, by omega, Or.inl rfl⟩
  case rest =>
  obtain ⟨nd, rfl, hw, hn1, hn2, hn3, HN⟩ := hcut
  subst hw
  obtain ⟨w1, rfl⟩ : ∃ w1, w1 = wc := ⟨wc, rfl⟩
  go_wp2_with fail
  refine (newBudget_any (nd + d) held ent m w1).mono ?_
  rintro e w2 ⟨rfl, hB2, hb2⟩
  have hK2 := hK.later (hb2.block _ hK.lt)
  have hBl2 : Below w.heap.size w w2 := hb1.trans (hb2.mono hb1.size)
  clear hK hb1 hb2
  go_wp2_with fail
  refine (newShare_any _ read rest w2).mono ?_
  rintro e w3 ⟨rfl, hS3, hb3⟩
  have hK3 := hK2.later (hb3.block _ hK2.lt)
  have hB3 := hB2.later hb3
  have hBl3 : Below w.heap.size w w3 := hBl2.trans (hb3.mono hBl2.size)
  clear hK2 hB2 hBl2 hb3
  have HA := zzAdmits_any _ _ m n zs (nd + d) held ent read rest x w3 hB3 hS3 hK3 (by omega) (by omega) h1 h2 h3 h4 h5 h6 hx0 HX.out.1 HX.out.2
  rw [yes_at nd d held ent read x h9 hn1 hn2] at HA
  have HA' : Hid (Calls Try.prog 11 #[.pointer (some ⟨w1.heap.size, 0, none⟩), .pointer (some ⟨w2.heap.size, 0, none⟩)] w3 fun e w' => e = .returned (.bool true) ∧ Below w3.heap.size w3 w') := HA
  clear HA
  go_wp2_with fail
  refine HA'.out.mono ?_
  rintro e w4 ⟨rfl, hb4⟩
  have hK4 := hK3.later (hb4.block _ hK3.lt)
  have hBl4 : Below w.heap.size w w4 := hBl3.trans (hb4.mono hBl3.size)
  clear hK3 hB3 hS3 hBl3 hb4 HA'
  by_cases q1 : ¬ held ≤ nd - 1 - d
  · go_wp2
    go_ret
    exact ⟨rfl, hBl4⟩
  by_cases q2 : ¬ ent ≤ nd - 1 - d
  · go_wp2
    go_ret
    exact ⟨rfl, hBl4⟩
  go_wp2_with fail
  refine (newBudget_any (nd - 1 - d) held ent m w4).mono ?_
  rintro e w5 ⟨rfl, hB5, hb5⟩
  have hK5 := hK4.later (hb5.block _ hK4.lt)
  have hBl5 : Below w.heap.size w w5 := hBl4.trans (hb5.mono hBl4.size)
  clear hK4 hBl4 hb5
  go_wp2_with fail
  refine (newShare_any _ read rest w5).mono ?_
  rintro e w6 ⟨rfl, hS6, hb6⟩
  have hK6 := hK5.later (hb6.block _ hK5.lt)
  have hB6 := hB5.later hb6
  have hBl6 : Below w.heap.size w w6 := hBl5.trans (hb6.mono hBl5.size)
  clear hK5 hB5 hBl5 hb6
  have HA := zzAdmits_any _ _ m n zs (nd - 1 - d) held ent read rest x w6 hB6 hS6 hK6 (by omega) (by omega) h1 h2 h3 h4 h5 h6 hx0 HX.out.1 HX.out.2
  rw [no_at nd d held ent read x h9 HN.out] at HA
  have HA' : Hid (Calls Try.prog 11 #[.pointer (some ⟨w4.heap.size, 0, none⟩), .pointer (some ⟨w5.heap.size, 0, none⟩)] w6 fun e w' => e = .returned (.bool false) ∧ Below w6.heap.size w6 w') := HA
  clear HA
  go_wp2_with fail
  refine HA'.out.mono ?_
  rintro e w7 ⟨rfl, hb7⟩
  have hBl7 : Below w.heap.size w w7 := hBl6.trans (hb7.mono hBl6.size)
  clear hK6 hB6 hS6 hBl6 hb7 HA'
  go_wp2
  go_ret
  exact ⟨rfl, hBl7⟩

set_option maxRecDepth 100000 in
set_option maxHeartbeats 4000000 in
theorem least_walk (held ent : Int) (a : Option Addr) (c : Nat) (zs : List Int) (read rest d : Int) (w : World) (hl : zs.length ≤ maxLen) (hZ : Ints w a zs) :
    Calls Try.prog 5 #[.int .i64 held, .int .i64 ent, .slice a zs.length c, .int .i64 read, .int .i64 rest, .int .i64 d] w fun e w' => e = .returned (.bool true) ∧ Below w.heap.size w w' := by
  have HG : Hid (Calls Try.prog 7 #[.int .i64 held, .int .i64 ent, .slice a zs.length c, .int .i64 read, .int .i64 rest, .int .i64 d] w fun e w' => Answers True e ∧ w' = w) := guard_any a zs.length c held ent read rest d w hl
  unfold maxLen at hl
  by_cases h0 : zs.length ≤ 65536
  case neg =>
    as_aux_lemma =>
    go_enter Try.func5, Try.ntmps5
    go_wp2_with fail
    refine HG.out.mono ?_
    rintro e w ⟨⟨r, rfl, -⟩, rfl⟩
    cases r
    all_goals
      go_wp2
      go_ret
      exact ⟨rfl, Below.refl _ _⟩
  by_cases h1 : 0 ≤ held
  case neg =>
    as_aux_lemma =>
    go_enter Try.func5, Try.ntmps5
    go_wp2_with fail
    refine HG.out.mono ?_
    rintro e w ⟨⟨r, rfl, -⟩, rfl⟩
    cases r
    all_goals
      go_wp2
      go_ret
      exact ⟨rfl, Below.refl _ _⟩
  by_cases h2 : held ≤ 1152921504606846976
  case neg =>
    as_aux_lemma =>
    go_enter Try.func5, Try.ntmps5
    go_wp2_with fail
    refine HG.out.mono ?_
    rintro e w ⟨⟨r, rfl, -⟩, rfl⟩
    cases r
    all_goals
      go_wp2
      go_ret
      exact ⟨rfl, Below.refl _ _⟩
  by_cases h3 : 0 ≤ ent
  case neg =>
    as_aux_lemma =>
    go_enter Try.func5, Try.ntmps5
    go_wp2_with fail
    refine HG.out.mono ?_
    rintro e w ⟨⟨r, rfl, -⟩, rfl⟩
    cases r
    all_goals
      go_wp2
      go_ret
      exact ⟨rfl, Below.refl _ _⟩
  by_cases h4 : ent ≤ 1152921504606846976
  case neg =>
    as_aux_lemma =>
    go_enter Try.func5, Try.ntmps5
    go_wp2_with fail
    refine HG.out.mono ?_
    rintro e w ⟨⟨r, rfl, -⟩, rfl⟩
    cases r
    all_goals
      go_wp2
      go_ret
      exact ⟨rfl, Below.refl _ _⟩
  by_cases h5 : 0 ≤ read
  case neg =>
    as_aux_lemma =>
    go_enter Try.func5, Try.ntmps5
    go_wp2_with fail
    refine HG.out.mono ?_
    rintro e w ⟨⟨r, rfl, -⟩, rfl⟩
    cases r
    all_goals
      go_wp2
      go_ret
      exact ⟨rfl, Below.refl _ _⟩
  by_cases h6 : read ≤ 1152921504606846976
  case neg =>
    as_aux_lemma =>
    go_enter Try.func5, Try.ntmps5
    go_wp2_with fail
    refine HG.out.mono ?_
    rintro e w ⟨⟨r, rfl, -⟩, rfl⟩
    cases r
    all_goals
      go_wp2
      go_ret
      exact ⟨rfl, Below.refl _ _⟩
  by_cases h7 : 0 ≤ rest
  case neg =>
    as_aux_lemma =>
    go_enter Try.func5, Try.ntmps5
    go_wp2_with fail
    refine HG.out.mono ?_
    rintro e w ⟨⟨r, rfl, -⟩, rfl⟩
    cases r
    all_goals
      go_wp2
      go_ret
      exact ⟨rfl, Below.refl _ _⟩
  by_cases h8 : rest ≤ 1152921504606846976
  case neg =>
    as_aux_lemma =>
    go_enter Try.func5, Try.ntmps5
    go_wp2_with fail
    refine HG.out.mono ?_
    rintro e w ⟨⟨r, rfl, -⟩, rfl⟩
    cases r
    all_goals
      go_wp2
      go_ret
      exact ⟨rfl, Below.refl _ _⟩
  by_cases h9 : 0 ≤ d
  case neg =>
    as_aux_lemma =>
    go_enter Try.func5, Try.ntmps5
    go_wp2_with fail
    refine HG.out.mono ?_
    rintro e w ⟨⟨r, rfl, -⟩, rfl⟩
    cases r
    all_goals
      go_wp2
      go_ret
      exact ⟨rfl, Below.refl _ _⟩
  by_cases h10 : d ≤ 1152921504606846976
  case neg =>
    as_aux_lemma =>
    go_enter Try.func5, Try.ntmps5
    go_wp2_with fail
    refine HG.out.mono ?_
    rintro e w ⟨⟨r, rfl, -⟩, rfl⟩
    cases r
    all_goals
      go_wp2
      go_ret
      exact ⟨rfl, Below.refl _ _⟩
  exact least_core held ent a c zs read rest d w h0 hZ h1 h2 h3 h4 h5 h6 h7 h8 h9 h10
end Go.Proofs.Qxb6615617a
