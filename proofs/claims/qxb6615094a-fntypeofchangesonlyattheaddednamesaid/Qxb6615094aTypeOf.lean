/-
  'typeOf' and 'ZZtypeOf': what a scope answers.
-/
import Derived.Test.Qxb6615094aScope
namespace Go.Proofs.Qxb6615094a
open Go.RowKit Go.Maps
set_option linter.unusedVariables false

/-- What the scope answers for q. -/
def ansT (g : ByteArray → Option ByteArray) (q : ByteArray) : ByteArray := if qual q then q else (g q).getD ⟨#[]⟩
def ansB (f : ByteArray → Bool) (g : ByteArray → Option ByteArray) (q : ByteArray) : Bool := if qual q then f q else (g q).isSome

set_option maxHeartbeats 1000000 in
theorem typeOf_any (p : Nat) (q : ByteArray) (f : ByteArray → Bool) (g : ByteArray → Option ByteArray) (w : World) (hS : Scope w p f g) (hq : q.size ≤ maxLen) :
    Calls Try.prog 13 #[.pointer (some ⟨p, 0, none⟩), .string q] w fun e w' => e = .returned (.tuple #[.string (ansT g q), .bool (ansB f g q)]) ∧ ∃ n, w' = w.drewN n := by
  obtain ⟨tb, ml, mt, n1, n2, h0, h2, ht, hf, hg⟩ := hS
  have hQ := fun w => qualified_any q w hq
  cases hq' : qual q
  · have lk := hg.look hq
    rw [show ansT g q = (g q).getD ⟨#[]⟩ from by simp [ansT, hq'], show ansB f g q = (g q).isSome from by simp [ansB, hq']]
    generalize (g q).getD ⟨#[]⟩ = t at lk ⊢
    generalize (g q).isSome = ok at lk ⊢
    rw [hq'] at hQ
    clear hf hg ht hq'
    go_enter Try.func13, Try.ntmps13
    go_wp2_with (go_at_call 14; refine (hQ _).mono ?_; rintro e w' ⟨rfl, rfl⟩)
    go_ret2
    exact ⟨rfl, 0, rfl⟩
  · have lk := (show OwnsSet w.drew _ _ _ from hf).look hq
    rw [show ansT g q = q from by simp [ansT, hq'], show ansB f g q = f q from by simp [ansB, hq']]
    generalize f q = ok at lk ⊢
    rw [hq'] at hQ
    clear hf hg hq'
    go_enter Try.func13, Try.ntmps13
    go_wp2_with (go_at_call 14; refine (hQ _).mono ?_; rintro e w' ⟨rfl, rfl⟩)
    go_region
    go_wp2
    go_ret2
    exact ⟨rfl, 1, rfl⟩

set_option maxHeartbeats 1000000 in
theorem zzTypeOf_any (p : Nat) (q : ByteArray) (f : ByteArray → Bool) (g : ByteArray → Option ByteArray) (w : World) (hS : Scope w p f g) (hq : q.size ≤ maxLen) :
    Calls Try.prog 9 #[.pointer (some ⟨p, 0, none⟩), .string q] w fun e w' => e = .returned (.tuple #[.string (ansT g q), .bool (ansB f g q)]) ∧ ∃ n, w' = w.drewN n := by
  have h13 := typeOf_any p q f g w hS hq
  generalize ansT g q = t at h13 ⊢
  generalize ansB f g q = ok at h13 ⊢
  have H : Hid (Calls Try.prog 13 #[.pointer (some ⟨p, 0, none⟩), .string q] w fun e w' => e = .returned (.tuple #[.string t, .bool ok]) ∧ ∃ n, w' = w.drewN n) := h13
  clear h13
  go_enter Try.func9, Try.ntmps9
  go_wp2_with (go_at_call 13; refine H.out.mono ?_; rintro e w' ⟨rfl, n, rfl⟩)
  go_ret2
  exact ⟨rfl, n, rfl⟩
end Go.Proofs.Qxb6615094a
