/-
  Seat b6601757a: FnEscapedKeyInvertsAppendKeyPrefix, the walk.
-/
import Derived.Test.Qxb6601757aClone
import Derived.Test.Qxb6601757aKeys
import Derived.Test.Qxb6601757aZz
namespace Go.Proofs.Qxb6601757a
open Go.RowKit

set_option maxHeartbeats 1000000 in
theorem walk8 (a0 : Option Addr) (len0 cap0 : Nat) (z0 : List Int) (w : World) (w0 : Row w a0 len0 cap0 z0) :
    Calls Try.prog 8 #[.slice a0 len0 cap0] w fun e w' => e = .returned (.bool true) ∧ Below w.heap.size w w' := by
  go_enter Try.func8, Try.ntmps8
  go_wp2_with fail
  refine (zz23 _ _ _ _).mono ?_
  rintro e w' ⟨⟨b, rfl⟩, hw⟩
  subst w'
  cases b
  · go_wp2
    go_ret
    exact ⟨rfl, Below.refl _ _⟩
  by_cases hl0 : 524288 < len0
  · go_wp2_with fail
    go_ret
    exact ⟨rfl, Below.refl _ _⟩
  have b0 := bs_of_row (by omega) w0
  clear w0
  generalize z0.take len0 = x0 at b0
  go_wp2_with fail
  refine (clone_any _ _ _ x0 _ b0).mono ?_
  rintro e w1 ⟨d0, e0, rfl, -, own0, gr0⟩
  have k0 := (own_bs' own0 b0.wf b0.small).1
  go_wp2_with fail
  refine (prefix_any _ _ _ x0 _ k0 (by omega)).mono ?_
  rintro e w2 ⟨f0, g0, rfl, -, p0, gr1⟩
  go_wp2_with fail
  refine (zzEscapedKey_pre _ _ _ x0 _ p0).mono ?_
  rintro e w3 ⟨f1, g1, rfl, p1, hw⟩
  subst w3
  go_wp2_with fail
  refine (unescape_any _ _ _ x0 _ p1 b0.wf).mono ?_
  rintro e w3 ⟨f2, g2, rfl, p2, gr2⟩
  go_wp2_with fail
  refine (same_any _ _ _ _ _ _ _ _ _ p2 ((k0.on gr1).on gr2)).mono ?_
  rintro e w4 ⟨rfl, q, hq⟩
  subst w4
  have ht : decide (x0 = x0) = true := by simp
  go_wp2
  go_ret
  exact ⟨rfl, below_of_grown (((gr0.trans gr1).trans gr2).trans (grown_drewN _ _ _))⟩
end Go.Proofs.Qxb6601757a
