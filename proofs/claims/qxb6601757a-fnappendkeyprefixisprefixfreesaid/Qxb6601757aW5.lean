/-
  Seat b6601757a: FnAppendKeyPrefixIsPrefixFree, the walk.
-/
import Derived.Test.Qxb6601757aClone
import Derived.Test.Qxb6601757aAppend
import Derived.Test.Qxb6601757aReads
import Derived.Test.Qxb6601757aZz
namespace Go.Proofs.Qxb6601757a
open Go.RowKit

set_option maxHeartbeats 1000000 in
theorem walk5 (a0 : Option Addr) (len0 cap0 : Nat) (z0 : List Int) (a1 : Option Addr) (len1 cap1 : Nat) (z1 : List Int) (w : World) (w0 : Row w a0 len0 cap0 z0) (w1 : Row w a1 len1 cap1 z1) :
    Calls Try.prog 5 #[.slice a0 len0 cap0, .slice a1 len1 cap1] w fun e w' => e = .returned (.bool true) ∧ Below w.heap.size w w' := by
  go_enter Try.func5, Try.ntmps5
  go_wp2_with fail
  refine (zz17 _ _ _ _ _ _ _).mono ?_
  rintro e w' ⟨⟨b, rfl⟩, hw⟩
  subst w'
  cases b
  · go_wp2
    go_ret
    exact ⟨rfl, Below.refl _ _⟩
  by_cases hl0 : 524288 < len0
  · go_wp2_with fail
    go_ret
    exact ⟨rfl, Below.refl _ _⟩
  by_cases hl1 : 524288 < len1
  · go_wp2_with fail
    go_ret
    exact ⟨rfl, Below.refl _ _⟩
  have b0 := bs_of_row (by omega) w0
  have b1 := bs_of_row (by omega) w1
  clear w0 w1
  generalize z0.take len0 = x0 at b0
  generalize z1.take len1 = x1 at b1
  go_wp2_with fail
  refine (clone_any _ _ _ x0 _ b0).mono ?_
  rintro e w1 ⟨d0, e0, rfl, -, own0, gr0⟩
  go_wp2_with fail
  refine (clone_any _ _ _ x1 _ (b1.on gr0)).mono ?_
  rintro e w2 ⟨d1, e1, rfl, -, own1, gr1⟩
  have k0 := (own_bs' own0 b0.wf b0.small).1.on gr1
  have k1 := (own_bs' own1 b1.wf b1.small).1
  go_wp2_with fail
  refine (prefix_any _ _ _ x0 _ k0 (by omega)).mono ?_
  rintro e w3 ⟨f0, g0, rfl, -, p0, gr2⟩
  go_wp2_with fail
  refine (prefix_any _ _ _ x1 _ (k1.on gr2) (by omega)).mono ?_
  rintro e w4 ⟨f1, g1, rfl, -, p1, gr3⟩
  go_wp2_with fail
  refine (hasPre_any _ _ _ _ _ _ _ _ _ (p0.on gr3) p1).mono ?_
  rintro e w5 ⟨rfl, q, hq⟩
  subst w5
  go_wp2_with fail
  refine (same_any _ _ _ _ _ _ _ _ _ (((k0.on gr2).on gr3).drewN q) (((k1.on gr2).on gr3).drewN q)).mono ?_
  rintro e w5 ⟨rfl, q', hq⟩
  subst w5
  go_wp2
  go_ret
  refine ⟨ret_bool (by rw [Pl.hasPre_pre x0 x1 b0.wf b1.wf]; simp), ?_⟩
  exact below_of_grown ((((gr0.trans gr1).trans gr2).trans gr3).trans (grown_drewN _ _ _))
end Go.Proofs.Qxb6601757a
