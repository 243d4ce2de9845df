/-
  Seat b6601757a: zzReadsBoundSide; FnEscapedKeyReadsBounds, the walk.
-/
import Derived.Test.Qxb6601757aClone
import Derived.Test.Qxb6601757aBounds
import Derived.Test.Qxb6601757aKeys
import Derived.Test.Qxb6601757aZz
namespace Go.Proofs.Qxb6601757a
open Go.RowKit

set_option maxHeartbeats 1000000 in
theorem readsSide_any (c : Int) (a0 : Option Addr) (n0 c0 : Nat) (a1 : Option Addr) (n1 c1 : Nat) (zs : List Int) (w : World) (h0 : Bs w a0 n0 c0 (side c a1 zs)) (h1 : Bs w a1 n1 c1 zs) :
    Calls Try.prog 27 #[.slice a0 n0 c0, .slice a1 n1 c1] w fun e w' => e = .returned (.bool true) ∧ w.grownBy w' none := by
  have q22 : ∀ (w : World) (a : Option Addr) (n c n' c' : Nat), (binOp .eql 22 (.slice a n c) (.slice none n' c')).run Try.prog w = .ok (.bool a.isNone) w := fun w a n c n' c' => Lib.run_eql_slice_nil w _ _ a n c n' c' Try.underlying22
  cases a1 with
  | none =>
    have hl : n0 = 1 := h0.len.symm
    subst hl
    go_enter Try.func27, Try.ntmps27
    go_wp2_with fail
    refine (zzEscapedKey_short _ _ _ _ (by omega)).mono ?_
    rintro e w' ⟨rfl, hw⟩
    subst w'
    go_wp2
    go_ret
    exact ⟨rfl, World.grownBy.refl _ _⟩
  | some u =>
    have h2 : Bs w a0 n0 c0 (Pl.pre zs) := h0
    clear h0
    go_enter Try.func27, Try.ntmps27
    go_wp2_with fail
    refine (zzEscapedKey_pre _ _ _ zs _ h2).mono ?_
    rintro e w' ⟨d, g, rfl, p1, hw⟩
    subst w'
    go_wp2_with fail
    refine (unescape_any _ _ _ zs _ p1 h1.wf).mono ?_
    rintro e w1 ⟨f2, g2, rfl, p2, gr2⟩
    go_wp2_with fail
    refine (same_any _ _ _ _ _ _ _ _ _ p2 (h1.on gr2)).mono ?_
    rintro e w4 ⟨rfl, q, hq⟩
    subst w4
    have ht : decide (zs = zs) = true := by simp
    go_wp2
    go_ret
    exact ⟨rfl, gr2.trans (grown_drewN _ _ _)⟩

set_option maxHeartbeats 1000000 in
theorem walk9 (a0 : Option Addr) (len0 cap0 : Nat) (z0 : List Int) (a1 : Option Addr) (len1 cap1 : Nat) (z1 : List Int) (w : World) (w0 : Row w a0 len0 cap0 z0) (w1 : Row w a1 len1 cap1 z1) :
    Calls Try.prog 9 #[.slice a0 len0 cap0, .slice a1 len1 cap1] w fun e w' => e = .returned (.bool true) ∧ Below w.heap.size w w' := by
  go_enter Try.func9, Try.ntmps9
  go_wp2_with fail
  refine (zz26 _ _ _ _ _ _ _).mono ?_
  rintro e w' ⟨⟨b, rfl⟩, hw⟩
  subst w'
  cases b
  · go_wp2
    go_ret
    exact ⟨rfl, Below.refl _ _⟩
  by_cases hl0 : 524288 < len0
  · go_wp2_with fail
    go_ret
    exact ⟨rfl, Below.refl _ _⟩
  by_cases hl1 : 524288 < len1
  · go_wp2_with fail
    go_ret
    exact ⟨rfl, Below.refl _ _⟩
  have b0 := bs_of_row (by omega) w0
  have b1 := bs_of_row (by omega) w1
  clear w0 w1
  generalize z0.take len0 = x0 at b0
  generalize z1.take len1 = x1 at b1
  go_wp2_with fail
  refine (clone_any _ _ _ x0 _ b0).mono ?_
  rintro e w1 ⟨d0, e0, rfl, -, own0, gr0⟩
  go_wp2_with fail
  refine (clone_any _ _ _ x1 _ (b1.on gr0)).mono ?_
  rintro e w2 ⟨d1, e1, rfl, -, own1, gr1⟩
  have k0 := (own_bs' own0 b0.wf b0.small).1.on gr1
  have k1 := (own_bs' own1 b1.wf b1.small).1
  go_wp2_with fail
  refine (bounds_any _ _ _ x0 _ _ _ x1 _ k0 k1 (by omega) (by omega)).mono ?_
  rintro e w3 ⟨f0, g0, f1, g1, rfl, p0, p1, gr2⟩
  go_wp2_with fail
  refine (readsSide_any 118 _ _ _ _ _ _ x0 _ p0 (k0.on gr2)).mono ?_
  rintro e w4 ⟨rfl, gr3⟩
  go_wp2_with fail
  refine (readsSide_any 119 _ _ _ _ _ _ x1 _ (p1.on gr3) ((k1.on gr2).on gr3)).mono ?_
  rintro e w5 ⟨rfl, gr4⟩
  go_wp2
  go_ret
  exact ⟨rfl, below_of_grown ((((gr0.trans gr1).trans gr2).trans gr3).trans gr4)⟩
end Go.Proofs.Qxb6601757a
