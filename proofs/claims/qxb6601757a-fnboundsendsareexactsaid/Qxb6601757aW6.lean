/-
  Seat b6601757a: FnBoundsEndsAreExact, the walk.
-/
import Derived.Test.Qxb6601757aClone
import Derived.Test.Qxb6601757aBounds
import Derived.Test.Qxb6601757aKeys
import Derived.Test.Qxb6601757aZz
namespace Go.Proofs.Qxb6601757a
open Go.RowKit

theorem same_new (c : Int) (hc : 0 ≤ c ∧ c ≤ 255) (a0 : Option Addr) (c0 : Nat) (w : World) (h0 : Bs w a0 1 c0 [c]) :
    Calls Try.prog 13 #[.slice a0 1 c0, .slice (some ⟨w.heap.size, 0, none⟩) 1 1] (w.alloc (.cells #[.int .u8 c] 5)) fun e w' => e = .returned (.bool true) ∧ w.grownBy w' none := by
  refine (same_any _ _ _ _ _ _ _ _ _ (h0.on (World.grownBy_alloc _ _ _)) (bs_new w c hc)).mono ?_
  rintro e w' ⟨rfl, q, rfl⟩
  exact ⟨by simp, (World.grownBy_alloc _ _ _).trans (grown_drewN _ _ _)⟩

set_option maxHeartbeats 2000000 in
theorem walk6 (a0 : Option Addr) (len0 cap0 : Nat) (z0 : List Int) (a1 : Option Addr) (len1 cap1 : Nat) (z1 : List Int) (w : World) (w0 : Row w a0 len0 cap0 z0) (w1 : Row w a1 len1 cap1 z1) :
    Calls Try.prog 6 #[.slice a0 len0 cap0, .slice a1 len1 cap1] w fun e w' => e = .returned (.bool true) ∧ Below w.heap.size w w' := by
  have q22 : ∀ (w : World) (a : Option Addr) (n c n' c' : Nat), (binOp .eql 22 (.slice a n c) (.slice none n' c')).run Try.prog w = .ok (.bool a.isNone) w := fun w a n c n' c' => Lib.run_eql_slice_nil w _ _ a n c n' c' Try.underlying22
  go_enter Try.func6, Try.ntmps6
  go_wp2_with fail
  refine (zz19 _ _ _ _ _ _ _).mono ?_
  rintro e w' ⟨⟨b, rfl⟩, hw⟩
  subst w'
  cases b
  · go_wp2
    go_ret
    exact ⟨rfl, Below.refl _ _⟩
  by_cases hl0 : 524288 < len0
  · go_wp2_with fail
    go_ret
    exact ⟨rfl, Below.refl _ _⟩
  by_cases hl1 : 524288 < len1
  · go_wp2_with fail
    go_ret
    exact ⟨rfl, Below.refl _ _⟩
  have b0 := bs_of_row (by omega) w0
  have b1 := bs_of_row (by omega) w1
  clear w0 w1
  generalize z0.take len0 = x0 at b0
  generalize z1.take len1 = x1 at b1
  go_wp2_with fail
  refine (clone_any _ _ _ x0 _ b0).mono ?_
  rintro e w1 ⟨d0, e0, rfl, -, own0, gr0⟩
  go_wp2_with fail
  refine (clone_any _ _ _ x1 _ (b1.on gr0)).mono ?_
  rintro e w2 ⟨d1, e1, rfl, -, own1, gr1⟩
  have k0 := (own_bs' own0 b0.wf b0.small).1.on gr1
  have k1 := (own_bs' own1 b1.wf b1.small).1
  have gw := gr0.trans gr1
  clear own0 own1 b0 b1 gr0 gr1
  go_wp2_with fail
  refine (bounds_any _ _ _ x0 _ _ _ x1 _ k0 k1 (by omega) (by omega)).mono ?_
  rintro e w3 ⟨f0, g0, f1, g1, rfl, p0, p1, gr2⟩
  replace gw := gw.trans gr2
  replace k0 := k0.on gr2
  replace k1 := k1.on gr2
  clear gr2
  cases d0 with
  | none =>
    have p0' : Bs w3 f0 1 g0 [118] := p0
    clear p0
    go_wp2_with fail
    refine (same_new 118 (by omega) _ _ _ p0').mono ?_
    rintro e w4 ⟨rfl, gr3⟩
    replace gw := gw.trans gr3
    replace k1 := k1.on gr3
    replace p1 := p1.on gr3
    clear gr3 k0
    cases d1 with
    | none =>
      have p1' : Bs w4 f1 1 g1 [119] := p1
      clear p1
      go_wp2_with fail
      refine (same_new 119 (by omega) _ _ _ p1').mono ?_
      rintro e w5 ⟨rfl, gr4⟩
      go_wp2
      go_ret
      exact ⟨rfl, below_of_grown (gw.trans gr4)⟩
    | some u1 =>
      have p1' : Bs w4 f1 (Pl.pre x1).length g1 (Pl.pre x1) := p1
      clear p1
      go_wp2_with fail
      refine (isKeyPrefix_any _ _ _ _ _ _ x1 _ p1' k1).mono ?_
      rintro e w5 ⟨rfl, gr4⟩
      go_wp2
      go_ret
      exact ⟨rfl, below_of_grown (gw.trans gr4)⟩
  | some u0 =>
    have p0' : Bs w3 f0 (Pl.pre x0).length g0 (Pl.pre x0) := p0
    clear p0
    go_wp2_with fail
    refine (isKeyPrefix_any _ _ _ _ _ _ x0 _ p0' k0).mono ?_
    rintro e w4 ⟨rfl, gr3⟩
    replace gw := gw.trans gr3
    replace k1 := k1.on gr3
    replace p1 := p1.on gr3
    clear gr3 k0
    cases d1 with
    | none =>
      have p1' : Bs w4 f1 1 g1 [119] := p1
      clear p1
      go_wp2_with fail
      refine (same_new 119 (by omega) _ _ _ p1').mono ?_
      rintro e w5 ⟨rfl, gr4⟩
      go_wp2
      go_ret
      exact ⟨rfl, below_of_grown (gw.trans gr4)⟩
    | some u1 =>
      have p1' : Bs w4 f1 (Pl.pre x1).length g1 (Pl.pre x1) := p1
      clear p1
      go_wp2_with fail
      refine (isKeyPrefix_any _ _ _ _ _ _ x1 _ p1' k1).mono ?_
      rintro e w5 ⟨rfl, gr4⟩
      go_wp2
      go_ret
      exact ⟨rfl, below_of_grown (gw.trans gr4)⟩
end Go.Proofs.Qxb6601757a
