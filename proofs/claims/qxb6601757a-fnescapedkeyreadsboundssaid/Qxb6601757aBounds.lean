/-
  Seat b6601757a: KeyPrefix, Bounds.
-/
import Derived.Test.Qxb6601757aAppend
namespace Go.Proofs.Qxb6601757a
open Go.RowKit

/-- What one side of Bounds is: nil gives the one byte c, any other key its lead. -/
def side (c : Int) (a : Option Addr) (zs : List Int) : List Int := if a.isNone then [c] else Pl.pre zs

set_option maxHeartbeats 1000000 in
theorem keyPrefix_any (ao : Option Addr) (n cap : Nat) (zs : List Int) (w : World) (h : Bs w ao n cap zs) (hn : n ≤ 600000) :
    Calls Try.prog 28 #[.slice ao n cap] w fun e w' => ∃ ao' cap', e = .returned (.slice ao' (Pl.pre zs).length cap') ∧
      Bs w' ao' (Pl.pre zs).length cap' (Pl.pre zs) ∧ w.grownBy w' none := by
  obtain ⟨i0, hi, hz0, hz1, hz2⟩ := info_parts Try.info5
  go_enter Try.func28, Try.ntmps28
  go_wp2_with (at_make; refine wpList_make_own _ rfl _ _ 22 rfl w.heap.size 5 i0 (.int .u8 0) 1 Try.underlying22 hi hz0 hz1 _ _ _ (n + 11) rfl rfl (by omega) (by rw [hz2]; omega) (by unfold maxLen; omega) (Nat.le_refl _) ?_; intro w1 hown1 hgrow1)
  have hpl := Pl.pre_len zs
  have hel := (Pl.esc_len zs).2
  have hl := h.len
  refine (appendKey_any _ [] w.heap.size _ _ _ zs _ hown1 (by simp) hgrow1.size (h.on hgrow1) hn (fun h0 a ha => ?_)).mono ?_
  · obtain ⟨b, o, e, hb, -⟩ := h.cells h0
    rw [ha] at e
    cases e
    simp only [Value.ownBlock, ne_eq, Option.some.injEq]
    omega
  rintro e w2 ⟨v', rfl, hG⟩
  have hown := hG.own
  rw [List.nil_append] at hown
  obtain ⟨ao', cap', rfl, hb, -⟩ := own_bs hown (Pl.pre_bytes h.wf) (by omega)
  have hgr := hgrow1.andThen hG.grown (fun j hj => by cases hj; exact .inl (Nat.le_refl _))
  clear hG hown hown1 hgrow1 hpl
  go_wp2
  go_ret
  exact ⟨ao', cap', rfl, hb, hgr⟩

/-- A new slice of one byte. -/
theorem bs_new (w : World) (c : Int) (hc : 0 ≤ c ∧ c ≤ 255) : Bs (w.alloc (.cells #[.int .u8 c] 5)) (some ⟨w.heap.size, 0, none⟩) 1 1 [c] := by
  refine ⟨rfl, Nat.le_refl _, by simp [maxLen], fun e => (by cases e), fun z hz => ?_, by omega, fun _ => ⟨w.heap.size, 0, rfl, by simp, fun i hi => ?_⟩⟩
  · simp at hz
    subst hz
    exact hc
  · have : i = 0 := by omega
    subst this
    simp

set_option maxHeartbeats 1000000 in
theorem bounds_any (a0 : Option Addr) (n0 c0 : Nat) (z0 : List Int) (a1 : Option Addr) (n1 c1 : Nat) (z1 : List Int) (w : World) (h0 : Bs w a0 n0 c0 z0) (h1 : Bs w a1 n1 c1 z1) (l0 : n0 ≤ 600000) (l1 : n1 ≤ 600000) :
    Calls Try.prog 20 #[.slice a0 n0 c0, .slice a1 n1 c1] w fun e w' => ∃ d0 e0 d1 e1, e = .returned (.tuple #[.slice d0 (side 118 a0 z0).length e0, .slice d1 (side 119 a1 z1).length e1]) ∧
      Bs w' d0 (side 118 a0 z0).length e0 (side 118 a0 z0) ∧ Bs w' d1 (side 119 a1 z1).length e1 (side 119 a1 z1) ∧ w.grownBy w' none := by
  have q22 : ∀ (w : World) (a : Option Addr) (n c n' c' : Nat), (binOp .neq 22 (.slice a n c) (.slice none n' c')).run Try.prog w = .ok (.bool (!a.isNone)) w := fun w a n c n' c' => run_neq_slice_nil_any w _ _ a n c n' c' Try.underlying22
  have B0 := (bs_new w 118 (by omega)).on (World.grownBy_alloc _ (.cells #[.int .u8 119] 5) none)
  have B1 := bs_new (w.alloc (.cells #[.int .u8 118] 5)) 119 (by omega)
  have gr := (World.grownBy_alloc w (.cells #[.int .u8 118] 5) none).trans (World.grownBy_alloc _ (.cells #[.int .u8 119] 5) none)
  simp only [World.size_alloc] at B1
  cases a0 with
  | none => cases a1 with
    | none =>
      go_enter Try.func20, Try.ntmps20
      go_wp2
      go_ret2
      exact ⟨_, _, _, _, rfl, B0, B1, gr⟩
    | some x1 =>
      go_enter Try.func20, Try.ntmps20
      go_wp2_with fail
      refine (keyPrefix_any _ _ _ z1 _ (h1.on gr) l1).mono ?_
      rintro e w1 ⟨d1, e1, rfl, p1, gr1⟩
      go_wp2
      go_ret2
      exact ⟨_, _, _, _, rfl, B0.on gr1, p1, gr.trans gr1⟩
  | some x0 => cases a1 with
    | none =>
      go_enter Try.func20, Try.ntmps20
      go_wp2_with fail
      refine (keyPrefix_any _ _ _ z0 _ (h0.on gr) l0).mono ?_
      rintro e w1 ⟨d0, e0, rfl, p0, gr0⟩
      go_wp2
      go_ret2
      exact ⟨_, _, _, _, rfl, p0, B1.on gr0, gr.trans gr0⟩
    | some x1 =>
      go_enter Try.func20, Try.ntmps20
      go_wp2_with fail
      refine (keyPrefix_any _ _ _ z0 _ (h0.on gr) l0).mono ?_
      rintro e w1 ⟨d0, e0, rfl, p0, gr0⟩
      go_wp2_with fail
      refine (keyPrefix_any _ _ _ z1 _ ((h1.on gr).on gr0) l1).mono ?_
      rintro e w2 ⟨d1, e1, rfl, p1, gr1⟩
      go_wp2
      go_ret2
      exact ⟨_, _, _, _, rfl, p0.on gr1, p1, (gr.trans gr0).trans gr1⟩
end Go.Proofs.Qxb6601757a
