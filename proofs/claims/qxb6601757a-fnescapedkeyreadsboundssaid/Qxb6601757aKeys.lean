/-
  Seat b6601757a: escapedKey, ZZescapedKey, zzIsKeyPrefixOf.
-/
import Derived.Test.Qxb6601757aUnesc
import Derived.Test.Qxb6601757aReads
namespace Go.Proofs.Qxb6601757a
open Go.RowKit

/-- The middle of a slice. -/
theorem Bs.mid {w : World} {b o n cap m : Nat} {x : Int} {ys t : List Int} (h : Bs w (some ⟨b, o, none⟩) n cap (x :: (ys ++ t))) (hm : ys.length = m) : Bs w (some ⟨b, o + 1, none⟩) m (cap - 1) ys := by
  have hl := h.len
  simp only [List.length_cons, List.length_append] at hl
  have hr := h.room
  have ht := h.top
  have hs := h.small
  refine ⟨hm, by omega, by omega, fun e => (by cases e), ?_, by omega, fun h0 => ?_⟩
  · intro z hz
    exact h.wf z (by simp [hz])
  · obtain ⟨b', o', e, hb, hc⟩ := h.cells (by omega)
    cases e
    refine ⟨b, o + 1, rfl, hb, fun i hi => ?_⟩
    have := hc (i + 1) (by omega)
    rw [show o + 1 + i = o + (i + 1) by omega, this]
    simp [List.getD, List.getElem?_append_left (show i < ys.length by omega)]

set_option maxHeartbeats 1000000 in
theorem escapedKey_pre (ao : Option Addr) (n cap : Nat) (zs : List Int) (w : World) (h : Bs w ao n cap (Pl.pre zs)) :
    Calls Try.prog 29 #[.slice ao n cap] w fun e w' => ∃ ao' cap', e = .returned (.tuple #[.slice ao' (Pl.esc zs).length cap', .bool true]) ∧ Bs w ao' (Pl.esc zs).length cap' (Pl.esc zs) ∧ w' = w := by
  have hl := h.len
  rw [Pl.pre_len] at hl
  obtain ⟨m, hm⟩ : ∃ m, m = (Pl.esc zs).length := ⟨_, rfl⟩
  rw [← hm] at hl ⊢
  subst hl
  obtain ⟨b, o, rfl, -, hc⟩ := h.cells (by omega)
  have c0 := hc 0 (by omega)
  have e0 : (Pl.pre zs).getD 0 0 = 118 := rfl
  rw [e0, Nat.add_zero] at c0
  have hb := Bs.mid h hm.symm
  have hr := h.room
  have ht := h.top
  have hs := h.small
  unfold maxLen at ht
  clear hc e0 h hm
  have hz : 0 < cap := by omega
  go_enter Try.func29, Try.ntmps29
  go_wp2
  go_ret2
  exact ⟨_, _, rfl, hb, rfl⟩

theorem escapedKey_short (ao : Option Addr) (n cap : Nat) (w : World) (hn : n < 3) :
    Calls Try.prog 29 #[.slice ao n cap] w fun e w' => e = .returned (.tuple #[.slice none 0 0, .bool false]) ∧ w' = w := by
  have hd : decide ((n : Int) < 3) = true := decide_eq_true (by omega)
  go_enter Try.func29, Try.ntmps29
  go_wp2
  go_ret2
  exact ⟨rfl, rfl⟩

theorem zzEscapedKey_pre (ao : Option Addr) (n cap : Nat) (zs : List Int) (w : World) (h : Bs w ao n cap (Pl.pre zs)) :
    Calls Try.prog 24 #[.slice ao n cap] w fun e w' => ∃ ao' cap', e = .returned (.tuple #[.slice ao' (Pl.esc zs).length cap', .bool true]) ∧ Bs w ao' (Pl.esc zs).length cap' (Pl.esc zs) ∧ w' = w := by
  go_enter Try.func24, Try.ntmps24
  go_wp2_with fail
  refine (escapedKey_pre _ _ _ zs _ h).mono ?_
  rintro e w' ⟨ao', cap', rfl, hb, hw⟩
  subst w'
  go_wp2
  go_ret2
  exact ⟨_, _, rfl, hb, rfl⟩

theorem zzEscapedKey_short (ao : Option Addr) (n cap : Nat) (w : World) (hn : n < 3) :
    Calls Try.prog 24 #[.slice ao n cap] w fun e w' => e = .returned (.tuple #[.slice none 0 0, .bool false]) ∧ w' = w := by
  go_enter Try.func24, Try.ntmps24
  go_wp2_with fail
  refine (escapedKey_short _ _ _ _ hn).mono ?_
  rintro e w' ⟨rfl, hw⟩
  subst w'
  go_wp2
  go_ret2
  exact ⟨rfl, rfl⟩

theorem pre_at (zs : List Int) : (Pl.pre zs).getD 0 0 = 118 ∧ (Pl.pre zs).getD ((Pl.esc zs).length + 1) 0 = 0 ∧ (Pl.pre zs).getD ((Pl.esc zs).length + 2) 0 = 1 := by
  refine ⟨rfl, ?_, ?_⟩
  · simp [Pl.pre]
  · simp [Pl.pre]

set_option maxHeartbeats 1000000 in
theorem isKeyPrefix_any (a0 : Option Addr) (n0 c0 : Nat) (a1 : Option Addr) (n1 c1 : Nat) (zs : List Int) (w : World) (h0 : Bs w a0 n0 c0 (Pl.pre zs)) (h1 : Bs w a1 n1 c1 zs) :
    Calls Try.prog 14 #[.slice a0 n0 c0, .slice a1 n1 c1] w fun e w' => e = .returned (.bool true) ∧ w.grownBy w' none := by
  have hl := h0.len
  rw [Pl.pre_len] at hl
  obtain ⟨m, hm⟩ : ∃ m, m = (Pl.esc zs).length := ⟨_, rfl⟩
  obtain ⟨e0, e1, e2⟩ := pre_at zs
  rw [← hm] at hl e1 e2
  subst hl
  obtain ⟨b, o, rfl, -, hc⟩ := h0.cells (by omega)
  have x0 := hc 0 (by omega)
  have x1 := hc (m + 1) (by omega)
  have x2 := hc (m + 2) (by omega)
  rw [e0, Nat.add_zero] at x0
  rw [e1] at x1
  rw [e2] at x2
  have hb := Bs.mid h0 hm.symm
  have hr := h0.room
  have ht := h0.top
  have hs := h0.small
  unfold maxLen at ht
  clear hc e0 e1 e2 h0 hm
  have hz : 0 < c0 := by omega
  go_enter Try.func14, Try.ntmps14
  go_wp2_with fail
  refine (unescape_any _ _ _ zs _ hb h1.wf).mono ?_
  rintro e w1 ⟨d, c, rfl, hb1, gr⟩
  go_wp2_with fail
  refine (same_any _ _ _ _ _ _ _ _ _ hb1 (h1.on gr)).mono ?_
  rintro e w2 ⟨rfl, q, hq⟩
  subst w2
  have ht : decide (zs = zs) = true := by simp
  go_wp2
  go_ret
  exact ⟨rfl, gr.trans (grown_drewN _ _ _)⟩
end Go.Proofs.Qxb6601757a
