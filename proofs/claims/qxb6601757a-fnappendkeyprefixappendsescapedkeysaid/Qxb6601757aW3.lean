/-
  Seat b6601757a: FnAppendKeyPrefixAppendsEscapedKey, the walk.
-/
import Derived.Test.Qxb6601757aClone
import Derived.Test.Qxb6601757aAppend
import Derived.Test.Qxb6601757aKeys
import Derived.Test.Qxb6601757aZz
namespace Go.Proofs.Qxb6601757a
open Go.RowKit

/-- What is owned stays owned while nothing old turns. -/
theorem own_on {w w' : World} {base : Nat} {v : Value} {n : Nat} {xs : List Value} (h : w.ownsRow base 5 1 v n xs) (hg : w.grownBy w' none) : w'.ownsRow base 5 1 v n xs :=
  h.kept hg (by cases v.ownBlock <;> simp)

/-- The first k bytes. -/
theorem Bs.first {w : World} {b o n cap k : Nat} {xs ys : List Int} (h : Bs w (some ⟨b, o, none⟩) n cap (xs ++ ys)) (hk : xs.length = k) : Bs w (some ⟨b, o, none⟩) k cap xs := by
  have hl := h.len
  simp only [List.length_append] at hl
  have hr := h.room
  have hs := h.small
  refine ⟨hk, by omega, h.top, h.nil, fun z hz => h.wf z (by simp [hz]), by omega, fun h0 => ?_⟩
  obtain ⟨b', o', e, hb, hc⟩ := h.cells (by omega)
  cases e
  refine ⟨b, o, rfl, hb, fun i hi => ?_⟩
  rw [hc i (by omega)]
  simp [List.getD, List.getElem?_append_left (show i < xs.length by omega)]

/-- What stands behind the first k bytes. -/
theorem Bs.rest {w : World} {b o n cap k m : Nat} {xs ys : List Int} (h : Bs w (some ⟨b, o, none⟩) n cap (xs ++ ys)) (hk : xs.length = k) (hm : ys.length = m) : Bs w (some ⟨b, o + k, none⟩) m (cap - k) ys := by
  have hl := h.len
  simp only [List.length_append] at hl
  have hr := h.room
  have ht := h.top
  have hs := h.small
  refine ⟨hm, by omega, by omega, fun e => (by cases e), fun z hz => h.wf z (by simp [hz]), by omega, fun h0 => ?_⟩
  obtain ⟨b', o', e, hb, hc⟩ := h.cells (by omega)
  cases e
  refine ⟨b, o + k, rfl, hb, fun i hi => ?_⟩
  rw [show o + k + i = o + (k + i) by omega, hc (k + i) (by omega), ← hk, Pl.getD_mid]

set_option maxHeartbeats 1000000 in
theorem walk3 (a0 : Option Addr) (len0 cap0 : Nat) (z0 : List Int) (a1 : Option Addr) (len1 cap1 : Nat) (z1 : List Int) (w : World) (w0 : Row w a0 len0 cap0 z0) (w1 : Row w a1 len1 cap1 z1) :
    Calls Try.prog 3 #[.slice a0 len0 cap0, .slice a1 len1 cap1] w fun e w' => e = .returned (.bool true) ∧ Below w.heap.size w w' := by
  go_enter Try.func3, Try.ntmps3
  go_wp2_with fail
  refine (zz10 _ _ _ _ _ _ _).mono ?_
  rintro e w' ⟨⟨b, rfl⟩, hw⟩
  subst w'
  cases b
  · go_wp2
    go_ret
    exact ⟨rfl, Below.refl _ _⟩
  by_cases hl0 : 524288 < len0
  · go_wp2_with fail
    go_ret
    exact ⟨rfl, Below.refl _ _⟩
  by_cases hl1 : 524288 < len1
  · go_wp2_with fail
    go_ret
    exact ⟨rfl, Below.refl _ _⟩
  have b0 := bs_of_row (by omega) w0
  have b1 := bs_of_row (by omega) w1
  clear w0 w1
  generalize z0.take len0 = x0 at b0
  generalize z1.take len1 = x1 at b1
  go_wp2_with fail
  refine (clone_any _ _ _ x0 _ b0).mono ?_
  rintro e w1 ⟨d0, e0, rfl, -, own0, gr0⟩
  go_wp2_with fail
  refine (clone_any _ _ _ x1 _ (b1.on gr0)).mono ?_
  rintro e w2 ⟨d1, e1, rfl, -, own1, gr1⟩
  have k0 := (own_bs' own0 b0.wf b0.small).1.on gr1
  have k1 := (own_bs' own1 b1.wf b1.small).1
  go_wp2_with fail
  refine (clone_any _ _ _ x0 _ k0).mono ?_
  rintro e w3 ⟨d2, e2, rfl, -, own2, gr2⟩
  have k2 := own_bs' own2 b0.wf b0.small
  have o0 := own_bs' own0 b0.wf b0.small
  have o1 := own_bs' own1 b1.wf b1.small
  have own3 := own_on (own_on own0 gr1) gr2
  have s1 := gr0.size
  have s2 := gr1.size
  have s3 := gr2.size
  have far : ∀ (c : Option Addr) (n : Nat), (∀ a, c = some a → w1.heap.size ≤ a.block) → ∀ a, c = some a → some a.block ≠ (Value.slice d0 len0 n).ownBlock := by
    intro c n hc a ha
    have h1 := hc a ha
    cases d0 with
    | none => simp [Value.ownBlock]
    | some u =>
      have h2 := (o0.2 u rfl).2
      simp only [Value.ownBlock, ne_eq, Option.some.injEq]
      omega
  have f1 := far d1 e0 (fun a ha => (o1.2 a ha).1)
  have f2 := far d2 e0 (fun a ha => Nat.le_trans s2 (k2.2 a ha).1)
  clear far
  go_wp2_with fail
  refine (appendKey_any (.slice d0 len0 e0) x0 w.heap.size d1 len1 e1 x1 w3 (by rw [b0.len]; exact own3) (by rw [b0.len]; omega) (by omega) (o1.1.on gr2) (by omega) (fun _ => f1)).mono ?_
  rintro e w4 ⟨v', rfl, hG⟩
  have q1 := (o1.1.on gr2).kept hG.grown (fun _ => f1)
  have q2 := k2.1.kept hG.grown (fun _ => f2)
  have hlen := Pl.esc_len x1
  have hpl := Pl.pre_len x1
  have hb0 := b0.len
  have hb1 := b1.len
  have hL : (x0 ++ Pl.pre x1).length = len0 + (Pl.pre x1).length := by rw [List.length_append, b0.len]
  obtain ⟨g, cp, rfl, -, -⟩ := World.ownsRow.form hG.own (by rw [hL]; omega)
  have r := (own_bs' hG.own (b0.wf.app (Pl.pre_bytes b1.wf)) (by rw [hL]; omega)).1
  have p0 := r.first b0.len
  have p1 := r.rest b0.len rfl
  rw [Nat.zero_add] at p1
  have hgr := hG.grown
  have rr := r.room
  have rt := r.top
  rw [hL] at rr ⊢
  unfold maxLen at rt
  have hpos : 0 < (Pl.pre x1).length := by omega
  have hsm : (Pl.pre x1).length ≤ 2000000 := by omega
  have hbel : Below w.heap.size w w4 := by
    have h1 := below_of_grown ((gr0.trans gr1).trans gr2)
    refine h1.trans ⟨hgr.os, hgr.tape, hgr.output, hgr.size, fun k hk => hgr.block k (by omega) ?_⟩
    cases hd : d0 with
    | none => simp [Value.ownBlock]
    | some u =>
      have h2 := (o0.2 u hd).1
      simp only [Value.ownBlock, ne_eq, Option.some.injEq]
      omega
  clear hL hG r o0 o1 k2 own0 own1 own2 own3 k0 k1 f1 f2 hpl hlen hb0 hb1
  generalize hpx : (Pl.pre x1).length = m at *
  clear hpx
  go_wp2_with fail
  refine (same_any _ _ _ _ _ _ _ _ _ p0 q2).mono ?_
  rintro e w5 ⟨rfl, q, hq⟩
  subst w5
  have ht : decide (x0 = x0) = true := by simp
  have p2 := p1.drewN q
  have q3 := q1.drewN q
  clear p1 p0 q1 q2
  go_wp2_with fail
  refine (isKeyPrefix_any _ _ _ _ _ _ x1 _ p2 q3).mono ?_
  rintro e w6 ⟨rfl, gr6⟩
  go_wp2
  go_ret
  exact ⟨rfl, (hbel.trans ((below_of_grown (grown_drewN w4 q none)).mono hbel.size)).trans ((below_of_grown gr6).mono (by have := hbel.size; simpa using this))⟩
end Go.Proofs.Qxb6601757a
