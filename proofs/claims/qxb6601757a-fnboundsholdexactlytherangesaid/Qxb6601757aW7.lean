/-
  Seat b6601757a: FnBoundsHoldExactlyTheRange, the walk.
-/
import Derived.Test.Qxb6601757aClone
import Derived.Test.Qxb6601757aBounds
import Derived.Test.Qxb6601757aBig
import Derived.Test.Qxb6601757aReads
import Derived.Test.Qxb6601757aZz
namespace Go.Proofs.Qxb6601757a
open Go.RowKit

theorem cmp_gr (a0 : Option Addr) (n0 c0 : Nat) (z0 : List Int) (a1 : Option Addr) (n1 c1 : Nat) (z1 : List Int) (w : World) (h0 : Bs w a0 n0 c0 z0) (h1 : Bs w a1 n1 c1 z1) :
    Calls Try.prog 16 #[.slice a0 n0 c0, .slice a1 n1 c1] w fun e w' => ∃ c, e = .returned (.int .i64 c) ∧ c = Pl.cmp z0 z1 ∧ w.grownBy w' none := by
  refine (cmp_any _ _ _ z0 _ _ _ z1 _ h0 h1).mono ?_
  rintro e w' ⟨rfl, q, rfl⟩
  exact ⟨_, rfl, rfl, grown_drewN _ _ _⟩

theorem not_u64 {x : Int} (h : (Lit.int .u64 x).wf = true) : 0 ≤ x ∧ x < 18446744073709551616 := by
  have := bounds_u64 h
  omega

set_option maxHeartbeats 2000000 in
theorem walk7 (a0 : Option Addr) (len0 cap0 : Nat) (z0 : List Int) (a1 : Option Addr) (len1 cap1 : Nat) (z1 : List Int) (a2 : Option Addr) (len2 cap2 : Nat) (z2 : List Int) (a3 : Int) (w : World)
    (w0 : Row w a0 len0 cap0 z0) (w1 : Row w a1 len1 cap1 z1) (w2 : Row w a2 len2 cap2 z2) (w3 : (Lit.int .u64 a3).wf = true) :
    Calls Try.prog 7 #[.slice a0 len0 cap0, .slice a1 len1 cap1, .slice a2 len2 cap2, .int .u64 a3] w fun e w' => e = .returned (.bool true) ∧ Below w.heap.size w w' := by
  have q22 : ∀ (w : World) (a : Option Addr) (n c n' c' : Nat), (binOp .eql 22 (.slice a n c) (.slice none n' c')).run Try.prog w = .ok (.bool a.isNone) w := fun w a n c n' c' => Lib.run_eql_slice_nil w _ _ a n c n' c' Try.underlying22
  have ht := not_u64 w3
  clear w3
  go_enter Try.func7, Try.ntmps7
  go_wp2_with fail
  refine (zz21 _ _ _ _ _ _ _ _ _ _ _).mono ?_
  rintro e w' ⟨⟨b, rfl⟩, hw⟩
  subst w'
  cases b
  · go_wp2
    go_ret
    exact ⟨rfl, Below.refl _ _⟩
  by_cases hl0 : 262144 < len0
  · go_wp2_with fail
    go_ret
    exact ⟨rfl, Below.refl _ _⟩
  by_cases hl1 : 262144 < len1
  · go_wp2_with fail
    go_ret
    exact ⟨rfl, Below.refl _ _⟩
  by_cases hl2 : 262144 < len2
  · go_wp2_with fail
    go_ret
    exact ⟨rfl, Below.refl _ _⟩
  have b0 := bs_of_row (by omega) w0
  have b1 := bs_of_row (by omega) w1
  have b2 := bs_of_row (by omega) w2
  clear w0 w1 w2
  generalize z0.take len0 = x0 at b0
  generalize z1.take len1 = x1 at b1
  generalize z2.take len2 = x2 at b2
  go_wp2_with fail
  refine (clone_any _ _ _ x0 _ b0).mono ?_
  rintro e w1 ⟨d0, e0, rfl, -, own0, gr0⟩
  go_wp2_with fail
  refine (clone_any _ _ _ x1 _ (b1.on gr0)).mono ?_
  rintro e w2 ⟨d1, e1, rfl, -, own1, gr1⟩
  go_wp2_with fail
  refine (clone_any _ _ _ x2 _ ((b2.on gr0).on gr1)).mono ?_
  rintro e w3 ⟨d2, e2, rfl, -, own2, gr2⟩
  have k0 := ((own_bs' own0 b0.wf b0.small).1.on gr1).on gr2
  have k1 := (own_bs' own1 b1.wf b1.small).1.on gr2
  have k2 := (own_bs' own2 b2.wf b2.small).1
  have gw := (gr0.trans gr1).trans gr2
  clear own0 own1 own2 gr0 gr1 gr2
  go_wp2_with fail
  refine (bounds_any _ _ _ x0 _ _ _ x1 _ k0 k1 (by omega) (by omega)).mono ?_
  rintro e w4 ⟨f0, g0, f1, g1, rfl, p0, p1, gr3⟩
  replace k0 := k0.on gr3
  replace k1 := k1.on gr3
  replace k2 := k2.on gr3
  replace gw := gw.trans gr3
  clear gr3
  go_wp2_with fail
  refine (prefix_any _ _ _ x2 _ k2 (by omega)).mono ?_
  rintro e w5 ⟨f2, g2, rfl, own, p2, gr4⟩
  have hpl := Pl.pre_len x2
  have hel := (Pl.esc_len x2).2
  have hxl := b2.len
  have hps : (Pl.pre x2).length ≤ 1000000 := by omega
  clear hpl hel hxl
  go_wp2_with fail
  obtain ⟨ts, hts⟩ : ∃ ts, ts = bits BinOp.xor IntKind.u64 IntKind.u64.max a3 := ⟨_, rfl⟩
  have hb := not_u64 (wf_bits BinOp.xor .u64 IntKind.u64.max a3)
  rw [← hts] at hb ⊢
  clear hts
  refine (bigEndian_any _ (Pl.pre x2) w4.heap.size ts w5 own (by omega) gr4.size hb.1 hb.2).mono ?_
  rintro e w6 ⟨v', t, rfl, htl, htb, hG⟩
  have gr5 := gr4.andThen hG.grown (fun j hj => .inl (own.lt j hj).1)
  obtain ⟨f3, g3, rfl, p3, -⟩ := own_bs hG.own ((Pl.pre_bytes b2.wf).app htb) (by rw [List.length_append]; omega)
  replace k0 := k0.on gr5
  replace k1 := k1.on gr5
  replace k2 := k2.on gr5
  replace p0 := p0.on gr5
  replace p1 := p1.on gr5
  replace gw := gw.trans gr5
  have F0 : Hid (Pl.cmp (side 118 d0 x0) (Pl.pre x2 ++ t) ≤ 0 ↔ (d0 = none ∨ Pl.cmp x0 x2 ≤ 0)) := by
    show _ ↔ _
    cases d0 with
    | none => simp [side, Pl.cmp_v_version]
    | some u => simp [side, Pl.cmp_pre_version x0 x2 t b0.wf b2.wf (by omega)]
  have F1 : Hid (Pl.cmp (Pl.pre x2 ++ t) (side 119 d1 x1) < 0 ↔ (d1 = none ∨ Pl.cmp x2 x1 < 0)) := by
    show _ ↔ _
    cases d1 with
    | none => simp [side, Pl.cmp_version_w]
    | some u => simp [side, Pl.cmp_version_pre x1 x2 t b1.wf b2.wf]
  clear gr4 own hG gr5 hps htl htb hb b0 b1 b2 p2
  generalize Pl.pre x2 ++ t = V at *
  generalize side 118 d0 x0 = S0 at *
  generalize side 119 d1 x1 = S1 at *
  go_wp2_with fail
  refine (cmp_gr _ _ _ S0 _ _ _ V _ p0 p3).mono ?_
  rintro e w7 ⟨c1, rfl, hc1, gr6⟩
  rw [← hc1] at F0
  clear hc1
  replace k0 := k0.on gr6
  replace k1 := k1.on gr6
  replace k2 := k2.on gr6
  replace p1 := p1.on gr6
  replace p3 := p3.on gr6
  replace gw := gw.trans gr6
  clear gr6 p0
  by_cases hA : c1 ≤ 0
  · have hd := F0.out.1 hA
    go_wp2_with fail
    refine (cmp_gr _ _ _ V _ _ _ S1 _ p3 p1).mono ?_
    rintro e w8 ⟨c2, rfl, hc2, gr7⟩
    rw [← hc2] at F1
    clear hc2
    replace k0 := k0.on gr7
    replace k1 := k1.on gr7
    replace k2 := k2.on gr7
    replace gw := gw.trans gr7
    clear gr7 p1 p3 F0
    cases d0 with
    | none =>
      clear hd
      cases d1 with
      | none =>
        have hB : c2 < 0 := F1.out.2 (.inl rfl)
        go_wp2
        go_ret
        exact ⟨rfl, below_of_grown gw⟩
      | some u1 =>
        go_wp2_with fail
        refine (cmp_gr _ _ _ x2 _ _ _ x1 _ k2 k1).mono ?_
        rintro e w9 ⟨c4, rfl, hc4, gr8⟩
        have hB : c2 < 0 ↔ c4 < 0 := by rw [F1.out, hc4]; simp
        have HB : Hid (decide (c2 < 0) = decide (c4 < 0)) := decide_eq_decide.2 hB
        clear hc4 F1 hB
        go_wp2
        go_ret
        exact ⟨ret_bool (by rw [HB.out]; simp), below_of_grown (gw.trans gr8)⟩
    | some u0 =>
      have hE : Pl.cmp x0 x2 ≤ 0 := by rcases hd with h | h; cases h; exact h
      clear hd
      go_wp2_with fail
      refine (cmp_gr _ _ _ x0 _ _ _ x2 _ k0 k2).mono ?_
      rintro e w9 ⟨c3, rfl, hc3, gr8⟩
      rw [← hc3] at hE
      clear hc3
      cases d1 with
      | none =>
        have hB : c2 < 0 := F1.out.2 (.inl rfl)
        go_wp2
        go_ret
        exact ⟨rfl, below_of_grown (gw.trans gr8)⟩
      | some u1 =>
        go_wp2_with fail
        refine (cmp_gr _ _ _ x2 _ _ _ x1 _ (k2.on gr8) (k1.on gr8)).mono ?_
        rintro e w10 ⟨c4, rfl, hc4, gr9⟩
        have hB : c2 < 0 ↔ c4 < 0 := by rw [F1.out, hc4]; simp
        have HB : Hid (decide (c2 < 0) = decide (c4 < 0)) := decide_eq_decide.2 hB
        clear hc4 F1 hB
        go_wp2
        go_ret
        exact ⟨ret_bool (by rw [HB.out]; simp), below_of_grown ((gw.trans gr8).trans gr9)⟩
  · have hd : ¬ (d0 = none ∨ Pl.cmp x0 x2 ≤ 0) := fun h => hA (F0.out.2 h)
    have hdd : decide (c1 ≤ 0) = false := decide_eq_false hA
    cases d0 with
    | none => exact absurd (.inl rfl) hd
    | some u0 =>
      have hE : ¬ Pl.cmp x0 x2 ≤ 0 := fun h => hd (.inr h)
      clear hd F0 F1
      go_wp2_with fail
      refine (cmp_gr _ _ _ x0 _ _ _ x2 _ k0 k2).mono ?_
      rintro e w9 ⟨c3, rfl, hc3, gr8⟩
      rw [← hc3] at hE
      clear hc3
      have hde : decide (c3 ≤ 0) = false := decide_eq_false (by omega)
      go_wp2
      go_ret
      exact ⟨rfl, below_of_grown (gw.trans gr8)⟩
end Go.Proofs.Qxb6601757a
