/-
  Seat b6600295a: FnDistinctKeepsFirstOccurrencesInOrder, the walk.
-/
import Derived.Test.Qxb6600295aCopy
import Derived.Test.Qxb6600295aDist
namespace Go.Proofs.Qxb6600295a
open Go.RowKit

theorem beq_ne {s t : ByteArray} (h : s ≠ t) : (s.toList == t.toList) = false := by
  rw [beq_eq_false_iff_ne]
  intro e
  rw [ByteArray.toList_eq, ByteArray.toList_eq] at e
  exact h (Pl.data_inj e)

set_option maxHeartbeats 2000000 in
theorem walk5 (a0 : Option Addr) (len0 cap0 : Nat) (z0 : List ByteArray) (w : World) (w0 : Row w a0 len0 cap0 z0) :
    Calls Try.prog 5 #[.slice a0 len0 cap0] w fun e w' => e = .returned (.bool true) ∧ Below w.heap.size w w' := by
  have q27 : ∀ (w : World) (a : Option Addr) (n c n' c' : Nat), (binOp .eql 27 (.slice a n c) (.slice none n' c')).run Try.prog w = .ok (.bool a.isNone) w := fun w a n c n' c' => Lib.run_eql_slice_nil w _ _ a n c n' c' Try.underlying27
  have b0 := ls_of_row w0
  clear w0
  generalize z0.take len0 = ss at b0
  go_enter Try.func5, Try.ntmps5
  go_wp2_with fail
  refine (zz13 _ _ _ ss _ b0).mono ?_
  rintro e w' ⟨⟨b, rfl⟩, hw⟩
  subst w'
  cases b
  · go_wp2
    go_ret
    exact ⟨rfl, Below.refl _ _⟩
  go_wp2_with fail
  refine (lines14 _ _ _ ss _ b0).mono ?_
  rintro e w' ⟨⟨t, rfl⟩, hw⟩
  subst w'
  by_cases ht : 1048576 < t
  · go_wp2
    go_ret
    exact ⟨rfl, Below.refl _ _⟩
  by_cases hl : 4096 < len0
  · go_wp2_with fail
    go_ret
    exact ⟨rfl, Below.refl _ _⟩
  go_wp2_with fail
  refine (clone_any _ _ _ ss _ b0 (by omega)).mono ?_
  rintro e w1 ⟨d0, e0, rfl, -, own0, gr0⟩
  obtain ⟨d0', e0', e, k0, -⟩ := own_ls own0 b0.wf
  simp only [Value.slice.injEq, true_and] at e
  obtain ⟨rfl, rfl⟩ := e
  go_wp2_with fail
  refine (zzdistinct_any _ _ _ ss _ k0 (by omega)).mono ?_
  rintro e w2 ⟨d1, e1, rfl, p0, hN, gr1⟩
  replace k0 := k0.on gr1
  have gw := gr0.trans gr1
  clear own0 gr0 gr1 b0
  have hlen := Pl.firsts_len ss len0
  cases d1 with
  | none =>
    have h0 : len0 = 0 := by simpa using hN.symm
    subst h0
    clear hN hlen
    go_wp2_with fail
    refine wp_loop_rounds 1 ?_
    rw [rounds_succ]
    go_wp2
    go_ret
    exact ⟨rfl, below_of_grown gw⟩
  | some x1 =>
    have h0 : len0 ≠ 0 := by simpa using hN.symm
    have hd : ((len0 : Int) == 0) = false := by simpa using h0
    clear hN
    have hpos : 0 < (Pl.firsts ss len0).length := by
      rcases Nat.eq_zero_or_pos (Pl.firsts ss len0).length with h | h
      · exact absurd ((Pl.firsts_nil ss len0).1 (List.eq_nil_of_length_eq_zero h)) h0
      · exact h
    obtain ⟨bb, oo, rfl, -, hc0⟩ := k0.cells (by omega)
    obtain ⟨b1, o1, e, -, hc1⟩ := p0.cells hpos
    cases e
    have HC0 : Hid (∀ i, i < len0 → w2.cell? ⟨bb, oo + i, none⟩ = some (.string (ss.getD i ByteArray.empty))) := hc0
    have HC1 : Hid (∀ i, i < (Pl.firsts ss len0).length → w2.cell? ⟨b1, o1 + i, none⟩ = some (.string ((Pl.firsts ss len0).getD i ByteArray.empty))) := hc1
    clear hc0 hc1 p0 k0
    go_wp2_with fail
    go_loopw [4, 5] (fun kk i wr => ∃ k : Nat, k ≤ len0 ∧ i = .int .i64 k ∧ kk = .int .i64 (Pl.firsts ss k).length ∧ ∃ q, wr = w2.drewN q) (fun _ i _ => len0 - (intOf i).toNat)
    case atStart => exact ⟨0, Nat.zero_le _, rfl, rfl, 0, rfl⟩
    case round =>
      obtain ⟨k, hk, rfl, rfl, q, rfl⟩ := hrel
      by_cases hlt : k < len0
      · have gk := HC0.out k hlt
        have hfl := Pl.firsts_len ss k
        go_wp2_with fail
        go_loopw [6, 7] (fun f j wr => ∃ m : Nat, m ≤ k ∧ j = .int .i64 m ∧ f = .bool true ∧ (∃ q, wr = w2.drewN q) ∧ Hid (∀ t, t < m → ss.getD t ByteArray.empty ≠ ss.getD k ByteArray.empty)) (fun _ j _ => k - (intOf j).toNat)
        case atStart => exact ⟨0, Nat.zero_le _, rfl, rfl, ⟨q, rfl⟩, fun t ht => by omega⟩
        case round =>
          obtain ⟨m, hm, rfl, rfl, ⟨q', rfl⟩, HM⟩ := hrel
          by_cases hmk : m < k
          · have gm := HC0.out m (by omega)
            by_cases hx : ss.getD m ByteArray.empty = ss.getD k ByteArray.empty
            · have HO : Hid (Pl.firsts ss (k + 1) = Pl.firsts ss k) := Pl.firsts_old ss k ((Pl.mem_firsts ss _ k).2 ⟨m, hmk, hx⟩)
              rw [hx] at gm
              clear hx HM
              generalize ss.getD k ByteArray.empty = y at *
              have hb : (y.toList == y.toList) = true := by simp
              go_wp2
              go_quiet (fail)
              go_wp2
              go_roundw
              case rel => exact ⟨k + 1, by omega, by go_num, by rw [HO.out], _, rfl⟩
              case measure => simp [intOf]; omega
            · have HN : Hid (∀ t, t < m + 1 → ss.getD t ByteArray.empty ≠ ss.getD k ByteArray.empty) := by
                intro t ht
                by_cases e : t = m
                · subst e; exact hx
                · exact HM.out t (by omega)
              have hb := beq_ne hx
              clear hx HM
              generalize ss.getD m ByteArray.empty = x at *
              generalize ss.getD k ByteArray.empty = y at *
              go_wp2
              go_quiet (fail)
              go_wp2
              go_roundw
              case rel => exact ⟨m + 1, by omega, by go_num, rfl, ⟨_, rfl⟩, HN⟩
              case measure => simp [intOf]; omega
          · have hnew : ¬ ss.getD k ByteArray.empty ∈ Pl.firsts ss k := by
              intro hin
              obtain ⟨j, hj, e⟩ := (Pl.mem_firsts ss _ k).1 hin
              exact HM.out j (by omega) e
            obtain ⟨hat1, hat2⟩ := Pl.firsts_at ss k len0 hlt hnew
            have HO : Hid ((Pl.firsts ss (k + 1)).length = (Pl.firsts ss k).length + 1) := by
              show _ = _
              rw [Pl.firsts_new ss k hnew]; simp
            have gg := HC1.out _ hat1
            rw [hat2] at gg
            clear hnew hat2 HM
            generalize ss.getD k ByteArray.empty = y at *
            have hb : (y.toList != y.toList) = false := by simp
            have hdd : decide (((Pl.firsts ss len0).length : Int) ≤ ((Pl.firsts ss k).length : Int)) = false := decide_eq_false (by omega)
            have hpg : ((Pl.firsts ss k).length : Int) < ((Pl.firsts ss len0).length : Int) := by omega
            have hki : (k : Int) < (len0 : Int) := by omega
            go_wp2
            go_quiet (fail)
            go_wp2
            go_roundw
            case rel => exact ⟨k + 1, by omega, by go_num, by rw [HO.out]; go_num, _, rfl⟩
            case measure => simp [intOf]; omega
      · have e : k = len0 := by omega
        subst e
        go_wp2
        go_ret
        exact ⟨rfl, below_of_grown (gw.trans (grown_drewN _ _ _))⟩
end Go.Proofs.Qxb6600295a
