/-
  Seat b6601757a: zzSameBytes, zzHasPrefix, zzCompare.
-/
import Derived.Test.Qxb6601757aBase
namespace Go.Proofs.Qxb6601757a
open Go.RowKit

theorem ret_bool {a b : Bool} (h : a = b) : Ending.returned (.bool a) = .returned (.bool b) := by rw [h]
theorem ret_int {k : IntKind} {a b : Int} (h : a = b) : Ending.returned (.int k a) = .returned (.int k b) := by rw [h]

set_option maxHeartbeats 1000000 in
theorem same_any (a0 : Option Addr) (n0 c0 : Nat) (z0 : List Int) (a1 : Option Addr) (n1 c1 : Nat) (z1 : List Int) (w : World) (h0 : Bs w a0 n0 c0 z0) (h1 : Bs w a1 n1 c1 z1) :
    Calls Try.prog 13 #[.slice a0 n0 c0, .slice a1 n1 c1] w fun e w' => e = .returned (.bool (decide (z0 = z1))) ∧ ∃ q, w' = w.drewN q := by
  have hs0 := h0.small
  have hs1 := h1.small
  by_cases hn : n0 = n1
  · subst hn
    have HS : Hid (Pl.hasPre z0 z1 = decide (z0 = z1)) := Pl.same_hasPre z0 z1 (by rw [h0.len, h1.len])
    have hb : ((n0 : Int) != (n0 : Int)) = false := by simp
    go_enter Try.func13, Try.ntmps13
    go_wp2
    go_loopw [5] (fun i wr => ∃ k : Nat, k ≤ n0 ∧ i = .int .i64 k ∧ (∃ q, wr = w.drewN q) ∧ Hid (Pl.hasPre (z0.drop k) (z1.drop k) = Pl.hasPre z0 z1)) (fun i _ => n0 - (intOf i).toNat)
    case atStart => exact ⟨0, Nat.zero_le _, rfl, ⟨0, rfl⟩, rfl⟩
    case round =>
      obtain ⟨k, hk, rfl, ⟨q, rfl⟩, HP⟩ := hrel
      by_cases hlt : k < n0
      · obtain ⟨b0, o0, rfl, -, hc0⟩ := h0.cells (by omega)
        obtain ⟨b1, o1, rfl, -, hc1⟩ := h1.cells (by omega)
        have g0 := hc0 k hlt
        have g1 := hc1 k hlt
        have k0 : k < z0.length := by rw [h0.len]; exact hlt
        have k1 : k < z1.length := by rw [h1.len]; exact hlt
        clear hc0 hc1
        by_cases hx : z0.getD k 0 = z1.getD k 0
        · have HN : Hid (Pl.hasPre (z0.drop (k + 1)) (z1.drop (k + 1)) = Pl.hasPre z0 z1) := (Pl.hasPre_round_eq z0 z1 k k0 k1 hx).trans HP.out
          clear k0 k1
          generalize z0.getD k 0 = x at *
          generalize z1.getD k 0 = y at *
          subst hx
          have ht : (x != x) = false := by simp
          go_wp2
          go_quiet (fail)
          go_wp2
          go_roundw
          case rel => exact ⟨k + 1, by omega, by go_num, ⟨_, rfl⟩, HN⟩
          case measure => simp [intOf]; omega
        · have HF : Hid (decide (z0 = z1) = false) := by
            show _ = _
            rw [← HS.out, ← HP.out, Pl.hasPre_round_ne z0 z1 k k0 k1 hx]
          clear k0 k1
          generalize z0.getD k 0 = x at *
          generalize z1.getD k 0 = y at *
          have ht : (x != y) = true := by simpa using hx
          clear hx
          go_wp2
          go_quiet (fail)
          go_wp2
          go_ret
          exact ⟨ret_bool HF.out.symm, by simp only [World.drewN_drewN]; exact ⟨_, rfl⟩⟩
      · have HT : Hid (decide (z0 = z1) = true) := by
          show _ = _
          rw [← HS.out, ← HP.out, Pl.hasPre_done z0 z1 k (by rw [h0.len]; omega)]
        go_wp2
        go_ret
        exact ⟨ret_bool HT.out.symm, _, rfl⟩
  · have HF : Hid (decide (z0 = z1) = false) := Pl.ne_of_length (by rw [h0.len, h1.len]; exact hn)
    have hb : ((n0 : Int) != (n1 : Int)) = true := by rw [bne_iff_ne]; omega
    go_enter Try.func13, Try.ntmps13
    go_wp2
    go_ret
    exact ⟨ret_bool HF.out.symm, 0, rfl⟩

set_option maxHeartbeats 1000000 in
theorem hasPre_any (a0 : Option Addr) (n0 c0 : Nat) (z0 : List Int) (a1 : Option Addr) (n1 c1 : Nat) (z1 : List Int) (w : World) (h0 : Bs w a0 n0 c0 z0) (h1 : Bs w a1 n1 c1 z1) :
    Calls Try.prog 18 #[.slice a0 n0 c0, .slice a1 n1 c1] w fun e w' => e = .returned (.bool (Pl.hasPre z0 z1)) ∧ ∃ q, w' = w.drewN q := by
  have hs0 := h0.small
  have hs1 := h1.small
  by_cases hn : n0 ≤ n1
  · go_enter Try.func18, Try.ntmps18
    go_wp2
    go_loopw [5] (fun i wr => ∃ k : Nat, k ≤ n0 ∧ i = .int .i64 k ∧ (∃ q, wr = w.drewN q) ∧ Hid (Pl.hasPre (z0.drop k) (z1.drop k) = Pl.hasPre z0 z1)) (fun i _ => n0 - (intOf i).toNat)
    case atStart => exact ⟨0, Nat.zero_le _, rfl, ⟨0, rfl⟩, rfl⟩
    case round =>
      obtain ⟨k, hk, rfl, ⟨q, rfl⟩, HP⟩ := hrel
      by_cases hlt : k < n0
      · have hlt1 : k < n1 := by omega
        obtain ⟨b0, o0, rfl, -, hc0⟩ := h0.cells (by omega)
        obtain ⟨b1, o1, rfl, -, hc1⟩ := h1.cells (by omega)
        have g0 := hc0 k hlt
        have g1 := hc1 k hlt1
        have k0 : k < z0.length := by rw [h0.len]; exact hlt
        have k1 : k < z1.length := by rw [h1.len]; exact hlt1
        clear hc0 hc1
        by_cases hx : z0.getD k 0 = z1.getD k 0
        · have HN : Hid (Pl.hasPre (z0.drop (k + 1)) (z1.drop (k + 1)) = Pl.hasPre z0 z1) := (Pl.hasPre_round_eq z0 z1 k k0 k1 hx).trans HP.out
          clear k0 k1
          generalize z0.getD k 0 = x at *
          generalize z1.getD k 0 = y at *
          subst hx
          have ht : (x != x) = false := by simp
          go_wp2
          go_quiet (fail)
          go_wp2
          go_roundw
          case rel => exact ⟨k + 1, by omega, by go_num, ⟨_, rfl⟩, HN⟩
          case measure => simp [intOf]; omega
        · have HF : Hid (Pl.hasPre z0 z1 = false) := by
            show _ = _
            rw [← HP.out, Pl.hasPre_round_ne z0 z1 k k0 k1 hx]
          clear k0 k1
          generalize z0.getD k 0 = x at *
          generalize z1.getD k 0 = y at *
          have ht : (x != y) = true := by simpa using hx
          clear hx
          go_wp2
          go_quiet (fail)
          go_wp2
          go_ret
          exact ⟨ret_bool HF.out.symm, by simp only [World.drewN_drewN]; exact ⟨_, rfl⟩⟩
      · have HT : Hid (Pl.hasPre z0 z1 = true) := by
          show _ = _
          rw [← HP.out, Pl.hasPre_done z0 z1 k (by rw [h0.len]; omega)]
        go_wp2
        go_ret
        exact ⟨ret_bool HT.out.symm, _, rfl⟩
  · have HF : Hid (Pl.hasPre z0 z1 = false) := Pl.hasPre_long z0 z1 (by rw [h0.len, h1.len]; omega)
    go_enter Try.func18, Try.ntmps18
    go_wp2
    go_ret
    exact ⟨ret_bool HF.out.symm, 0, rfl⟩

set_option maxHeartbeats 2000000 in
theorem cmp_any (a0 : Option Addr) (n0 c0 : Nat) (z0 : List Int) (a1 : Option Addr) (n1 c1 : Nat) (z1 : List Int) (w : World) (h0 : Bs w a0 n0 c0 z0) (h1 : Bs w a1 n1 c1 z1) :
    Calls Try.prog 16 #[.slice a0 n0 c0, .slice a1 n1 c1] w fun e w' => e = .returned (.int .i64 (Pl.cmp z0 z1)) ∧ ∃ q, w' = w.drewN q := by
  have hs0 := h0.small
  have hs1 := h1.small
  go_enter Try.func16, Try.ntmps16
  by_cases hn : n1 < n0
  all_goals
    go_wp2
    go_loopw [6] (fun i wr => ∃ k : Nat, k ≤ n0 ∧ k ≤ n1 ∧ i = .int .i64 k ∧ (∃ q, wr = w.drewN q) ∧ Hid (Pl.cmp (z0.drop k) (z1.drop k) = Pl.cmp z0 z1)) (fun i _ => n0 - (intOf i).toNat)
    case atStart => exact ⟨0, Nat.zero_le _, Nat.zero_le _, rfl, ⟨0, rfl⟩, rfl⟩
    case round =>
      obtain ⟨k, hk0, hk1, rfl, ⟨q, rfl⟩, HP⟩ := hrel
      by_cases hlt : k < n0 ∧ k < n1
      · obtain ⟨hl0, hl1⟩ := hlt
        obtain ⟨b0, o0, rfl, -, hc0⟩ := h0.cells (by omega)
        obtain ⟨b1, o1, rfl, -, hc1⟩ := h1.cells (by omega)
        have g0 := hc0 k hl0
        have g1 := hc1 k hl1
        have k0 : k < z0.length := by rw [h0.len]; exact hl0
        have k1 : k < z1.length := by rw [h1.len]; exact hl1
        clear hc0 hc1
        by_cases hx : z0.getD k 0 < z1.getD k 0
        · have HF : Hid (Pl.cmp z0 z1 = -1) := by
            show _ = _
            rw [← HP.out, Pl.cmp_round_lt z0 z1 k k0 k1 hx]
          clear k0 k1
          generalize z0.getD k 0 = x at *
          generalize z1.getD k 0 = y at *
          go_wp2
          go_quiet (fail)
          go_wp2
          go_ret
          exact ⟨ret_int HF.out.symm, by simp only [World.drewN_drewN]; exact ⟨_, rfl⟩⟩
        · by_cases hy : z1.getD k 0 < z0.getD k 0
          · have HF : Hid (Pl.cmp z0 z1 = 1) := by
              show _ = _
              rw [← HP.out, Pl.cmp_round_gt z0 z1 k k0 k1 hy]
            clear k0 k1
            generalize z0.getD k 0 = x at *
            generalize z1.getD k 0 = y at *
            go_wp2
            go_quiet (fail)
            go_wp2
            go_quiet (fail)
            go_wp2
            go_ret
            exact ⟨ret_int HF.out.symm, by simp only [World.drewN_drewN]; exact ⟨_, rfl⟩⟩
          · have HN : Hid (Pl.cmp (z0.drop (k + 1)) (z1.drop (k + 1)) = Pl.cmp z0 z1) := (Pl.cmp_round_eq z0 z1 k k0 k1 hx hy).trans HP.out
            clear k0 k1
            generalize z0.getD k 0 = x at *
            generalize z1.getD k 0 = y at *
            go_wp2
            go_quiet (fail)
            go_wp2
            go_quiet (fail)
            go_wp2
            go_roundw
            case rel => exact ⟨k + 1, by omega, by omega, by go_num, ⟨_, rfl⟩, HN⟩
            case measure => simp [intOf]; omega
      · have HT : Hid (Pl.cmp z0 z1 = if n0 < n1 then -1 else if n1 < n0 then 1 else 0) := by
          show _ = _
          have := Pl.cmp_end z0 z1 k (by rw [h0.len, h1.len]; omega) (by rw [h0.len]; omega) (by rw [h1.len]; omega)
          rw [h0.len, h1.len] at this
          rw [← HP.out, this]
        have hge : n0 ≤ k ∨ n1 ≤ k := by omega
        clear hlt
        go_wp2
        all_goals
          go_ret
          refine ⟨ret_int ?_, _, rfl⟩
          rw [HT.out]
          repeat' split
          all_goals first | rfl | omega
end Go.Proofs.Qxb6601757a
