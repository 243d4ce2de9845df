/-
  Seat b6601757a: zzCloneBytes.
-/
import Derived.Test.Qxb6601757aBase
namespace Go.Proofs.Qxb6601757a
open Go.RowKit

set_option maxHeartbeats 400000 in
theorem clone_nil (w : World) : Calls Try.prog 11 #[.slice none 0 0] w fun e w' => e = .returned (.slice none 0 0) ∧ w' = w := by
  have q22 : ∀ (w : World) (a : Option Addr) (n c n' c' : Nat), (binOp .eql 22 (.slice a n c) (.slice none n' c')).run Try.prog w = .ok (.bool a.isNone) w := fun w a n c n' c' => Lib.run_eql_slice_nil w _ _ a n c n' c' Try.underlying22
  go_enter Try.func11, Try.ntmps11
  go_wp2
  go_ret
  exact ⟨rfl, rfl⟩

/-- What the copy holds after k rounds. -/
def part (zs : List Int) (n k : Nat) : List Value := cellsOf (zs.take k) ++ List.replicate (n - k) (Value.int .u8 0)

theorem part_zero (zs : List Int) (n : Nat) : part zs n 0 = (madeCells (Value.int .u8 0).cells (n * 1)).toList := by
  have : (Value.int .u8 0).cells = #[Value.int .u8 0] := rfl
  rw [this, toList_madeCells_one]
  simp [part, cellsOf]

theorem part_full (zs : List Int) (n : Nat) (h : zs.length = n) : part zs n n = cellsOf zs := by
  simp [part, ← h]

theorem part_at (zs : List Int) (n k : Nat) (h : zs.length = n) (hk : k < n) : (part zs n k)[k]? = some (Value.int .u8 0) := by
  have hl : (cellsOf (zs.take k)).length = k := by simp [cellsOf]; omega
  unfold part
  rw [List.getElem?_append_right (by omega), hl, Nat.sub_self, List.getElem?_replicate, if_pos (by omega)]

theorem part_succ (zs : List Int) (n k : Nat) (h : zs.length = n) (hk : k < n) : (part zs n k).set k (Value.int .u8 (zs.getD k 0)) = part zs n (k + 1) := by
  have hl : (cellsOf (zs.take k)).length = k := by simp [cellsOf]; omega
  unfold part
  rw [List.set_append_right _ _ (by omega), hl, Nat.sub_self, show n - k = (n - (k + 1)) + 1 by omega, List.replicate_succ, List.set_cons_zero, Pl.take_snoc zs k (by omega)]
  simp [cellsOf]

set_option maxHeartbeats 400000 in
theorem clone_some (x : Addr) (n cap : Nat) (zs : List Int) (w : World) (h : Bs w (some x) n cap zs) :
    Calls Try.prog 11 #[.slice (some x) n cap] w fun e w' => e = .returned (.slice (some ⟨w.heap.size, 0, none⟩) n n) ∧
      w'.ownsRow w.heap.size 5 1 (.slice (some ⟨w.heap.size, 0, none⟩) n n) n (cellsOf zs) ∧ w.grownBy w' none := by
  have q22 : ∀ (w : World) (a : Option Addr) (n c n' c' : Nat), (binOp .eql 22 (.slice a n c) (.slice none n' c')).run Try.prog w = .ok (.bool a.isNone) w := fun w a n c n' c' => Lib.run_eql_slice_nil w _ _ a n c n' c' Try.underlying22
  obtain ⟨i0, hi, hz0, hz1, hz2⟩ := info_parts Try.info5
  have hsm := h.small
  go_enter Try.func11, Try.ntmps11
  go_wp2_with (at_make; refine wpList_make_full _ rfl _ _ 22 rfl w.heap.size 5 i0 (.int .u8 0) 1 Try.underlying22 hi hz0 hz1 _ _ _ _ n rfl rfl rfl rfl (by rw [hz2]; omega) (by unfold maxLen; omega) (Nat.le_refl _) ?_; intro w1 hown1 hgrow1)
  rw [← part_zero zs] at hown1
  clear hi hz0 hz1 hz2
  go_loopw [4] (fun i wr => ∃ k : Nat, k ≤ n ∧ i = .int .i64 k ∧ wr.ownsRow w.heap.size 5 1 (.slice (some ⟨w.heap.size, 0, none⟩) n n) n (part zs n k) ∧ w.grownBy wr none) (fun i _ => n - (intOf i).toNat)
  case atStart => exact ⟨0, Nat.zero_le _, rfl, hown1, hgrow1⟩
  case round =>
    obtain ⟨k, hk, rfl, hown, hgrow⟩ := hrel
    clear hown1 hgrow1
    by_cases hlt : k < n
    · obtain ⟨b, o, e, hb, hc⟩ := h.cells (by omega)
      obtain rfl := Option.some.inj e
      have hck := hgrow.cell (hc k hlt) (by simp)
      have hst := hown.cellAt k (by omega)
      rw [part_at zs n k h.len hlt] at hst
      have hfr := hown.frozenAt k
      have hnew := hown.stored k (.int .u8 (zs.getD k 0))
      rw [part_succ zs n k h.len hlt] at hnew
      clear hc e
      go_wp2
      go_roundw
      case rel => exact ⟨k + 1, by omega, by go_num, hnew.1, hgrow.andThen hnew.2 (fun j hj => by cases hj; exact .inl (Nat.le_refl _))⟩
      case measure => simp [intOf]; omega
    · go_wp2
      go_ret
      have : k = n := by omega
      subst this
      rw [part_full zs k h.len] at hown
      exact ⟨rfl, hown, hgrow⟩

/-- zzCloneBytes: nil stays nil; the copy is new, and holds the same bytes. -/
theorem clone_any (ao : Option Addr) (n cap : Nat) (zs : List Int) (w : World) (h : Bs w ao n cap zs) :
    Calls Try.prog 11 #[.slice ao n cap] w fun e w' => ∃ ao' cap', e = .returned (.slice ao' n cap') ∧ ao'.isNone = ao.isNone ∧
      w'.ownsRow w.heap.size 5 1 (.slice ao' n cap') n (cellsOf zs) ∧ w.grownBy w' none := by
  cases ao with
  | none =>
    have hc := h.nil rfl
    subst hc
    have hn : n = 0 := by have := h.room; omega
    subst hn
    have hz : zs = [] := List.eq_nil_of_length_eq_zero h.len
    subst hz
    refine (clone_nil w).mono ?_
    rintro e w' ⟨rfl, rfl⟩
    exact ⟨none, 0, rfl, rfl, World.ownsRow_nil _ _ _ _, World.grownBy.refl _ _⟩
  | some x =>
    refine (clone_some x n cap zs w h).mono ?_
    rintro e w' ⟨rfl, h1, h2⟩
    exact ⟨_, _, rfl, rfl, h1, h2⟩
end Go.Proofs.Qxb6601757a
