/-
  Seat b6600295a: the two length counts; copyLines.
-/
import Derived.Test.Qxb6600295aBase
namespace Go.Proofs.Qxb6600295a
open Go.RowKit

/-- It answers a bool. -/
def IsBool (e : Ending) : Prop := ∃ b, e = .returned (.bool b)

set_option maxHeartbeats 1000000 in
theorem zz13 (ao : Option Addr) (n cap : Nat) (ss : List ByteArray) (w : World) (h : Ls w ao n cap ss) :
    Calls Try.prog 13 #[.slice ao n cap] w fun e w' => IsBool e ∧ w' = w := by
  have hm : n ≤ maxLen := Nat.le_trans h.room h.top
  unfold maxLen at hm
  by_cases hn : 1048576 < n
  · go_enter Try.func13, Try.ntmps13
    go_wp2
    go_ret
    exact ⟨⟨_, rfl⟩, rfl⟩
  · go_enter Try.func13, Try.ntmps13
    go_wp2
    go_loop [3, 4] (fun t i => ∃ (k : Nat) (z : Int), k ≤ n ∧ i = .int .i64 k ∧ t = .int .i64 z) (fun _ i => n - (intOf i).toNat)
    case atStart => exact ⟨0, _, Nat.zero_le _, rfl, rfl⟩
    case round =>
      obtain ⟨k, z, hk, rfl, rfl⟩ := hrel
      by_cases hlt : k < n
      · obtain ⟨b, o, rfl, -, hc⟩ := h.cells (by omega)
        have g0 := hc k hlt
        generalize ss.getD k ByteArray.empty = s at g0
        clear hc
        go_wp2
        all_goals first
          | (go_ret; exact ⟨⟨_, rfl⟩, rfl⟩)
          | (go_round
             case rel => exact ⟨k + 1, _, by omega, by go_num, rfl⟩
             case measure => simp [intOf]; omega)
      · go_wp2
        go_ret
        exact ⟨⟨_, rfl⟩, rfl⟩

set_option maxHeartbeats 1000000 in
theorem lines14 (ao : Option Addr) (n cap : Nat) (ss : List ByteArray) (w : World) (h : Ls w ao n cap ss) :
    Calls Try.prog 14 #[.slice ao n cap] w fun e w' => (∃ t, e = .returned (.int .i64 t)) ∧ w' = w := by
  have hm : n ≤ maxLen := Nat.le_trans h.room h.top
  unfold maxLen at hm
  go_enter Try.func14, Try.ntmps14
  go_wp2
  go_loop [3, 4] (fun t i => ∃ (k : Nat) (z : Int), k ≤ n ∧ i = .int .i64 k ∧ t = .int .i64 z) (fun _ i => n - (intOf i).toNat)
  case atStart => exact ⟨0, _, Nat.zero_le _, rfl, rfl⟩
  case round =>
    obtain ⟨k, z, hk, rfl, rfl⟩ := hrel
    by_cases hlt : k < n
    · obtain ⟨b, o, rfl, -, hc⟩ := h.cells (by omega)
      have g0 := hc k hlt
      generalize ss.getD k ByteArray.empty = s at g0
      clear hc
      go_wp2
      all_goals first
        | (go_ret; exact ⟨⟨_, rfl⟩, rfl⟩)
        | (go_round
           case rel => exact ⟨k + 1, _, by omega, by go_num, rfl⟩
           case measure => simp [intOf]; omega)
    · go_wp2
      go_ret
      exact ⟨⟨_, rfl⟩, rfl⟩
set_option maxHeartbeats 400000 in
theorem clone_nil (w : World) : Calls Try.prog 15 #[.slice none 0 0] w fun e w' => e = .returned (.slice none 0 0) ∧ w' = w := by
  have q27 : ∀ (w : World) (a : Option Addr) (n c n' c' : Nat), (binOp .eql 27 (.slice a n c) (.slice none n' c')).run Try.prog w = .ok (.bool a.isNone) w := fun w a n c n' c' => Lib.run_eql_slice_nil w _ _ a n c n' c' Try.underlying27
  go_enter Try.func15, Try.ntmps15
  go_wp2
  go_ret
  exact ⟨rfl, rfl⟩

/-- What the copy holds after k rounds. -/
def part (zs : List ByteArray) (n k : Nat) : List Value := cellsOf (zs.take k) ++ List.replicate (n - k) (Value.string ByteArray.empty)

theorem part_zero (zs : List ByteArray) (n : Nat) : part zs n 0 = (madeCells (Value.string ByteArray.empty).cells (n * 1)).toList := by
  have : (Value.string ByteArray.empty).cells = #[Value.string ByteArray.empty] := rfl
  rw [this, toList_madeCells_one]
  simp [part, cellsOf]

theorem part_full (zs : List ByteArray) (n : Nat) (h : zs.length = n) : part zs n n = cellsOf zs := by
  simp [part, ← h]

theorem part_at (zs : List ByteArray) (n k : Nat) (h : zs.length = n) (hk : k < n) : (part zs n k)[k]? = some (Value.string ByteArray.empty) := by
  have hl : (cellsOf (zs.take k)).length = k := by simp [cellsOf]; omega
  unfold part
  rw [List.getElem?_append_right (by omega), hl, Nat.sub_self, List.getElem?_replicate, if_pos (by omega)]

theorem part_succ (zs : List ByteArray) (n k : Nat) (h : zs.length = n) (hk : k < n) : (part zs n k).set k (Value.string (zs.getD k ByteArray.empty)) = part zs n (k + 1) := by
  have hl : (cellsOf (zs.take k)).length = k := by simp [cellsOf]; omega
  unfold part
  rw [List.set_append_right _ _ (by omega), hl, Nat.sub_self, show n - k = (n - (k + 1)) + 1 by omega, List.replicate_succ, List.set_cons_zero, Pl.take_snoc zs k (by omega)]
  simp [cellsOf]

set_option maxHeartbeats 400000 in
theorem clone_some (x : Addr) (n cap : Nat) (zs : List ByteArray) (w : World) (h : Ls w (some x) n cap zs) (hsm : n ≤ 5000) :
    Calls Try.prog 15 #[.slice (some x) n cap] w fun e w' => e = .returned (.slice (some ⟨w.heap.size, 0, none⟩) n n) ∧
      w'.ownsRow w.heap.size 9 1 (.slice (some ⟨w.heap.size, 0, none⟩) n n) n (cellsOf zs) ∧ w.grownBy w' none := by
  have q27 : ∀ (w : World) (a : Option Addr) (n c n' c' : Nat), (binOp .eql 27 (.slice a n c) (.slice none n' c')).run Try.prog w = .ok (.bool a.isNone) w := fun w a n c n' c' => Lib.run_eql_slice_nil w _ _ a n c n' c' Try.underlying27
  obtain ⟨i0, hi, hz0, hz1, hz2⟩ := info_parts Try.info9
  go_enter Try.func15, Try.ntmps15
  go_wp2_with (at_make; refine wpList_make_full _ rfl _ _ 27 rfl w.heap.size 9 i0 (.string ByteArray.empty) 1 Try.underlying27 hi hz0 hz1 _ _ _ _ n rfl rfl rfl rfl (by rw [hz2]; omega) (by unfold maxLen; omega) (Nat.le_refl _) ?_; intro w1 hown1 hgrow1)
  rw [← part_zero zs] at hown1
  clear hi hz0 hz1 hz2
  go_loopw [4] (fun i wr => ∃ k : Nat, k ≤ n ∧ i = .int .i64 k ∧ wr.ownsRow w.heap.size 9 1 (.slice (some ⟨w.heap.size, 0, none⟩) n n) n (part zs n k) ∧ w.grownBy wr none) (fun i _ => n - (intOf i).toNat)
  case atStart => exact ⟨0, Nat.zero_le _, rfl, hown1, hgrow1⟩
  case round =>
    obtain ⟨k, hk, rfl, hown, hgrow⟩ := hrel
    clear hown1 hgrow1
    by_cases hlt : k < n
    · obtain ⟨b, o, e, hb, hc⟩ := h.cells (by omega)
      obtain rfl := Option.some.inj e
      have hck := hgrow.cell (hc k hlt) (by simp)
      have hst := hown.cellAt k (by omega)
      rw [part_at zs n k h.len hlt] at hst
      have hfr := hown.frozenAt k
      have hnew := hown.stored k (.string (zs.getD k ByteArray.empty))
      rw [part_succ zs n k h.len hlt] at hnew
      clear hc e
      go_wp2
      go_roundw
      case rel => exact ⟨k + 1, by omega, by go_num, hnew.1, hgrow.andThen hnew.2 (fun j hj => by cases hj; exact .inl (Nat.le_refl _))⟩
      case measure => simp [intOf]; omega
    · go_wp2
      go_ret
      have : k = n := by omega
      subst this
      rw [part_full zs k h.len] at hown
      exact ⟨rfl, hown, hgrow⟩

/-- copyLines: nil stays nil; the copy is new, and holds the same bytes. -/
theorem clone_any (ao : Option Addr) (n cap : Nat) (zs : List ByteArray) (w : World) (h : Ls w ao n cap zs) (hsm : n ≤ 5000) :
    Calls Try.prog 15 #[.slice ao n cap] w fun e w' => ∃ ao' cap', e = .returned (.slice ao' n cap') ∧ ao'.isNone = ao.isNone ∧
      w'.ownsRow w.heap.size 9 1 (.slice ao' n cap') n (cellsOf zs) ∧ w.grownBy w' none := by
  cases ao with
  | none =>
    have hc := h.nil rfl
    subst hc
    have hn : n = 0 := by have := h.room; omega
    subst hn
    have hz : zs = [] := List.eq_nil_of_length_eq_zero h.len
    subst hz
    refine (clone_nil w).mono ?_
    rintro e w' ⟨rfl, rfl⟩
    exact ⟨none, 0, rfl, rfl, World.ownsRow_nil _ _ _ _, World.grownBy.refl _ _⟩
  | some x =>
    refine (clone_some x n cap zs w h hsm).mono ?_
    rintro e w' ⟨rfl, h1, h2⟩
    exact ⟨_, _, rfl, rfl, h1, h2⟩
end Go.Proofs.Qxb6600295a
