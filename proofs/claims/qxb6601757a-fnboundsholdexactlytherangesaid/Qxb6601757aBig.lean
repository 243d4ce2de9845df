/-
  Seat b6601757a: zzAppendBigEndian.
-/
import Derived.Test.Qxb6601757aAppend
namespace Go.Proofs.Qxb6601757a
open Go.RowKit

set_option maxHeartbeats 1000000 in
theorem bigEndian_any (v : Value) (xs : List Int) (base : Nat) (x : Int) (w : World)
    (hv : w.ownsRow base 5 1 v xs.length (cellsOf xs)) (hx : xs.length ≤ 3000000) (hb : base ≤ w.heap.size) (_hlo : 0 ≤ x) (_hhi : x < 18446744073709551616) :
    Calls Try.prog 22 #[v, .int .u64 x] w fun e w' => ∃ v' t, e = .returned v' ∧ t.length = 8 ∧ Pl.Bytes t ∧ Gr w base v w' v' (xs ++ t) := by
  obtain ⟨i0, hi, hz0, hz1, hz2⟩ := info_parts Try.info5
  have hG := Gr.start hv hb
  clear hv
  go_enter Try.func22, Try.ntmps22
  go_wp2
  go_loopw [0, 5] (fun v' i wr => ∃ (k : Nat) (t : List Int), k ≤ 8 ∧ i = .int .i64 (7 - (k : Int)) ∧ t.length = k ∧ Pl.Bytes t ∧ Gr w base v wr v' (xs ++ t)) (fun _ i _ => (intOf i + 1).toNat)
  case atStart => exact ⟨0, [], by omega, rfl, rfl, fun z hz => by simp at hz, by simpa using hG⟩
  case round =>
    obtain ⟨k, t, hk, rfl, ht, hbt, hGr⟩ := hrel
    clear hG
    have hsz := hGr.grown.size
    have hl : (xs ++ t).length ≤ 3000008 := by simp; omega
    by_cases hlt : k < 8
    · go_wp2_with (at_builtin; refine wpList_append_lies _ rfl _ _ 22 rfl base 5 i0 (.int .u8 0) 1 1 Try.underlying22 hi hz0 hz1 hz2 rfl (by decide) _ _ _ rfl (hGr.own.alloc _) ⟨wr.heap.size, 0, none⟩ 1 1 (cellsOf [x / 2 ^ ((7 - k) * 8) % 256]) rfl rfl (cells_new _ _ _) (ints_oneCell .u8 [x / 2 ^ ((7 - k) * 8) % 256]) (by decide) (by unfold maxLen; omega) (by omega) (by simp; omega) _ rfl ?_; intro g' c' w2 hown2 hgrow2 hat2 _; have hG2 := (hGr.step hown2 hgrow2 hat2).1; clear hown2 hgrow2 hat2)
      generalize hy : x / 2 ^ ((7 - k) * 8) % 256 = y at *
      have hyb : 0 ≤ y ∧ y ≤ 255 := by omega
      clear hy
      go_roundw
      case rel =>
        refine ⟨k + 1, t ++ [y], by omega, by go_num, by simp [ht], ?_, ?_⟩
        · intro z hz
          rcases List.mem_append.1 hz with h | h
          · exact hbt z h
          · simp at h
            subst h
            exact hyb
        · rw [← List.append_assoc]
          simpa [ht] using hG2
      case measure => simp [intOf]; omega
    · have e : k = 8 := by omega
      subst e
      go_wp2
      go_ret
      exact ⟨_, t, rfl, ht, hbt, hGr⟩
end Go.Proofs.Qxb6601757a
