/-
  Seat b6601757a: zzUnescape, called with an escaped text.
-/
import Derived.Test.Qxb6601757aAppend
namespace Go.Proofs.Qxb6601757a
open Go.RowKit

theorem Gr.made {w w1 : World} {v : Value} (hown : w1.ownsRow w.heap.size 5 1 v 0 []) (hg : w.grownBy w1 none) (hv : v.ownBlock = some w.heap.size) :
    Gr w w.heap.size (.slice none 0 0) w1 v [] :=
  ⟨hown, hg, .inr ⟨_, hv, Nat.le_refl _⟩, Nat.le_refl _⟩

set_option maxHeartbeats 1000000 in
theorem unescape_any (ao : Option Addr) (n cap : Nat) (zs : List Int) (w : World) (h : Bs w ao n cap (Pl.esc zs)) (hz : Pl.Bytes zs) :
    Calls Try.prog 25 #[.slice ao n cap] w fun e w' => ∃ ao' cap', e = .returned (.tuple #[.slice ao' zs.length cap', .bool true]) ∧ Bs w' ao' zs.length cap' zs ∧ w.grownBy w' none := by
  obtain ⟨i0, hi, hz0, hz1, hz2⟩ := info_parts Try.info5
  have hsm := h.small
  have hln : zs.length ≤ n := by have := (Pl.esc_len zs).1; have := h.len; omega
  go_enter Try.func25, Try.ntmps25
  go_wp2_with (at_make; refine wpList_make_own _ rfl _ _ 22 rfl w.heap.size 5 i0 (.int .u8 0) 1 Try.underlying22 hi hz0 hz1 _ _ _ n rfl rfl rfl (by rw [hz2]; omega) (by unfold maxLen; omega) (Nat.le_refl _) ?_; intro w1 hown1 hgrow1)
  have hG1 := Gr.made hown1 hgrow1 rfl
  clear hown1 hgrow1
  go_loopw [4, 5] (fun v i wr => ∃ k : Nat, k ≤ zs.length ∧ i = .int .i64 (Pl.esc (zs.take k)).length ∧ Gr w w.heap.size (.slice none 0 0) wr v (zs.take k)) (fun _ i _ => n - (intOf i).toNat)
  case atStart => exact ⟨0, Nat.zero_le _, rfl, hG1⟩
  case round =>
    obtain ⟨k, hk, rfl, hGr⟩ := hrel
    clear hG1
    have hsz := hGr.grown.size
    have htl : (zs.take k).length ≤ n := by simp; omega
    by_cases hlt : k < zs.length
    · by_cases hz : zs.getD k 0 = 0
      · obtain ⟨p1, p2, p3, p4⟩ := Pl.esc_at_zero zs k hlt hz
        have hts := Pl.take_snoc zs k hlt
        rw [hz] at hts
        have HT : Hid (zs.take (k + 1) = zs.take k ++ [0]) := hts
        have H4 : Hid ((Pl.esc (zs.take (k + 1))).length = (Pl.esc (zs.take k)).length + 2) := p4
        rw [h.len] at p3
        obtain ⟨b, o, rfl, -, hc⟩ := h.cells (by omega)
        have c0 := hGr.cell (hc _ (show (Pl.esc (zs.take k)).length < n by omega)) (by simp [Value.ownBlock])
        have c1 := hGr.cell (hc _ (show (Pl.esc (zs.take k)).length + 1 < n by omega)) (by simp [Value.ownBlock])
        rw [p1] at c0
        rw [p2] at c1
        clear hts p4 p1 p2 hz hc
        generalize (Pl.esc (zs.take k)).length = i at *
        go_wp2_with (at_builtin; refine wpList_append_lies _ rfl _ _ 22 rfl w.heap.size 5 i0 (.int .u8 0) 1 1 Try.underlying22 hi hz0 hz1 hz2 rfl (by decide) _ _ _ rfl (hGr.own.alloc _) ⟨wr.heap.size, 0, none⟩ 1 1 (cellsOf [0]) rfl rfl (cells_new _ _ _) (ints_oneCell .u8 [0]) (by decide) (by unfold maxLen; omega) (by omega) (by simp; omega) _ rfl ?_; intro g' c' w2 hown2 hgrow2 hat2 _; have hG2 := (hGr.step hown2 hgrow2 hat2).1; clear hown2 hgrow2 hat2)
        go_roundw
        case rel => exact ⟨k + 1, by omega, by rw [H4.out]; go_num, by rw [HT.out]; rw [List.length_take_of_le hk] at hG2; exact hG2⟩
        case measure => simp [intOf]; omega
      · obtain ⟨p1, p3, p4⟩ := Pl.esc_at_plain zs k hlt hz
        have hts := Pl.take_snoc zs k hlt
        have H4 : Hid ((Pl.esc (zs.take (k + 1))).length = (Pl.esc (zs.take k)).length + 1) := p4
        rw [h.len] at p3
        obtain ⟨b, o, rfl, -, hc⟩ := h.cells (by omega)
        have c0 := hGr.cell (hc _ (show (Pl.esc (zs.take k)).length < n by omega)) (by simp [Value.ownBlock])
        rw [p1] at c0
        generalize zs.getD k 0 = z at *
        have HT : Hid (zs.take (k + 1) = zs.take k ++ [z]) := hts
        clear hts p4 p1 hc
        have ht : (z == 0) = false := by simpa using hz
        clear hz
        generalize (Pl.esc (zs.take k)).length = i at *
        go_wp2_with (at_builtin; refine wpList_append_lies _ rfl _ _ 22 rfl w.heap.size 5 i0 (.int .u8 0) 1 1 Try.underlying22 hi hz0 hz1 hz2 rfl (by decide) _ _ _ rfl (hGr.own.alloc _) ⟨wr.heap.size, 0, none⟩ 1 1 (cellsOf [z]) rfl rfl (cells_new _ _ _) (ints_oneCell .u8 [z]) (by decide) (by unfold maxLen; omega) (by omega) (by simp; omega) _ rfl ?_; intro g' c' w2 hown2 hgrow2 hat2 _; have hG2 := (hGr.step hown2 hgrow2 hat2).1; clear hown2 hgrow2 hat2)
        go_roundw
        case rel => exact ⟨k + 1, by omega, by rw [H4.out]; go_num, by rw [HT.out]; rw [List.length_take_of_le hk] at hG2; exact hG2⟩
        case measure => simp [intOf]; omega
    · have e : zs.take k = zs := List.take_of_length_le (by omega)
      rw [e] at hGr
      have hi' : (Pl.esc (zs.take k)).length = n := by rw [e]; exact h.len
      rw [hi']
      obtain ⟨ao', cap', rfl, hb, -⟩ := own_bs hGr.own hz (by omega)
      have hgr := hGr.grown
      clear hGr e hi'
      go_wp2
      go_ret2
      exact ⟨ao', cap', rfl, hb, hgr⟩
end Go.Proofs.Qxb6601757a
