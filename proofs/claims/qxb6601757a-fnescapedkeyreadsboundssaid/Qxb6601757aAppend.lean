/-
  Seat b6601757a: AppendKeyPrefix.
-/
import Derived.Test.Qxb6601757aBase
namespace Go.Proofs.Qxb6601757a
open Go.RowKit

/-- Since w only the row of v0 has turned, and new memory; v, in that row or in new memory, owns the bytes xs. -/
structure Gr (w : World) (base : Nat) (v0 : Value) (wr : World) (v : Value) (xs : List Int) : Prop where
  own : wr.ownsRow base 5 1 v xs.length (cellsOf xs)
  grown : w.grownBy wr v0.ownBlock
  lies : v.ownBlock = v0.ownBlock ∨ ∃ g, v.ownBlock = some g ∧ w.heap.size ≤ g
  low : base ≤ w.heap.size

theorem Gr.start {w : World} {base : Nat} {v : Value} {xs : List Int} (h : w.ownsRow base 5 1 v xs.length (cellsOf xs)) (hb : base ≤ w.heap.size) : Gr w base v w v xs :=
  ⟨h, World.grownBy.refl _ _, .inl rfl, hb⟩

theorem cells_new (w : World) (cs : Array Value) (t : TypeId) : ∀ j u, cs.toList[j]? = some u → (w.alloc (.cells cs t)).cell? ((⟨w.heap.size, 0, none⟩ : Addr).add j) = some u :=
  World.news_of_block (heap_alloc_new w _)

/-- An append behind a new block. -/
theorem Gr.step {w : World} {base : Nat} {v0 : Value} {wr : World} {v : Value} {xs : List Int} (h : Gr w base v0 wr v xs) {o : Obj} {w1 : World} {g cap m : Nat} {ys : List Int}
    (hown : w1.ownsRow base 5 1 (.slice (some ⟨g, 0, none⟩) (xs.length + m) cap) (xs.length + m) (cellsOf xs ++ cellsOf ys)) (hgr : (wr.alloc o).grownBy w1 v.ownBlock)
    (hat : v.ownBlock = some g ∨ g = (wr.alloc o).heap.size) :
    Gr w base v0 w1 (.slice (some ⟨g, 0, none⟩) (xs.length + m) cap) (xs ++ ys) ∧ ys.length = m := by
  have hl := hown.1
  simp only [cellsOf, List.length_append, List.length_map] at hl
  have hm : ys.length = m := by omega
  have hsz := h.grown.size
  refine ⟨⟨?_, ?_, ?_, h.low⟩, hm⟩
  · have e : (xs ++ ys).length = xs.length + m := by rw [List.length_append, hm]
    have e2 : cellsOf (xs ++ ys) = cellsOf xs ++ cellsOf ys := by simp [cellsOf]
    rw [e, e2]
    exact hown
  · refine h.grown.andThen ((World.grownBy_alloc wr o _).trans hgr) (fun j hj => ?_)
    rcases h.lies with e | ⟨g', e, hg'⟩
    · exact .inr (by rw [← e, hj])
    · rw [e] at hj
      cases hj
      exact .inl hg'
  · rcases hat with e | e
    · rcases h.lies with e' | ⟨g', e', hg'⟩
      · exact .inl (by rw [← e', e]; rfl)
      · rw [e'] at e
        cases e
        exact .inr ⟨_, rfl, hg'⟩
    · refine .inr ⟨g, rfl, ?_⟩
      rw [e]
      simp
      omega

/-- What is read of another slice stays. -/
theorem Gr.cell {w : World} {base : Nat} {v0 : Value} {wr : World} {v : Value} {xs : List Int} (h : Gr w base v0 wr v xs) {a : Addr} {u : Value} (hc : w.cell? a = some u) (hne : some a.block ≠ v0.ownBlock) : wr.cell? a = some u :=
  h.grown.cell hc hne

set_option maxHeartbeats 1000000 in
theorem appendKey_any (v : Value) (xs : List Int) (base : Nat) (ao : Option Addr) (n cap : Nat) (zs : List Int) (w : World)
    (hv : w.ownsRow base 5 1 v xs.length (cellsOf xs)) (hx : xs.length ≤ 1000000) (hb : base ≤ w.heap.size)
    (h : Bs w ao n cap zs) (hn : n ≤ 600000) (hne : 0 < n → ∀ a, ao = some a → some a.block ≠ v.ownBlock) :
    Calls Try.prog 12 #[v, .slice ao n cap] w fun e w' => ∃ v', e = .returned v' ∧ Gr w base v w' v' (xs ++ Pl.pre zs) := by
  obtain ⟨i0, hi, hz0, hz1, hz2⟩ := info_parts Try.info5
  have hG := Gr.start hv hb
  have hlen := h.len
  clear hv
  go_enter Try.func12, Try.ntmps12
  go_wp2_with (at_builtin; refine wpList_append_lies _ rfl _ _ 22 rfl base 5 i0 (.int .u8 0) 1 1 Try.underlying22 hi hz0 hz1 hz2 rfl (by decide) _ _ _ rfl (hG.own.alloc _) ⟨w.heap.size, 0, none⟩ 1 1 (cellsOf [118]) rfl rfl (cells_new _ _ _) (ints_oneCell .u8 [118]) (by decide) (by unfold maxLen; omega) (by omega) (by simp; omega) _ rfl ?_; intro g c w1 hown1 hgrow1 hat1 _; have hG1 := (hG.step hown1 hgrow1 hat1).1; clear hown1 hgrow1 hat1)
  have hnx := hG1.grown.size
  go_loopw [0, 12] (fun v' i wr => ∃ k : Nat, k ≤ n ∧ i = .int .i64 k ∧ Gr w base v wr v' (xs ++ 118 :: Pl.esc (zs.take k))) (fun _ i _ => n - (intOf i).toNat)
  case atStart => exact ⟨0, Nat.zero_le _, rfl, hG1⟩
  case round =>
    obtain ⟨k, hk, rfl, hGr⟩ := hrel
    clear hG1 hG hnx
    have hbl : (xs ++ 118 :: Pl.esc (zs.take k)).length ≤ 1000001 + 2 * n := by
      have := (Pl.esc_len (zs.take k)).2
      have h2 : (zs.take k).length ≤ n := by simp; omega
      simp only [List.length_append, List.length_cons]
      omega
    have hsz := hGr.grown.size
    by_cases hlt : k < n
    · obtain ⟨b, o, e, hbb, hc⟩ := h.cells (by omega)
      subst e
      have hck := hGr.cell (hc k hlt) (hne (by omega) ⟨b, o, none⟩ rfl)
      have hne0 : some b ≠ v.ownBlock := hne (by omega) _ rfl
      have hsucc := Pl.esc_take_succ zs k (by omega)
      clear hc hne
      generalize hzz : zs.getD k 0 = z at *
      clear hzz
      by_cases hz : z = 0
      · subst hz
        have HS : Hid (Pl.esc (zs.take (k + 1)) = Pl.esc (zs.take k) ++ [0, 255]) := hsucc
        clear hsucc
        go_wp2_with (at_builtin; refine wpList_append_lies _ rfl _ _ 22 rfl base 5 i0 (.int .u8 0) 1 1 Try.underlying22 hi hz0 hz1 hz2 rfl (by decide) _ _ _ rfl (hGr.own.alloc _) ⟨wr.heap.size, 0, none⟩ 2 2 (cellsOf [0, 255]) rfl rfl (cells_new _ _ _) (ints_oneCell .u8 [0, 255]) (by decide) (by unfold maxLen; omega) (by omega) (by simp; omega) _ rfl ?_; intro g' c' w2 hown2 hgrow2 hat2 _; have hG2 := (hGr.step hown2 hgrow2 hat2).1; clear hown2 hgrow2 hat2)
        go_roundw
        case rel => exact ⟨k + 1, by omega, by go_num, by rw [HS.out]; simpa using hG2⟩
        case measure => simp [intOf]; omega
      · have HS : Hid (Pl.esc (zs.take (k + 1)) = Pl.esc (zs.take k) ++ [z]) := by
          unfold Pl.esc1 at hsucc; rw [if_neg hz] at hsucc; exact hsucc
        clear hsucc
        go_wp2_with (at_builtin; refine wpList_append_lies _ rfl _ _ 22 rfl base 5 i0 (.int .u8 0) 1 1 Try.underlying22 hi hz0 hz1 hz2 rfl (by decide) _ _ _ rfl (hGr.own.alloc _) ⟨wr.heap.size, 0, none⟩ 1 1 (cellsOf [z]) rfl rfl (cells_new _ _ _) (ints_oneCell .u8 [z]) (by decide) (by unfold maxLen; omega) (by omega) (by simp; omega) _ rfl ?_; intro g' c' w2 hown2 hgrow2 hat2 _; have hG2 := (hGr.step hown2 hgrow2 hat2).1; clear hown2 hgrow2 hat2)
        go_roundw
        case rel => exact ⟨k + 1, by omega, by go_num, by rw [HS.out]; simpa using hG2⟩
        case measure => simp [intOf]; omega
    · have hkn : k = n := by omega
      obtain ⟨ys, hys⟩ : ∃ ys, ys = xs ++ 118 :: Pl.esc (zs.take k) := ⟨_, rfl⟩
      rw [← hys] at hGr hbl
      have HE : Hid (ys ++ [0, 1] = xs ++ Pl.pre zs) := by
        show _ = _
        rw [hys, hkn, List.take_of_length_le (by omega)]
        simp [Pl.pre]
      clear hkn hys
      go_wp2_with (at_builtin; refine wpList_append_lies _ rfl _ _ 22 rfl base 5 i0 (.int .u8 0) 1 1 Try.underlying22 hi hz0 hz1 hz2 rfl (by decide) _ _ _ rfl (hGr.own.alloc _) ⟨wr.heap.size, 0, none⟩ 2 2 (cellsOf [0, 1]) rfl rfl (cells_new _ _ _) (ints_oneCell .u8 [0, 1]) (by decide) (by unfold maxLen; omega) (by omega) (by simp; omega) _ rfl ?_; intro g' c' w2 hown2 hgrow2 hat2 _; have hG2 := (hGr.step hown2 hgrow2 hat2).1; clear hown2 hgrow2 hat2)
      go_ret
      exact ⟨_, rfl, by rw [← HE.out]; exact hG2⟩

/-- AppendKeyPrefix(nil, key). -/
theorem prefix_any (ao : Option Addr) (n cap : Nat) (zs : List Int) (w : World) (h : Bs w ao n cap zs) (hn : n ≤ 600000) :
    Calls Try.prog 12 #[.slice none 0 0, .slice ao n cap] w fun e w' => ∃ ao' cap', e = .returned (.slice ao' (Pl.pre zs).length cap') ∧
      w'.ownsRow w.heap.size 5 1 (.slice ao' (Pl.pre zs).length cap') (Pl.pre zs).length (cellsOf (Pl.pre zs)) ∧ Bs w' ao' (Pl.pre zs).length cap' (Pl.pre zs) ∧ w.grownBy w' none := by
  refine (appendKey_any (.slice none 0 0) [] w.heap.size ao n cap zs w (World.ownsRow_nil _ _ _ _) (by simp) (Nat.le_refl _) h hn (fun _ _ _ => by simp [Value.ownBlock])).mono ?_
  rintro e w' ⟨v', rfl, hG⟩
  have hown := hG.own
  rw [List.nil_append] at hown
  have hlen : (Pl.pre zs).length ≤ 4000000 := by
    have := (Pl.esc_len zs).2
    have hl := h.len
    rw [Pl.pre_len]
    omega
  obtain ⟨ao', cap', rfl, hb, -⟩ := own_bs hown (Pl.pre_bytes h.wf) hlen
  exact ⟨ao', cap', rfl, hown, hb, hG.grown⟩
end Go.Proofs.Qxb6601757a
