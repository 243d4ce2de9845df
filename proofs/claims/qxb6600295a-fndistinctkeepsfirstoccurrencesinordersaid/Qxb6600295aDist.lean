/-
  Seat b6600295a: distinct.
-/
import Derived.Test.Qxb6600295aBase
namespace Go.Proofs.Qxb6600295a
open Go.RowKit

theorem law9 : Maps.Keyed Try.prog 9 := Maps.string_keyed Try.underlying9
theorem zero4 (w : World) : (zeroValue 4).run Try.prog w = .ok (.bool false) w := by kernel_rfl

/-- An element that reads as a bool's datum is that bool. -/
theorem plainElem_bool_inv {H : Type} {v : Value} {z : DataW H × List MemPlace} (h : plainElem Try.prog 4 v = some z) : ∃ a, v = .bool a ∧ z = (.lit (.bool a), []) := by
  unfold plainElem at h
  rw [Try.underlying4] at h
  cases v <;> simp at h
  subst h
  exact ⟨_, rfl, rfl⟩

/-- Block b is a map of at most k entries: it holds true at the lines L, and nothing else. -/
def Tab (w : World) (b k : Nat) (L : List ByteArray) : Prop :=
  ∃ D : DataW Unit, w.ownsMap Try.prog 9 (plainElem Try.prog 4) b k D ∧ ∀ s : ByteArray, s.size ≤ maxLen → D.atKey (.string s.data.toList) (.lit (.bool false)) = .lit (.bool (Pl.inB L s))

theorem Tab.made (w : World) : Tab (w.alloc (.map #[] 0)) w.heap.size 0 [] :=
  ⟨.map [], World.ownsMap_made w _ _ _, fun _ _ => rfl⟩

theorem Tab.kept {w w' : World} {b k : Nat} {L : List ByteArray} {row : Option Nat} (h : Tab w b k L) (hg : w.grownBy w' row) (hne : some b ≠ row) : Tab w' b k L := by
  obtain ⟨D, h1, h2⟩ := h
  exact ⟨D, h1.kept hg hne, h2⟩

theorem Tab.more {w : World} {b k k' : Nat} {L : List ByteArray} (h : Tab w b k L) (hk : k ≤ k') : Tab w b k' L := by
  obtain ⟨D, h1, h2⟩ := h
  exact ⟨D, h1.mono hk, h2⟩

theorem Tab.lt {w : World} {b k : Nat} {L : List ByteArray} (h : Tab w b k L) : b < w.heap.size := by
  obtain ⟨D, h1, _⟩ := h
  exact h1.lt

theorem Tab.look {w : World} {b k : Nat} {L : List ByteArray} (h : Tab w b k L) {s : ByteArray} (hs : s.size ≤ maxLen) :
    (Instr.lookup 46 (.map (some b)) (.string s) false).run Try.prog w = .ok (.bool (Pl.inB L s)) w := by
  obtain ⟨D, h1, h2⟩ := h
  obtain ⟨v, ps, hrun, hv⟩ := h1.lookup law9 Try.underlying46 (zero4 w) (plainElem_bool Try.underlying4 false) (WideMaps.keyOf_string_mk Try.underlying9 hs)
  obtain ⟨c, rfl, hc⟩ := plainElem_bool_inv hv
  rw [h2 s hs] at hc
  simp only [Prod.mk.injEq, DataW.lit.injEq, Lit.bool.injEq] at hc
  rw [hrun, hc.1]

theorem Tab.put {w : World} {b k : Nat} {L : List ByteArray} (h : Tab w b k L) (hk : k < maxLen) {s : ByteArray} (hs : s.size ≤ maxLen) :
    ∃ w', (Instr.mapUpdate 46 (.map (some b)) (.string s) (.bool true)).run Try.prog w = .ok () w' ∧ Tab w' b (k + 1) (L ++ [s]) ∧ w.grownBy w' (some b) := by
  obtain ⟨D, h1, h2⟩ := h
  obtain ⟨w', hrun, hown, hg⟩ := h1.update law9 Try.underlying46 hk (WideMaps.keyOf_string_mk Try.underlying9 hs) (plainElem_bool Try.underlying4 true)
  refine ⟨w', hrun, ⟨_, hown, fun t ht => ?_⟩, hg⟩
  by_cases e : t = s
  · subst e
    rw [Maps.atKey_put_same h1.isMap (by simp [WideAt.IsKeyLit])]
    have : Pl.inB (L ++ [t]) t = true := (Pl.inB_iff _ _).2 (by simp)
    rw [this]
  · have hne : (Lit.string t.data.toList) ≠ Lit.string s.data.toList := by
      intro e'
      simp only [Lit.string.injEq] at e'
      exact e (Pl.data_inj e')
    rw [Maps.atKey_put_other hne, h2 t ht]
    have : Pl.inB (L ++ [s]) t = Pl.inB L t := by
      rw [Bool.eq_iff_iff, Pl.inB_iff, Pl.inB_iff]
      simp [e]
    rw [this]

theorem makeMap_hint (w : World) (n : Int) : (Instr.makeMap 46 (some (.int .i64 n))).run Try.prog w = .ok (.map (some w.heap.size)) (w.alloc (.map #[] 0)) := by
  simp [Instr.makeMap, run_underlying Try.underlying46, asInt, newObj, asIntOf]
  rfl

/-- What holds after k rounds, L kept so far: the map, the slice v, nothing old turned. -/
structure Kp (w wr : World) (v : Value) (L : List ByteArray) (k : Nat) : Prop where
  tab : Tab wr w.heap.size k L
  own : wr.ownsRow (w.heap.size + 1) 9 1 v L.length (cellsOf L)
  grown : w.grownBy wr none
  nil : L = [] → v = .slice none 0 0

theorem Kp.far {w wr : World} {v : Value} {L : List ByteArray} {k : Nat} (h : Kp w wr v L k) : ∀ g, v.ownBlock = some g → w.heap.size + 1 ≤ g := fun g hg => (h.own.lt g hg).1

/-- A line is kept: the store into the map, then the append behind a new block. -/
theorem Kp.step {w wr w1 w2 : World} {v : Value} {L : List ByteArray} {k g cap : Nat} {s : ByteArray} {o : Obj} (h : Kp w wr v L k) (ht : Tab w1 w.heap.size (k + 1) (L ++ [s])) (hg1 : wr.grownBy w1 (some w.heap.size))
    (hown : w2.ownsRow (w.heap.size + 1) 9 1 (.slice (some ⟨g, 0, none⟩) (L.length + 1) cap) (L.length + 1) (cellsOf L ++ cellsOf [s])) (hg2 : (w1.alloc o).grownBy w2 v.ownBlock) :
    Kp w w2 (.slice (some ⟨g, 0, none⟩) (L.length + 1) cap) (L ++ [s]) (k + 1) := by
  have hfar := h.far
  have hsz := h.grown.size
  refine ⟨?_, ?_, ?_, fun e => by simp at e⟩
  · refine (ht.kept (World.grownBy_alloc w1 o none) (by simp)).kept hg2 (fun e => ?_)
    have := hfar w.heap.size e.symm
    omega
  · have e2 : cellsOf (L ++ [s]) = cellsOf L ++ cellsOf [s] := by simp [cellsOf]
    rw [e2, List.length_append]
    exact hown
  · refine (h.grown.andThen hg1 (fun j hj => by cases hj; exact .inl (Nat.le_refl _))).andThen ((World.grownBy_alloc w1 o _).trans hg2) (fun j hj => ?_)
    have := hfar j hj
    exact .inl (by omega)

theorem cells_new (w : World) (cs : Array Value) (t : TypeId) : ∀ j u, cs.toList[j]? = some u → (w.alloc (.cells cs t)).cell? ((⟨w.heap.size, 0, none⟩ : Addr).add j) = some u :=
  World.news_of_block (heap_alloc_new w _)

theorem string_oneCell (s : ByteArray) : ∀ u ∈ cellsOf [s], u.oneCell' = true := by
  intro u hu
  simp [cellsOf] at hu
  subst hu
  rfl

set_option maxHeartbeats 1000000 in
theorem distinct_any (ao : Option Addr) (n cap : Nat) (ss : List ByteArray) (w : World) (h : Ls w ao n cap ss) (hn : n ≤ 5000) :
    Calls Try.prog 25 #[.slice ao n cap] w fun e w' => ∃ v', e = .returned v' ∧ Kp w w' v' (Pl.firsts ss n) n := by
  obtain ⟨i0, hi, hz0, hz1, hz2⟩ := info_parts Try.info9
  have hmm := makeMap_hint
  go_enter Try.func25, Try.ntmps25
  go_wp2
  clear hmm
  go_loopw [4, 12] (fun v i wr => ∃ k : Nat, k ≤ n ∧ i = .int .i64 k ∧ Kp w wr v (Pl.firsts ss k) k) (fun _ i _ => n - (intOf i).toNat)
  case atStart => exact ⟨0, Nat.zero_le _, rfl, ⟨Tab.made w, World.ownsRow_nil _ _ _ _, World.grownBy_alloc _ _ _, fun _ => rfl⟩⟩
  case round =>
    obtain ⟨k, hk, rfl, hK⟩ := hrel
    by_cases hlt : k < n
    · obtain ⟨b, o, rfl, -, hc⟩ := h.cells (by omega)
      have hck := hK.grown.cell (hc k hlt) (by simp)
      have hwf := h.wf k
      clear hc
      by_cases hin : ss.getD k ByteArray.empty ∈ Pl.firsts ss k
      · have HO : Hid (Pl.firsts ss (k + 1) = Pl.firsts ss k) := Pl.firsts_old ss k hin
        have hb : Pl.inB (Pl.firsts ss k) (ss.getD k ByteArray.empty) = true := (Pl.inB_iff _ _).2 hin
        have hlook := hK.tab.look hwf
        rw [hb] at hlook
        clear hin hb
        generalize ss.getD k ByteArray.empty = s at *
        go_wp2
        go_roundw
        case rel => exact ⟨k + 1, by omega, by go_num, by rw [HO.out]; exact ⟨hK.tab.more (by omega), hK.own, hK.grown, hK.nil⟩⟩
        case measure => simp [intOf]; omega
      · have HO : Hid (Pl.firsts ss (k + 1) = Pl.firsts ss k ++ [ss.getD k ByteArray.empty]) := Pl.firsts_new ss k hin
        have hb : Pl.inB (Pl.firsts ss k) (ss.getD k ByteArray.empty) = false := by
          cases hx : Pl.inB (Pl.firsts ss k) (ss.getD k ByteArray.empty)
          · rfl
          · exact absurd ((Pl.inB_iff _ _).1 hx) hin
        have hlook := hK.tab.look hwf
        rw [hb] at hlook
        have hll := Pl.firsts_len ss k
        clear hin hb
        generalize ss.getD k ByteArray.empty = s at *
        generalize Pl.firsts ss k = L at *
        obtain ⟨w1, hrun, htab1, hg1⟩ := hK.tab.put (show k < maxLen by unfold maxLen; omega) hwf
        have hown1 := hK.own.kept hg1 (.inr (fun e => by have := hK.far _ e; omega))
        have hsz : w.heap.size + 1 ≤ w1.heap.size := htab1.lt
        go_wp2_with (at_builtin; refine wpList_append_lies _ rfl _ _ 27 rfl (w.heap.size + 1) 9 i0 (.string ByteArray.empty) 1 16 Try.underlying27 hi hz0 hz1 hz2 rfl (by decide) _ _ _ rfl (hown1.alloc _) ⟨w1.heap.size, 0, none⟩ 1 1 (cellsOf [s]) rfl rfl (cells_new _ _ _) (string_oneCell s) (by decide) (by unfold maxLen; omega) (by omega) (by simp; omega) _ rfl ?_; intro g' c' w2 hown2 hgrow2 hat2 _; have hK2 := hK.step htab1 hg1 hown2 hgrow2; clear hown2 hgrow2 hat2)
        go_roundw
        case rel => exact ⟨k + 1, by omega, by go_num, by rw [HO.out]; exact hK2⟩
        case measure => simp [intOf]; omega
    · have e : k = n := by omega
      subst e
      go_wp2
      go_ret
      exact ⟨_, rfl, hK⟩

theorem zzdistinct_any (ao : Option Addr) (n cap : Nat) (ss : List ByteArray) (w : World) (h : Ls w ao n cap ss) (hn : n ≤ 5000) :
    Calls Try.prog 16 #[.slice ao n cap] w fun e w' => ∃ ao' cap', e = .returned (.slice ao' (Pl.firsts ss n).length cap') ∧ Ls w' ao' (Pl.firsts ss n).length cap' (Pl.firsts ss n) ∧ ao'.isNone = decide (n = 0) ∧ w.grownBy w' none := by
  go_enter Try.func16, Try.ntmps16
  go_wp2_with fail
  refine (distinct_any _ _ _ ss _ h hn).mono ?_
  rintro e w' ⟨v', rfl, hK⟩
  have hwf := getD_wf (Pl.firsts_wf ss (fun s => s.size ≤ maxLen) h.wf n)
  obtain ⟨ao', cap', rfl, hl, hnil⟩ := own_ls hK.own hwf
  have hN : ao'.isNone = decide (n = 0) := by
    cases ao' with
    | none =>
      have := hnil rfl
      have h2 := (Pl.firsts_nil ss n).1 (List.eq_nil_of_length_eq_zero this)
      simp [h2]
    | some a =>
      have : n ≠ 0 := by
        intro e
        have h3 := hK.nil ((Pl.firsts_nil ss n).2 e)
        simp at h3
      simp [this]
  have hg := hK.grown
  clear hK hnil hwf
  go_wp2
  go_ret
  exact ⟨_, _, rfl, hl, hN, hg⟩

end Go.Proofs.Qxb6600295a
