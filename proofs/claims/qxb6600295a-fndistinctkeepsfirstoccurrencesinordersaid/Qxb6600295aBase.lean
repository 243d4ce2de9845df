/-
  Seat b6600295a: how a slice of lines is read in a world; what is carried from world to world. Own work over the kit's laws.
-/
import Derived.Test.Qxb6600295aRows
import Derived.Test.Qxb6600295aPlain
import Derived.WalkKit
import Derived.WalkSpells
import Derived.Below
import Derived.OpenShut
import Derived.BigQuiet
import Derived.Deep.QuietTactic
import Derived.Deep.AppendLies
import Derived.Maps.Range
import Derived.Maps.OwnSet
namespace Go.Proofs.Qxb6600295a
open Go.RowKit

/-- The lines ss as cells. -/
def cellsOf (ss : List ByteArray) : List Value := ss.map Value.string

/-- The slice (ao, n, cap) reads, in w, as the lines ss. -/
structure Ls (w : World) (ao : Option Addr) (n cap : Nat) (ss : List ByteArray) : Prop where
  len : ss.length = n
  room : n ≤ cap
  top : cap ≤ maxLen
  nil : ao = none → cap = 0
  wf : ∀ j, (ss.getD j ByteArray.empty).size ≤ maxLen
  cells : 0 < n → ∃ b o, ao = some ⟨b, o, none⟩ ∧ b < w.heap.size ∧ ∀ i, i < n → w.cell? ⟨b, o + i, none⟩ = some (.string (ss.getD i ByteArray.empty))

theorem Ls.on {w w' : World} {ao : Option Addr} {n cap : Nat} {ss : List ByteArray} (h : Ls w ao n cap ss) (hg : w.grownBy w' none) : Ls w' ao n cap ss := by
  refine ⟨h.len, h.room, h.top, h.nil, h.wf, fun h0 => ?_⟩
  obtain ⟨b, o, e, hb, hc⟩ := h.cells h0
  exact ⟨b, o, e, Nat.lt_of_lt_of_le hb hg.size, fun i hi => hg.cell (hc i hi) (by simp)⟩

theorem grown_drewN (w : World) (k : Nat) (row : Option Nat) : w.grownBy (w.drewN k) row := ⟨rfl, rfl, rfl, Nat.le_refl _, fun _ _ _ => rfl⟩

theorem below_of_grown {w w' : World} (h : w.grownBy w' none) : Below w.heap.size w w' :=
  ⟨h.os, h.tape, h.output, h.size, fun k hk => h.block k hk (by simp)⟩

/-- What is owned is read. -/
theorem own_ls {w : World} {base : Nat} {v : Value} {n : Nat} {ss : List ByteArray} (h : w.ownsRow base 9 1 v n (cellsOf ss)) (hz : ∀ j, (ss.getD j ByteArray.empty).size ≤ maxLen) :
    ∃ ao cap, v = .slice ao n cap ∧ Ls w ao n cap ss ∧ (ao = none → n = 0) := by
  have hl : ss.length = n := by have := h.1; simpa [cellsOf] using this
  rcases h.2 with ⟨rfl, rfl⟩ | ⟨g, cap, cur, rfl, hb, hg, hn, hc, hcs, ht⟩
  · exact ⟨none, 0, rfl, ⟨hl, Nat.le_refl _, by simp [maxLen], fun _ => rfl, hz, fun h0 => by omega⟩, fun _ => rfl⟩
  · have hlt := (h.lt g rfl).2
    refine ⟨some ⟨g, 0, none⟩, cap, rfl, ⟨hl, hn, hc, fun e => (by cases e), hz, fun _ => ⟨g, 0, rfl, hlt, fun i hi => ?_⟩⟩, fun e => (by cases e)⟩
    rw [Nat.zero_add, h.cellAt i (by omega)]
    simp [cellsOf, List.getD, show i < ss.length by omega]

/-- A slice of lines that came in. -/
def Row (w : World) (a : Option Addr) (len cap : Nat) (ss : List ByteArray) : Prop :=
  (a = none ∧ len = 0 ∧ cap = 0 ∧ ss = []) ∨
  ∃ x, a = some x ∧ len ≤ cap ∧ cap ≤ maxLen ∧ ss.length = cap ∧ (∀ i, i < ss.length → w.cell? (x.add i) = some (.string (ss.getD i ByteArray.empty))) ∧ ∀ s ∈ ss, s.size ≤ maxLen

theorem getD_wf {ss : List ByteArray} (h : ∀ s ∈ ss, s.size ≤ maxLen) (j : Nat) : (ss.getD j ByteArray.empty).size ≤ maxLen := by
  by_cases hj : j < ss.length
  · have : ss.getD j ByteArray.empty ∈ ss := by simp [List.getD, hj]
    exact h _ this
  · simp [List.getD, hj, maxLen]

theorem ls_of_row {w : World} {a : Option Addr} {len cap : Nat} {ss : List ByteArray} (h : Row w a len cap ss) : Ls w a len cap (ss.take len) := by
  rcases h with ⟨rfl, rfl, rfl, rfl⟩ | ⟨x, rfl, hl, hc, hz, hcell, hwf⟩
  · exact ⟨rfl, Nat.le_refl _, by simp [maxLen], fun _ => rfl, fun j => by simp [maxLen], fun h0 => by omega⟩
  · refine ⟨by simp; omega, hl, hc, fun e => (by cases e), getD_wf (fun s hs => hwf s (List.mem_of_mem_take hs)), fun h0 => ?_⟩
    obtain ⟨b, o, spot⟩ := x
    have h00 := hcell 0 (by omega)
    have hspot : spot = none := by simpa [Addr.add] using World.cell?_spot h00
    subst hspot
    have hb : b < w.heap.size := by
      have := World.block_lt_of_cell? _ _ h00
      simpa [Addr.add] using this
    refine ⟨b, o, rfl, hb, fun i hi => ?_⟩
    have := hcell i (by omega)
    rw [Addr.add_lit] at this
    rw [this]
    simp [List.getD, hi]

theorem Try.info9 : (Try.prog.info? 9).map (fun i => (i.zero, i.size, i.bytes)) = some (some (.string ByteArray.empty), 1, 16) := by kernel_rfl

end Go.Proofs.Qxb6600295a
