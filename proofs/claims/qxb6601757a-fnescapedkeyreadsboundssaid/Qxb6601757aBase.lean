/-
  Seat b6601757a: how a byte slice is read in a world; what is carried from world to world. Own work over the kit's laws.
-/
import Derived.Test.Qxb6601757aRows
import Derived.Test.Qxb6601757aPlain
import Derived.WalkKit
import Derived.WalkSpells
import Derived.Below
import Derived.OpenShut
import Derived.BigQuiet
import Derived.Deep.QuietTactic
import Derived.Deep.AppendLies
import Derived.Maps.Range
namespace Go.Proofs.Qxb6601757a
open Go.RowKit

/-- The bytes zs as cells. -/
def cellsOf (zs : List Int) : List Value := zs.map (Value.int .u8)

/-- The slice (ao, n, cap) reads, in w, as the bytes zs. -/
structure Bs (w : World) (ao : Option Addr) (n cap : Nat) (zs : List Int) : Prop where
  len : zs.length = n
  room : n ≤ cap
  top : cap ≤ maxLen
  nil : ao = none → cap = 0
  wf : Pl.Bytes zs
  small : n ≤ 4000000
  cells : 0 < n → ∃ b o, ao = some ⟨b, o, none⟩ ∧ b < w.heap.size ∧ ∀ i, i < n → w.cell? ⟨b, o + i, none⟩ = some (.int .u8 (zs.getD i 0))

theorem Bs.kept {w w' : World} {ao : Option Addr} {n cap : Nat} {zs : List Int} {row : Option Nat} (h : Bs w ao n cap zs) (hg : w.grownBy w' row)
    (hne : 0 < n → ∀ a, ao = some a → some a.block ≠ row) : Bs w' ao n cap zs := by
  refine ⟨h.len, h.room, h.top, h.nil, h.wf, h.small, fun h0 => ?_⟩
  obtain ⟨b, o, e, hb, hc⟩ := h.cells h0
  exact ⟨b, o, e, Nat.lt_of_lt_of_le hb hg.size, fun i hi => hg.cell (hc i hi) (hne h0 ⟨b, o, none⟩ e)⟩

theorem Bs.on {w w' : World} {ao : Option Addr} {n cap : Nat} {zs : List Int} (h : Bs w ao n cap zs) (hg : w.grownBy w' none) : Bs w' ao n cap zs :=
  h.kept hg (fun _ _ _ => by simp)

theorem Bs.drewN {w : World} {ao : Option Addr} {n cap : Nat} {zs : List Int} (h : Bs w ao n cap zs) (k : Nat) : Bs (w.drewN k) ao n cap zs :=
  h.on ⟨rfl, rfl, rfl, Nat.le_refl _, fun _ _ _ => rfl⟩

theorem grown_drewN (w : World) (k : Nat) (row : Option Nat) : w.grownBy (w.drewN k) row := ⟨rfl, rfl, rfl, Nat.le_refl _, fun _ _ _ => rfl⟩

/-- What is owned is read. -/
theorem own_bs {w : World} {base : Nat} {v : Value} {n : Nat} {zs : List Int} (h : w.ownsRow base 5 1 v n (cellsOf zs)) (hz : Pl.Bytes zs) (hs : n ≤ 4000000) :
    ∃ ao cap, v = .slice ao n cap ∧ Bs w ao n cap zs ∧ ∀ a, ao = some a → base ≤ a.block ∧ a.block < w.heap.size := by
  have hl : zs.length = n := by have := h.1; simpa [cellsOf] using this
  rcases h.2 with ⟨rfl, rfl⟩ | ⟨g, cap, cur, rfl, hb, hg, hn, hc, hcs, ht⟩
  · exact ⟨none, 0, rfl, ⟨hl, Nat.le_refl _, by simp [maxLen], fun _ => rfl, hz, hs, fun h0 => by omega⟩, fun a e => by cases e⟩
  · have hlt := (h.lt g rfl).2
    refine ⟨some ⟨g, 0, none⟩, cap, rfl, ⟨hl, hn, hc, fun e => (by cases e), hz, hs, fun _ => ⟨g, 0, rfl, hlt, fun i hi => ?_⟩⟩, fun a e => by cases e; exact ⟨hb, hlt⟩⟩
    rw [Nat.zero_add, h.cellAt i (by omega)]
    simp [cellsOf, List.getD, show i < zs.length by omega]

theorem own_bs' {w : World} {base : Nat} {ao : Option Addr} {n cap : Nat} {zs : List Int} (h : w.ownsRow base 5 1 (.slice ao n cap) n (cellsOf zs)) (hz : Pl.Bytes zs) (hs : n ≤ 4000000) :
    Bs w ao n cap zs ∧ ∀ a, ao = some a → base ≤ a.block ∧ a.block < w.heap.size := by
  obtain ⟨ao', cap', e, h1, h2⟩ := own_bs h hz hs
  simp only [Value.slice.injEq, true_and] at e
  obtain ⟨rfl, rfl⟩ := e
  exact ⟨h1, h2⟩

/-- A byte slice that came in (as the shells' IsRow says it at uint8). -/
def Row (w : World) (a : Option Addr) (len cap : Nat) (zs : List Int) : Prop :=
  (a = none ∧ len = 0 ∧ cap = 0 ∧ zs = []) ∨
  ∃ x, a = some x ∧ len ≤ cap ∧ cap ≤ maxLen ∧ zs.length = cap ∧ (∀ i, i < zs.length → w.cell? (x.add i) = some (.int .u8 (zs.getD i 0))) ∧ ∀ n ∈ zs, (Lit.int .u8 n).wf = true

theorem bs_of_row {w : World} {a : Option Addr} {len cap : Nat} {zs : List Int} (hs : len ≤ 4000000) (h : Row w a len cap zs) :
    Bs w a len cap (zs.take len) := by
  rcases h with ⟨rfl, rfl, rfl, rfl⟩ | ⟨x, rfl, hl, hc, hz, hcell, hwf⟩
  · exact ⟨rfl, Nat.le_refl _, by simp [maxLen], fun _ => rfl, by intro z hz; simp at hz, hs, fun h0 => by omega⟩
  · refine ⟨by simp; omega, hl, hc, fun e => (by cases e), ?_, hs, fun h0 => ?_⟩
    · intro z hz'
      have := hwf z (List.mem_of_mem_take hz')
      simpa using bounds_u8 this
    · obtain ⟨b, o, spot⟩ := x
      have h00 := hcell 0 (by omega)
      have hspot : spot = none := by simpa [Addr.add] using World.cell?_spot h00
      subst hspot
      have hb : b < w.heap.size := by
        have := World.block_lt_of_cell? _ _ h00
        simpa [Addr.add] using this
      refine ⟨b, o, rfl, hb, fun i hi => ?_⟩
      have := hcell i (by omega)
      rw [Addr.add_lit] at this
      rw [this]
      simp [List.getD, hi]

/-- What is below the old heap has not turned. -/
theorem below_of_grown {w w' : World} (h : w.grownBy w' none) : Below w.heap.size w w' :=
  ⟨h.os, h.tape, h.output, h.size, fun k hk => h.block k hk (by simp)⟩

theorem Try.info5 : (Try.prog.info? 5).map (fun i => (i.zero, i.size, i.bytes)) = some (some (.int .u8 0), 1, 1) := by kernel_rfl

end Go.Proofs.Qxb6601757a
