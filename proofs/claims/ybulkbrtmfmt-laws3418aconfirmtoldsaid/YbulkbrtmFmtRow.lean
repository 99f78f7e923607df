import Derived.Test.YbulkbrtmFmtMem
import Derived.Sort.Grow
import Derived.CellFam
/- The sorted row: what it holds, and that nothing else of the old world turns. -/
set_option linter.unusedSimpArgs false
namespace Go.Proofs.YbulkbrtmFmt
open Go.RowKit Go.Sort
theorem hid {p : Prop} (h : p) : Hid p := h
abbrev u64 : Int → Value := Value.int .u64

/-- The row's cells hold d; of w's own blocks no other has turned. -/
structure At (w : World) (blk off : Nat) (d : Array Int) (wr : World) : Prop where
  keeps : Keeps (· = blk) w wr
  holds : Holds u64 wr blk off d
  lt : blk < w.heap.size

namespace At
variable {w wr wr' : World} {blk off : Nat} {d d' : Array Int}
theorem start (h : Holds u64 w blk off d) (hb : blk < w.heap.size) : At w blk off d w := ⟨Keeps.refl _ _, h, hb⟩
theorem cell (h : At w blk off d wr) (G : Nat → Int) (hG : ∀ t, G t = d[t]!) (n : Nat) (hn : d.size = n) : ∀ t, t < n → wr.cell? ⟨blk, off + t, none⟩ = some (.int .u64 (G t)) := fun t ht => by
  rw [hG]; exact (h.holds t (by omega)).1
theorem froz (h : At w blk off d wr) (n : Nat) (hn : d.size = n) : ∀ t, t < n → wr.frozen? ⟨blk, off + t, none⟩ = false := fun t ht => (h.holds t (by omega)).2
theorem drewN (h : At w blk off d wr) (q : Nat) : At w blk off d (wr.drewN q) := ⟨h.keeps.drewN q, h.holds, h.lt⟩
theorem drew (h : At w blk off d wr) : At w blk off d wr.drew := ⟨h.keeps.drew, h.holds, h.lt⟩
theorem trans (h : At w blk off d wr) (k : At wr blk off d' wr') : At w blk off d' wr' := ⟨h.keeps.trans k.keeps, k.holds, h.lt⟩
end At

theorem cell_in {w : World} {blk k : Nat} {u : Value} (h : w.cell? ⟨blk, k, none⟩ = some u) (v : Value) : (w.setCell ⟨blk, k, none⟩ v).cell? ⟨blk, k, none⟩ = some v := by
  obtain ⟨c, e, fr, hb, hc⟩ := cells_of_cell? h
  rw [setCell_eq, cell?_mapBlock w blk _ _ hb]
  have : k < c.size := (Array.getElem?_eq_some_iff.1 hc).1
  simp [Array.getElem?_setIfInBounds, this]
theorem cell_off {w : World} {blk k j : Nat} {u : Value} (h : w.cell? ⟨blk, j, none⟩ = some u) (hne : k ≠ j) (v : Value) : (w.setCell ⟨blk, k, none⟩ v).cell? ⟨blk, j, none⟩ = some u := by
  obtain ⟨c, e, fr, hb, hc⟩ := cells_of_cell? h
  rw [setCell_eq, cell?_mapBlock w blk _ _ hb]
  simp [Array.getElem?_setIfInBounds, hne, hc]
theorem holds_set {w : World} {blk off : Nat} {d : Array Int} (h : Holds u64 w blk off d) (i : Nat) (hi : i < d.size) (x : Int) : Holds u64 (w.setCell ⟨blk, off + i, none⟩ (.int .u64 x)) blk off (d.setIfInBounds i x) := by
  intro j hj
  have hj' : j < d.size := by simpa using hj
  refine ⟨?_, ?_⟩
  · by_cases e : j = i
    · subst e
      rw [cell_in (h j hj').1, getElem!_set_same d j x hi]
    · rw [cell_off (h j hj').1 (by omega), getElem!_set_other d i j x e]
  · rw [setCell_eq, frozen?_mapBlock]
    exact (h j hj').2
theorem At.set {w wr : World} {blk off : Nat} {d : Array Int} (h : At w blk off d wr) (i : Nat) (hi : i < d.size) (x : Int) : At w blk off (d.setIfInBounds i x) (wr.setCell ⟨blk, off + i, none⟩ (.int .u64 x)) :=
  ⟨h.keeps.setCell (a := ⟨blk, off + i, none⟩) rfl _, holds_set h.holds i hi x, h.lt⟩
theorem At.swap {w wr : World} {blk off : Nat} {d : Array Int} (h : At w blk off d wr) (i j : Nat) (hi : i < d.size) (hj : j < d.size) (x y : Int) (hx : x = d[j]!) (hy : y = d[i]!) :
    At w blk off (swp d i j) ((wr.setCell ⟨blk, off + i, none⟩ (.int .u64 x)).setCell ⟨blk, off + j, none⟩ (.int .u64 y)) := by
  subst hx hy
  exact (h.set i hi _).set j (by simpa using hj) _
/-- Stores and new blocks elsewhere leave the row. -/
theorem At.other {w wr wr' : World} {blk off : Nat} {d : Array Int} (h : At w blk off d wr) (k : Keeps (fun b => w.heap.size ≤ b) wr wr') : At w blk off d wr' := by
  have hlt : blk < wr.heap.size := Nat.lt_of_lt_of_le h.lt h.keeps.size
  have hb := k.block blk hlt (by have := h.lt; omega)
  refine ⟨⟨k.os.trans h.keeps.os, k.tape.trans h.keeps.tape, k.output.trans h.keeps.output, Nat.le_trans h.keeps.size k.size, fun b hb' hs => (k.block b (Nat.lt_of_lt_of_le hb' h.keeps.size) (by omega)).trans (h.keeps.block b hb' hs)⟩, fun j hj => ?_, h.lt⟩
  have := h.holds j hj
  simpa [World.cell?, World.frozen?, hb] using this
end Go.Proofs.YbulkbrtmFmt
