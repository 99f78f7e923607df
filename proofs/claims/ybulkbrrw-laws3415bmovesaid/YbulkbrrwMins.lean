import Derived.Test.YbulkbrrwMend
namespace Go.Proofs.Ybulkbrrw
open Go.RowKit Go.Deep Go.Maps

/-- The message made of the j-th of the input. -/
def recF (hdF rcF fiF laF : Nat → Int) (j : Nat) : Rec := { sq := j + 1, rc := rcF j, hd := hdF j, fi := fiF j, la := laF j, og := .pointer none, ix := 0, ag := 0 }

/-- A list of n inputs lies in w below its end. -/
def Ins (w : World) (b off n : Nat) (hdF rcF fiF laF : Nat → Int) : Prop :=
  b < w.heap.size ∧ (∀ t, -128 ≤ rcF t ∧ rcF t ≤ 127) ∧ (∀ t, t < n → w.cell? ⟨b, off + t * 4, none⟩ = some (.int .i64 (hdF t))) ∧ (∀ t, t < n → w.cell? ⟨b, off + t * 4 + 1, none⟩ = some (.int .i8 (rcF t))) ∧
  (∀ t, t < n → w.cell? ⟨b, off + t * 4 + 2, none⟩ = some (.int .i64 (fiF t))) ∧ ∀ t, t < n → w.cell? ⟨b, off + t * 4 + 3, none⟩ = some (.int .i64 (laF t))

theorem ins_zero (w : World) : Ins (w.alloc (.cells #[.int .i64 0, .int .i8 0, .int .i64 0, .int .i64 0] 27)) w.heap.size 0 1 (fun _ => 0) (fun _ => 0) (fun _ => 0) (fun _ => 0) := by
  have h : Blk (w.alloc (.cells #[.int .i64 0, .int .i8 0, .int .i64 0, .int .i64 0] 27)) w.heap.size 27 _ := Blk.new _ _ _
  refine ⟨h.lt, fun t => ⟨by show (-128 : Int) ≤ 0; decide, by show (0 : Int) ≤ 127; decide⟩, ?_, ?_, ?_, ?_⟩
  all_goals
    intro t ht
    obtain rfl : t = 0 := by omega
  · exact h.cell 0
  · exact h.cell 1
  · exact h.cell 2
  · exact h.cell 3

end Go.Proofs.Ybulkbrrw
