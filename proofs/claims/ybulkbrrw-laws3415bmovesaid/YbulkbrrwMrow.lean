import Derived.Test.YbulkbrrwRows
import Derived.Test.YbulkbrrwMins
import Derived.WalkKit
import Derived.ProofKit
import Derived.OpenShut
import Derived.ShutString
import Derived.ChangeOld
import Derived.Below
import Derived.SizedLaws
import Derived.Deep.Slices
namespace Go.Proofs.Ybulkbrrw
open Go.ChangeShapes Go.WideShapes Go.ChangeAt Go.RowKit Go.Deep
set_option linter.unusedVariables false
set_option linter.unusedSimpArgs false
attribute [local go_sem ↓] Go.wp_at_zero Go.wp_at_succ

theorem own : ownKnob Yba.prog.godebug = none := by kernel_rfl
theorem laidOut : laidOutB Yba.prog = true := by kernel_rfl
theorem bytes27 : Yba.prog.bytesOf 27 = 32 := by kernel_rfl
theorem cells27 : Yba.prog.cellsOf 27 = 4 := by kernel_rfl

set_option maxRecDepth 100000 in
set_option maxHeartbeats 1000000 in
theorem law3_big (w : World) (ao : Option Addr) (n cap : Nat) (a1 a2 a3 a4 a6 a7 : Int) (a5 : Bool) (h : 300 < n) (hn : n ≤ 140737488351232) :
    Calls Yba.prog 3 #[.slice ao n cap, .int .u64 a1, .int .u64 a2, .int .i64 a3, .int .u8 a4, .bool a5, .int .i64 a6, .int .u64 a7] w fun e w' => e = .returned (.bool true) ∧ Below w.heap.size w w' := by
  go_enter Yba.func3, Yba.ntmps3
  go_wp2
  go_ret
  exact ⟨rfl, Below.refl _ _⟩

theorem addr_at {w : World} {x : Addr} {i : Nat} {v : Value} (h : w.cell? (x.add i) = some v) (hi : 0 < i ∨ x.spot = none) : w.cell? ⟨x.block, x.off + i, none⟩ = some v := by
  have := World.cell?_spot h
  obtain ⟨b, off, spot⟩ := x
  by_cases h0 : i = 0
  · subst h0
    simp at hi
    subst hi
    simpa [Addr.add] using h
  · simpa [Addr.add, h0] using h

section
variable {H : Type} {enc : TypeId × Value → H} {P : Program} {w : World} {base : Nat} {spare : Nat → Bool} {held : Bool}

theorem trod_struct4 {t : TypeId} {f0 f1 f2 f3 : Field} {fuel : Nat} {cs : List Value} {x : DataW H × List MemPlace} (ht : P.underlying t = some (.struct #[f0, f1, f2, f3])) (h : DataW.trod enc P w base spare held fuel t cs = some x) :
    ∃ y0 y1 y2 y3 n, cs.length = P.cellsOf t ∧ DataW.trod enc P w base spare held n f0.type ((cs.drop f0.offset).take (P.cellsOf f0.type)) = some y0 ∧
      DataW.trod enc P w base spare held n f1.type ((cs.drop f1.offset).take (P.cellsOf f1.type)) = some y1 ∧ DataW.trod enc P w base spare held n f2.type ((cs.drop f2.offset).take (P.cellsOf f2.type)) = some y2 ∧
      DataW.trod enc P w base spare held n f3.type ((cs.drop f3.offset).take (P.cellsOf f3.type)) = some y3 := by
  obtain ⟨xs, n, _, rfl, hl, hlen, hf⟩ := DataW.trod_struct ht h
  match xs, hlen with
  | [y0, y1, y2, y3], _ => exact ⟨y0, y1, y2, y3, n, hl, by simpa using hf 0 f0 rfl, by simpa using hf 1 f1 rfl, by simpa using hf 2 f2 rfl, by simpa using hf 3 f3 rfl⟩
end

set_option maxRecDepth 100000 in
/-- One input as its four cells. -/
theorem msg_cells {H : Type} {enc : TypeId × Value → H} {w : World} {base : Nat} {spare : Nat → Bool} {held : Bool} {fuel : Nat} {cs : List Value} {x : DataW H × List MemPlace} (h : DataW.trod enc Yba.prog w base spare held fuel 27 cs = some x) :
    ∃ a b c d : Int, cs = [.int .i64 a, .int .i8 b, .int .i64 c, .int .i64 d] ∧ -128 ≤ b ∧ b ≤ 127 := by
  obtain ⟨y0, y1, y2, y3, n, hl, h0, h1, h2, h3⟩ := trod_struct4 Yba.underlying27 h
  rw [cells27] at hl
  match cs, hl with
  | [v0, v1, v2, v3], _ =>
    have c1 : Yba.prog.cellsOf 2 = 1 := by kernel_rfl
    have u1 : Yba.prog.underlying 2 = some (.int .i64) := by kernel_rfl
    obtain ⟨a, e0, _, _⟩ := DataW.trod_int u1 h0
    obtain ⟨b, e1, _, hb⟩ := DataW.trod_int (k := .i8) (by kernel_rfl) h1
    obtain ⟨c, e2, _, _⟩ := DataW.trod_int u1 h2
    obtain ⟨d, e3, _, _⟩ := DataW.trod_int u1 h3
    have e0' : [v0] = [Value.int .i64 a] := e0
    have e1' : [v1] = [Value.int .i8 b] := e1
    have e2' : [v2] = [Value.int .i64 c] := e2
    have e3' : [v3] = [Value.int .i64 d] := e3
    simp only [List.cons.injEq, and_true] at e0' e1' e2' e3'
    subst e0' e1' e2' e3'
    exact ⟨a, b, c, d, rfl, bounds_i8 hb⟩

/-- The list of inputs, opened. -/
theorem at_msgs {H : Type} {enc : TypeId × Value → H} {w : World} {v : Value} {d : DataW H} {p : List MemPlace} (h : DataW.Trod enc Yba.prog w 0 (fun _ => true) true 22 v d p) (ho : ∃ a n c, v = .slice a n c) :
    ∃ ao n cap, v = .slice ao n cap ∧ (n = 0 ∨ ∃ b off hdF rcF fiF laF, ao = some ⟨b, off, none⟩ ∧ n ≤ cap ∧ Ins w b off n hdF rcF fiF laF) ∧ ((∃ es sp, d = .slice es sp ∧ n = es.length) ∨ n = 0) := by
  obtain ⟨a, n, c, rfl⟩ := ho
  obtain ⟨fuel, hf⟩ := h
  rcases open_slice Yba.underlying22 hf with ⟨hcs, hx⟩ | ⟨x, l, c', m, fu, Dd, Pl, hcs, _, hl, hmx, hm, hx, hcell⟩
  · simp [Value.cells] at hcs
    obtain ⟨rfl, rfl, rfl⟩ := hcs
    exact ⟨none, 0, 0, rfl, .inl rfl, .inr rfl⟩
  · simp [Value.cells] at hcs
    obtain ⟨rfl, rfl, rfl⟩ := hcs
    refine ⟨some x, n, c, rfl, ?_, .inl ⟨_, _, (Prod.mk.inj hx).1, by simp⟩⟩
    by_cases h0 : n = 0
    · exact .inl h0
    right
    simp only [if_true] at hm
    subst hm
    rw [cells27] at hcell
    have hc4 : ∀ t, t < n → ∃ f : Int × Int × Int × Int, (-128 ≤ f.2.1 ∧ f.2.1 ≤ 127) ∧ w.cell? ((x.add (t * 4)).add 0) = some (.int .i64 f.1) ∧ w.cell? ((x.add (t * 4)).add 1) = some (.int .i8 f.2.1) ∧ w.cell? ((x.add (t * 4)).add 2) = some (.int .i64 f.2.2.1) ∧ w.cell? ((x.add (t * 4)).add 3) = some (.int .i64 f.2.2.2) := by
      intro t ht
      obtain ⟨cs', h1, h2⟩ := hcell t (by omega)
      obtain ⟨a, b, c, d, rfl, hb⟩ := msg_cells h2
      obtain ⟨_, _, h3⟩ := World.cells?_some h1
      exact ⟨(a, b, c, d), hb, h3 0 (by omega), h3 1 (by omega), h3 2 (by omega), h3 3 (by omega)⟩
    obtain ⟨f, hf4⟩ := choose_lt hc4
    have hsp : x.spot = none := by
      have := World.cell?_spot (hf4 0 (by omega)).2.1
      simpa [Addr.add] using this
    obtain ⟨b, off, spot⟩ := x
    simp at hsp
    subst hsp
    have cell : ∀ t k (u : Value), w.cell? (((⟨b, off, none⟩ : Addr).add (t * 4)).add k) = some u → w.cell? ⟨b, off + t * 4 + k, none⟩ = some u := by
      intro t k u h
      rw [add_add] at h
      have := addr_at h (.inr rfl)
      rw [Nat.add_assoc]
      exact this
    refine ⟨b, off, fun t => (f t).1, fun t => if t < n then (f t).2.1 else 0, fun t => (f t).2.2.1, fun t => (f t).2.2.2, rfl, hl, ?_, ?_, ?_, ?_, ?_, ?_⟩
    · exact block_lt_of_cell (cell 0 0 _ (hf4 0 (by omega)).2.1)
    · intro t
      by_cases ht : t < n
      · simp only [ht, if_true]; exact (hf4 t ht).1
      · simp only [ht, if_false]; omega
    · intro t ht
      exact cell t 0 _ (hf4 t ht).2.1
    · intro t ht
      simp only [ht, if_true]
      exact cell t 1 _ (hf4 t ht).2.2.1
    · intro t ht
      exact cell t 2 _ (hf4 t ht).2.2.2.1
    · intro t ht
      exact cell t 3 _ (hf4 t ht).2.2.2.2
end Go.Proofs.Ybulkbrrw
