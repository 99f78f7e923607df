import Derived.Test.YbulkbrtmFmtRowE
import Derived.Test.YbulkbrtmFmtLawB
namespace Go.Proofs.YbulkbrtmFmt
open Go.ChangeShapes Go.WideShapes Go.ChangeAt Go.RowKit Go.Deep
set_option linter.unusedVariables false
set_option linter.unusedSimpArgs false

theorem bytes28 : Ybaf.prog.bytesOf 28 = 32 := by kernel_rfl
theorem cells28 : Ybaf.prog.cellsOf 28 = 3 := by kernel_rfl

set_option maxRecDepth 100000 in
/-- The reports' makings, opened. -/
theorem at_reps {H : Type} {enc : TypeId × Value → H} {w : World} {v : Value} {d : DataW H} {p : List MemPlace} (h : DataW.Trod enc Ybaf.prog w 0 (fun _ => true) true 23 v d p) (ho : ∃ a n c, v = .slice a n c) :
    ∃ (ao : Option Addr) (m cap : Nat) (PK RW : Nat → Int) (LN : Nat → ByteArray), v = .slice ao m cap ∧ RIn w (.slice ao m cap) m PK RW LN ∧ (∀ t, t < m → (Lit.int .u8 (PK t)).wf = true) ∧ (∀ t, t < m → (Lit.int .u64 (RW t)).wf = true) ∧ ((∃ es sp, d = .slice es sp ∧ m = es.length) ∨ m = 0) := by
  obtain ⟨a, n, c, rfl⟩ := ho
  obtain ⟨fuel, hf⟩ := h
  rcases open_slice Ybaf.underlying23 hf with ⟨hcs, hx⟩ | ⟨x, l, c', m, fu, Dd, Pl, hcs, _, hl, hmx, hm, hx, hcell⟩
  · simp [Value.cells] at hcs
    obtain ⟨rfl, rfl, rfl⟩ := hcs
    exact ⟨none, 0, 0, fun _ => 0, fun _ => 0, fun _ => ⟨#[]⟩, rfl, ⟨none, 0, rfl, .inl rfl⟩, fun j hj => by omega, fun j hj => by omega, .inr rfl⟩
  · simp [Value.cells] at hcs
    obtain ⟨rfl, rfl, rfl⟩ := hcs
    simp only [if_true] at hm
    subst hm
    rw [cells28] at hcell
    obtain ⟨E, hE⟩ := choose_lt (n := n) (p := fun t (e : Int × Int × ByteArray) => ((Lit.int .u8 e.1).wf = true ∧ (Lit.int .u64 e.2.1).wf = true) ∧ w.cell? ((x.add (t * 3)).add 0) = some (.int .u8 e.1) ∧ w.cell? ((x.add (t * 3)).add 1) = some (.int .u64 e.2.1) ∧ w.cell? ((x.add (t * 3)).add 2) = some (.string e.2.2)) (fun t ht => by
      obtain ⟨cs', h1, h2⟩ := hcell t (by omega)
      obtain ⟨y0, y1, y2, q, _, hlen, g0, g1, g2⟩ := trod_struct3 Ybaf.underlying28 h2
      rw [cells28] at hlen
      obtain ⟨_, _, h3⟩ := World.cells?_some h1
      match cs', hlen with
      | [c0, c1, c2], _ =>
        obtain ⟨s0, e0, _, w0⟩ := DataW.trod_int Ybaf.underlying5 g0
        obtain ⟨s1, e1, _, w1⟩ := DataW.trod_int Ybaf.underlying26 g1
        obtain ⟨s2, e2, _, _⟩ := DataW.trod_string Ybaf.underlying9 g2
        have q0 : [c0] = [Value.int .u8 s0] := e0
        have q1 : [c1] = [Value.int .u64 s1] := e1
        have q2 : [c2] = [Value.string s2] := e2
        simp only [List.cons.injEq, and_true] at q0 q1 q2
        subst q0 q1 q2
        exact ⟨⟨s0, s1, s2⟩, ⟨w0, w1⟩, h3 0 (by omega), h3 1 (by omega), h3 2 (by omega)⟩)
    refine ⟨some x, n, m, fun t => (E t).1, fun t => (E t).2.1, fun t => (E t).2.2, rfl, ⟨some x, m, rfl, ?_⟩, fun j hj => (hE j hj).1.1, fun j hj => (hE j hj).1.2, .inl ⟨_, _, (Prod.mk.inj hx).1, by simp⟩⟩
    by_cases h0 : n = 0
    · exact .inl h0
    right
    have hsp : x.spot = none := by
      have := World.cell?_spot (hE 0 (by omega)).2.1
      simpa [Addr.add] using this
    obtain ⟨b, off, spot⟩ := x
    simp at hsp
    subst hsp
    have hadd : ∀ j, (⟨b, off, none⟩ : Addr).add j = ⟨b, off + j, none⟩ := by intro j; unfold Addr.add; split <;> simp_all
    refine ⟨b, off, rfl, fun j hj => ?_⟩
    obtain ⟨_, h1, h2, h3⟩ := hE j hj
    rw [add_add, hadd] at h1 h2 h3
    exact ⟨h1, h2, h3⟩
end Go.Proofs.YbulkbrtmFmt
