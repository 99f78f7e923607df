import Derived.Test.YbulkbrtmFmtCards
import Derived.Test.YbulkbrtmFmtIds
import Derived.WalkKit
import Derived.ProofKit
import Derived.OpenShut
import Derived.ShutString
import Derived.ChangeMaps5
import Derived.ChangeOld
import Derived.Below
import Derived.SizedLaws
import Derived.Deep.Slices
import Derived.Deep.Strs
namespace Go.Proofs.YbulkbrtmFmt
open Go.ChangeShapes Go.WideShapes Go.ChangeAt Go.RowKit Go.Deep
set_option linter.unusedVariables false
set_option linter.unusedSimpArgs false

theorem own : ownKnob Ybaf.prog.godebug = none := by kernel_rfl
theorem laidOut : laidOutB Ybaf.prog = true := by kernel_rfl
theorem bytes26 : Ybaf.prog.bytesOf 26 = 8 := by kernel_rfl
theorem cells26 : Ybaf.prog.cellsOf 26 = 1 := by kernel_rfl

/-- The numbers that came in, opened. -/
theorem at_ints {H : Type} {enc : TypeId × Value → H} {w : World} {v : Value} {d : DataW H} {p : List MemPlace} (h : DataW.Trod enc Ybaf.prog w 0 (fun _ => true) true 22 v d p) (ho : ∃ a n c, v = .slice a n c) :
    ∃ (L : List Int) (ao : Option Addr) (cap : Nat), v = .slice ao L.length cap ∧ Ints w v L ∧ (∀ x ∈ L, (Lit.int .u64 x).wf = true) ∧ ((∃ es sp, d = .slice es sp ∧ L.length = es.length) ∨ L.length = 0) := by
  obtain ⟨a, n, c, rfl⟩ := ho
  obtain ⟨fuel, hf⟩ := h
  rcases open_slice Ybaf.underlying22 hf with ⟨hcs, hx⟩ | ⟨x, l, c', m, fu, Dd, Pl, hcs, _, hl, hmx, hm, hx, hcell⟩
  · simp [Value.cells] at hcs
    obtain ⟨rfl, rfl, rfl⟩ := hcs
    exact ⟨[], none, 0, rfl, .inl ⟨rfl, rfl⟩, by simp, .inr rfl⟩
  · simp [Value.cells] at hcs
    obtain ⟨rfl, rfl, rfl⟩ := hcs
    simp only [if_true] at hm
    subst hm
    rw [cells26] at hcell
    obtain ⟨E, hE⟩ := choose_lt (n := n) (p := fun t (e : Int) => (Lit.int .u64 e).wf = true ∧ w.cell? (x.add t) = some (.int .u64 e)) (fun t ht => by
      obtain ⟨cs', h1, h2⟩ := hcell t (by omega)
      obtain ⟨z, e0, _, wz⟩ := DataW.trod_int Ybaf.underlying26 h2
      subst e0
      obtain ⟨_, _, h3⟩ := World.cells?_some h1
      have := h3 0 (by omega)
      rw [Nat.mul_one, add_add, Nat.add_zero] at this
      exact ⟨z, wz, this⟩)
    refine ⟨(List.range n).map E, some x, m, by simp, .inr ⟨x, m, by simp, by simpa using hl, ?_⟩, ?_, .inl ⟨_, _, (Prod.mk.inj hx).1, by simp⟩⟩
    · intro j u hj
      have hjn : j < n := by have := (List.getElem?_eq_some_iff.1 hj).1; simpa using this
      simp [hjn] at hj
      rw [← hj]
      exact (hE j hjn).2
    · intro e he
      simp at he
      obtain ⟨t, ht, rfl⟩ := he
      exact (hE t ht).1
end Go.Proofs.YbulkbrtmFmt
