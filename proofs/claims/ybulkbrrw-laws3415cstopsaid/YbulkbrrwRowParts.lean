import Derived.Test.YbulkbrrwRows
import Derived.Test.YbulkbrrwLaw4
import Derived.WalkKit
import Derived.ProofKit
import Derived.OpenShut
import Derived.ShutString
import Derived.ChangeOld
import Derived.Below
import Derived.SizedLaws
import Derived.Deep.Slices
import Derived.Deep.Grids
namespace Go.Proofs.Ybulkbrrw
open Go.ChangeShapes Go.WideShapes Go.ChangeAt Go.RowKit Go.Deep
set_option linter.unusedVariables false
set_option linter.unusedSimpArgs false

theorem own : ownKnob Yba.prog.godebug = none := by kernel_rfl
theorem laidOut : laidOutB Yba.prog = true := by kernel_rfl
theorem bytes106 : Yba.prog.bytesOf 106 = 2 := by kernel_rfl
theorem bytes4 : Yba.prog.bytesOf 4 = 1 := by kernel_rfl

theorem addr_at {w : World} {x : Addr} {i : Nat} {v : Value} (h : w.cell? (x.add i) = some v) (hi : 0 < i ∨ x.spot = none) : w.cell? ⟨x.block, x.off + i, none⟩ = some v := by
  have := World.cell?_spot h
  obtain ⟨b, off, spot⟩ := x
  by_cases h0 : i = 0
  · subst h0
    simp at hi
    subst hi
    simpa [Addr.add] using h
  · simpa [Addr.add, h0] using h

theorem at_keys {H : Type} {enc : TypeId × Value → H} {w : World} {v : Value} {d : DataW H} {p : List MemPlace} (h : DataW.Trod enc Yba.prog w 0 (fun _ => true) true 92 v d p)
    (ho : ∃ a n c, v = .slice a n c) :
    ∃ (n : Nat) (K : Nat → Nat), SlAt w w.heap.size v n (fun t => .int .u16 ((K t : Nat) : Int)) ∧ (∀ t, K t ≤ 65535) ∧ ((∃ es sp, d = .slice es sp ∧ n = es.length) ∨ n = 0) := by
  obtain ⟨a, n, c, rfl⟩ := ho
  obtain ⟨fuel, hf⟩ := h
  rcases open_ints Yba.underlying92 Yba.underlying106 (by kernel_rfl) hf with ⟨hcs, hx⟩ | ⟨x, l, c', zs, hcs, _, hl, hm, hz, hx, hcell, hwz⟩
  · simp [Value.cells] at hcs
    obtain ⟨rfl, rfl, rfl⟩ := hcs
    exact ⟨0, fun _ => 0, ⟨none, 0, rfl, Nat.le_refl _, fun t ht => absurd ht (Nat.not_lt_zero _)⟩, fun _ => by simp, .inr rfl⟩
  · simp [Value.cells] at hcs
    obtain ⟨rfl, rfl, rfl⟩ := hcs
    simp at hz
    have hz0 : ∀ t, t < zs.length → 0 ≤ zs.getD t 0 ∧ zs.getD t 0 ≤ 65535 := fun t ht => by
      have := hwz (zs.getD t 0) (by simp [List.getD, List.getElem?_eq_getElem ht])
      exact bounds_u16 this
    refine ⟨n, fun t => (zs.getD t 0).toNat, ⟨some x, c, rfl, hl, fun t ht => ?_⟩, fun t => ?_, .inl ⟨_, _, (Prod.mk.inj hx).1, by simp [lits]; omega⟩⟩
    · have hsp : x.spot = none := by
        have := World.cell?_spot (hcell 0 (by omega))
        simpa [Addr.add] using this
      have h1 := addr_at (hcell t (by omega)) (.inr hsp)
      obtain ⟨b, off, spot⟩ := x
      simp at hsp
      subst hsp
      refine ⟨b, off, rfl, block_lt_of_cell h1, ?_⟩
      rw [h1]
      have := (hz0 t (by omega)).1
      simp only [Option.some.injEq, Value.int.injEq, true_and]
      omega
    · by_cases ht : t < zs.length
      · have := hz0 t ht
        show (zs.getD t 0).toNat ≤ 65535
        omega
      · simp [List.getD, List.getElem?_eq_none (Nat.le_of_not_lt ht)]

theorem at_bools {H : Type} {enc : TypeId × Value → H} {w : World} {v : Value} {d : DataW H} {p : List MemPlace} (h : DataW.Trod enc Yba.prog w 0 (fun _ => true) true 93 v d p)
    (ho : ∃ a n c, v = .slice a n c) :
    ∃ (hs : List Bool), SlAt w w.heap.size v hs.length (fun t => .bool (hs.getD t false)) ∧ ((∃ es sp, d = .slice es sp ∧ hs.length = es.length) ∨ hs.length = 0) := by
  obtain ⟨a, n, c, rfl⟩ := ho
  obtain ⟨fuel, hf⟩ := h
  rcases open_bools Yba.underlying93 Yba.underlying4 (by kernel_rfl) hf with ⟨hcs, hx⟩ | ⟨x, l, c', B, hcs, _, hl, hm, hx, hcell⟩
  · simp [Value.cells] at hcs
    obtain ⟨rfl, rfl, rfl⟩ := hcs
    exact ⟨[], ⟨none, 0, rfl, Nat.le_refl _, fun t ht => absurd ht (Nat.not_lt_zero _)⟩, .inr rfl⟩
  · simp [Value.cells] at hcs
    obtain ⟨rfl, rfl, rfl⟩ := hcs
    refine ⟨(List.range n).map B, ⟨some x, c, by simp, by simpa using hl, fun t ht => ?_⟩, .inl ⟨_, _, (Prod.mk.inj hx).1, by simp [boolRow]⟩⟩
    simp at ht
    have hsp : x.spot = none := by
      have := World.cell?_spot (hcell 0 (by omega))
      simpa [Addr.add] using this
    have h1 := addr_at (hcell t (by omega)) (.inr hsp)
    obtain ⟨b, off, spot⟩ := x
    simp at hsp
    subst hsp
    refine ⟨b, off, rfl, block_lt_of_cell h1, ?_⟩
    rw [h1]
    simp [List.getD, ht]
end Go.Proofs.Ybulkbrrw
