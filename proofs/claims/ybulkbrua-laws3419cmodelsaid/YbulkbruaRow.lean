import Derived.Test.YbulkbruaRows
import Derived.Test.YbulkbruaInv
import Derived.WalkKit
import Derived.ProofKit
import Derived.OpenShut
import Derived.ShutString
import Derived.ChangeMaps5
import Derived.ChangeOld
import Derived.Below
import Derived.SizedLaws
import Derived.Deep.Slices
import Derived.Deep.Strs
namespace Go.Proofs.Ybulkbrua
open Go.ChangeShapes Go.WideShapes Go.ChangeAt Go.RowKit Go.Deep
set_option linter.unusedVariables false
set_option linter.unusedSimpArgs false
attribute [local go_sem ↓] Go.wp_at_zero Go.wp_at_succ

theorem own : ownKnob Yba.prog.godebug = none := by kernel_rfl
theorem laidOut : laidOutB Yba.prog = true := by kernel_rfl
theorem bytes25 : Yba.prog.bytesOf 25 = 56 := by kernel_rfl
theorem cells25 : Yba.prog.cellsOf 25 = 3 := by kernel_rfl
theorem cells41 : Yba.prog.cellsOf 41 = 11 := by kernel_rfl
theorem cells39 : Yba.prog.cellsOf 39 = 3 := by kernel_rfl
theorem cells23 : Yba.prog.cellsOf 23 = 1 := by kernel_rfl
theorem cells9 : Yba.prog.cellsOf 9 = 1 := by kernel_rfl
theorem cells5 : Yba.prog.cellsOf 5 = 1 := by kernel_rfl
theorem cells4 : Yba.prog.cellsOf 4 = 1 := by kernel_rfl

set_option maxRecDepth 100000 in
set_option maxHeartbeats 1000000 in
theorem law3_big (w : World) (ao : Option Addr) (n cap : Nat) (a b : ByteArray) (s : Int) (h : 1024 < n) (hn : n ≤ 140737488351232) :
    Calls Yba.prog 3 #[.slice ao n cap, .string a, .string b, .int .u8 s] w fun e w' => e = .returned (.bool true) ∧ Below w.heap.size w w' := by
  go_enter Yba.func3, Yba.ntmps3
  go_wp2
  go_ret
  exact ⟨rfl, Below.refl _ _⟩

section
variable {H : Type} {enc : TypeId × Value → H} {w : World} {base : Nat} {spare : Nat → Bool} {held : Bool}

theorem arr39 {fuel : Nat} {cs : List Value} {x : DataW H × List MemPlace} (h : DataW.trod enc Yba.prog w base spare held fuel 39 cs = some x) :
    ∃ a b c : Int, cs = [.int .u8 a, .int .u8 b, .int .u8 c] ∧ (Lit.int .u8 a).wf = true ∧ (Lit.int .u8 b).wf = true ∧ (Lit.int .u8 c).wf = true := by
  obtain ⟨xs, m, _, _, hl, hx, hf⟩ := DataW.trod_array Yba.underlying39 h
  rw [cells39] at hl
  match cs, hl, xs, hx with
  | [c0, c1, c2], _, [y0, y1, y2], _ =>
    have h0 := hf 0 (by omega)
    have h1 := hf 1 (by omega)
    have h2 := hf 2 (by omega)
    rw [cells5] at h0 h1 h2
    obtain ⟨a, e0, _, w0⟩ := DataW.trod_int Yba.underlying5 h0
    obtain ⟨b, e1, _, w1⟩ := DataW.trod_int Yba.underlying5 h1
    obtain ⟨c, e2, _, w2⟩ := DataW.trod_int Yba.underlying5 h2
    simp at e0 e1 e2
    subst e0 e1 e2
    exact ⟨a, b, c, rfl, w0, w1, w2⟩

set_option maxRecDepth 100000 in
theorem el_of {fuel : Nat} {cs : List Value} {x : DataW H × List MemPlace} (h : DataW.trod enc Yba.prog w base spare held fuel 41 cs = some x) : ∃ e : El, cs = e.cells ∧ e.ok := by
  obtain ⟨xs, m, _, _, hl, hx, hf⟩ := DataW.trod_struct Yba.underlying41 h
  rw [cells41] at hl
  match cs, hl, xs, hx with
  | [c0, c1, c2, c3, c4, c5, c6, c7, c8, c9, c10], _, [y0, y1, y2, y3, y4, y5, y6], _ =>
    have h0 := hf 0 _ rfl
    have h1 := hf 1 _ rfl
    have h2 := hf 2 _ rfl
    have h3 := hf 3 _ rfl
    have h4 := hf 4 _ rfl
    have h5 := hf 5 _ rfl
    have h6 := hf 6 _ rfl
    obtain ⟨a0, e0, _, w0⟩ := DataW.trod_int Yba.underlying5 h0
    obtain ⟨b1, e1, _⟩ := DataW.trod_bool Yba.underlying4 h1
    obtain ⟨a2, a3, a4, e2, w2, w3, w4⟩ := arr39 h2
    obtain ⟨b5, e5, _⟩ := DataW.trod_bool Yba.underlying4 h3
    obtain ⟨a6, e6, _, w6⟩ := DataW.trod_int Yba.underlying5 h4
    obtain ⟨b7, e7, _⟩ := DataW.trod_bool Yba.underlying4 h5
    obtain ⟨a8, a9, a10, e8, w8, w9, w10⟩ := arr39 h6
    have q0 : [c0] = [Value.int .u8 a0] := e0
    have q1 : [c1] = [Value.bool b1] := e1
    have q2 : [c2, c3, c4] = [Value.int .u8 a2, .int .u8 a3, .int .u8 a4] := e2
    have q5 : [c5] = [Value.bool b5] := e5
    have q6 : [c6] = [Value.int .u8 a6] := e6
    have q7 : [c7] = [Value.bool b7] := e7
    have q8 : [c8, c9, c10] = [Value.int .u8 a8, .int .u8 a9, .int .u8 a10] := e8
    simp only [List.cons.injEq, and_true] at q0 q1 q2 q5 q6 q7 q8
    obtain ⟨rfl, rfl, rfl⟩ := q2
    obtain ⟨rfl, rfl, rfl⟩ := q8
    subst q0 q1 q5 q6 q7
    exact ⟨⟨a0, b1, a2, a3, a4, b5, a6, b7, a8, a9, a10⟩, rfl, w0, w2, w3, w4, w6, w8, w9, w10⟩
end

/-- A list of S-NSSAIs that came in, opened. -/
theorem rej_of {H : Type} {enc : TypeId × Value → H} {w : World} {fuel : Nat} {cs : List Value} {x : DataW H × List MemPlace} (h : DataW.trod enc Yba.prog w 0 (fun _ => true) true fuel 23 cs = some x) :
    ∃ (v : Value) (L : List El), cs = [v] ∧ RejAt w v L ∧ (∀ e ∈ L, e.ok) ∧ L.length ≤ maxLen := by
  rcases open_slice Yba.underlying23 h with ⟨rfl, _⟩ | ⟨a, l, c, m, fu, D, Pl, rfl, _, hl, hmx, hm, _, hcell⟩
  · exact ⟨_, [], rfl, .inl ⟨rfl, rfl⟩, by simp, by simp⟩
  · simp only [if_true] at hm
    subst hm
    rw [cells41] at hcell
    haveI : Inhabited El := ⟨⟨0, false, 0, 0, 0, false, 0, false, 0, 0, 0⟩⟩
    obtain ⟨f, hf⟩ := choose_lt (n := l) (p := fun t (e : El) => e.ok ∧ ∀ k, k < 11 → w.cell? ((a.add (t * 11)).add k) = e.cells[k]?) (fun t ht => by
      obtain ⟨cs', h1, h2⟩ := hcell t (by omega)
      obtain ⟨e, rfl, hok⟩ := el_of h2
      obtain ⟨_, _, h3⟩ := World.cells?_some h1
      exact ⟨e, hok, h3⟩)
    refine ⟨_, (List.range l).map f, rfl, .inr ⟨a, m, by simp, by simpa using hl, ?_⟩, ?_, by simp; omega⟩
    · intro j u hj
      have hjl : j < l * 11 := by
        have := (List.getElem?_eq_some_iff.1 hj).1
        rw [cellsL_len] at this
        simpa using this
      have ht : j / 11 < l := by omega
      have hk : j % 11 < 11 := by omega
      have e1 := cellsL_at ((List.range l).map f) (j / 11) (f (j / 11)) (by simp [ht]) (j % 11) hk
      rw [show j / 11 * 11 + j % 11 = j from by omega, hj] at e1
      have e2 := (hf (j / 11) ht).2 (j % 11) hk
      rw [add_add, show j / 11 * 11 + j % 11 = j from by omega, ← e1] at e2
      exact e2
    · intro e he
      simp at he
      obtain ⟨t, ht, rfl⟩ := he
      exact (hf t ht).1

/-- The entries, opened. -/
theorem at_entries {H : Type} {enc : TypeId × Value → H} {w : World} {v : Value} {d : DataW H} {p : List MemPlace} (h : DataW.Trod enc Yba.prog w 0 (fun _ => true) true 22 v d p) (ho : ∃ a n c, v = .slice a n c) :
    ∃ (ao : Option Addr) (n cap : Nat) (E : Nat → En), v = .slice ao n cap ∧ (n = 0 ∨ ∃ b off, ao = some ⟨b, off, none⟩ ∧ n ≤ cap ∧ ∀ j, j < n → w.cell? ⟨b, off + j * 3, none⟩ = some (.string (E j).mcc) ∧ w.cell? ⟨b, off + j * 3 + 1, none⟩ = some (.string (E j).mnc) ∧ w.cell? ⟨b, off + j * 3 + 2, none⟩ = some (E j).v) ∧
      (∀ j, j < n → RejAt w (E j).v (E j).L ∧ (∀ e ∈ (E j).L, e.ok) ∧ (E j).L.length ≤ maxLen) ∧ ((∃ es sp, d = .slice es sp ∧ n = es.length) ∨ n = 0) := by
  haveI : Inhabited En := ⟨⟨⟨#[]⟩, ⟨#[]⟩, .slice none 0 0, []⟩⟩
  obtain ⟨a, n, c, rfl⟩ := ho
  obtain ⟨fuel, hf⟩ := h
  rcases open_slice Yba.underlying22 hf with ⟨hcs, hx⟩ | ⟨x, l, c', m, fu, Dd, Pl, hcs, _, hl, hmx, hm, hx, hcell⟩
  · simp [Value.cells] at hcs
    obtain ⟨rfl, rfl, rfl⟩ := hcs
    exact ⟨none, 0, 0, fun _ => default, rfl, .inl rfl, fun j hj => by omega, .inr rfl⟩
  · simp [Value.cells] at hcs
    obtain ⟨rfl, rfl, rfl⟩ := hcs
    simp only [if_true] at hm
    subst hm
    rw [cells25] at hcell
    obtain ⟨E, hE⟩ := choose_lt (n := n) (p := fun t (e : En) => (RejAt w e.v e.L ∧ (∀ q ∈ e.L, q.ok) ∧ e.L.length ≤ maxLen) ∧ w.cell? ((x.add (t * 3)).add 0) = some (.string e.mcc) ∧ w.cell? ((x.add (t * 3)).add 1) = some (.string e.mnc) ∧ w.cell? ((x.add (t * 3)).add 2) = some e.v) (fun t ht => by
      obtain ⟨cs', h1, h2⟩ := hcell t (by omega)
      obtain ⟨y0, y1, y2, q, _, hlen, g0, g1, g2⟩ := trod_struct3 Yba.underlying25 h2
      rw [cells25] at hlen
      obtain ⟨_, _, h3⟩ := World.cells?_some h1
      match cs', hlen with
      | [c0, c1, c2], _ =>
        obtain ⟨s0, e0, _, _⟩ := DataW.trod_string Yba.underlying9 g0
        obtain ⟨s1, e1, _, _⟩ := DataW.trod_string Yba.underlying9 g1
        obtain ⟨v, L, e2, hr, hok, hlm⟩ := rej_of g2
        have q0 : [c0] = [Value.string s0] := e0
        have q1 : [c1] = [Value.string s1] := e1
        have q2 : [c2] = [v] := e2
        simp only [List.cons.injEq, and_true] at q0 q1 q2
        subst q0 q1 q2
        exact ⟨⟨s0, s1, c2, L⟩, ⟨hr, hok, hlm⟩, h3 0 (by omega), h3 1 (by omega), h3 2 (by omega)⟩)
    refine ⟨some x, n, m, E, rfl, ?_, fun j hj => (hE j hj).1, .inl ⟨_, _, (Prod.mk.inj hx).1, by simp⟩⟩
    by_cases h0 : n = 0
    · exact .inl h0
    right
    have hsp : x.spot = none := by
      have := World.cell?_spot (hE 0 (by omega)).2.1
      simpa [Addr.add] using this
    obtain ⟨b, off, spot⟩ := x
    simp at hsp
    subst hsp
    have hadd : ∀ j, (⟨b, off, none⟩ : Addr).add j = ⟨b, off + j, none⟩ := by intro j; unfold Addr.add; split <;> simp_all
    refine ⟨b, off, rfl, hl, fun j hj => ?_⟩
    obtain ⟨_, h1, h2, h3⟩ := hE j hj
    rw [add_add, hadd] at h1 h2 h3
    exact ⟨h1, h2, h3⟩
end Go.Proofs.Ybulkbrua
