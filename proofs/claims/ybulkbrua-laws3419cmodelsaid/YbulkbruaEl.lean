import Derived.Test.YbulkbruaMem
import Derived.Test.YbulkbruaChecked
import Derived.WalkKit
import Derived.WalkSmall
import Derived.Deep.DrawnRows
import Derived.Deep.RegionHeld3
import Derived.Laws.CopyOwn
import Derived.Laws.MakeOwn
import Derived.Deep.OwnRows
import Derived.RangeFuncBox
namespace Go.Proofs.Ybulkbrua
open Go.RowKit Go.Deep
set_option linter.unusedVariables false
set_option linter.unusedSimpArgs false
attribute [local go_sem ↓] Go.wp_at_zero Go.wp_at_succ

/-- One S-NSSAI. -/
structure El where
  x0 : Int
  h1 : Bool
  s0 : Int
  s1 : Int
  s2 : Int
  h2 : Bool
  x1 : Int
  h3 : Bool
  t0 : Int
  t1 : Int
  t2 : Int


def El.cells (e : El) : List Value := [.int .u8 e.x0, .bool e.h1, .int .u8 e.s0, .int .u8 e.s1, .int .u8 e.s2, .bool e.h2, .int .u8 e.x1, .bool e.h3, .int .u8 e.t0, .int .u8 e.t1, .int .u8 e.t2]
def cellsL (L : List El) : List Value := L.flatMap El.cells

theorem cellsL_len (L : List El) : (cellsL L).length = L.length * 11 := by
  induction L with
  | nil => rfl
  | cons e L ih => simp [cellsL, El.cells] at ih ⊢; omega

theorem cellsL_one (L : List El) : ∀ u ∈ cellsL L, u.oneCell' = true := by
  intro u hu
  simp only [cellsL, List.mem_flatMap] at hu
  obtain ⟨e, _, he⟩ := hu
  simp [El.cells] at he
  rcases he with rfl | rfl | rfl | rfl | rfl | rfl | rfl | rfl | rfl | rfl | rfl <;> rfl

theorem cellsL_at (L : List El) (t : Nat) (e : El) (h : L[t]? = some e) (k : Nat) (hk : k < 11) : (cellsL L)[t * 11 + k]? = e.cells[k]? := by
  induction L generalizing t with
  | nil => simp at h
  | cons a L ih =>
    have hl : a.cells.length = 11 := rfl
    cases t with
    | zero =>
      simp at h
      subst h
      simp only [cellsL, List.flatMap_cons]
      rw [List.getElem?_append_left (by omega)]
      simp
    | succ t =>
      simp at h
      have := ih t h
      simp only [cellsL, List.flatMap_cons] at this ⊢
      rw [List.getElem?_append_right (by omega), hl, show (t + 1) * 11 + k - 11 = t * 11 + k from by omega]
      exact this

/-- A list of S-NSSAIs that came in. -/
def RejAt (w : World) (v : Value) (L : List El) : Prop :=
  (v = .slice none 0 0 ∧ L = []) ∨ ∃ a cap, v = .slice (some a) L.length cap ∧ L.length ≤ cap ∧ ∀ j u, (cellsL L)[j]? = some u → w.cell? (a.add j) = some u

/-- Its copy. -/
def CopyAt (w : World) (B : Nat) (v v' : Value) (L : List El) : Prop :=
  (v = .slice none 0 0 ∧ v' = .slice none 0 0 ∧ L = []) ∨ ∃ a cap c, v = .slice (some a) L.length cap ∧ v' = .slice (some ⟨c, 0, none⟩) L.length L.length ∧ Blk w c 41 (cellsL L).toArray ∧ B ≤ c

theorem Yba.info41 : (Yba.prog.info? 41).map (fun i => (i.zero.map Value.cells, i.size, i.bytes)) = some (some #[.int .u8 0, .bool false, .int .u8 0, .int .u8 0, .int .u8 0, .bool false, .int .u8 0, .bool false, .int .u8 0, .int .u8 0, .int .u8 0], 11, 11) := by kernel_rfl

theorem i41 : ∃ i z, Yba.prog.info? 41 = some i ∧ i.zero = some z ∧ i.size = 11 ∧ i.bytes = 11 ∧ z.cells.size = 11 := by
  have h := Yba.info41
  cases hi : Yba.prog.info? 41 with
  | none => rw [hi] at h; simp at h
  | some i =>
    rw [hi] at h
    simp at h
    obtain ⟨h1, h2, h3⟩ := h
    obtain ⟨z, hz, hc⟩ := h1
    exact ⟨i, z, rfl, hz, h2, h3, by rw [hc]; rfl⟩

theorem run_copy_wide {P : Program} (w : World) (dT sT ty elem : TypeId) (i : TypeInfo) (g n dCap : Nat) (a : Addr) (sCap : Nat) (cur : Array Value) (t : TypeId) (cs : List Value)
    (hu : P.underlying dT = some (.slice elem)) (hi : P.info? elem = some i) (hg : w.heap[g]? = some (.cells cur t (0, 0))) (hn : cs.length = n * i.size)
    (hsrc : ∀ j v, cs[j]? = some v → w.cell? (a.add j) = some v) (hfit : cur.size = cs.length) (h1 : ∀ v ∈ cs, v.oneCell' = true) :
    (Builtin.copy_ #[dT, sT] ty #[.slice (some ⟨g, 0, none⟩) n dCap, .slice (some a) n sCap]).run P w = .ok (goInt n) (w.setRow g cs.toArray) := by
  have hf := run_firstCells_some (P := P) w i.size n a n sCap cs hn hsrc
  have hst := run_storeCells_at P g 0 t cs 0 cur w hg (by omega) h1
  have e : cur.toList.drop (0 + 0 + cs.length) = [] := List.drop_eq_nil_of_le (by simp; omega)
  rw [e] at hst
  simp at hst
  simp [Builtin.copy_, run_underlying hu, Builtin.lenOf, sizeOf, typeInfo, hi, hf, hst]

theorem nil_eq (w : World) : (binOp .eql 23 (.slice none 0 0) (.slice none 0 0)).run Yba.prog w = .ok (.bool true) w := by kernel_rfl
theorem some_eq (w : World) (a : Addr) (n c : Nat) : (binOp .eql 23 (.slice (some a) n c) (.slice none 0 0)).run Yba.prog w = .ok (.bool false) w := by kernel_rfl

set_option maxRecDepth 100000 in
set_option maxHeartbeats 1000000 in
theorem clone4 (w : World) (v : Value) (L : List El) (hv : RejAt w v L) (hl : L.length ≤ 1024) :
    Calls Yba.prog 4 #[v] w fun e w' => ∃ v', e = .returned v' ∧ CopyAt w' w.heap.size v v' L ∧ Keeps (fun _ => False) w w' := by
  have hne := nil_eq
  have hse := some_eq
  rcases hv with ⟨rfl, rfl⟩ | ⟨a, cap, rfl, hcap, hc⟩
  · go_enter Yba.func4, Yba.ntmps4
    go_wp2
    go_ret
    exact ⟨_, rfl, .inl ⟨rfl, rfl, rfl⟩, Keeps.refl _ _⟩
  · obtain ⟨i, z, hi, hz, hs, hb, hzs⟩ := i41
    obtain ⟨n, hn⟩ : ∃ n, n = L.length := ⟨_, rfl⟩
    have hmk := fun w => run_make (P := Yba.prog) w 23 41 i z Yba.underlying23 hi hz .i64 .i64 (n : Int) (n : Int) (by omega) (by omega) (by rw [hb]; omega) (by omega)
    simp only [hs, Int.toNat_natCast] at hmk
    obtain ⟨M, hM⟩ : ∃ M, M = madeCells z.cells (n * 11) := ⟨_, rfl⟩
    have hMs : M.size = n * 11 := by rw [hM, size_madeCells]
    rw [← hM] at hmk
    clear hM
    obtain ⟨w1, hw1⟩ : ∃ w1, w1 = w.alloc (.cells M 41) := ⟨_, rfl⟩
    have hb1 : Blk w1 w.heap.size 41 M := by rw [hw1]; exact Blk.new _ _ _
    have k1 : Keeps (fun _ => False) w w1 := by rw [hw1]; exact (Keeps.refl _ w).alloc _
    have hcp := run_copy_wide (P := Yba.prog) w1 23 23 3 41 i w.heap.size n n a cap _ 41 (cellsL L) Yba.underlying23 hi hb1 (by rw [hs, cellsL_len, hn]) (fun j u hj => by
      have h := hc j u hj
      rw [← h]
      exact World.cell?_of_block (k1.block _ (block_lt_of_cell h) (by simp))) (by rw [hMs, cellsL_len, hn]) (cellsL_one L)
    rw [hw1] at hcp
    obtain ⟨w2, hw2⟩ : ∃ w2, w2 = (w.alloc (.cells M 41)).setRow w.heap.size (cellsL L).toArray := ⟨_, rfl⟩
    have hb2 : Blk w2 w.heap.size 41 (cellsL L).toArray := by rw [hw2, ← hw1]; exact setRow_heap w1 _ _ _ 41 _ hb1
    have k2 : Keeps (fun _ => False) w w2 := by
      rw [hw2, ← hw1]
      exact ⟨k1.os, k1.tape, k1.output, by simpa using k1.size, fun b hb hs => (setRow_other w1 _ b _ (by omega)).trans (k1.block b hb hs)⟩
    rw [← hw2] at hcp
    have HB : Hid (Blk w2 w.heap.size 41 (cellsL L).toArray ∧ Keeps (fun _ => False) w w2 ∧ n = L.length) := ⟨hb2, k2, hn⟩
    rw [← hn]
    clear hb2 k2 hw2 hb1 k1 hw1 hc hn hl hcap hz hzs
    go_enter Yba.func4, Yba.ntmps4
    go_wp2_with fail
    go_ret
    obtain ⟨h1, h2, h3⟩ := HB.out
    subst h3
    exact ⟨_, rfl, .inr ⟨a, cap, w.heap.size, rfl, rfl, h1, Nat.le_refl _⟩, h2⟩
end Go.Proofs.Ybulkbrua
