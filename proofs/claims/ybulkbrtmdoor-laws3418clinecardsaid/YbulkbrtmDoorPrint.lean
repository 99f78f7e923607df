import Derived.Test.YbulkbrtmDoorPos
namespace Go.Proofs.YbulkbrtmDoor
open Go.RowKit Go.Deep Go.Lib
set_option linter.unusedVariables false
set_option linter.unusedSimpArgs false
attribute [local go_sem ↓] Go.wp_at_zero Go.wp_at_succ

def zero34 : Array Value := #[.int .u8 0, .int .u8 0, .int .u8 0, .int .u8 0, .int .u8 0, .int .u8 0, .int .u8 0, .int .u8 0, .int .u8 0, .int .u8 0, .int .u8 0, .int .u8 0, .int .u8 0, .int .u8 0, .int .u8 0, .int .u8 0, .int .u8 0, .int .u8 0, .int .u8 0, .int .u8 0, .int .u8 0, .int .u8 0, .int .u8 0, .int .u8 0, .int .u8 0, .int .u8 0, .int .u8 0, .int .u8 0, .int .u8 0, .int .u8 0, .int .u8 0, .int .u8 0, .int .u8 0, .int .u8 0]

theorem buf34 (w : World) : Buf (w.alloc (.cells zero34 60)) w.heap.size 60 (.slice (some ⟨w.heap.size, 0, none⟩) 0 34) [] 34 := by
  refine ⟨⟨by simp [byteCells], .inr ⟨w.heap.size, 34, zero34, rfl, Nat.le_refl _, heap_alloc_new w _, Nat.zero_le _, by simp [maxLen], rfl, rfl⟩⟩, .inr ⟨_, _, rfl, by simp⟩⟩

theorem Blk.keepsFr {w w' : World} {B b : Nat} {T t : TypeId} {v v' : Value} {cs : Array Value} (h : Blk w b t cs) (k : Fr B T w v w' v') (hb : b < B) : Blk w' b t cs := h.of_block (k.1.block b hb)

theorem lit_kept {W w2 : World} {B g n c : Nat} {v2 : Value} (k : Fr B 60 (W.alloc (.cells #[.int .u8 10] 5)).drew (.slice (some ⟨g, 0, none⟩) n c) w2 v2) (hg : g < W.heap.size) (N : Nat) (hN : N = W.heap.size) :
    ∀ j u, (byteCells [10])[j]? = some u → w2.cell? ((⟨N, 0, none⟩ : Addr).add j) = some u := by
  subst hN
  intro j u hj
  have hb : Blk (W.alloc (.cells #[.int .u8 10] 5)).drew W.heap.size 5 #[.int .u8 10] := (Blk.new _ _ _ : Blk (W.alloc (.cells #[.int .u8 10] 5)) W.heap.size 5 #[.int .u8 10])
  have h2 := hb.keeps (k.2 (by decide)).2 (by simp [Value.ownBlock]; omega)
  have e : (⟨W.heap.size, 0, none⟩ : Addr).add j = ⟨W.heap.size, j, none⟩ := by unfold Addr.add; split <;> simp_all
  rw [e, h2.cell j, ← hj]
  simp [byteCells]

set_option maxRecDepth 100000 in
set_option maxHeartbeats 8000000 in
theorem pm8 (w : World) (Wb id : Nat) (hid : id < 18446744073709551616) (hw : Blk w Wb 41 #[.slice none 0 0]) :
    Calls Ybad.prog 8 #[.iface 38 (.pointer (some ⟨Wb, 0, none⟩)), .int .u64 id] w fun e w' => e = .returned .nilIface ∧ ∃ c k cap, Blk w' Wb 41 #[.slice (some ⟨k, 0, none⟩) 1 cap] ∧ w'.cell? ⟨k, 0, none⟩ = some (.slice (some ⟨c, 0, none⟩) 34 34) ∧ Blk w' c 5 (byteCells (mark id ++ [10])).toArray ∧ 1 ≤ cap ∧ Keeps (fun b => b = Wb) w w' := by
  have hb0 := buf34 w
  have hna : ∀ w, (nilAhead 197 38 (.pointer (some ⟨Wb, 0, none⟩)) "Write").run Ybad.prog w = .ok (some false) w := fun w => by kernel_rfl
  have hme : ∀ w, (method 197 38 (.pointer (some ⟨Wb, 0, none⟩)) "Write").run Ybad.prog w = .ok (42, .pointer (some ⟨Wb, 0, none⟩)) w := fun w => by kernel_rfl
  have hlm : (mark id ++ [10]).length = 34 := by simp [mark_len]
  obtain ⟨W0, hW0⟩ : ∃ W0, W0 = w.alloc (.cells zero34 60) := ⟨_, rfl⟩
  have kW0 : Keeps (fun _ => False) w W0 := by rw [hW0]; exact (Keeps.refl _ w).alloc _
  have sW0 : W0.heap.size = w.heap.size + 1 := by rw [hW0]; simp
  rw [← hW0] at hb0
  unfold zero34 at hW0
  have HW0 : Hid _ := hW0
  clear hW0
  have kb0 : Below w.heap.size w W0 := kW0.below (Nat.le_refl _) (by simp)
  have hwl := hw.lt
  have hw0 := hw.keeps kW0 (by simp)
  obtain ⟨B, hB⟩ : ∃ B, B = w.heap.size := ⟨_, rfl⟩
  rw [← hB] at hb0 sW0 hwl kb0
  have HB : Hid (B = w.heap.size) := hB
  go_enter Ybad.func8, Ybad.ntmps8
  go_wp2_with fail
  rw [← HW0.out, ← hB]
  clear hB
  go_region_held3 (fun w' => True) (trivial)
    (first
      | (go_at_call 42; refine (write42 _ B Wb 60 _ (mark id ++ [10]) 0 b3 (by omega) (by omega) (by first | exact (((hw0.drewN 1).keepsFr k2 hwl).alloc _).keepsFr k3 hwl | exact (Blk.keepsFr (w := (W0.alloc _).drew) (hw0.alloc _) k2 hwl).keepsFr k3 hwl) hwl (by have h2 := k2.1.size; have h3 := k3.1.size; simp at h2 h3; omega)).mono ?_; rintro e w4 ⟨rfl, c, k, cap, e1, e2, e3, e4, e5⟩)
      | (go_at_call 12; refine (marker12 _ B 60 _ [] 1 id ?_ (by simp) ?_ hid).mono ?_; (repeat (first | exact hb0 | apply Buf.drew | apply Buf.drewN | apply Buf.alloc)); (simp; omega); rintro e w2 ⟨v2, rfl, b2, k2⟩)
      | (refine step_buf_app (r := 0) (by rfl) _ _ (by rfl) _ 1 _ [10] (by rfl) (by rfl) ((b2.alloc _).less (by omega)) (by rfl) (cells_new _ _ _ _ rfl) (by simp [mark_len]) (by have := k2.1.size; simp at this ⊢; omega) ?_; intro v3 w3 b3 k3)
      | (refine step_buf_app (r := 0) (by rfl) _ _ (by rfl) _ 1 _ [10] (by rfl) (by rfl) (b2.less (by omega)) (by rfl) (lit_kept k2 (by omega) _ (by first | rfl | omega)) (by simp [mark_len]) (by have := k2.1.size; simp at this ⊢; omega) ?_; intro v3 w3 b3 k3))
  all_goals
    have hbel : Below B w w3 := by
      first
        | exact (Below.trans kb0.drew (k2.1.alloc (by have hq := k2.1.size; simp at hq; omega) _)).trans k3.1
        | exact (Below.trans (kb0.alloc (by omega) _).drew k2.1).trans k3.1
    have HBEL : Hid (Below B w w3 ∧ Keeps (fun b => b = Wb) w3 w4 ∧ Blk w4 Wb 41 #[.slice (some ⟨k, 0, none⟩) 1 cap] ∧ w4.cell? ⟨k, 0, none⟩ = some (.slice (some ⟨c, 0, none⟩) 34 34) ∧ Blk w4 c 5 (byteCells (mark id ++ [10])).toArray ∧ 1 ≤ cap) := ⟨hbel, e5, e1, by rw [e2, hlm], e3, e4⟩
    clear hbel e1 e2 e3 e4 e5 k2 k3 b2 b3 hb0 kb0 kW0 hw0 hw
    go_wp2_with fail
    go_ret
    obtain ⟨f1, f2, f3, f4, f5, f6⟩ := HBEL.out
    rw [HB.out] at f1
    refine ⟨rfl, c, k, cap, f3, f4, f5, f6, ?_⟩
    have g1 : Keeps (fun b => b = Wb) w w3 := ⟨f1.os, f1.tape, f1.output, f1.size, fun b hb _ => f1.block b hb⟩
    exact g1.trans f2
end Go.Proofs.YbulkbrtmDoor
