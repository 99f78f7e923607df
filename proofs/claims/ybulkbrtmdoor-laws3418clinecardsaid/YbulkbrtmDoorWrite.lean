import Derived.Test.YbulkbrtmDoorDec
namespace Go.Proofs.YbulkbrtmDoor
open Go.RowKit Go.Deep Go.Lib
set_option linter.unusedVariables false
set_option linter.unusedSimpArgs false
attribute [local go_sem ↓] Go.wp_at_zero Go.wp_at_succ

set_option maxRecDepth 100000 in
set_option maxHeartbeats 1000000 in
theorem write42 (w : World) (B Wb : Nat) (T : TypeId) (v : Value) (bs : List UInt8) (r : Nat) (h : Buf w B T v bs r) (hp : 0 < bs.length) (hl : bs.length ≤ 100000) (hw : Blk w Wb 41 #[.slice none 0 0]) (hB : Wb < B) (hBs : B ≤ w.heap.size) :
    Calls Ybad.prog 42 #[.pointer (some ⟨Wb, 0, none⟩), v] w fun e w' => e = .returned (.tuple #[.int .i64 bs.length, .nilIface]) ∧ ∃ c k cap, Blk w' Wb 41 #[.slice (some ⟨k, 0, none⟩) 1 cap] ∧ w'.cell? ⟨k, 0, none⟩ = some (.slice (some ⟨c, 0, none⟩) bs.length bs.length) ∧ Blk w' c 5 (byteCells bs).toArray ∧ 1 ≤ cap ∧ Keeps (fun b => b = Wb) w w' := by
  obtain ⟨g, cap, cur, rfl, hg, hbl, htake, hcap, hcs⟩ := h.cells hp
  obtain ⟨n, hn⟩ : ∃ n, n = bs.length := ⟨_, rfl⟩
  rw [← hn] at hp hl htake hcap ⊢
  have hmk := run_make_row' (P := Ybad.prog) 45 5 (.int .u8 0) 1 Ybad.underlying45 Ybad.info5 rfl .i64 .i64 n (by omega) (by omega)
  obtain ⟨w1, hw1⟩ : ∃ w1, w1 = w.alloc (.cells (madeCells #[.int .u8 0] n) 5) := ⟨_, rfl⟩
  have hb1 : Blk w1 w.heap.size 5 (madeCells #[.int .u8 0] n) := by rw [hw1]; exact Blk.new _ _ _
  have hbl1 : Blk w1 g T cur := by rw [hw1]; exact hbl.alloc _
  have hcp := run_copy_row (P := Ybad.prog) w1 45 45 3 5 w.heap.size 0 n n ⟨g, 0, none⟩ n cap (madeCells #[.int .u8 0] n) 5 (byteCells bs) Ybad.underlying45 (by kernel_rfl) hb1 (by simp [byteCells_length, hn]) (by
      intro j u hj
      have e : (⟨g, 0, none⟩ : Addr).add j = ⟨g, j, none⟩ := by unfold Addr.add; split <;> simp_all
      rw [e, hbl1.cell j, ← hj, ← htake]
      have hjn : j < n := by
        have := (List.getElem?_eq_some_iff.1 hj).1
        simpa [byteCells_length, hn] using this
      rw [List.getElem?_take_of_lt hjn]
      simp) (by simp [byteCells_length, madeCells, hn]) (bc_one bs)
  obtain ⟨w2, hcp2, hb2, hk2⟩ : ∃ w2, (Builtin.copy_ #[45, 45] 3 #[Value.slice (some ⟨w.heap.size, 0, none⟩) n n, .slice (some ⟨g, 0, none⟩) n cap]).run Ybad.prog w1 = .ok (.int .i64 n) w2 ∧ Blk w2 w.heap.size 5 (byteCells bs).toArray ∧ Keeps (fun b => b = w.heap.size) w1 w2 := by
    refine ⟨w1.setRow w.heap.size (List.take 0 (madeCells #[Value.int IntKind.u8 0] n).toList ++ byteCells bs ++ List.drop (0 + (byteCells bs).length) (madeCells #[Value.int IntKind.u8 0] n).toList).toArray, by rw [hcp, show (goInt ((byteCells bs).length : Int)) = Value.int .i64 n from by rw [byteCells_length, ← hn]; rfl], ?_, ⟨rfl, rfl, rfl, by simp, fun b hb hs => setRow_other w1 _ b _ hs⟩⟩
    have := setRow_heap w1 w.heap.size (madeCells #[.int .u8 0] n) (List.take 0 (madeCells #[Value.int IntKind.u8 0] n).toList ++ byteCells bs ++ List.drop (0 + (byteCells bs).length) (madeCells #[Value.int IntKind.u8 0] n).toList).toArray 5 _ hb1
    rw [show List.take 0 (madeCells #[Value.int IntKind.u8 0] n).toList ++ byteCells bs ++ List.drop (0 + (byteCells bs).length) (madeCells #[Value.int IntKind.u8 0] n).toList = byteCells bs from by
      rw [List.drop_eq_nil_of_le (by simp [byteCells_length, madeCells, hn])]; simp] at this ⊢
    exact this
  have hk02 : Keeps (fun _ => False) w w2 := by
    have h01 : Keeps (fun _ => False) w w1 := by rw [hw1]; exact (Keeps.refl _ w).alloc _
    exact ⟨hk2.os.trans h01.os, hk2.tape.trans h01.tape, hk2.output.trans h01.output, Nat.le_trans h01.size hk2.size, fun b hb hs => (hk2.block b (Nat.lt_of_lt_of_le hb h01.size) (by omega)).trans (h01.block b hb hs)⟩
  have hw2 := hw.keeps hk02 (by simp)
  have c2 : w2.cell? ⟨Wb, 0, none⟩ = some (.slice none 0 0) := hw2.cell 0
  obtain ⟨i0, hi0, hz0, hz1, hz2⟩ := info_parts Ybad.info45
  obtain ⟨w3, hw3⟩ : ∃ w3, w3 = w2.alloc (.cells #[.slice (some ⟨w.heap.size, 0, none⟩) n n] 45) := ⟨_, rfl⟩
  obtain ⟨v4, w4, hap, ho4, hg4, _⟩ := run_append_own (P := Ybad.prog) w3 w2.heap.size 39 39 45 i0 (.slice none 0 0) 1 24 Ybad.underlying39 hi0 hz0 hz1 hz2 rfl (by omega) (.slice none 0 0) 0 [] (World.ownsRow_nil _ _ _ _) ⟨w2.heap.size, 0, none⟩ 1 1 [.slice (some ⟨w.heap.size, 0, none⟩) n n] rfl (by rw [hw3]; exact cell_one_new' _ _ _ _ rfl) (by intro u hu; simp at hu; subst hu; rfl) (by simp [maxLen]) (by omega) (by rw [hw3]; simp)
  obtain ⟨k, kc, rfl⟩ : ∃ g cap, v4 = .slice (some ⟨g, 0, none⟩) 1 cap := by
    rcases ho4.2 with ⟨_, h0⟩ | ⟨g, cap, _, rfl, _⟩
    · omega
    · exact ⟨g, cap, rfl⟩
  have hk24 : Keeps (fun _ => False) w2 w4 := by
    have h23 : Keeps (fun _ => False) w2 w3 := by rw [hw3]; exact (Keeps.refl _ w2).alloc _
    exact h23.grown hg4 (by simp [Value.ownBlock])
  have hw4 := hw2.keeps hk24 (by simp)
  have c4 : w4.cell? ⟨Wb, 0, none⟩ = some (.slice none 0 0) := hw4.cell 0
  have f4 := hw4.frozen 0
  have hb4 := hb2.keeps hk24 (by simp)
  have hkw : w2.heap.size ≤ k ∧ 1 ≤ kc := by
    rcases ho4.2 with ⟨h0, _⟩ | ⟨g', cap', cur', e, hb, _, hc, _⟩
    · cases h0
    · cases e; exact ⟨hb, hc⟩
  have ck : w4.cell? ⟨k, 0, none⟩ = some (.slice (some ⟨w.heap.size, 0, none⟩) n n) := ho4.cellAt 0 (by simp)
  have hlt4 := hw4.lt
  have hsz2 := hk02.size
  have hwl := hw.lt
  have HEND : Hid (Blk w4 Wb 41 #[.slice none 0 0] ∧ Blk w4 w.heap.size 5 (byteCells bs).toArray ∧ Keeps (fun _ => False) w2 w4 ∧ Keeps (fun _ => False) w w2 ∧ w4.cell? ⟨k, 0, none⟩ = some (.slice (some ⟨w.heap.size, 0, none⟩) n n) ∧ w2.heap.size ≤ k ∧ 1 ≤ kc ∧ w.heap.size ≤ w2.heap.size ∧ Wb < w.heap.size) := ⟨hw4, hb4, hk24, hk02, ck, hkw.1, hkw.2, hsz2, hwl⟩
  have HCP : Hid _ := hcp2
  have HAP : Hid _ := hap
  rw [hw1] at HCP
  rw [hw3] at HAP
  clear hcp2 hap hcp hbl hbl1 hb1 hb2 hk2 hk02 hw2 ho4 hg4 hk24 hw4 hb4 hkw ck hw1 hw3 h htake hn
  go_enter Ybad.func42, Ybad.ntmps42
  have hcp := HCP.out
  go_wp2_with (at_builtin; refine wpList_append_run rfl _ _ 39 39 rfl HAP.out ?_)
  go_wp2_with fail
  obtain ⟨e1, e2, e3, e4, e5, e6, e7, e8, e9⟩ := HEND.out
  go_ret2
  refine ⟨rfl, w.heap.size, k, kc, e1.set 0 _, ?_, e2.setOther (a := ⟨Wb, 0, none⟩) (by simp; omega) _, e7, ?_⟩
  · rw [← e5]
    exact World.cell?_of_block (Below.heap_setCell _ _ _ _ (show k ≠ Wb by omega))
  · exact Keeps.setCell (S := fun b => b = Wb) ((e4.trans e3).mono (fun b hb h => h.elim)) (a := ⟨Wb, 0, none⟩) rfl _
end Go.Proofs.YbulkbrtmDoor
