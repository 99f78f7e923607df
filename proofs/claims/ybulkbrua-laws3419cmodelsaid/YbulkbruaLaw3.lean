import Derived.Test.YbulkbruaInv
import Derived.Deep.DeepCutAuto
import Derived.Deep.CutBlock
import Derived.OpenShut
namespace Go.Proofs.Ybulkbrua
open Go.RowKit Go.Deep
set_option linter.unusedVariables false
set_option linter.unusedSimpArgs false
attribute [local go_sem ↓] Go.wp_at_zero Go.wp_at_succ

set_option maxRecDepth 100000 in
set_option maxHeartbeats 4000000 in
theorem law3 (w : World) (ao : Option Addr) (n cap : Nat) (E : Nat → En) (mcc mnc : ByteArray) (sel : Int) (hsel : (Lit.int .u8 sel).wf = true) (hn : n ≤ 1024)
    (hin : n = 0 ∨ ∃ b off, ao = some ⟨b, off, none⟩ ∧ n ≤ cap ∧ ∀ j, j < n → w.cell? ⟨b, off + j * 3, none⟩ = some (.string (E j).mcc) ∧ w.cell? ⟨b, off + j * 3 + 1, none⟩ = some (.string (E j).mnc) ∧ w.cell? ⟨b, off + j * 3 + 2, none⟩ = some (E j).v)
    (hrej : ∀ j, j < n → RejAt w (E j).v (E j).L ∧ (∀ e ∈ (E j).L, e.ok) ∧ (E j).L.length ≤ maxLen) :
    Calls Yba.prog 3 #[.slice ao n cap, .string mcc, .string mnc, .int .u8 sel] w fun e w' => e = .returned (.bool true) ∧ Below w.heap.size w w' := by
  have hn1 : ¬ (1024 : Int) < (n : Int) := by omega
  have HIN : Hid (n = 0 ∨ ∃ b off, ao = some ⟨b, off, none⟩ ∧ n ≤ cap ∧ ∀ j, j < n → w.cell? ⟨b, off + j * 3, none⟩ = some (.string (E j).mcc) ∧ w.cell? ⟨b, off + j * 3 + 1, none⟩ = some (.string (E j).mnc) ∧ w.cell? ⟨b, off + j * 3 + 2, none⟩ = some (E j).v) := hin
  have HRJ : Hid (∀ j, j < n → RejAt w (E j).v (E j).L ∧ (∀ e ∈ (E j).L, e.ok) ∧ (E j).L.length ≤ maxLen) := hrej
  clear hin hrej
  go_enter Yba.func3, Yba.ntmps3
  go_wp2_with fail
  go_loopw [30] (fun q wr => ∃ i : Nat, i ≤ n ∧ q = .int .i64 i ∧ wr = w ∧ ∀ j, j < i → (E j).L.length ≤ 1024) (fun q _ => n - (intOf q).toNat)
  case atStart => exact ⟨0, Nat.zero_le _, rfl, rfl, fun j hj => by omega⟩
  case round =>
    obtain ⟨i, hi, rfl, hwr, hlen⟩ := hrel
    obtain rfl : w = wr := hwr.symm
    by_cases hji : i < n
    · have hji1 : (i : Int) < (n : Int) := by omega
      rcases HIN.out with h0 | ⟨b, off, rfl, hcap, hc⟩
      · omega
      obtain ⟨c0, c1, c2⟩ := hc i hji
      obtain ⟨hrj, hok, hbig⟩ := HRJ.out i hji
      simp only [maxLen] at hbig
      obtain ⟨vo, vc, hv, _⟩ := hrj.slice
      rw [hv] at c2
      have HLN : Hid (∀ j, j < i → (E j).L.length ≤ 1024) := hlen
      clear hc hrj hok hv hlen
      by_cases hbg : 1024 < (E i).L.length
      · go_wp2_with fail
        go_ret
        exact ⟨rfl, Below.refl _ _⟩
      · have hbg1 : ¬ (1024 : Int) < ((E i).L.length : Int) := by omega
        go_wp2_with fail
        go_roundw
        case rel =>
          refine ⟨i + 1, by omega, by go_num, by first | rfl | trivial, fun j hj => ?_⟩
          by_cases h : j < i
          · exact HLN.out j h
          · obtain rfl : j = i := by omega
            omega
        case measure => simp [intOf]; omega
    · obtain rfl : i = n := by omega
      have HLN : Hid (∀ j, j < i → (E j).L.length ≤ 1024) := hlen
      clear hlen
      obtain ⟨S, hS⟩ : ∃ S, S = w.heap.size := ⟨_, rfl⟩
      have start : Inv w S E 0 (w.alloc (.cells #[.slice none 0 0, .slice none 0 0, .map none, .map none] 31)) (fun _ => .slice none 0 0) (.slice none 0 0) := by
        rw [hS]
        exact ⟨Blk.new _ _ _, World.ownsRow_nil _ _ _ _, fun j hj => by omega, (Below.refl _ w).alloc (Nat.le_refl _) _, by simp⟩
      have HST : Hid _ := start
      have HS : Hid (S = w.heap.size) := hS
      clear start
      go_wp2_with fail
      rw [← hS]
      clear hS
      go_loopw [45] (fun q wr => ∃ (j : Nat) (C : Nat → Value) (vS : Value), j ≤ i ∧ q = .int .i64 j ∧ Inv w S E j wr C vS) (fun q _ => i - (intOf q).toNat)
      case atStart => exact ⟨0, _, _, Nat.zero_le _, rfl, HST.out⟩
      case round =>
        obtain ⟨j, C, vS, hj, rfl, inv⟩ := hrel
        by_cases hji : j < i
        · have hji1 : (j : Int) < (i : Int) := by omega
          rcases HIN.out with h0 | ⟨b, off, rfl, hcap, hc⟩
          · omega
          obtain ⟨c0, c1, c2⟩ := hc j hji
          have hb : b < S := by rw [HS.out]; exact block_lt_of_cell c0
          replace c0 : wr.cell? ⟨b, off + j * 3, none⟩ = some (.string (E j).mcc) := (inv.below.cell (p := ⟨b, off + j * 3, none⟩) hb).trans c0
          replace c1 : wr.cell? ⟨b, off + j * 3 + 1, none⟩ = some (.string (E j).mnc) := (inv.below.cell (p := ⟨b, off + j * 3 + 1, none⟩) hb).trans c1
          replace c2 : wr.cell? ⟨b, off + j * 3 + 2, none⟩ = some (E j).v := (inv.below.cell (p := ⟨b, off + j * 3 + 2, none⟩) hb).trans c2
          have hbl : b < wr.heap.size := by have := inv.size; omega
          obtain ⟨hrj, _, _⟩ := HRJ.out j hji
          have hrj1 : RejAt wr (E j).v (E j).L := by
            refine hrj.keeps (S := fun b => S ≤ b) ⟨inv.below.os, inv.below.tape, inv.below.output, inv.below.size, fun b hb hs => inv.below.block b (by omega)⟩ ?_
            rintro b hb _
            rw [HS.out]; omega
          obtain ⟨vo, vc, hv, _⟩ := hrj.slice
          rw [hv] at c2 hrj1
          have hlj := HLN.out j hji
          have o1 : wr.cell? ⟨S, 1, none⟩ = some vS := inv.obj.cell 1
          have fz := inv.obj.frozen 1
          have hSl := inv.obj.lt
          have HINV : Hid (Inv w S E j wr C vS) := inv
          have HV : Hid ((E j).v = .slice vo (E j).L.length vc) := hv
          clear hc hrj inv hv
          obtain ⟨A, hA⟩ : ∃ A, A = wr.heap.size := ⟨_, rfl⟩
          obtain ⟨m, hm⟩ : ∃ m, m = (E j).L.length := ⟨_, rfl⟩
          rw [← hm] at c2 hrj1 hlj
          obtain ⟨W0, hW0⟩ : ∃ W0, W0 = wr.alloc (.cells #[.string (E j).mcc, .string (E j).mnc, .slice vo m vc] 25) := ⟨_, rfl⟩
          have bA : Blk W0 A 25 #[.string (E j).mcc, .string (E j).mnc, .slice vo m vc] := by rw [hW0, hA]; exact Blk.new _ _ _
          have kW : Keeps (fun _ => False) wr W0 := by rw [hW0]; exact (Keeps.refl _ wr).alloc _
          have a0 : W0.cell? ⟨A, 0, none⟩ = some (.string (E j).mcc) := bA.cell 0
          have a1 : W0.cell? ⟨A, 1, none⟩ = some (.string (E j).mnc) := bA.cell 1
          have a2 : W0.cell? ⟨A, 2, none⟩ = some (.slice vo m vc) := bA.cell 2
          have a3 : W0.cell? ⟨S, 1, none⟩ = some vS := kW.cell o1 (by simp)
          have hrj2 : RejAt W0 (.slice vo m vc) (E j).L := hrj1.keeps kW (by simp)
          have hrj3 : RejAt W0.drew (.slice vo m vc) (E j).L := hrj2.keeps ((Keeps.refl (fun _ => False) W0).drew) (by simp)
          have HW0 : Hid _ := hW0
          have HA : Hid (A = wr.heap.size) := hA
          have HM : Hid (m = (E j).L.length) := hm
          have sW0 : W0.heap.size = A + 1 := by rw [hW0, hA]; simp
          clear hW0 hA hm
          go_wp2_with fail
          rw [← HW0.out, ← HA.out]
          clear o1 c0 c1 c2
          have HK : Hid (Keeps (fun _ => False) wr W0) := kW
          have bS : Blk W0 S 31 #[.slice none 0 0, vS, .map none, .map none] := HINV.out.obj.keeps kW (by simp)
          have oS : W0.ownsRow (S + 1) 37 6 vS j (plCells E C j) := own_keeps HINV.out.row kW (by simp)
          have hS1 : S + 1 ≤ A := by rw [HA.out]; exact HINV.out.size
          have hlj2 : (E j).L.length ≤ 1024 := by rw [← HM.out]; exact hlj
          have hbS : some S ≠ vS.ownBlock := own_lo oS (by omega)
          have hbA : some A ≠ vS.ownBlock := own_ne oS bA (by decide)
          have hAS : A ≠ S := by omega
          have hAl : A < W0.heap.size := by omega
          refine wp_region_noPanic ?_
          refine wp_region_held_drew (S := fun w' => w'.cell? ⟨A, 0, none⟩ = some (.string (E j).mcc) ∧ w'.cell? ⟨A, 1, none⟩ = some (.string (E j).mnc) ∧ w'.cell? ⟨A, 2, none⟩ = some (.slice vo m vc)) (by kernel_rfl) ?_ (fun hHeld => ?_)
          · go_keep
          refine wpAnyH_take (i := 0) (oi := _) (v := _) (by simp only [List.getElem?_toArray, List.getElem?_cons_zero, List.getElem?_cons_succ]; rfl) (by kernel_rfl) (by kernel_rfl) (by kernel_rfl) (fun _ _ _ h => h) (Or.inl ⟨by rfl, by (intro w hSw; go_simp; try with_reducible rfl)⟩) (by assumption) ?_
          try simp only [Act.put, List.setIfInBounds_toArray, List.set_cons_zero, List.set_cons_succ]
          refine wpAnyH_take (i := 1) (oi := _) (v := _) (by simp only [List.getElem?_toArray, List.getElem?_cons_zero, List.getElem?_cons_succ]; rfl) (by kernel_rfl) (by kernel_rfl) (by kernel_rfl) (fun _ _ _ h => h) (Or.inl ⟨by rfl, by (intro w hSw; go_simp; try with_reducible rfl)⟩) (by assumption) ?_
          try simp only [Act.put, List.setIfInBounds_toArray, List.set_cons_zero, List.set_cons_succ]
          refine wpAnyH_take (i := 2) (oi := _) (v := _) (by simp only [List.getElem?_toArray, List.getElem?_cons_zero, List.getElem?_cons_succ]; rfl) (by kernel_rfl) (by kernel_rfl) (by kernel_rfl) (fun _ _ _ h => h) (Or.inl ⟨by rfl, by (intro w hSw; go_simp; try with_reducible rfl)⟩) (by assumption) ?_
          try simp only [Act.put, List.setIfInBounds_toArray, List.set_cons_zero, List.set_cons_succ]
          refine wpAnyH_take (i := 3) (oi := _) (v := _) (by simp only [List.getElem?_toArray, List.getElem?_cons_zero, List.getElem?_cons_succ]; rfl) (by kernel_rfl) (by kernel_rfl) (by kernel_rfl) (fun _ _ _ h => h) (Or.inl ⟨by rfl, by (intro w hSw; go_simp; try with_reducible rfl)⟩) (by assumption) ?_
          try simp only [Act.put, List.setIfInBounds_toArray, List.set_cons_zero, List.set_cons_succ]
          refine wpAnyH_take (i := 5) (oi := _) (v := _) (by simp only [List.getElem?_toArray, List.getElem?_cons_zero, List.getElem?_cons_succ]; rfl) (by kernel_rfl) (by kernel_rfl) (by kernel_rfl) (fun _ _ _ h => h) (Or.inl ⟨by rfl, by (intro w hSw; go_simp; try with_reducible rfl)⟩) (by assumption) ?_
          try simp only [Act.put, List.setIfInBounds_toArray, List.set_cons_zero, List.set_cons_succ]
          refine wpAnyH_take (i := 6) (oi := _) (v := _) (by simp only [List.getElem?_toArray, List.getElem?_cons_zero, List.getElem?_cons_succ]; rfl) (by kernel_rfl) (by kernel_rfl) (by kernel_rfl) (fun _ _ _ h => h) (Or.inl ⟨by rfl, by (intro w hSw; go_simp; try with_reducible rfl)⟩) (by assumption) ?_
          try simp only [Act.put, List.setIfInBounds_toArray, List.set_cons_zero, List.set_cons_succ]
          refine wpAnyH_take (i := 7) (oi := _) (v := _) (by simp only [List.getElem?_toArray, List.getElem?_cons_zero, List.getElem?_cons_succ]; rfl) (by kernel_rfl) (by kernel_rfl) (by kernel_rfl) (fun _ _ _ h => h) (Or.inl ⟨by rfl, by (intro w hSw; go_simp; try with_reducible rfl)⟩) (by assumption) ?_
          try simp only [Act.put, List.setIfInBounds_toArray, List.set_cons_zero, List.set_cons_succ]
          refine wpAnyH_take (i := 8) (oi := _) (v := _) (by simp only [List.getElem?_toArray, List.getElem?_cons_zero, List.getElem?_cons_succ]; rfl) (by kernel_rfl) (by kernel_rfl) (by kernel_rfl) (fun _ _ _ h => h) (Or.inl ⟨by rfl, by (intro w hSw; go_simp; try with_reducible rfl)⟩) (by assumption) ?_
          try simp only [Act.put, List.setIfInBounds_toArray, List.set_cons_zero, List.set_cons_succ]
          refine wpAnyH_take (i := 9) (oi := _) (v := _) (by simp only [List.getElem?_toArray, List.getElem?_cons_zero, List.getElem?_cons_succ]; rfl) (by kernel_rfl) (by kernel_rfl) (by kernel_rfl) (fun _ _ _ h => h) (Or.inl ⟨by rfl, by (intro w hSw; go_simp; try with_reducible rfl)⟩) (by assumption) ?_
          try simp only [Act.put, List.setIfInBounds_toArray, List.set_cons_zero, List.set_cons_succ]
          refine wpAnyH_take (i := 10) (oi := _) (v := _) (by simp only [List.getElem?_toArray, List.getElem?_cons_zero, List.getElem?_cons_succ]; rfl) (by kernel_rfl) (by kernel_rfl) (by kernel_rfl) (fun _ _ _ h => h) (Or.inl ⟨by rfl, by (intro w hSw; go_simp; try with_reducible rfl)⟩) (by assumption) ?_
          try simp only [Act.put, List.setIfInBounds_toArray, List.set_cons_zero, List.set_cons_succ]
          refine wpAnyH_take (i := 11) (oi := _) (v := _) (by simp only [List.getElem?_toArray, List.getElem?_cons_zero, List.getElem?_cons_succ]; rfl) (by kernel_rfl) (by kernel_rfl) (by kernel_rfl) (fun _ _ _ h => h) (Or.inl ⟨by rfl, by (intro w hSw; go_simp; try with_reducible rfl)⟩) (by assumption) ?_
          try simp only [Act.put, List.setIfInBounds_toArray, List.set_cons_zero, List.set_cons_succ]
          refine wpAnyH_ready (rs := [4, 12]) (by kernel_rfl) (by simp) ?_
          refine AllReadyH.cons (o := _) (by simp only [List.getElem?_toArray, List.getElem?_cons_zero, List.getElem?_cons_succ]; rfl) (fun K hK => ?_) ?_
          · go_simp
            refine hK.out _ _ ?_ (fun hHeld => ?_)
            · (first | go_keep | (refine ⟨k2.cell a0 (by simp), k2.cell a1 (by simp), k2.cell a2 (by simp)⟩) | (exact (grown4 k2 g3 a3 a0 a1 a2 hbS hbA).2) | (exact stored3 hAS (grown4 k2 g3 a3 a0 a1 a2 hbS hbA).2))
            clear hK K
            try simp only [Act.put, List.setIfInBounds_toArray, List.set_cons_zero, List.set_cons_succ]
            refine wpAnyH_ready (rs := [12]) (by kernel_rfl) (by simp) ?_
            refine AllReadyH.cons (o := _) (by simp only [List.getElem?_toArray, List.getElem?_cons_zero, List.getElem?_cons_succ]; rfl) (fun K hK => ?_) ?_
            · go_simp
              refine (clone4s _ _ (E j).L hrj3 hlj2).mono ?_
              rintro e w2 ⟨co, cn, cc, rfl, cp2, k2⟩
              have s2 := k2.cell a3 (by simp)
              have sl2 := block_lt_of_cell s2
              go_wp2_with fail
              refine hK.out _ _ ?_ (fun hHeld => ?_)
              · (first | go_keep | (refine ⟨k2.cell a0 (by simp), k2.cell a1 (by simp), k2.cell a2 (by simp)⟩) | (exact (grown4 k2 g3 a3 a0 a1 a2 hbS hbA).2) | (exact stored3 hAS (grown4 k2 g3 a3 a0 a1 a2 hbS hbA).2))
              clear hK K
              try simp only [Act.put, List.setIfInBounds_toArray, List.set_cons_zero, List.set_cons_succ]
              refine wpAnyH_take (i := 13) (oi := _) (v := _) (by simp only [List.getElem?_toArray, List.getElem?_cons_zero, List.getElem?_cons_succ]; rfl) (by kernel_rfl) (by kernel_rfl) (by kernel_rfl) (fun _ _ _ h => h) (Or.inl ⟨by rfl, by (intro w hSw; go_simp; try with_reducible rfl)⟩) (by assumption) ?_
              try simp only [Act.put, List.setIfInBounds_toArray, List.set_cons_zero, List.set_cons_succ]
              refine wpAnyH_ready (rs := [14]) (by kernel_rfl) (by simp) ?_
              refine AllReadyH.cons (o := _) (by simp only [List.getElem?_toArray, List.getElem?_cons_zero, List.getElem?_cons_succ]; rfl) (fun K hK => ?_) ?_
              · go_simp
                refine hK.out _ _ ?_ (fun hHeld => ?_)
                · (first | go_keep | (refine ⟨k2.cell a0 (by simp), k2.cell a1 (by simp), k2.cell a2 (by simp)⟩) | (exact (grown4 k2 g3 a3 a0 a1 a2 hbS hbA).2) | (exact stored3 hAS (grown4 k2 g3 a3 a0 a1 a2 hbS hbA).2))
                clear hK K
                try simp only [Act.put, List.setIfInBounds_toArray, List.set_cons_zero, List.set_cons_succ]
                refine wpAnyH_ready (rs := [15]) (by kernel_rfl) (by simp) ?_
                refine AllReadyH.cons (o := _) (by simp only [List.getElem?_toArray, List.getElem?_cons_zero, List.getElem?_cons_succ]; rfl) (fun K hK => ?_) ?_
                · refine step_pl_app (by rfl) _ _ (by rfl) _ _ (by rfl) (by rfl) ((own_keeps (w := W0.drew) (ownsRow_drewN oS 1) k2 (by simp)).alloc _) (enCells (E j) (.slice co cn cc)) (by rfl) (cells_new6 _ _ _ _ rfl _ (by rfl)) (en_one _ _ _ _) (by omega) (by have hq := k2.size; simp at hq ⊢; omega) ?_
                  intro gg gc w3 o3 g3
                  have bS3 : Blk w3 S 31 #[.slice none 0 0, vS, .map none, .map none] := (Blk.alloc (Blk.keeps (w := W0.drew) bS k2 (by simp)) _).grown g3 hbS
                  have fz3 := bS3.frozen 1
                  have sl3 := bS3.lt
                  have s3 := bS3.cell 1
                  refine hK.out _ _ ?_ (fun hHeld => ?_)
                  · (first | go_keep | (refine ⟨k2.cell a0 (by simp), k2.cell a1 (by simp), k2.cell a2 (by simp)⟩) | (exact (grown4 k2 g3 a3 a0 a1 a2 hbS hbA).2) | (exact stored3 hAS (grown4 k2 g3 a3 a0 a1 a2 hbS hbA).2))
                  clear hK K
                  try simp only [Act.put, List.setIfInBounds_toArray, List.set_cons_zero, List.set_cons_succ]
                  refine wpAnyH_take (i := 16) (oi := _) (v := _) (by simp only [List.getElem?_toArray, List.getElem?_cons_zero, List.getElem?_cons_succ]; rfl) (by kernel_rfl) (by kernel_rfl) (by kernel_rfl) (fun _ _ _ h => h) (Or.inl ⟨by rfl, by (intro w hSw; go_simp; try with_reducible rfl)⟩) (by assumption) ?_
                  try simp only [Act.put, List.setIfInBounds_toArray, List.set_cons_zero, List.set_cons_succ]
                  refine wpAnyH_take (i := 17) (oi := _) (v := _) (by simp only [List.getElem?_toArray, List.getElem?_cons_zero, List.getElem?_cons_succ]; rfl) (by kernel_rfl) (by kernel_rfl) (by kernel_rfl) (fun _ _ _ h => h) (Or.inl ⟨by rfl, by (intro w hSw; go_simp; try with_reducible rfl)⟩) (by assumption) ?_
                  try simp only [Act.put, List.setIfInBounds_toArray, List.set_cons_zero, List.set_cons_succ]
                  refine wpAnyH_ready (rs := [18]) (by kernel_rfl) (by simp) ?_
                  refine AllReadyH.cons (o := _) (by simp only [List.getElem?_toArray, List.getElem?_cons_zero, List.getElem?_cons_succ]; rfl) (fun K hK => ?_) ?_
                  · go_simp
                    refine hK.out _ _ ?_ (fun hHeld => ?_)
                    · (first | go_keep | (refine ⟨k2.cell a0 (by simp), k2.cell a1 (by simp), k2.cell a2 (by simp)⟩) | (exact (grown4 k2 g3 a3 a0 a1 a2 hbS hbA).2) | (exact stored3 hAS (grown4 k2 g3 a3 a0 a1 a2 hbS hbA).2))
                    clear hK K
                    try simp only [Act.put, List.setIfInBounds_toArray, List.set_cons_zero, List.set_cons_succ]
                    refine wpAnyH_done (by kernel_rfl) ?_ _
                    refine NoPanic.normal ?_
                    have HI : Hid (Inv w S E (j + 1) (w3.setCell ⟨S, 1, none⟩ (.slice (some ⟨gg, 0, none⟩) (j + 1) gc)) (fun t => if t = j then .slice co cn cc else C t) (.slice (some ⟨gg, 0, none⟩) (j + 1) gc)) := inv_step HINV.out HK.out k2 (by rw [HM.out]; exact HV.out) cp2 o3 g3 bS3 hbS
                    clear cp2 k2 o3 g3 bS3 fz3 sl3 s3 a0 a1 a2 a3 bA bS oS hrj1 hrj2 hrj3 kW
                    go_wp2_with fail
                    go_roundw
                    case rel => exact ⟨j + 1, _, _, by omega, by go_num, HI.out⟩
                    case measure => simp [intOf]; omega
                  exact AllReadyH.nil
                exact AllReadyH.nil
              exact AllReadyH.nil
            exact AllReadyH.nil
          refine AllReadyH.cons (o := _) (by simp only [List.getElem?_toArray, List.getElem?_cons_zero, List.getElem?_cons_succ]; rfl) (fun K hK => ?_) ?_
          · go_simp
            refine (clone4s _ _ (E j).L hrj3 hlj2).mono ?_
            rintro e w2 ⟨co, cn, cc, rfl, cp2, k2⟩
            have s2 := k2.cell a3 (by simp)
            have sl2 := block_lt_of_cell s2
            go_wp2_with fail
            refine hK.out _ _ ?_ (fun hHeld => ?_)
            · (first | go_keep | (refine ⟨k2.cell a0 (by simp), k2.cell a1 (by simp), k2.cell a2 (by simp)⟩) | (exact (grown4 k2 g3 a3 a0 a1 a2 hbS hbA).2) | (exact stored3 hAS (grown4 k2 g3 a3 a0 a1 a2 hbS hbA).2))
            clear hK K
            try simp only [Act.put, List.setIfInBounds_toArray, List.set_cons_zero, List.set_cons_succ]
            refine wpAnyH_take (i := 13) (oi := _) (v := _) (by simp only [List.getElem?_toArray, List.getElem?_cons_zero, List.getElem?_cons_succ]; rfl) (by kernel_rfl) (by kernel_rfl) (by kernel_rfl) (fun _ _ _ h => h) (Or.inl ⟨by rfl, by (intro w hSw; go_simp; try with_reducible rfl)⟩) (by assumption) ?_
            try simp only [Act.put, List.setIfInBounds_toArray, List.set_cons_zero, List.set_cons_succ]
            refine wpAnyH_ready (rs := [4, 14]) (by kernel_rfl) (by simp) ?_
            refine AllReadyH.cons (o := _) (by simp only [List.getElem?_toArray, List.getElem?_cons_zero, List.getElem?_cons_succ]; rfl) (fun K hK => ?_) ?_
            · go_simp
              refine hK.out _ _ ?_ (fun hHeld => ?_)
              · (first | go_keep | (refine ⟨k2.cell a0 (by simp), k2.cell a1 (by simp), k2.cell a2 (by simp)⟩) | (exact (grown4 k2 g3 a3 a0 a1 a2 hbS hbA).2) | (exact stored3 hAS (grown4 k2 g3 a3 a0 a1 a2 hbS hbA).2))
              clear hK K
              try simp only [Act.put, List.setIfInBounds_toArray, List.set_cons_zero, List.set_cons_succ]
              refine wpAnyH_ready (rs := [14]) (by kernel_rfl) (by simp) ?_
              refine AllReadyH.cons (o := _) (by simp only [List.getElem?_toArray, List.getElem?_cons_zero, List.getElem?_cons_succ]; rfl) (fun K hK => ?_) ?_
              · go_simp
                refine hK.out _ _ ?_ (fun hHeld => ?_)
                · (first | go_keep | (refine ⟨k2.cell a0 (by simp), k2.cell a1 (by simp), k2.cell a2 (by simp)⟩) | (exact (grown4 k2 g3 a3 a0 a1 a2 hbS hbA).2) | (exact stored3 hAS (grown4 k2 g3 a3 a0 a1 a2 hbS hbA).2))
                clear hK K
                try simp only [Act.put, List.setIfInBounds_toArray, List.set_cons_zero, List.set_cons_succ]
                refine wpAnyH_ready (rs := [15]) (by kernel_rfl) (by simp) ?_
                refine AllReadyH.cons (o := _) (by simp only [List.getElem?_toArray, List.getElem?_cons_zero, List.getElem?_cons_succ]; rfl) (fun K hK => ?_) ?_
                · refine step_pl_app (by rfl) _ _ (by rfl) _ _ (by rfl) (by rfl) ((own_keeps (w := W0.drew) (ownsRow_drewN oS 1) k2 (by simp)).alloc _) (enCells (E j) (.slice co cn cc)) (by rfl) (cells_new6 _ _ _ _ rfl _ (by rfl)) (en_one _ _ _ _) (by omega) (by have hq := k2.size; simp at hq ⊢; omega) ?_
                  intro gg gc w3 o3 g3
                  have bS3 : Blk w3 S 31 #[.slice none 0 0, vS, .map none, .map none] := (Blk.alloc (Blk.keeps (w := W0.drew) bS k2 (by simp)) _).grown g3 hbS
                  have fz3 := bS3.frozen 1
                  have sl3 := bS3.lt
                  have s3 := bS3.cell 1
                  refine hK.out _ _ ?_ (fun hHeld => ?_)
                  · (first | go_keep | (refine ⟨k2.cell a0 (by simp), k2.cell a1 (by simp), k2.cell a2 (by simp)⟩) | (exact (grown4 k2 g3 a3 a0 a1 a2 hbS hbA).2) | (exact stored3 hAS (grown4 k2 g3 a3 a0 a1 a2 hbS hbA).2))
                  clear hK K
                  try simp only [Act.put, List.setIfInBounds_toArray, List.set_cons_zero, List.set_cons_succ]
                  refine wpAnyH_take (i := 16) (oi := _) (v := _) (by simp only [List.getElem?_toArray, List.getElem?_cons_zero, List.getElem?_cons_succ]; rfl) (by kernel_rfl) (by kernel_rfl) (by kernel_rfl) (fun _ _ _ h => h) (Or.inl ⟨by rfl, by (intro w hSw; go_simp; try with_reducible rfl)⟩) (by assumption) ?_
                  try simp only [Act.put, List.setIfInBounds_toArray, List.set_cons_zero, List.set_cons_succ]
                  refine wpAnyH_take (i := 17) (oi := _) (v := _) (by simp only [List.getElem?_toArray, List.getElem?_cons_zero, List.getElem?_cons_succ]; rfl) (by kernel_rfl) (by kernel_rfl) (by kernel_rfl) (fun _ _ _ h => h) (Or.inl ⟨by rfl, by (intro w hSw; go_simp; try with_reducible rfl)⟩) (by assumption) ?_
                  try simp only [Act.put, List.setIfInBounds_toArray, List.set_cons_zero, List.set_cons_succ]
                  refine wpAnyH_ready (rs := [18]) (by kernel_rfl) (by simp) ?_
                  refine AllReadyH.cons (o := _) (by simp only [List.getElem?_toArray, List.getElem?_cons_zero, List.getElem?_cons_succ]; rfl) (fun K hK => ?_) ?_
                  · go_simp
                    refine hK.out _ _ ?_ (fun hHeld => ?_)
                    · (first | go_keep | (refine ⟨k2.cell a0 (by simp), k2.cell a1 (by simp), k2.cell a2 (by simp)⟩) | (exact (grown4 k2 g3 a3 a0 a1 a2 hbS hbA).2) | (exact stored3 hAS (grown4 k2 g3 a3 a0 a1 a2 hbS hbA).2))
                    clear hK K
                    try simp only [Act.put, List.setIfInBounds_toArray, List.set_cons_zero, List.set_cons_succ]
                    refine wpAnyH_done (by kernel_rfl) ?_ _
                    refine NoPanic.normal ?_
                    have HI : Hid (Inv w S E (j + 1) (w3.setCell ⟨S, 1, none⟩ (.slice (some ⟨gg, 0, none⟩) (j + 1) gc)) (fun t => if t = j then .slice co cn cc else C t) (.slice (some ⟨gg, 0, none⟩) (j + 1) gc)) := inv_step HINV.out HK.out k2 (by rw [HM.out]; exact HV.out) cp2 o3 g3 bS3 hbS
                    clear cp2 k2 o3 g3 bS3 fz3 sl3 s3 a0 a1 a2 a3 bA bS oS hrj1 hrj2 hrj3 kW
                    go_wp2_with fail
                    go_roundw
                    case rel => exact ⟨j + 1, _, _, by omega, by go_num, HI.out⟩
                    case measure => simp [intOf]; omega
                  exact AllReadyH.nil
                exact AllReadyH.nil
              exact AllReadyH.nil
            refine AllReadyH.cons (o := _) (by simp only [List.getElem?_toArray, List.getElem?_cons_zero, List.getElem?_cons_succ]; rfl) (fun K hK => ?_) ?_
            · go_simp
              refine hK.out _ _ ?_ (fun hHeld => ?_)
              · (first | go_keep | (refine ⟨k2.cell a0 (by simp), k2.cell a1 (by simp), k2.cell a2 (by simp)⟩) | (exact (grown4 k2 g3 a3 a0 a1 a2 hbS hbA).2) | (exact stored3 hAS (grown4 k2 g3 a3 a0 a1 a2 hbS hbA).2))
              clear hK K
              try simp only [Act.put, List.setIfInBounds_toArray, List.set_cons_zero, List.set_cons_succ]
              refine wpAnyH_ready (rs := [4]) (by kernel_rfl) (by simp) ?_
              refine AllReadyH.cons (o := _) (by simp only [List.getElem?_toArray, List.getElem?_cons_zero, List.getElem?_cons_succ]; rfl) (fun K hK => ?_) ?_
              · go_simp
                refine hK.out _ _ ?_ (fun hHeld => ?_)
                · (first | go_keep | (refine ⟨k2.cell a0 (by simp), k2.cell a1 (by simp), k2.cell a2 (by simp)⟩) | (exact (grown4 k2 g3 a3 a0 a1 a2 hbS hbA).2) | (exact stored3 hAS (grown4 k2 g3 a3 a0 a1 a2 hbS hbA).2))
                clear hK K
                try simp only [Act.put, List.setIfInBounds_toArray, List.set_cons_zero, List.set_cons_succ]
                refine wpAnyH_ready (rs := [15]) (by kernel_rfl) (by simp) ?_
                refine AllReadyH.cons (o := _) (by simp only [List.getElem?_toArray, List.getElem?_cons_zero, List.getElem?_cons_succ]; rfl) (fun K hK => ?_) ?_
                · refine step_pl_app (by rfl) _ _ (by rfl) _ _ (by rfl) (by rfl) ((own_keeps (w := W0.drew) (ownsRow_drewN oS 1) k2 (by simp)).alloc _) (enCells (E j) (.slice co cn cc)) (by rfl) (cells_new6 _ _ _ _ rfl _ (by rfl)) (en_one _ _ _ _) (by omega) (by have hq := k2.size; simp at hq ⊢; omega) ?_
                  intro gg gc w3 o3 g3
                  have bS3 : Blk w3 S 31 #[.slice none 0 0, vS, .map none, .map none] := (Blk.alloc (Blk.keeps (w := W0.drew) bS k2 (by simp)) _).grown g3 hbS
                  have fz3 := bS3.frozen 1
                  have sl3 := bS3.lt
                  have s3 := bS3.cell 1
                  refine hK.out _ _ ?_ (fun hHeld => ?_)
                  · (first | go_keep | (refine ⟨k2.cell a0 (by simp), k2.cell a1 (by simp), k2.cell a2 (by simp)⟩) | (exact (grown4 k2 g3 a3 a0 a1 a2 hbS hbA).2) | (exact stored3 hAS (grown4 k2 g3 a3 a0 a1 a2 hbS hbA).2))
                  clear hK K
                  try simp only [Act.put, List.setIfInBounds_toArray, List.set_cons_zero, List.set_cons_succ]
                  refine wpAnyH_take (i := 16) (oi := _) (v := _) (by simp only [List.getElem?_toArray, List.getElem?_cons_zero, List.getElem?_cons_succ]; rfl) (by kernel_rfl) (by kernel_rfl) (by kernel_rfl) (fun _ _ _ h => h) (Or.inl ⟨by rfl, by (intro w hSw; go_simp; try with_reducible rfl)⟩) (by assumption) ?_
                  try simp only [Act.put, List.setIfInBounds_toArray, List.set_cons_zero, List.set_cons_succ]
                  refine wpAnyH_take (i := 17) (oi := _) (v := _) (by simp only [List.getElem?_toArray, List.getElem?_cons_zero, List.getElem?_cons_succ]; rfl) (by kernel_rfl) (by kernel_rfl) (by kernel_rfl) (fun _ _ _ h => h) (Or.inl ⟨by rfl, by (intro w hSw; go_simp; try with_reducible rfl)⟩) (by assumption) ?_
                  try simp only [Act.put, List.setIfInBounds_toArray, List.set_cons_zero, List.set_cons_succ]
                  refine wpAnyH_ready (rs := [18]) (by kernel_rfl) (by simp) ?_
                  refine AllReadyH.cons (o := _) (by simp only [List.getElem?_toArray, List.getElem?_cons_zero, List.getElem?_cons_succ]; rfl) (fun K hK => ?_) ?_
                  · go_simp
                    refine hK.out _ _ ?_ (fun hHeld => ?_)
                    · (first | go_keep | (refine ⟨k2.cell a0 (by simp), k2.cell a1 (by simp), k2.cell a2 (by simp)⟩) | (exact (grown4 k2 g3 a3 a0 a1 a2 hbS hbA).2) | (exact stored3 hAS (grown4 k2 g3 a3 a0 a1 a2 hbS hbA).2))
                    clear hK K
                    try simp only [Act.put, List.setIfInBounds_toArray, List.set_cons_zero, List.set_cons_succ]
                    refine wpAnyH_done (by kernel_rfl) ?_ _
                    refine NoPanic.normal ?_
                    have HI : Hid (Inv w S E (j + 1) (w3.setCell ⟨S, 1, none⟩ (.slice (some ⟨gg, 0, none⟩) (j + 1) gc)) (fun t => if t = j then .slice co cn cc else C t) (.slice (some ⟨gg, 0, none⟩) (j + 1) gc)) := inv_step HINV.out HK.out k2 (by rw [HM.out]; exact HV.out) cp2 o3 g3 bS3 hbS
                    clear cp2 k2 o3 g3 bS3 fz3 sl3 s3 a0 a1 a2 a3 bA bS oS hrj1 hrj2 hrj3 kW
                    go_wp2_with fail
                    go_roundw
                    case rel => exact ⟨j + 1, _, _, by omega, by go_num, HI.out⟩
                    case measure => simp [intOf]; omega
                  exact AllReadyH.nil
                exact AllReadyH.nil
              exact AllReadyH.nil
            exact AllReadyH.nil
          exact AllReadyH.nil
        · obtain rfl : j = i := by omega
          obtain ⟨vs, cs, rfl, hpl⟩ := pl_read inv.row
          have o1 : wr.cell? ⟨S, 1, none⟩ = some (.slice vs j cs) := inv.obj.cell 1
          have hSl := inv.obj.lt
          have HINV : Hid (Inv w S E j wr C (.slice vs j cs)) := inv
          have HPL : Hid (j = 0 ∨ ∃ g, vs = some ⟨g, 0, none⟩ ∧ j ≤ cs ∧ g < wr.heap.size ∧ ∀ t, t < j → wr.cell? ⟨g, t * 6, none⟩ = some (.string (E t).mcc) ∧ wr.cell? ⟨g, t * 6 + 1, none⟩ = some (.string (E t).mnc) ∧ wr.cell? ⟨g, t * 6 + 4, none⟩ = some (C t)) := hpl
          clear hpl inv
          obtain ⟨Q, hQ⟩ : ∃ Q, Q = wr.heap.size := ⟨_, rfl⟩
          obtain ⟨W1, hW1⟩ : ∃ W1, W1 = wr.alloc (.cells #[.string mcc, .string mnc] 33) := ⟨_, rfl⟩
          have bQ : Blk W1 Q 33 #[.string mcc, .string mnc] := by rw [hW1, hQ]; exact Blk.new _ _ _
          have kQ : Keeps (fun _ => False) wr W1 := by rw [hW1]; exact (Keeps.refl _ wr).alloc _
          have HQ : Hid (Q = wr.heap.size ∧ W1 = wr.alloc (.cells #[.string mcc, .string mnc] 33)) := ⟨hQ, hW1⟩
          clear hQ hW1
          have hs1 := bounds_u8 hsel
          have hmod0 := Int.emod_nonneg sel (show (j : Int) + 1 ≠ 0 by omega)
          have hmod1 := Int.emod_lt_of_pos sel (show 0 < (j : Int) + 1 by omega)
          obtain ⟨kk, hkk⟩ : ∃ kk : Nat, sel % ((j : Int) + 1) = (kk : Int) := ⟨(sel % ((j : Int) + 1)).toNat, by omega⟩
          go_upto_if 83 with fail
          rw [← HQ.out.2, ← HQ.out.1, hkk]
          have c33 := bQ.cell 0
          have c34 := bQ.cell 1
          have q1 : W1.cell? ⟨Q, 0, none⟩ = some (.string mcc) := bQ.cell 0
          have q2 : W1.cell? ⟨Q, 1, none⟩ = some (.string mnc) := bQ.cell 1
          have f1 := bQ.frozen 0
          have f2 := bQ.frozen 1
          have hQl := bQ.lt
          go_cut [] from 74 to 94 (fun wx => ∃ a b, Blk wx Q 33 #[.string a, .string b] ∧ Keeps (fun x => x = Q) W1 wx)
          case first =>
            by_cases hkj : kk < j
            · rcases HIN.out with h0 | ⟨b, off, rfl, hcap, hc⟩
              · omega
              obtain ⟨c0, c1, c2⟩ := hc kk hkj
              have hb : b < S := by rw [HS.out]; exact block_lt_of_cell c0
              have hkj1 : (kk : Int) < (j : Int) := by omega
              have hbe := HINV.out.below
              replace c0 : W1.cell? ⟨b, off + kk * 3, none⟩ = some (.string (E kk).mcc) := kQ.cell ((hbe.cell (p := ⟨b, off + kk * 3, none⟩) hb).trans c0) (by simp)
              replace c1 : W1.cell? ⟨b, off + kk * 3 + 1, none⟩ = some (.string (E kk).mnc) := kQ.cell ((hbe.cell (p := ⟨b, off + kk * 3 + 1, none⟩) hb).trans c1) (by simp)
              have hbQ : b ≠ Q := by have := HINV.out.size; have := HQ.out.1; omega
              clear hc c2 c33 c34 hbe
              go_wp2_with fail
              go_region
              all_goals
                go_wp2_with fail
                go_meet
                case rel => exact ⟨_, _, (bQ.set 0 _).set 1 _, (((Keeps.refl (fun x => x = Q) W1).setCell (a := ⟨Q, 0, none⟩) rfl _).setCell (a := ⟨Q, 1, none⟩) rfl _).drew⟩
            · have hkj1 : ¬ (kk : Int) < (j : Int) := by omega
              clear c33 c34
              go_wp2_with fail
              go_meet
              case rel => exact ⟨mcc, mnc, bQ, Keeps.refl _ _⟩
          case rest =>
          obtain ⟨qa, qb, bQ2, kQ2⟩ := hcut
          obtain ⟨w1, hw1⟩ : ∃ w1, w1 = wc := ⟨_, rfl⟩
          subst hw1
          have hQe := HQ.out.1
          have hSz := HINV.out.size
          have kq1 : Keeps (fun x => x = Q) wr w1 := (kQ.mono (fun b hb h => h.elim)).trans kQ2
          have up : ∀ {x : Addr} {u : Value}, wr.cell? x = some u → w1.cell? x = some u := fun {x u} h => kq1.cell h (by have := block_lt_of_cell h; omega)
          have hC1 : ∀ t, t < j → CopyAt w1 (S + 1) (E t).v (C t) (E t).L := fun t ht => (HINV.out.cop t ht).keeps kq1 (fun c cs _ hb => by have := hb.lt; omega)
          have q1' : w1.cell? ⟨Q, 0, none⟩ = some (.string qa) := bQ2.cell 0
          have q2' : w1.cell? ⟨Q, 1, none⟩ = some (.string qb) := bQ2.cell 1
          have hR := rej5 w1 S j cs vs E C qa qb (up o1) hn (orR HPL.out (fun ⟨g, h1, h2, h3, h4⟩ => ⟨g, h1, h2, fun t ht => ⟨up (h4 t ht).1, up (h4 t ht).2.1, up (h4 t ht).2.2⟩⟩)) (fun t ht => ⟨(hC1 t ht).rej, HLN.out t ht⟩)
          have HB1 : Hid (Below S w w1) := HINV.out.below.trans (kq1.below (by omega) (fun k hk e => by omega))
          have HC1 : Hid (∀ t, t < j → CopyAt w1 (S + 1) (E t).v (C t) (E t).L) := hC1
          have HPL1 : Hid (w1.cell? ⟨S, 1, none⟩ = some (.slice vs j cs) ∧ (j = 0 ∨ ∃ g, vs = some ⟨g, 0, none⟩ ∧ j ≤ cs ∧ g < w1.heap.size ∧ (∃ cur, Blk w1 g 37 cur) ∧ ∀ t, t < j → w1.cell? ⟨g, t * 6 + 4, none⟩ = some (C t))) := by
            refine ⟨up o1, orR HPL.out (fun ⟨g, h1, h2, h3, h4⟩ => ⟨g, h1, h2, Nat.lt_of_lt_of_le h3 kq1.size, ?_, fun t ht => up (h4 t ht).2.2⟩)⟩
            have hrow := HINV.out.row
            rw [h1] at hrow
            rcases hrow.2 with ⟨h0, _⟩ | ⟨g', cap', cur, e, _, hg, _⟩
            · cases h0
            · cases e
              exact ⟨cur, Blk.keeps (show Blk wr g 37 cur from hg) kq1 (by omega)⟩
          have sz1 : Q < w1.heap.size := bQ2.lt
          clear hC1 up kq1 kQ2 kQ o1 q1 q2 f1 f2 c33 c34 bQ hSl hQl hQe
          go_wp2_with fail
          refine hR.mono ?_
          rintro e w2 ⟨got, rfl, k2, hgot⟩
          clear hR
          have q1 : w2.cell? ⟨Q, 0, none⟩ = some (.string qa) := k2.cell q1' (by simp)
          have q2 : w2.cell? ⟨Q, 1, none⟩ = some (.string qb) := k2.cell q2' (by simp)
          have HG : Hid (Keeps (fun _ => False) w1 w2 ∧ ((firstM E qa qb 0 j = none ∧ got = .slice none 0 0) ∨ ∃ k, firstM E qa qb 0 j = some k ∧ k < j ∧ (got = .slice none 0 0 ↔ C k = .slice none 0 0) ∧ GotAt w2 w1.heap.size got (E k).L)) := ⟨k2, hgot⟩
          have hQl2 := block_lt_of_cell q1
          have HB2 : Hid (Below S w w2) := HB1.out.trans (k2.below (by have := HB1.out.size; have := HS.out; omega) (by simp))
          clear k2 hgot q1' q2' bQ2
          go_upto_block 4 with fail
          go_cut [16, 17] from 98 to 122 (fun f _ wx => ∃ (m : Nat) (x : Int), f = .int .i64 x ∧ wx = w2.drewN m ∧ ((firstM E qa qb 0 j = none ∧ x = -1) ∨ ∃ k : Nat, firstM E qa qb 0 j = some k ∧ k < j ∧ x = k))
          case first =>
            go_wp2_with fail
            go_loopw [16, 100] (fun f q wx => ∃ t m : Nat, t ≤ j ∧ f = .int .i64 (-1) ∧ q = .int .i64 t ∧ wx = w2.drewN m ∧ Hid (firstM E qa qb 0 j = firstM E qa qb t (j - t))) (fun _ q _ => j - (intOf q).toNat)
            case atStart => exact ⟨0, 0, Nat.zero_le _, rfl, rfl, rfl, rfl⟩
            case round =>
              obtain ⟨t, m, ht, rfl, rfl, rfl, HF⟩ := hrel
              by_cases htj : t < j
              · have htj1 : (t : Int) < (j : Int) := by omega
                rcases HIN.out with h0 | ⟨b, off, rfl, hcap, hc⟩
                · omega
                obtain ⟨c0, c1, c2⟩ := hc t htj
                have hb : b < S := by rw [HS.out]; exact block_lt_of_cell c0
                have hbe := HB2.out
                replace c0 : w2.cell? ⟨b, off + t * 3, none⟩ = some (.string (E t).mcc) := (hbe.cell (p := ⟨b, off + t * 3, none⟩) hb).trans c0
                replace c1 : w2.cell? ⟨b, off + t * 3 + 1, none⟩ = some (.string (E t).mnc) := (hbe.cell (p := ⟨b, off + t * 3 + 1, none⟩) hb).trans c1
                clear hc c2 hbe
                by_cases hm1 : (E t).mcc = qa
                · by_cases hm2 : (E t).mnc = qb
                  · subst hm1
                    subst hm2
                    go_wp2
                    go_quiet (fail)
                    go_wp2
                    go_meet
                    case rel => exact ⟨m + nq, (t : Int), rfl, by first | rfl | exact World.drewN_drewN _ _ _, .inr ⟨t, by rw [HF.out, show j - t = (j - (t + 1)) + 1 from by omega, firstM, if_pos ⟨rfl, rfl⟩], htj, rfl⟩⟩
                  · subst hm1
                    have hs := str_ne _ _ hm2
                    have hs1 := hs.1
                    have hs2 := hs.2
                    have HM : Hid (¬ (E t).mnc = qb) := hm2
                    clear hs hm2
                    go_wp2
                    go_quiet (fail)
                    go_wp2
                    go_roundw
                    case rel => exact ⟨t + 1, _, by omega, rfl, by go_num, rfl, (by rw [HF.out, show j - t = (j - (t + 1)) + 1 from by omega, firstM, if_neg (fun h => HM.out h.2)] : firstM E (E t).mcc qb 0 j = firstM E (E t).mcc qb (t + 1) (j - (t + 1)))⟩
                    case measure => simp [intOf]; omega
                · have hs := str_ne _ _ hm1
                  have hs1 := hs.1
                  have hs2 := hs.2
                  have HM : Hid (¬ (E t).mcc = qa) := hm1
                  clear hs hm1
                  go_wp2
                  go_region
                  all_goals
                    go_wp2
                    go_roundw
                    case rel => exact ⟨t + 1, _, by omega, rfl, by go_num, rfl, (by rw [HF.out, show j - t = (j - (t + 1)) + 1 from by omega, firstM, if_neg (fun h => HM.out h.1)] : firstM E qa qb 0 j = firstM E qa qb (t + 1) (j - (t + 1)))⟩
                    case measure => simp [intOf]; omega
              · obtain rfl : t = j := by omega
                go_wp2
                go_meet
                case rel => exact ⟨_, -1, rfl, rfl, .inl ⟨by rw [HF.out]; simp [firstM], rfl⟩⟩
          case rest =>
          obtain ⟨m3, fx, rfl, rfl, hfm⟩ := hcut
          have HFM : Hid ((firstM E qa qb 0 j = none ∧ fx = -1) ∨ ∃ k : Nat, firstM E qa qb 0 j = some k ∧ k < j ∧ fx = k) := hfm
          clear hfm
          go_upto_if 124 with fail
          go_cut [18] from 123 to 129 (fun x wx => ∃ (L : List El) (vo go : Option Addr) (vc gc : Nat), x = .slice vo L.length vc ∧ got = .slice go L.length gc ∧ (vo = none ↔ go = none) ∧ (vo = none → L.length = 0 ∧ vc = 0) ∧ (go = none → L.length = 0 ∧ gc = 0) ∧ RejAt w2 (.slice vo L.length vc) L ∧ GotAt w2 w1.heap.size (.slice go L.length gc) L ∧ (∀ e ∈ L, e.ok) ∧ L.length ≤ 1024 ∧ wx = w2.drewN m3)
          case first =>
            rcases HFM.out with ⟨hf, rfl⟩ | ⟨k, hf, hk, rfl⟩
            · have hgn : got = .slice none 0 0 := by
                rcases HG.out.2 with h | ⟨k, h, _⟩
                · exact h.2
                · rw [hf] at h; cases h
              subst hgn
              go_wp2_with fail
              go_meet
              case rel => exact ⟨[], none, none, 0, 0, rfl, rfl, by simp, by simp, by simp, .inl ⟨rfl, rfl⟩, .inl ⟨rfl, rfl⟩, by simp, by simp, rfl⟩
            · have hgk : (got = .slice none 0 0 ↔ C k = .slice none 0 0) ∧ GotAt w2 w1.heap.size got (E k).L := by
                rcases HG.out.2 with h | ⟨k', h, h2, h3⟩
                · rw [hf] at h; cases h.1
                · rw [hf] at h; cases h; exact h3
              rcases HIN.out with h0 | ⟨b, off, rfl, hcap, hc⟩
              · omega
              obtain ⟨c0, c1, c2⟩ := hc k hk
              have hb : b < S := by rw [HS.out]; exact block_lt_of_cell c0
              have hbe := HB2.out
              replace c2 : w2.cell? ⟨b, off + k * 3 + 2, none⟩ = some (E k).v := (hbe.cell (p := ⟨b, off + k * 3 + 2, none⟩) hb).trans c2
              obtain ⟨hrj, hok, _⟩ := HRJ.out k hk
              have hrj2 : RejAt w2 (E k).v (E k).L := by
                refine hrj.keeps (S := fun b => S ≤ b) ⟨hbe.os, hbe.tape, hbe.output, hbe.size, fun b hb hs => hbe.block b (by omega)⟩ ?_
                rintro b hb _
                rw [HS.out]; omega
              have hcn := (HC1.out k hk).nil
              obtain ⟨vo, vc, hv, hvn⟩ := hrj2.slice
              obtain ⟨go, gc, hg, hgn⟩ := hgk.2.rej.slice
              have hk1 : (0 : Int) ≤ (k : Int) := by omega
              have hkj1 : (k : Int) < (j : Int) := by omega
              have HX : Hid (got = .slice go (E k).L.length gc ∧ (vo = none ↔ go = none) ∧ (vo = none → (E k).L.length = 0 ∧ vc = 0) ∧ (go = none → (E k).L.length = 0 ∧ gc = 0) ∧ RejAt w2 (.slice vo (E k).L.length vc) (E k).L ∧ GotAt w2 w1.heap.size (.slice go (E k).L.length gc) (E k).L ∧ (∀ e ∈ (E k).L, e.ok)) := by
                refine ⟨hg, ?_, ?_, ?_, hv ▸ hrj2, hg ▸ hgk.2, hok⟩
                · rw [hvn, hgn, hgk.1, hcn]
                · intro h; have := hvn.1 h; rw [hv] at this; simp at this; exact ⟨by rw [this.2.1]; rfl, this.2.2⟩
                · intro h; have := hgn.1 h; rw [hg] at this; simp at this; exact ⟨by rw [this.2.1]; rfl, this.2.2⟩
              rw [hv] at c2
              clear hc c0 c1 hrj hrj2 hv hg hvn hgn hgk hcn hok hbe
              go_wp2_with fail
              go_meet
              case rel =>
                obtain ⟨x1, x2, x3, x4, x5, x6, x7⟩ := HX.out
                exact ⟨(E k).L, vo, go, vc, gc, rfl, x1, x2, x3, x4, x5, x6, x7, HLN.out k hk, rfl⟩
          case rest =>
          obtain ⟨L, vo, go, vc, gc, rfl, rfl, hiff, hv0, hg0, hrj, hgt, hok, hL, rfl⟩ := hcut
          obtain ⟨l, hl⟩ : ∃ l, l = L.length := ⟨_, rfl⟩
          obtain ⟨w3, hw3⟩ : ∃ w3, w3 = w2.drewN m3 := ⟨_, rfl⟩
          have k3 : Keeps (fun _ => False) w2 w3 := by rw [hw3]; exact (Keeps.refl _ w2).drewN m3
          have hgq : ∀ w, (binOp .eql 23 (.slice go l gc) (.slice none 0 0)).run Yba.prog w = .ok (.bool go.isNone) w := fun w => slice_nil_eq w go l gc (by rw [hl]; exact hg0)
          have hvq : ∀ w, (binOp .eql 23 (.slice vo l vc) (.slice none 0 0)).run Yba.prog w = .ok (.bool go.isNone) w := fun w => by
            have e : vo.isNone = go.isNone := by
              cases vo <;> cases go <;> simp at hiff ⊢
            rw [← e]; exact slice_nil_eq w vo l vc (by rw [hl]; exact hv0)
          obtain ⟨bb, hbb⟩ : ∃ bb, bb = go.isNone := ⟨_, rfl⟩
          rw [← hbb] at hgq hvq
          rw [← hw3, ← hl]
          rw [← hl] at hrj hgt hL
          have HRL : Hid (l = L.length ∧ RejAt w3 (.slice vo l vc) L ∧ GotAt w3 w1.heap.size (.slice go l gc) L ∧ (∀ e ∈ L, e.ok) ∧ Below S w w3 ∧ Keeps (fun _ => False) w1 w3) := by
            refine ⟨hl, hrj.keeps k3 (by simp), ?_, hok, HB2.out.trans (k3.below (by have := HB2.out.size; have := HS.out; omega) (by simp)), HG.out.1.trans k3⟩
            rcases hgt with h | ⟨g, c, cur, h1, h2, h3, h4, h5⟩
            · exact .inl h
            · exact .inr ⟨g, c, cur, h1, h2, h3, h4.keeps k3 (by simp), h5⟩
          clear hiff hv0 hg0 hrj hgt hok hl hw3 k3 q1 q2 hQl2 HG hbb
          have hg41' := hg41
          go_wp2_with fail
          go_loopw [144] (fun q wx => ∃ t m : Nat, t ≤ l ∧ q = .int .i64 t ∧ wx = w3.drewN m) (fun q _ => l - (intOf q).toNat)
          case atStart => exact ⟨0, 0, Nat.zero_le _, rfl, rfl⟩
          case round =>
            obtain ⟨t, m, ht, rfl, rfl⟩ := hrel
            by_cases htl : t < l
            · have htl1 : (t : Int) < (l : Int) := by omega
              obtain ⟨hl, hrj, hgt, hok, _, _⟩ := HRL.out
              obtain ⟨e, he⟩ : ∃ e, L[t]? = some e := ⟨_, List.getElem?_eq_getElem (by omega)⟩
              obtain ⟨vb, vof, vcap, hv, hvc, hvl, v0, v1, v2, v3, v4, v5, v6, v7, v8, v9, v10⟩ := hrj.els he
              obtain ⟨gb, gof, gcap, hg, hgc, hgl, g0, g1, g2, g3, g4, g5, g6, g7, g8, g9, g10⟩ := hgt.rej.els he
              simp at hv hg
              obtain ⟨rfl, hl1, rfl⟩ := hv
              obtain ⟨rfl, hl2, rfl⟩ := hg
              clear hl1 hl2
              have hee : ∀ w, (binOp .neq 41 (.agg #[.int .u8 e.x0, .bool e.h1, .int .u8 e.s0, .int .u8 e.s1, .int .u8 e.s2, .bool e.h2, .int .u8 e.x1, .bool e.h3, .int .u8 e.t0, .int .u8 e.t1, .int .u8 e.t2]) (.agg #[.int .u8 e.x0, .bool e.h1, .int .u8 e.s0, .int .u8 e.s1, .int .u8 e.s2, .bool e.h2, .int .u8 e.x1, .bool e.h3, .int .u8 e.t0, .int .u8 e.t1, .int .u8 e.t2])).run Yba.prog w = .ok (.bool false) w := el_eq e (hok e (List.mem_iff_getElem?.2 ⟨_, he⟩))
              rw [← hl] at hvc hgc
              clear hrj hgt hok he hl
              go_wp2
              go_quiet (fail)
              go_wp2
              go_roundw
              case rel => exact ⟨t + 1, _, by omega, by go_num, rfl⟩
              case measure => simp [intOf]; omega
            · obtain rfl : t = l := by omega
              have st5 : ∀ g, go = some ⟨g, 0, none⟩ → ∃ cur, Blk w3 g 41 cur ∧ ∀ t', t' < t → ∃ x h, cur[t' * 11]? = some (.int .u8 x) ∧ cur[t' * 11 + 1]? = some (.bool h) := by
                rintro g rfl
                obtain ⟨hl, _, hgt, _, _, _⟩ := HRL.out
                have hgr := hgt.rej
                rcases hgt with ⟨h, _⟩ | ⟨g', c', cur, h1, _, _, h4, _⟩
                · simp at h
                · simp at h1
                  obtain ⟨rfl, _⟩ := h1
                  refine ⟨cur, h4, fun t' ht' => ?_⟩
                  obtain ⟨e, he⟩ : ∃ e, L[t']? = some e := ⟨_, List.getElem?_eq_getElem (by omega)⟩
                  obtain ⟨gb, gof, gcap, hg, _, _, g0, g1, _⟩ := hgr.els he
                  simp at hg
                  obtain ⟨⟨rfl, rfl⟩, _⟩ := hg
                  rw [Nat.zero_add, h4.cell] at g0 g1
                  exact ⟨e.x0, e.h1, g0, g1⟩
              have HS5 : Hid (∀ g, go = some ⟨g, 0, none⟩ → ∃ cur, Blk w3 g 41 cur ∧ ∀ t', t' < t → ∃ x h, cur[t' * 11]? = some (.int .u8 x) ∧ cur[t' * 11 + 1]? = some (.bool h)) := st5
              clear st5
              have hgo : 0 < t → ∃ g, go = some ⟨g, 0, none⟩ ∧ t ≤ gc := by
                intro h0
                obtain ⟨hl, _, hgt, _, _, _⟩ := HRL.out
                rcases hgt with ⟨_, h⟩ | ⟨g', c', cur, h1, h2, _⟩
                · rw [h] at hl; simp at hl; omega
                · simp at h1
                  obtain ⟨rfl, _, rfl⟩ := h1
                  exact ⟨g', rfl, by omega⟩
              have HGO : Hid (0 < t → ∃ g, go = some ⟨g, 0, none⟩ ∧ t ≤ gc) := hgo
              clear hgo
              go_wp2
              go_loopw [159] (fun q wx => ∃ p : Nat, p ≤ t ∧ q = .int .i64 p ∧ Keeps (fun b => ∃ g, go = some ⟨g, 0, none⟩ ∧ b = g) w3 wx ∧ ∀ g, go = some ⟨g, 0, none⟩ → ∃ cur, Blk wx g 41 cur ∧ ∀ t', p ≤ t' → t' < t → ∃ x h, cur[t' * 11]? = some (.int .u8 x) ∧ cur[t' * 11 + 1]? = some (.bool h)) (fun q _ => t - (intOf q).toNat)
              case atStart =>
                refine ⟨0, Nat.zero_le _, rfl, (Keeps.refl _ w3).drewN _, fun g hg => ?_⟩
                obtain ⟨cur, h1, h2⟩ := HS5.out g hg
                exact ⟨cur, h1.drewN _, fun t' _ h => h2 t' h⟩
              case round =>
                obtain ⟨p, hp, rfl, k5, st5⟩ := hrel
                by_cases hpt : p < t
                · have hpt1 : (p : Int) < (t : Int) := by omega
                  obtain ⟨g, rfl, hgc⟩ := HGO.out (by omega)
                  obtain ⟨cur, hb5, hx5⟩ := st5 g rfl
                  obtain ⟨x, h, hc0, hc1⟩ := hx5 p (Nat.le_refl _) hpt
                  have c0 := (hb5.cell (p * 11)).trans hc0
                  have c1 := (hb5.cell (p * 11 + 1)).trans hc1
                  have f0 := hb5.frozen (p * 11)
                  have f1 := hb5.frozen (p * 11 + 1)
                  have hgl := hb5.lt
                  have H5 : Hid _ := k5
                  have HB5 : Hid (Blk wr g 41 cur ∧ ∀ t', p ≤ t' → t' < t → ∃ x h, cur[t' * 11]? = some (.int .u8 x) ∧ cur[t' * 11 + 1]? = some (.bool h)) := ⟨hb5, hx5⟩
                  clear k5 st5 hb5 hx5 hc0 hc1
                  go_wp2_with fail
                  go_roundw
                  case rel =>
                    refine ⟨p + 1, by omega, by go_num, (H5.out.setCell (a := ⟨g, p * 11, none⟩) ⟨g, rfl, rfl⟩ _).setCell (a := ⟨g, p * 11 + 1, none⟩) ⟨g, rfl, rfl⟩ _, ?_⟩
                    intro g' hg'
                    cases hg'
                    refine ⟨_, (HB5.out.1.set (p * 11) _).set (p * 11 + 1) _, fun t' h1 h2 => ?_⟩
                    obtain ⟨x', h', e1, e2⟩ := HB5.out.2 t' (by omega) h2
                    refine ⟨x', h', ?_, ?_⟩
                    · rw [Array.getElem?_setIfInBounds_ne (by omega), Array.getElem?_setIfInBounds_ne (by omega)]; exact e1
                    · rw [Array.getElem?_setIfInBounds_ne (by omega), Array.getElem?_setIfInBounds_ne (by omega)]; exact e2
                  case measure => simp [intOf]; omega
                · obtain rfl : p = t := by omega
                  obtain ⟨w5, hw5⟩ : ∃ w5, w5 = wr := ⟨_, rfl⟩
                  subst hw5
                  obtain ⟨_, _, hgt, _, hb3, k13⟩ := HRL.out
                  have gbig : ∀ g, go = some ⟨g, 0, none⟩ → w1.heap.size ≤ g := by
                    rintro g rfl
                    rcases hgt with ⟨h, _⟩ | ⟨g', c', cur, h1, _, h3, _⟩
                    · simp at h
                    · simp at h1; obtain ⟨rfl, _⟩ := h1; exact h3
                  have k15 : Keeps (fun b => ∃ g, go = some ⟨g, 0, none⟩ ∧ b = g) w1 w5 := (k13.mono (fun b hb h => h.elim)).trans k5
                  have up : ∀ {x : Addr} {u : Value}, w1.cell? x = some u → w5.cell? x = some u := fun {x u} h => k15.cell h (by
                    rintro ⟨g, hg, e⟩
                    have := gbig g hg
                    have := block_lt_of_cell h
                    omega)
                  have s1 : w5.cell? ⟨S, 1, none⟩ = some (.slice vs j cs) := up HPL1.out.1
                  have HF2 : Hid (j = 0 ∨ ∃ gr, vs = some ⟨gr, 0, none⟩ ∧ j ≤ cs ∧ gr < w5.heap.size ∧ ∀ t, t < j → w5.cell? ⟨gr, t * 6 + 4, none⟩ = some (C t)) := by
                    rcases HPL1.out.2 with h | ⟨gr, h1, h2, h3, _, h5⟩
                    · exact .inl h
                    · exact .inr ⟨gr, h1, h2, Nat.lt_of_lt_of_le h3 k15.size, fun t ht => up (h5 t ht)⟩
                  have HF3 : Hid (∀ i, i < j → CopyAt w5 (S + 1) (E i).v (C i) (E i).L) := fun i hi => (HC1.out i hi).keeps k15 (fun c cs _ hb => by
                    rintro ⟨g, hg, e⟩
                    have := gbig g hg
                    have := hb.lt
                    omega)
                  have HF4 : Hid (Below S w w5) := by
                    refine hb3.trans (k5.below (by have := hb3.size; have := HS.out; omega) ?_)
                    rintro k hk ⟨g, hg, e⟩
                    have h1 := gbig g hg
                    have h2 := HB1.out.size
                    have h3 := HS.out
                    omega
                  have hSl5 := block_lt_of_cell s1
                  clear st5 k5 hgt hb3 k13 gbig k15 up HS5 HGO
                  go_wp2_with fail
                  go_loopw [191] (fun q wx => ∃ i m : Nat, i ≤ j ∧ q = .int .i64 i ∧ wx = w5.drewN m) (fun q _ => j - (intOf q).toNat)
                  case atStart => exact ⟨0, 0, Nat.zero_le _, rfl, rfl⟩
                  case round =>
                    obtain ⟨i, m, hi, rfl, rfl⟩ := hrel
                    by_cases hij : i < j
                    · have hij1 : (i : Int) < (j : Int) := by omega
                      rcases HF2.out with h0 | ⟨gr, rfl, hcs, hgrl, hrow⟩
                      · omega
                      rcases HIN.out with h0 | ⟨b, off, rfl, hcap, hc⟩
                      · omega
                      have r4 := hrow i hij
                      obtain ⟨c0, c1, c2⟩ := hc i hij
                      have hb : b < S := by rw [HS.out]; exact block_lt_of_cell c0
                      have hbe := HF4.out
                      replace c2 : w5.cell? ⟨b, off + i * 3 + 2, none⟩ = some (E i).v := (hbe.cell (p := ⟨b, off + i * 3 + 2, none⟩) hb).trans c2
                      obtain ⟨hrj0, hok, _⟩ := HRJ.out i hij
                      have hrj5 : RejAt w5 (E i).v (E i).L := by
                        refine hrj0.keeps (S := fun b => S ≤ b) ⟨hbe.os, hbe.tape, hbe.output, hbe.size, fun b hb hs => hbe.block b (by omega)⟩ ?_
                        rintro b hb _
                        rw [HS.out]; omega
                      have hcp := HF3.out i hij
                      obtain ⟨vo', vc', hv', hvn'⟩ := hrj5.slice
                      obtain ⟨co, cc, hc', hcn'⟩ := hcp.rej.slice
                      obtain ⟨l', hl'⟩ : ∃ l', l' = (E i).L.length := ⟨_, rfl⟩
                      rw [← hl'] at hv' hc'
                      have hvq' : ∀ w, (binOp .eql 23 (.slice vo' l' vc') (.slice none 0 0)).run Yba.prog w = .ok (.bool co.isNone) w := fun w => by
                        have e : vo'.isNone = co.isNone := by
                          have h1 : vo' = none ↔ co = none := by rw [hvn', hcn', hcp.nil]
                          cases vo' <;> cases co <;> simp at h1 ⊢
                        rw [← e]
                        exact slice_nil_eq w vo' l' vc' (fun h => by have h2 := hvn'.1 h; rw [hv'] at h2; injection h2 with a1 a2 a3; exact ⟨a2, a3⟩)
                      have hcq' : ∀ w, (binOp .eql 23 (.slice co l' cc) (.slice none 0 0)).run Yba.prog w = .ok (.bool co.isNone) w := fun w => slice_nil_eq w co l' cc (fun h => by have h2 := hcn'.1 h; rw [hc'] at h2; injection h2 with a1 a2 a3; exact ⟨a2, a3⟩)
                      obtain ⟨bc, hbc⟩ : ∃ bc, bc = co.isNone := ⟨_, rfl⟩
                      rw [← hbc] at hvq' hcq'
                      have hlb : l' ≤ 1024 := by rw [hl']; exact HLN.out i hij
                      have HRR : Hid (l' = (E i).L.length ∧ RejAt w5 (.slice vo' l' vc') (E i).L ∧ RejAt w5 (.slice co l' cc) (E i).L ∧ (∀ e ∈ (E i).L, e.ok)) := ⟨hl', hv' ▸ hrj5, hc' ▸ hcp.rej, hok⟩
                      rw [hc'] at r4
                      rw [hv'] at c2
                      clear hrow hc c0 c1 hbe hrj0 hok hrj5 hcp hvn' hcn' hv' hc' hl' hbc
                      go_wp2_with fail
                      go_loopw [221] (fun q wx => ∃ t m : Nat, t ≤ l' ∧ q = .int .i64 t ∧ wx = w5.drewN m) (fun q _ => l' - (intOf q).toNat)
                      case atStart => exact ⟨0, m, Nat.zero_le _, rfl, rfl⟩
                      case round =>
                        obtain ⟨t7, m7, ht7, rfl, rfl⟩ := hrel
                        by_cases htl7 : t7 < l'
                        · have htl1 : (t7 : Int) < (l' : Int) := by omega
                          obtain ⟨hl, hrj, hgt, hok⟩ := HRR.out
                          obtain ⟨e, he⟩ : ∃ e, (E i).L[t7]? = some e := ⟨_, List.getElem?_eq_getElem (by omega)⟩
                          obtain ⟨vb, vof, vcap, hv, hvc, hvl, v0, v1, v2, v3, v4, v5, v6, v7, v8, v9, v10⟩ := hrj.els he
                          obtain ⟨gb, gof, gcap, hg, hgc, hgl, g0, g1, g2, g3, g4, g5, g6, g7, g8, g9, g10⟩ := hgt.els he
                          simp at hv hg
                          obtain ⟨rfl, hl1, rfl⟩ := hv
                          obtain ⟨rfl, hl2, rfl⟩ := hg
                          clear hl1 hl2
                          have hee : ∀ w, (binOp .neq 41 (.agg #[.int .u8 e.x0, .bool e.h1, .int .u8 e.s0, .int .u8 e.s1, .int .u8 e.s2, .bool e.h2, .int .u8 e.x1, .bool e.h3, .int .u8 e.t0, .int .u8 e.t1, .int .u8 e.t2]) (.agg #[.int .u8 e.x0, .bool e.h1, .int .u8 e.s0, .int .u8 e.s1, .int .u8 e.s2, .bool e.h2, .int .u8 e.x1, .bool e.h3, .int .u8 e.t0, .int .u8 e.t1, .int .u8 e.t2])).run Yba.prog w = .ok (.bool false) w := el_eq e (hok e (List.mem_iff_getElem?.2 ⟨_, he⟩))
                          rw [← hl] at hvc hgc
                          clear hrj hgt hok he hl
                          go_wp2
                          go_quiet (fail)
                          go_wp2
                          go_roundw
                          case rel => exact ⟨t7 + 1, _, by omega, by go_num, rfl⟩
                          case measure => simp [intOf]; omega
                        · obtain rfl : t7 = l' := by omega
                          go_wp2
                          go_roundw
                          case rel => exact ⟨i + 1, _, by omega, by go_num, rfl⟩
                          case measure => simp [intOf]; omega
                    · obtain rfl : i = j := by omega
                      go_wp2_with fail
                      go_ret
                      have hf4 := HF4.out
                      exact ⟨rfl, by rw [← HS.out]; exact ⟨hf4.os, hf4.tape, hf4.output, hf4.size, hf4.block⟩⟩
end Go.Proofs.Ybulkbrua
