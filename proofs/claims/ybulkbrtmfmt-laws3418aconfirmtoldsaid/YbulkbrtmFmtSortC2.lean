import Derived.Test.YbulkbrtmFmtSortC
set_option linter.unusedVariables false
set_option linter.unusedSimpArgs false
set_option maxHeartbeats 8000000
set_option maxRecDepth 1000000
namespace Go.Proofs.YbulkbrtmFmt
open Go.RowKit Go.Sort Go.Proofs

theorem part_calls (blk off cap a b pivot : Nat) (d : Array Int) (w : World) (hH : Holds u64 w blk off d) (hblk : blk < w.heap.size) (hap : a ≤ pivot) (hpb : pivot < b) (hb : b ≤ d.size) (hsz : d.size < 4611686018427387904) :
    Calls Ybaf.prog 42 #[.slice (some ⟨blk, off, none⟩) d.size cap, .int .i64 a, .int .i64 b, .int .i64 pivot] w fun e w' =>
      e = .returned (.tuple #[.int .i64 (Sort.partition ltInt d a b pivot).1, .bool (Sort.partition ltInt d a b pivot).2.1]) ∧ At w blk off (Sort.partition ltInt d a b pivot).2.2 w' := by
  have hA0 := At.start hH hblk
  have hla : a < d.size := by omega
  have hlp : pivot < d.size := by omega
  obtain ⟨G, hG⟩ : ∃ G : Nat → Int, ∀ j, G j = d[j]! := ⟨fun j => d[j]!, fun _ => rfl⟩
  have hcw := hA0.cell G hG _ rfl
  have hfw := hA0.froz _ rfl
  obtain ⟨v', hy'⟩ := cell?_setCell_some (w := w) (p := ⟨blk, off + a, none⟩) (x := .int .u64 (G pivot)) (q := ⟨blk, off + pivot, none⟩) (hcw pivot hlp)
  have HG : Hid (∀ j, G j = d[j]!) := hG
  clear hG hH
  go_enter Ybaf.func42, Ybaf.ntmps42
  go_wp2
  go_region
  have hA1 := (hA0.swap a pivot hla hlp _ _ (HG.out _) (HG.out _)).drew
  have hs1 : (Sort.swp d a pivot).size = d.size := size_swp _ _ _
  clear hcw hfw hy' v' HG hA0
  generalize hw1 : ((w.setCell ⟨blk, off + a, none⟩ (.int .u64 (G pivot))).setCell ⟨blk, off + pivot, none⟩ (.int .u64 (G a))).drew = W1 at hA1 ⊢
  clear hw1
  generalize hd1 : Sort.swp d a pivot = d1 at hA1 hs1
  have HD1 : Hid (d1 = Sort.swp d a pivot) := hid hd1.symm
  clear hd1
  obtain ⟨G1, hG⟩ : ∃ G : Nat → Int, ∀ t, G t = d1[t]! := ⟨fun t => d1[t]!, fun _ => rfl⟩
  have HG : Hid (∀ t, G1 t = d1[t]!) := hG
  clear hG
  go_upto_block 0 with fail
  go_cut [10] from 30 to 45 (fun vi wx => ∃ (i2 : Nat), vi = .int .i64 i2 ∧ (a + 1) ≤ i2 ∧ i2 ≤ (b - 1) + 1 ∧ At w blk off d1 wx ∧ Hid (i2 = Sort.scanUp (fun x => ltInt x d1[a]!) d1 (b - 1) (a + 1)))
  case first =>
    go_wp2_with fail
    go_loopw [10] (fun vi w1 => ∃ (i' : Nat), vi = .int .i64 i' ∧ (a + 1) ≤ i' ∧ i' ≤ (b - 1) + 1 ∧ At w blk off d1 w1 ∧
        Hid (Sort.scanUp (fun x => ltInt x d1[a]!) d1 (b - 1) i' = Sort.scanUp (fun x => ltInt x d1[a]!) d1 (b - 1) (a + 1)))
      (fun vi _ => (b - 1) + 1 - (intOf vi).toNat)
    case atStart => exact ⟨(a + 1), by go_num, Nat.le_refl _, (by omega), hA1, hid rfl⟩
    case round =>
      obtain ⟨i', rfl, hii, hij', hA1, hsc⟩ := hrel
      have hcw := hA1.cell G1 HG.out _ hs1
      have hfw := hA1.froz _ hs1
      by_cases hle : i' ≤ (b - 1)
      · have hz : (i' : Int) ≤ (b : Int) - 1 := by omega
        go_wp2_with fail
        go_quiet (first | (go_at_call 33; refine Calls.quiet_of_same (less_calls _ _ _)))
        go_wp2_with fail
        · have ht : ltInt (G1 i') (G1 a) = true := by assumption
          go_roundw
          case rel => exact ⟨i' + 1, by go_num, by omega, by omega, hA1.drewN _, hid ((scanUp_go (fun x => ltInt x d1[a]!) d1 (b - 1) i' hle (by rw [← HG.out a, ← HG.out i']; exact ht)).symm.trans hsc.out)⟩
          case measure => simp [intOf]; omega
        · have ht : ltInt (G1 i') (G1 a) = false := by assumption
          go_meet
          case rel => exact ⟨i', rfl, hii, hij', hA1.drewN _, hid ((scanUp_end (fun x => ltInt x d1[a]!) d1 (b - 1) i' (Or.inr (by rw [← HG.out a, ← HG.out i']; exact ht))).symm.trans hsc.out)⟩
      · have hz : decide ((i' : Int) ≤ (b : Int) - 1) = false := decide_eq_false (by omega)
        go_wp2_with fail
        go_quiet (first | (go_at_call 33; refine Calls.quiet_of_same (less_calls _ _ _)))
        go_wp2_with fail
        go_meet
        case rel => exact ⟨i', rfl, hii, hij', hA1.drewN _, hid ((scanUp_end (fun x => ltInt x d1[a]!) d1 (b - 1) i' (Or.inl hle)).symm.trans hsc.out)⟩
  case rest =>
    obtain ⟨i2, rfl, hii, hij2, hA2, HI2⟩ := hcut
    go_upto_block 2 with fail
    go_cut [11] from 46 to 62 (fun vj wx => ∃ (j2 : Nat), vj = .int .i64 j2 ∧ j2 ≤ (b - 1) ∧ i2 ≤ j2 + 1 ∧ At w blk off d1 wx ∧ Hid (j2 = Sort.scanDown (fun x => !ltInt x d1[a]!) d1 i2 (b - 1)))
    case first =>
      go_wp2_with fail
      go_loopw [11] (fun vj w2 => ∃ (j' : Nat), vj = .int .i64 j' ∧ j' ≤ (b - 1) ∧ i2 ≤ j' + 1 ∧ At w blk off d1 w2 ∧
          Hid (Sort.scanDown (fun x => !ltInt x d1[a]!) d1 i2 j' = Sort.scanDown (fun x => !ltInt x d1[a]!) d1 i2 (b - 1)))
        (fun vj _ => (intOf vj).toNat)
      case atStart => exact ⟨(b - 1), by go_num, Nat.le_refl _, hij2, hA2, hid rfl⟩
      case round =>
        obtain ⟨j', rfl, hjj, hij3, hA3, hsd⟩ := hrel
        have hcw := hA3.cell G1 HG.out _ hs1
        have hfw := hA3.froz _ hs1
        by_cases hle2 : i2 ≤ j'
        · go_wp2_with fail
          go_quiet (first | (go_at_call 33; refine Calls.quiet_of_same (less_calls _ _ _)))
          go_wp2_with fail
          · have ht : (!ltInt (G1 j') (G1 a)) = true := by assumption
            go_roundw
            case rel => exact ⟨j' - 1, by go_num, by omega, by omega, hA3.drewN _, hid ((scanDown_go (fun x => !ltInt x d1[a]!) d1 i2 j' hle2 (by omega) (by rw [← HG.out a, ← HG.out j']; exact ht)).symm.trans hsd.out)⟩
            case measure => simp [intOf]; omega
          · have ht : (!ltInt (G1 j') (G1 a)) = false := by assumption
            go_meet
            case rel => exact ⟨j', rfl, hjj, hij3, hA3.drewN _, hid ((scanDown_end (fun x => !ltInt x d1[a]!) d1 i2 j' (Or.inr (by rw [← HG.out a, ← HG.out j']; exact ht))).symm.trans hsd.out)⟩
        · go_wp2_with fail
          go_quiet (first | (go_at_call 33; refine Calls.quiet_of_same (less_calls _ _ _)))
          go_wp2_with fail
          go_meet
          case rel => exact ⟨j', rfl, hjj, hij3, hA3.drewN _, hid ((scanDown_end (fun x => !ltInt x d1[a]!) d1 i2 j' (Or.inl hle2)).symm.trans hsd.out)⟩
    case rest =>
      obtain ⟨j2, rfl, hjj, hij3, hA3, HJ2⟩ := hcut
      have hcw := hA3.cell G1 HG.out _ hs1
      have hfw := hA3.froz _ hs1
      by_cases hgt : i2 ≤ j2
      · have hlt3 := part_scans_lt ltInt a (a + 1) (b - 1) d1 (by omega) HI2.out HJ2.out hgt
        obtain ⟨v3, hy3⟩ := cell?_setCell_some (w := wc) (p := ⟨blk, off + i2, none⟩) (x := .int .u64 (G1 j2)) (q := ⟨blk, off + j2, none⟩) (hcw j2 (by omega))
        have HP : Hid (Sort.partition ltInt d a b pivot = _) := hid (part_first_go ltInt d a b pivot rfl rfl HD1.out HI2.out HJ2.out (by omega))
        go_wp2_with fail
        go_region
        have hA4 := (hA3.swap i2 j2 (by omega) (by omega) _ _ (HG.out _) (HG.out _)).drew
        go_wp2_with fail
        go_loopw [10, 11] (fun vi vj wr => ∃ (i j : Nat) (dk : Array Int), vi = .int .i64 i ∧ vj = .int .i64 j ∧ a < i ∧ i ≤ j + 1 ∧ j < b ∧ dk.size = d.size ∧ At w blk off dk wr ∧
            Hid (Sort.partLoop ltInt a i j dk = Sort.partLoop ltInt a (i2 + 1) (j2 - 1) (Sort.swp d1 i2 j2)))
          (fun vi vj _ => (intOf vj).toNat + 1 - (intOf vi).toNat)
        case atStart => exact ⟨i2 + 1, j2 - 1, Sort.swp d1 i2 j2, by go_num, by go_num, by omega, by omega, by omega, by rw [size_swp]; exact hs1, hA4, hid rfl⟩
        case round =>
          obtain ⟨i, j, dk, rfl, rfl, hai, hij, hjb, hs, hA, AE⟩ := hrel
          clear hcw hfw hy3 v3 HG hA4 hA3 HI2 HJ2
          obtain ⟨Gk, hG⟩ : ∃ G : Nat → Int, ∀ t, G t = dk[t]! := ⟨fun t => dk[t]!, fun _ => rfl⟩
          have HG : Hid (∀ t, Gk t = dk[t]!) := hG
          clear hG
          go_upto_block 6 with fail
          go_cut [10] from 99 to 114 (fun vi wx => ∃ (i3 : Nat), vi = .int .i64 i3 ∧ i ≤ i3 ∧ i3 ≤ j + 1 ∧ At w blk off dk wx ∧ Hid (i3 = Sort.scanUp (fun x => ltInt x dk[a]!) dk j i))
          case first =>
            go_wp2_with fail
            go_loopw [10] (fun vi w1 => ∃ (i' : Nat), vi = .int .i64 i' ∧ i ≤ i' ∧ i' ≤ j + 1 ∧ At w blk off dk w1 ∧
                Hid (Sort.scanUp (fun x => ltInt x dk[a]!) dk j i' = Sort.scanUp (fun x => ltInt x dk[a]!) dk j i))
              (fun vi _ => j + 1 - (intOf vi).toNat)
            case atStart => exact ⟨i, by go_num, Nat.le_refl _, hij, hA, hid rfl⟩
            case round =>
              obtain ⟨i', rfl, hii, hij', hA1, hsc⟩ := hrel
              have hcw := hA1.cell Gk HG.out _ hs
              have hfw := hA1.froz _ hs
              by_cases hle : i' ≤ j
              · skip
                go_wp2_with fail
                go_quiet (first | (go_at_call 33; refine Calls.quiet_of_same (less_calls _ _ _)))
                go_wp2_with fail
                · have ht : ltInt (Gk i') (Gk a) = true := by assumption
                  go_roundw
                  case rel => exact ⟨i' + 1, by go_num, by omega, by omega, hA1.drewN _, hid ((scanUp_go (fun x => ltInt x dk[a]!) dk j i' hle (by rw [← HG.out a, ← HG.out i']; exact ht)).symm.trans hsc.out)⟩
                  case measure => simp [intOf]; omega
                · have ht : ltInt (Gk i') (Gk a) = false := by assumption
                  go_meet
                  case rel => exact ⟨i', rfl, hii, hij', hA1.drewN _, hid ((scanUp_end (fun x => ltInt x dk[a]!) dk j i' (Or.inr (by rw [← HG.out a, ← HG.out i']; exact ht))).symm.trans hsc.out)⟩
              · skip
                go_wp2_with fail
                go_quiet (first | (go_at_call 33; refine Calls.quiet_of_same (less_calls _ _ _)))
                go_wp2_with fail
                go_meet
                case rel => exact ⟨i', rfl, hii, hij', hA1.drewN _, hid ((scanUp_end (fun x => ltInt x dk[a]!) dk j i' (Or.inl hle)).symm.trans hsc.out)⟩
          case rest =>
            obtain ⟨i3, rfl, hii, hijq, hA2, HI3⟩ := hcut
            go_upto_block 8 with fail
            go_cut [11] from 115 to 131 (fun vj wx => ∃ (j3 : Nat), vj = .int .i64 j3 ∧ j3 ≤ j ∧ i3 ≤ j3 + 1 ∧ At w blk off dk wx ∧ Hid (j3 = Sort.scanDown (fun x => !ltInt x dk[a]!) dk i3 j))
            case first =>
              go_wp2_with fail
              go_loopw [11] (fun vj w2 => ∃ (j' : Nat), vj = .int .i64 j' ∧ j' ≤ j ∧ i3 ≤ j' + 1 ∧ At w blk off dk w2 ∧
                  Hid (Sort.scanDown (fun x => !ltInt x dk[a]!) dk i3 j' = Sort.scanDown (fun x => !ltInt x dk[a]!) dk i3 j))
                (fun vj _ => (intOf vj).toNat)
              case atStart => exact ⟨j, by go_num, Nat.le_refl _, hijq, hA2, hid rfl⟩
              case round =>
                obtain ⟨j', rfl, hjj, hijq, hA3, hsd⟩ := hrel
                have hcw := hA3.cell Gk HG.out _ hs
                have hfw := hA3.froz _ hs
                by_cases hle2 : i3 ≤ j'
                · go_wp2_with fail
                  go_quiet (first | (go_at_call 33; refine Calls.quiet_of_same (less_calls _ _ _)))
                  go_wp2_with fail
                  · have ht : (!ltInt (Gk j') (Gk a)) = true := by assumption
                    go_roundw
                    case rel => exact ⟨j' - 1, by go_num, by omega, by omega, hA3.drewN _, hid ((scanDown_go (fun x => !ltInt x dk[a]!) dk i3 j' hle2 (by omega) (by rw [← HG.out a, ← HG.out j']; exact ht)).symm.trans hsd.out)⟩
                    case measure => simp [intOf]; omega
                  · have ht : (!ltInt (Gk j') (Gk a)) = false := by assumption
                    go_meet
                    case rel => exact ⟨j', rfl, hjj, hijq, hA3.drewN _, hid ((scanDown_end (fun x => !ltInt x dk[a]!) dk i3 j' (Or.inr (by rw [← HG.out a, ← HG.out j']; exact ht))).symm.trans hsd.out)⟩
                · go_wp2_with fail
                  go_quiet (first | (go_at_call 33; refine Calls.quiet_of_same (less_calls _ _ _)))
                  go_wp2_with fail
                  go_meet
                  case rel => exact ⟨j', rfl, hjj, hijq, hA3.drewN _, hid ((scanDown_end (fun x => !ltInt x dk[a]!) dk i3 j' (Or.inl hle2)).symm.trans hsd.out)⟩
            case rest =>
              obtain ⟨j3, rfl, hjj, hijq, hA3, HJ3⟩ := hcut
              have hcw := hA3.cell Gk HG.out _ hs
              have hfw := hA3.froz _ hs
              by_cases hgt2 : i3 ≤ j3
              · have hlt4 := part_scans_lt ltInt a i j dk (by omega) HI3.out HJ3.out hgt2
                obtain ⟨v4, hy4⟩ := cell?_setCell_some (w := wc) (p := ⟨blk, off + i3, none⟩) (x := .int .u64 (Gk j3)) (q := ⟨blk, off + j3, none⟩) (hcw j3 (by omega))
                go_wp2_with fail
                go_region
                all_goals go_wp2
                all_goals go_roundw
                case rel =>
                  refine ⟨i3 + 1, j3 - 1, Sort.swp dk i3 j3, by go_num, by go_num, by omega, by omega, by omega, by rw [size_swp]; exact hs, ?_, hid ?_⟩
                  · exact (hA3.swap i3 j3 (by omega) (by omega) _ _ (HG.out _) (HG.out _)).drew
                  · rw [← AE.out]; exact (part_go ltInt a i j dk HI3.out HJ3.out (by omega)).symm
                case measure => simp [intOf]; omega
              · have e := hid (part_break ltInt a i j dk HI3.out HJ3.out (by omega))
                obtain ⟨v4, hy4⟩ := cell?_setCell_some (w := wc) (p := ⟨blk, off + j3, none⟩) (x := .int .u64 (Gk a)) (q := ⟨blk, off + a, none⟩) (hcw a (by omega))
                go_wp2_with fail
                go_region
                all_goals go_wp2
                go_ret2
                have hAe := (hA3.swap j3 a (by omega) (by omega) _ _ (HG.out _) (HG.out _)).drew
                rw [HP.out, ← AE.out, e.out]
                exact ⟨rfl, hAe⟩
      · have e := hid (part_first_break ltInt d a b pivot rfl rfl HD1.out HI2.out HJ2.out (by omega))
        obtain ⟨v4, hy4⟩ := cell?_setCell_some (w := wc) (p := ⟨blk, off + j2, none⟩) (x := .int .u64 (G1 a)) (q := ⟨blk, off + a, none⟩) (hcw a (by omega))
        go_wp2_with fail
        go_region
        all_goals go_wp2
        go_ret2
        have hAe := (hA3.swap j2 a (by omega) (by omega) _ _ (HG.out _) (HG.out _)).drew
        rw [e.out]
        exact ⟨rfl, hAe⟩

end Go.Proofs.YbulkbrtmFmt
