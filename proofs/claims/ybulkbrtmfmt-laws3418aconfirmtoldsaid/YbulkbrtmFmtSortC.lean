import Derived.Test.YbulkbrtmFmtSortA
import Derived.Sort.WalkC4
import Derived.Deep.CutBlock
import Derived.Deep.DeepCutAuto
set_option linter.unusedVariables false
set_option linter.unusedSimpArgs false
set_option maxHeartbeats 6000000
set_option maxRecDepth 1000000
namespace Go.Proofs.YbulkbrtmFmt
open Go.RowKit Go.Sort Go.Proofs

theorem At.len {w wr : World} {blk off : Nat} {d : Array Int} (h : At w blk off d wr) : blk < wr.heap.size := Nat.lt_of_lt_of_le h.lt h.keeps.size

theorem partEq_calls (blk off cap a b pivot : Nat) (d : Array Int) (w : World) (hH : Holds u64 w blk off d) (hblk : blk < w.heap.size) (hap : a ≤ pivot) (hpb : pivot < b) (hb : b ≤ d.size) (hsz : d.size < 4611686018427387904) :
    Calls Ybaf.prog 41 #[.slice (some ⟨blk, off, none⟩) d.size cap, .int .i64 a, .int .i64 b, .int .i64 pivot] w fun e w' =>
      e = .returned (.int .i64 (Sort.partitionEqual ltInt d a b pivot).1) ∧ At w blk off (Sort.partitionEqual ltInt d a b pivot).2 w' := by
  have hA0 := At.start hH hblk
  have hla : a < d.size := by omega
  have hlp : pivot < d.size := by omega
  obtain ⟨G, hG⟩ : ∃ G : Nat → Int, ∀ j, G j = d[j]! := ⟨fun j => d[j]!, fun _ => rfl⟩
  have hcw := hA0.cell G hG _ rfl
  have hfw := hA0.froz _ rfl
  obtain ⟨v', hy'⟩ := cell?_setCell_some (w := w) (p := ⟨blk, off + a, none⟩) (x := .int .u64 (G pivot)) (q := ⟨blk, off + pivot, none⟩) (hcw pivot hlp)
  have HG : Hid (∀ j, G j = d[j]!) := hG
  clear hG hH
  go_enter Ybaf.func41, Ybaf.ntmps41
  go_wp2
  go_region
  go_wp2
  go_loopw [9, 10] (fun vi vj wr => ∃ (i j : Nat) (dk : Array Int), vi = .int .i64 i ∧ vj = .int .i64 j ∧ a < i ∧ i ≤ j + 1 ∧ j < b ∧ dk.size = d.size ∧ At w blk off dk wr ∧
      Hid (Sort.partEqLoop ltInt a i j dk = Sort.partEqLoop ltInt a (a + 1) (b - 1) (Sort.swp d a pivot)))
    (fun vi vj _ => (intOf vj).toNat + 1 - (intOf vi).toNat)
  case atStart =>
    exact ⟨a + 1, b - 1, Sort.swp d a pivot, by go_num, by go_num, by omega, by omega, by omega, size_swp _ _ _, (hA0.swap a pivot hla hlp _ _ (HG.out _) (HG.out _)).drew, hid rfl⟩
  case round =>
    obtain ⟨i, j, dk, rfl, rfl, hai, hij, hjb, hs, hA, AE⟩ := hrel
    clear hcw hfw hy' v' HG hA0
    obtain ⟨Gk, hG⟩ : ∃ G : Nat → Int, ∀ t, G t = dk[t]! := ⟨fun t => dk[t]!, fun _ => rfl⟩
    have HG : Hid (∀ t, Gk t = dk[t]!) := hG
    clear hG
    go_upto_block 2 with fail
    go_cut [9] from 29 to 45 (fun vi wx => ∃ (i2 : Nat), vi = .int .i64 i2 ∧ i ≤ i2 ∧ i2 ≤ j + 1 ∧ At w blk off dk wx ∧ Hid (i2 = Sort.scanUp (fun x => !ltInt dk[a]! x) dk j i))
    case first =>
      go_wp2_with fail
      go_loopw [9] (fun vi w1 => ∃ (i' : Nat), vi = .int .i64 i' ∧ i ≤ i' ∧ i' ≤ j + 1 ∧ At w blk off dk w1 ∧
          Hid (Sort.scanUp (fun x => !ltInt dk[a]! x) dk j i' = Sort.scanUp (fun x => !ltInt dk[a]! x) dk j i))
        (fun vi _ => j + 1 - (intOf vi).toNat)
      case atStart => exact ⟨i, rfl, Nat.le_refl _, hij, hA, hid rfl⟩
      case round =>
        obtain ⟨i', rfl, hii, hij', hA1, hsc⟩ := hrel
        have hcw := hA1.cell Gk HG.out _ hs
        have hfw := hA1.froz _ hs
        by_cases hle : i' ≤ j
        · go_wp2_with fail
          go_quiet (first | (go_at_call 33; refine Calls.quiet_of_same (less_calls _ _ _)))
          go_wp2_with fail
          · have ht : (!ltInt (Gk a) (Gk i')) = true := by assumption
            go_roundw
            case rel => exact ⟨i' + 1, by go_num, by omega, by omega, hA1.drewN _, hid ((scanUp_go (fun x => !ltInt dk[a]! x) dk j i' hle (by rw [← HG.out a, ← HG.out i']; exact ht)).symm.trans hsc.out)⟩
            case measure => simp [intOf]; omega
          · have ht : (!ltInt (Gk a) (Gk i')) = false := by assumption
            go_meet
            case rel => exact ⟨i', rfl, hii, hij', hA1.drewN _, hid ((scanUp_end (fun x => !ltInt dk[a]! x) dk j i' (Or.inr (by rw [← HG.out a, ← HG.out i']; exact ht))).symm.trans hsc.out)⟩
        · go_wp2_with fail
          go_quiet (first | (go_at_call 33; refine Calls.quiet_of_same (less_calls _ _ _)))
          go_wp2_with fail
          go_meet
          case rel => exact ⟨i', rfl, hii, hij', hA1.drewN _, hid ((scanUp_end (fun x => !ltInt dk[a]! x) dk j i' (Or.inl hle)).symm.trans hsc.out)⟩
    case rest =>
      obtain ⟨i2, rfl, hii, hij2, hA2, HI2⟩ := hcut
      go_upto_block 4 with fail
      go_cut [10] from 46 to 61 (fun vj wx => ∃ (j2 : Nat), vj = .int .i64 j2 ∧ j2 ≤ j ∧ i2 ≤ j2 + 1 ∧ At w blk off dk wx ∧ Hid (j2 = Sort.scanDown (fun x => ltInt dk[a]! x) dk i2 j))
      case first =>
        go_wp2_with fail
        go_loopw [10] (fun vj w2 => ∃ (j' : Nat), vj = .int .i64 j' ∧ j' ≤ j ∧ i2 ≤ j' + 1 ∧ At w blk off dk w2 ∧
            Hid (Sort.scanDown (fun x => ltInt dk[a]! x) dk i2 j' = Sort.scanDown (fun x => ltInt dk[a]! x) dk i2 j))
          (fun vj _ => (intOf vj).toNat)
        case atStart => exact ⟨j, rfl, Nat.le_refl _, hij2, hA2, hid rfl⟩
        case round =>
          obtain ⟨j', rfl, hjj, hij3, hA3, hsd⟩ := hrel
          have hcw := hA3.cell Gk HG.out _ hs
          have hfw := hA3.froz _ hs
          by_cases hle2 : i2 ≤ j'
          · go_wp2_with fail
            go_quiet (first | (go_at_call 33; refine Calls.quiet_of_same (less_calls _ _ _)))
            go_wp2_with fail
            · have ht : ltInt (Gk a) (Gk j') = true := by assumption
              go_roundw
              case rel => exact ⟨j' - 1, by go_num, by omega, by omega, hA3.drewN _, hid ((scanDown_go (fun x => ltInt dk[a]! x) dk i2 j' hle2 (by omega) (by rw [← HG.out a, ← HG.out j']; exact ht)).symm.trans hsd.out)⟩
              case measure => simp [intOf]; omega
            · have ht : ltInt (Gk a) (Gk j') = false := by assumption
              go_meet
              case rel => exact ⟨j', rfl, hjj, hij3, hA3.drewN _, hid ((scanDown_end (fun x => ltInt dk[a]! x) dk i2 j' (Or.inr (by rw [← HG.out a, ← HG.out j']; exact ht))).symm.trans hsd.out)⟩
          · go_wp2_with fail
            go_quiet (first | (go_at_call 33; refine Calls.quiet_of_same (less_calls _ _ _)))
            go_wp2_with fail
            go_meet
            case rel => exact ⟨j', rfl, hjj, hij3, hA3.drewN _, hid ((scanDown_end (fun x => ltInt dk[a]! x) dk i2 j' (Or.inl hle2)).symm.trans hsd.out)⟩
      case rest =>
        obtain ⟨j2, rfl, hjj, hij3, hA3, HJ2⟩ := hcut
        have hcw := hA3.cell Gk HG.out _ hs
        have hfw := hA3.froz _ hs
        by_cases hgt : i2 ≤ j2
        · have hlt3 := scans_lt ltInt a i j dk (by omega) HI2.out HJ2.out hgt
          obtain ⟨v3, hy3⟩ := cell?_setCell_some (w := wc) (p := ⟨blk, off + i2, none⟩) (x := .int .u64 (Gk j2)) (q := ⟨blk, off + j2, none⟩) (hcw j2 (by omega))
          go_wp2_with fail
          go_region
          all_goals go_wp2
          all_goals go_roundw
          case rel =>
            refine ⟨i2 + 1, j2 - 1, Sort.swp dk i2 j2, by go_num, by go_num, by omega, by omega, by omega, by rw [size_swp]; exact hs, ?_, hid ?_⟩
            · exact (hA3.swap i2 j2 (by omega) (by omega) _ _ (HG.out _) (HG.out _)).drew
            · rw [← AE.out]; exact (partEq_go ltInt a i j dk HI2.out HJ2.out (by omega)).symm
          case measure => simp [intOf]; omega
        · go_wp2_with fail
          go_ret
          have e := partEq_break ltInt a i j dk HI2.out HJ2.out (by omega)
          refine ⟨?_, ?_⟩
          · unfold Sort.partitionEqual; rw [← AE.out, e]; rfl
          · unfold Sort.partitionEqual; rw [← AE.out, e]; exact hA3

end Go.Proofs.YbulkbrtmFmt
