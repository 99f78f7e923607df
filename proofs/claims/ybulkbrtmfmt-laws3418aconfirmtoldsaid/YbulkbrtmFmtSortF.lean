import Derived.Test.YbulkbrtmFmtSortC
set_option linter.unusedVariables false
set_option linter.unusedSimpArgs false
set_option maxHeartbeats 6000000
set_option maxRecDepth 1000000
namespace Go.Proofs.YbulkbrtmFmt
open Go.RowKit Go.Sort Go.Proofs

theorem parIns_calls (blk off cap a b : Nat) (d : Array Int) (w : World) (hH : Holds u64 w blk off d) (hblk : blk < w.heap.size) (hab : a < b) (hb : b ≤ d.size) (hsz : d.size < 4611686018427387904) :
    Calls Ybaf.prog 40 #[.slice (some ⟨blk, off, none⟩) d.size cap, .int .i64 a, .int .i64 b] w fun e w' =>
      e = .returned (.bool (Sort.partialInsertionSort ltInt d a b).2) ∧ At w blk off (Sort.partialInsertionSort ltInt d a b).1 w' := by
  have hA0 := At.start hH hblk
  clear hH
  go_enter Ybaf.func40, Ybaf.ntmps40
  go_wp2
  go_loopw [7, 8] (fun vi vs wr => ∃ (i s : Nat) (dk : Array Int), vi = .int .i64 i ∧ vs = .int .i64 s ∧ s ≤ 5 ∧ a < i ∧ i ≤ b ∧ dk.size = d.size ∧ At w blk off dk wr ∧
      Hid (partialIns ltInt a b (5 - s) i dk = partialIns ltInt a b 5 (a + 1) d)) (fun _ vs _ => 5 - (intOf vs).toNat)
  case atStart => exact ⟨a + 1, 0, d, by go_num, rfl, by omega, by omega, by omega, rfl, hA0, hid rfl⟩
  case round =>
    obtain ⟨i, s, dk, rfl, rfl, hs5, hai, hib, hsk, hA, HO⟩ := hrel
    by_cases hs : s < 5
    · obtain ⟨G, hG⟩ : ∃ G : Nat → Int, ∀ t, G t = dk[t]! := ⟨fun t => dk[t]!, fun _ => rfl⟩
      have HG : Hid (∀ t, G t = dk[t]!) := hG
      clear hG
      go_upto_block 2 with fail
      go_cut [7] from 17 to 34 (fun vi wx => ∃ (k : Nat), vi = .int .i64 k ∧ i ≤ k ∧ k ≤ b ∧ At w blk off dk wx ∧ Hid (scanSorted ltInt dk b i = k))
      case first =>
        go_wp2_with fail
        go_loopw [7] (fun vi wr2 => ∃ (k : Nat), vi = .int .i64 k ∧ i ≤ k ∧ k ≤ b ∧ At w blk off dk wr2 ∧ Hid (scanSorted ltInt dk b k = scanSorted ltInt dk b i)) (fun vi _ => b - (intOf vi).toNat)
        case atStart => exact ⟨i, rfl, Nat.le_refl _, hib, hA, hid rfl⟩
        case round =>
          obtain ⟨k, rfl, hik, hkb, hA1, HS⟩ := hrel
          have hcw := hA1.cell G HG.out _ hsk
          have hfw := hA1.froz _ hsk
          by_cases hkb' : k < b
          · go_wp2_with fail
            go_quiet (first | (go_at_call 33; refine Calls.quiet_of_same (less_calls _ _ _)))
            go_wp2_with fail
            · have hl : ltInt (G k) (G (k - 1)) = false := by
                have h : (!ltInt (G k) (G (k - 1))) = true := by assumption
                simpa using h
              go_roundw
              case rel => exact ⟨k + 1, by go_num, by omega, by omega, hA1.drewN _, hid (by rw [← HS.out, scanSorted_go ltInt dk b k hkb' (by rw [← HG.out, ← HG.out]; exact hl)])⟩
              case measure => simp [intOf]; omega
            · have hl : ltInt (G k) (G (k - 1)) = true := by
                have h : (!ltInt (G k) (G (k - 1))) = false := by assumption
                simpa using h
              go_meet
              case rel => exact ⟨k, rfl, hik, hkb, hA1.drewN _, hid (by rw [← HS.out, scanSorted_stop ltInt dk b k (Or.inr (by rw [← HG.out, ← HG.out]; exact hl))])⟩
          · go_wp2_with fail
            go_quiet (first | (go_at_call 33; refine Calls.quiet_of_same (less_calls _ _ _)))
            go_wp2_with fail
            go_meet
            case rel => exact ⟨k, rfl, hik, hkb, hA1.drewN _, hid (by rw [← HS.out, scanSorted_stop ltInt dk b k (Or.inl hkb')])⟩
      case rest =>
        obtain ⟨k, rfl, hik, hkb, hA2, HK⟩ := hcut
        by_cases hkb2 : k = b
        · have hkz : ((k : Int) == (b : Int)) = true := by simp; omega
          have hv : Sort.partialInsertionSort ltInt d a b = (dk, true) := by
            unfold Sort.partialInsertionSort
            rw [← HO.out, pi_true ltInt a b s i dk hs (by rw [HK.out]; exact hkb2)]
          have HV := hid hv
          clear hv
          subst hkb2
          go_wp2_with fail
          rw [HV.out]
          go_ret
          exact ⟨rfl, hA2⟩
        · have hkz : ((k : Int) == (b : Int)) = false := by simp; omega
          by_cases h50 : b - a < 50
          · have h50z : (b : Int) - (a : Int) < 50 := by omega
            have HV : Hid (Sort.partialInsertionSort ltInt d a b = (dk, false)) := by
              refine hid ?_
              unfold Sort.partialInsertionSort
              rw [← HO.out, pi_short ltInt a b s i dk hs (by rw [HK.out]; exact hkb2) h50]
            go_wp2_with fail
            rw [HV.out]
            go_ret
            exact ⟨rfl, hA2⟩
          · have h50z : ¬ ((b : Int) - (a : Int) < 50) := by omega
            have hcw := hA2.cell G HG.out _ hsk
            have hfw := hA2.froz _ hsk
            go_wp2_with fail
            go_region
            have hA3 := (hA2.swap k (k - 1) (by omega) (by omega) _ _ (HG.out _) (HG.out _)).drew
            have hs1 : (swp dk k (k - 1)).size = d.size := by rw [size_swp]; exact hsk
            clear hcw hfw
            go_upto_if 61 with fail
            go_cut [9] from 61 to 94 (fun _ wx => ∃ (dj : Array Int), dj.size = d.size ∧ At w blk off dj wx ∧ Hid (fixDown ltInt a k (swp dk k (k - 1)) = dj))
            case first =>
              by_cases hka : k - a ≥ 2
              · have hkaz : (2 : Int) ≤ (k : Int) - (a : Int) := by omega
                go_wp2_with fail
                go_loopw [9] (fun vj wr2 => ∃ (j : Nat) (dj : Array Int), vj = .int .i64 j ∧ j ≤ k - 1 ∧ dj.size = d.size ∧ At w blk off dj wr2 ∧
                  Hid (shiftDown ltInt j dj = shiftDown ltInt (k - 1) (swp dk k (k - 1)))) (fun vj _ => (intOf vj).toNat)
                case atStart => exact ⟨k - 1, swp dk k (k - 1), by congr 1; omega, Nat.le_refl _, hs1, hA3, hid rfl⟩
                case round =>
                  obtain ⟨j, dj, rfl, hjk, hsj, hAj, HD⟩ := hrel
                  obtain ⟨Gj, hGj⟩ : ∃ G : Nat → Int, ∀ t, G t = dj[t]! := ⟨fun t => dj[t]!, fun _ => rfl⟩
                  have hcw := hAj.cell Gj hGj _ hsj
                  have hfw := hAj.froz _ hsj
                  have HGj : Hid (∀ t, Gj t = dj[t]!) := hGj
                  clear hGj
                  by_cases hj1 : 1 ≤ j
                  · have hj1z : (1 : Int) ≤ (j : Int) := by omega
                    go_wp2_with fail
                    go_quiet (first | (go_at_call 33; refine Calls.quiet_of_same (less_calls _ _ _)))
                    go_wp2_with fail
                    · have hl : ltInt (Gj j) (Gj (j - 1)) = false := by
                        have h : (!ltInt (Gj j) (Gj (j - 1))) = true := by assumption
                        simpa using h
                      go_meet
                      case rel =>
                        refine ⟨dj, hsj, hAj.drewN _, hid ?_⟩
                        unfold fixDown; rw [if_pos hka, ← HD.out, shiftDown_stop ltInt j dj (Or.inr (by rw [← HGj.out, ← HGj.out]; exact hl))]
                    · have hl : ltInt (Gj j) (Gj (j - 1)) = true := by
                        have h : (!ltInt (Gj j) (Gj (j - 1))) = false := by assumption
                        simpa using h
                      go_region
                      all_goals go_wp2_with fail
                      go_roundw
                      case rel =>
                        refine ⟨j - 1, swp dj j (j - 1), by congr 1; omega, by omega, by rw [size_swp]; exact hsj, ?_, hid ?_⟩
                        · exact (hAj.drewN _).swap j (j - 1) (by omega) (by omega) _ _ (HGj.out _) (HGj.out _)
                        · rw [← HD.out, shiftDown_go ltInt j dj (by omega) (by rw [← HGj.out, ← HGj.out]; exact hl)]
                      case measure => simp [intOf]; omega
                  · have hj1z : ¬ ((1 : Int) ≤ (j : Int)) := by omega
                    go_wp2_with fail
                    go_meet
                    case rel =>
                      refine ⟨dj, hsj, hAj, hid ?_⟩
                      unfold fixDown; rw [if_pos hka, ← HD.out, shiftDown_stop ltInt j dj (Or.inl (by omega))]
              · have hkaz : ¬ ((2 : Int) ≤ (k : Int) - (a : Int)) := by omega
                go_wp2_with fail
                go_meet
                case rel => exact ⟨swp dk k (k - 1), hs1, hA3, hid (by unfold fixDown; rw [if_neg hka])⟩
            case rest =>
              obtain ⟨dm, hsm, hAm, HD⟩ := hcut
              have END : Hid (∀ (du : Array Int), fixUp ltInt b k dm = du → partialIns ltInt a b (5 - (s + 1)) k du = partialIns ltInt a b 5 (a + 1) d) := hid fun du hu => by
                rw [← HO.out, pi_go ltInt a b s i k dk hs HK.out hkb2 h50, HD.out, hu]
              by_cases hbk : b - k ≥ 2
              · have hbkz : (2 : Int) ≤ (b : Int) - (k : Int) := by omega
                go_wp2_with fail
                go_loopw [10] (fun vj wr2 => ∃ (j : Nat) (du : Array Int), vj = .int .i64 j ∧ k + 1 ≤ j ∧ j ≤ b ∧ du.size = d.size ∧ At w blk off du wr2 ∧
                  Hid (shiftUp ltInt b j du = shiftUp ltInt b (k + 1) dm)) (fun vj _ => b - (intOf vj).toNat)
                case atStart => exact ⟨k + 1, dm, by go_num, Nat.le_refl _, by omega, hsm, hAm, hid rfl⟩
                case round =>
                  obtain ⟨j, dj, rfl, hkj, hjb, hsj, hAj, HU⟩ := hrel
                  obtain ⟨Gj, hGj⟩ : ∃ G : Nat → Int, ∀ t, G t = dj[t]! := ⟨fun t => dj[t]!, fun _ => rfl⟩
                  have hcw := hAj.cell Gj hGj _ hsj
                  have hfw := hAj.froz _ hsj
                  have HGj : Hid (∀ t, Gj t = dj[t]!) := hGj
                  clear hGj
                  by_cases hj1 : j < b
                  · go_wp2_with fail
                    go_quiet (first | (go_at_call 33; refine Calls.quiet_of_same (less_calls _ _ _)))
                    go_wp2_with fail
                    · have hl : ltInt (Gj j) (Gj (j - 1)) = false := by
                        have h : (!ltInt (Gj j) (Gj (j - 1))) = true := by assumption
                        simpa using h
                      go_roundw
                      case rel =>
                        refine ⟨k, s + 1, dj, rfl, by go_num, by omega, by omega, by omega, hsj, hAj.drewN _, hid (END.out dj ?_)⟩
                        unfold fixUp; rw [if_pos hbk, ← HU.out, shiftUp_stop ltInt b j dj (Or.inr (by rw [← HGj.out, ← HGj.out]; exact hl))]
                      case measure => simp [intOf]; omega
                    · have hl : ltInt (Gj j) (Gj (j - 1)) = true := by
                        have h : (!ltInt (Gj j) (Gj (j - 1))) = false := by assumption
                        simpa using h
                      go_region
                      all_goals go_wp2_with fail
                      go_roundw
                      case rel =>
                        refine ⟨j + 1, swp dj j (j - 1), by go_num, by omega, by omega, by rw [size_swp]; exact hsj, ?_, hid ?_⟩
                        · exact (hAj.drewN _).swap j (j - 1) (by omega) (by omega) _ _ (HGj.out _) (HGj.out _)
                        · rw [← HU.out, shiftUp_go ltInt b j dj (by omega) (by rw [← HGj.out, ← HGj.out]; exact hl)]
                      case measure => simp [intOf]; omega
                  · go_wp2_with fail
                    go_roundw
                    case rel =>
                      refine ⟨k, s + 1, dj, rfl, by go_num, by omega, by omega, by omega, hsj, hAj, hid (END.out dj ?_)⟩
                      unfold fixUp; rw [if_pos hbk, ← HU.out, shiftUp_stop ltInt b j dj (Or.inl hj1)]
                    case measure => simp [intOf]; omega
              · have hbkz : ¬ ((2 : Int) ≤ (b : Int) - (k : Int)) := by omega
                go_wp2_with fail
                go_roundw
                case rel => exact ⟨k, s + 1, dm, rfl, by go_num, by omega, by omega, by omega, hsm, hAm, hid (END.out dm (by unfold fixUp; rw [if_neg hbk]))⟩
                case measure => simp [intOf]; omega
    · obtain rfl : s = 5 := by omega
      go_wp2_with fail
      go_ret
      have hv : Sort.partialInsertionSort ltInt d a b = (dk, false) := by
        unfold Sort.partialInsertionSort
        rw [← HO.out]; exact pi_end ltInt a b i dk
      rw [hv]
      exact ⟨rfl, hA⟩

end Go.Proofs.YbulkbrtmFmt
