import Derived.Test.YbulkbrtmFmtIds
set_option linter.unusedVariables false
set_option linter.unusedSimpArgs false
set_option maxHeartbeats 4000000
set_option maxRecDepth 1000000
namespace Go.Proofs.YbulkbrtmFmt
open Go.RowKit Go.Sort Go.Proofs Go.Deep

theorem ins_sorts (d : Array Int) : Sort.insertionSort ltInt d 0 d.size = Sort.sort ltInt d := by
  obtain ⟨h1, h2⟩ := insertionSort_holds (lt := ltInt) swo_ltInt d 0 d.size (Nat.zero_le _) (Nat.le_refl _)
  have e := sorted_unique_holds (lt := ltInt) swo_ltInt (fun x y h1 h2 => by simp [ltInt] at h1 h2; omega) d _ h1 h2
  obtain ⟨g1, g2⟩ := sort_sorts ltInt swo_ltInt d
  have e' := sorted_unique_holds (lt := ltInt) swo_ltInt (fun x y h1 h2 => by simp [ltInt] at h1 h2; omega) d _ g1 g2
  exact Array.toList_inj.1 (e.trans e'.symm)
theorem sort_rises (d : Array Int) : ∀ i j, i < j → j < (Sort.sort ltInt d).size → (Sort.sort ltInt d)[i]! ≤ (Sort.sort ltInt d)[j]! := fun i j hij hj => by
  have h := (sort_sorts ltInt swo_ltInt d).2 i j (Nat.zero_le _) hij (by rw [sort_size] at hj; exact hj)
  simpa [ltInt] using h

theorem sorted_calls (w : World) (v : Value) (L : List Int) (hv : Ints w v L) (hl : L.length ≤ 1024) :
    Calls Ybaf.prog 9 #[v] w fun e w' => ∃ v', e = .returned v' ∧ Own w.heap.size w' v' (Sort.sort ltInt L.toArray) ∧ Keeps (fun _ => False) w w' := by
  have hcp := copy_calls w v L hv hl
  obtain ⟨n, hn⟩ : ∃ n, n = L.length := ⟨_, rfl⟩
  have hsz : L.toArray.size = n := by simp [hn]
  rw [← ins_sorts, hsz]
  rw [← hn] at hl
  generalize L.toArray = d at hcp hsz ⊢
  clear hn hv
  go_enter Ybaf.func9, Ybaf.ntmps9
  go_wp2_with fail
  refine hcp.mono ?_
  rintro e w1 ⟨v1, rfl, hO, k1⟩
  clear hcp
  rcases hO with ⟨rfl, rfl⟩ | ⟨b, cap, hv1, hH, hb, hblt, hcap⟩
  · obtain rfl : n = 0 := by simpa using hsz.symm
    go_wp2_with fail
    refine wp_loop_rounds 1 ?_
    rw [rounds_succ]
    go_wp2_with fail
    go_ret
    refine ⟨_, rfl, .inl ⟨rfl, ?_⟩, k1⟩
    have := ins_sorts #[]
    have h2 := sort_size #[]
    rw [← this] at h2
    simpa using h2
  · obtain ⟨off, hoff⟩ : ∃ o : Nat, o = 0 := ⟨0, rfl⟩
    rw [← hoff] at hv1 hH
    rw [hsz] at hv1
    subst hv1
    have HOFF := hid hoff
    have hA0 := At.start hH hblt
    clear hoff hH
    go_wp2_with fail
    go_loopw [4] (fun vi wr => ∃ (i : Nat) (dk : Array Int), vi = .int .i64 i ∧ 0 < i ∧ i ≤ n + 1 ∧ dk.size = n ∧ At w1 b off dk wr ∧
        Hid (insOuter ltInt 0 n i dk = insOuter ltInt 0 n (0 + 1) d)) (fun vi _ => n + 1 - (intOf vi).toNat)
    case atStart => exact ⟨1, d, rfl, by omega, by omega, hsz, hA0, hid rfl⟩
    case round =>
      obtain ⟨i, dk, rfl, hai, hib, hsk, hAk, HO⟩ := hrel
      by_cases hlt : i < n
      · go_wp2_with fail
        go_loopw [5] (fun vj wr2 => ∃ (j : Nat) (dj : Array Int), vj = .int .i64 j ∧ j ≤ i ∧ dj.size = n ∧ At w1 b off dj wr2 ∧
            Hid (insInner ltInt 0 j dj = insInner ltInt 0 i dk)) (fun vj _ => (intOf vj).toNat)
        case atStart => exact ⟨i, dk, rfl, Nat.le_refl _, hsk, hAk, hid rfl⟩
        case round =>
          obtain ⟨j, dj, rfl, hji, hsj, hAj, HI⟩ := hrel
          obtain ⟨G, hG⟩ : ∃ G : Nat → Int, ∀ t, G t = dj[t]! := ⟨fun t => dj[t]!, fun _ => rfl⟩
          have hcw := hAj.cell G hG _ hsj
          have hfw := hAj.froz _ hsj
          have HG : Hid (∀ t, G t = dj[t]!) := hG
          clear hG
          have OUT : Hid ((j ≤ 0 ∨ ltInt dj[j]! dj[j - 1]! = false) → insOuter ltInt 0 n (i + 1) dj = insOuter ltInt 0 n (0 + 1) d) := fun hs => by
            rw [← HO.out, insOuter_go _ _ _ _ _ hlt, ← HI.out, insInner_stop _ _ _ _ hs]
          by_cases hja : 0 < j
          · by_cases hgt : G j < G (j - 1)
            · go_wp2_with fail
              go_quiet (fail)
              replace hAj := hAj.drewN nq
              have hcw2 : ∀ t, t < n → (wr.drewN nq).cell? ⟨b, off + t, none⟩ = some (.int .u64 (G t)) := hcw
              have hfw2 : ∀ t, t < n → (wr.drewN nq).frozen? ⟨b, off + t, none⟩ = false := hfw
              clear hcw hfw
              generalize wr.drewN nq = wq at hcw2 hfw2 hAj ⊢
              go_wp2_with fail
              go_roundw
              case rel =>
                refine ⟨j - 1, swp dj j (j - 1), by congr 1; omega, by omega, by rw [size_swp]; exact hsj, ?_, hid ?_⟩
                · exact hAj.swap j (j - 1) (by omega) (by omega) _ _ (HG.out _) (HG.out _)
                · rw [← HI.out, insInner_go ltInt 0 j dj hja (by rw [← HG.out, ← HG.out]; simp [ltInt, hgt])]
              case measure => simp [intOf]; omega
            · go_wp2_with fail
              go_quiet (fail)
              go_wp2_with fail
              go_roundw
              case rel => exact ⟨i + 1, dj, by go_num, by omega, by omega, hsj, hAj.drewN _, hid (OUT.out (Or.inr (by rw [← HG.out, ← HG.out]; simp [ltInt]; omega)))⟩
              case measure => simp [intOf]; omega
          · obtain rfl : j = 0 := by omega
            have hd : decide (((0 : Nat) : Int) > 0) = false := by decide
            go_wp2_with fail
            go_quiet (fail)
            go_wp2_with fail
            go_roundw
            case rel => exact ⟨i + 1, dj, by go_num, by omega, by omega, hsj, hAj.drewN _, hid (OUT.out (Or.inl (by omega)))⟩
            case measure => simp [intOf]; omega
      · go_wp2_with fail
        go_ret
        have hoff := HOFF.out
        subst hoff
        have e : Sort.insertionSort ltInt d 0 n = dk := by
          unfold Sort.insertionSort
          rw [← HO.out, insOuter_stop _ _ _ _ _ hlt]
        rw [e]
        refine ⟨_, rfl, .inr ⟨b, cap, by rw [hsk]; rfl, hAk.holds, hb, hAk.len, by omega⟩, ?_⟩
        exact ⟨hAk.keeps.os.trans k1.os, hAk.keeps.tape.trans k1.tape, hAk.keeps.output.trans k1.output, Nat.le_trans k1.size hAk.keeps.size, fun q hq hs => (hAk.keeps.block q (Nat.lt_of_lt_of_le hq k1.size) (by omega)).trans (k1.block q hq hs)⟩
end Go.Proofs.YbulkbrtmFmt
