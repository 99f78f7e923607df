import Derived.Test.YbulkbrtmFmtSortA
import Derived.Sort.WalkB3
set_option linter.unusedVariables false
set_option linter.unusedSimpArgs false
set_option maxHeartbeats 4000000
set_option maxRecDepth 1000000
namespace Go.Proofs.YbulkbrtmFmt
open Go.RowKit Go.Sort Go.Proofs

theorem reverse_calls (blk off cap : Nat) (d : Array Int) (a b : Nat) (w : World) (hH : Holds u64 w blk off d) (hblk : blk < w.heap.size) (hab : a ≤ b) (hb : b ≤ d.size) (hsz : d.size < 4611686018427387904) :
    Calls Ybaf.prog 39 #[.slice (some ⟨blk, off, none⟩) d.size cap, .int .i64 a, .int .i64 b] w fun e w' => e = .returned (.tuple #[]) ∧ At w blk off (reverseRange d a b) w' := by
  have hA0 := At.start hH hblk
  clear hH
  go_enter Ybaf.func39, Ybaf.ntmps39
  go_wp2
  go_loopg [6, 7] (b - a) (fun k s6 s7 wr => ∃ (i jn : Nat) (jz : Int) (dk : Array Int), s6 = .int .i64 i ∧ s7 = .int .i64 jz ∧ ((i : Int) < jz → jz = jn ∧ jn < d.size) ∧ (¬ (i : Int) < jz → ¬ i < jn) ∧ jn - i ≤ k ∧
    dk.size = d.size ∧ At w blk off dk wr ∧ Hid (reverseLoop i jn dk = reverseLoop a (b - 1) d))
  case atStart => exact ⟨a, b - 1, (b : Int) - 1, d, rfl, rfl, fun h => ⟨by omega, by omega⟩, fun h => by omega, by omega, rfl, hA0, hid rfl⟩
  case round =>
    obtain ⟨i, jn, jz, dk, rfl, rfl, h1, h2, hk, hds, hA, HE⟩ := hrel
    by_cases hlt : (i : Int) < jz
    · obtain ⟨rfl, hjn⟩ := h1 hlt
      have hij : i < jn := by omega
      obtain ⟨G, hG⟩ : ∃ G : Nat → Int, ∀ t, G t = dk[t]! := ⟨fun t => dk[t]!, fun _ => rfl⟩
      have hcw := hA.cell G hG _ hds
      have hfw := hA.froz _ hds
      have HG : Hid (∀ t, G t = dk[t]!) := hG
      clear hG h1 h2
      go_wp2_with fail
      go_region
      go_wp2
      go_roundg (jn - 1 - (i + 1))
      case measure => omega
      case rel =>
        have heq := HE.out
        rw [reverseLoop, if_pos hij] at heq
        exact ⟨i + 1, jn - 1, (jn : Int) - 1, swp dk i jn, by simp, rfl, fun h => ⟨by omega, by omega⟩, fun h => by omega, Nat.le_refl _, by rw [size_swp]; exact hds,
          hA.drew.swap i jn (by omega) (by omega) _ _ (HG.out _) (HG.out _), hid heq⟩
    · have hnot := h2 hlt
      go_wp2
      go_end0
      refine ⟨rfl, ?_⟩
      have heq := HE.out
      rw [reverseLoop, if_neg hnot] at heq
      rw [reverseRange, ← heq]
      exact hA

/-- One round's end: the hole and the child change places. -/
theorem sift_calls (blk off len cap : Nat) (d : Array Int) (hlen : d.size = len) (lo hi first : Nat) (w : World) (hH : Holds u64 w blk off d) (hblk : blk < w.heap.size) (hlo : lo ≤ hi) (hb : first + hi ≤ d.size) (hsz : d.size < 4611686018427387904) :
    Calls Ybaf.prog 48 #[.slice (some ⟨blk, off, none⟩) len cap, .int .i64 lo, .int .i64 hi, .int .i64 first] w fun e w' => e = .returned (.tuple #[]) ∧ At w blk off (siftDown ltInt hi first lo d) w' := by
  subst hlen
  have hA0 := At.start hH hblk
  clear hH
  go_enter Ybaf.func48, Ybaf.ntmps48
  go_wp2
  go_loopg [8] (hi - lo) (fun k s8 wr => ∃ (root : Nat) (dk : Array Int), s8 = .int .i64 root ∧ root ≤ hi ∧ hi - root ≤ k ∧ dk.size = d.size ∧ At w blk off dk wr ∧ Hid (siftDown ltInt hi first root dk = siftDown ltInt hi first lo d))
  case atStart => exact ⟨lo, d, rfl, hlo, Nat.le_refl _, rfl, hA0, hid rfl⟩
  case round =>
    obtain ⟨root, dk, rfl, hr, hk, hds, hA, HE⟩ := hrel
    obtain ⟨G, hG⟩ : ∃ G : Nat → Int, ∀ t, G t = dk[t]! := ⟨fun t => dk[t]!, fun _ => rfl⟩
    have hcw := hA.cell G hG _ hds
    have hfw := hA.froz _ hds
    have HG : Hid (∀ t, G t = dk[t]!) := hG
    clear hG
    by_cases h0 : hi ≤ 2 * root + 1
    · have h0z : (hi : Int) ≤ 2 * (root : Int) + 1 := by omega
      go_wp2
      go_end0
      refine ⟨rfl, ?_⟩
      rw [← HE.out, sd_end ltInt dk h0]
      exact hA
    · have h0z : ¬ ((hi : Int) ≤ 2 * (root : Int) + 1) := by omega
      by_cases h1 : 2 * root + 2 < hi
      · have h1z : 2 * (root : Int) + 1 + 1 < (hi : Int) := by omega
        go_wp2_with fail
        go_quiet (first | (go_at_call 33; refine Calls.quiet_of_same (less_calls _ _ _)))
        go_wp2_with fail
        · have hL : ltInt (G (first + 2 * root + 1)) (G (first + 2 * root + 2)) = true := by assumption
          have HL : Hid (ltInt dk[first + (2 * root + 1)]! dk[first + (2 * root + 2)]! = true) := by
            refine hid ?_
            rw [← HG.out, ← HG.out, show first + (2 * root + 1) = first + 2 * root + 1 by omega, show first + (2 * root + 2) = first + 2 * root + 2 by omega]; exact hL
          replace hA := hA.drewN nq
          have hcw2 : ∀ t, t < d.size → (wr.drewN nq).cell? ⟨blk, off + t, none⟩ = some (.int .u64 (G t)) := hcw
          have hfw2 : ∀ t, t < d.size → (wr.drewN nq).frozen? ⟨blk, off + t, none⟩ = false := hfw
          clear hcw hfw
          generalize wr.drewN nq = wr2 at hcw2 hfw2 hA ⊢
          go_quiet (first | (go_at_call 33; refine Calls.quiet_of_same (less_calls _ _ _)))
          go_wp2_with fail
          · have hS : ltInt dk[first + root]! dk[first + (2 * root + 2)]! = false := by
              have : (!ltInt (G (first + root)) (G (first + 2 * root + 2))) = true := by assumption
              rw [← HG.out, ← HG.out, show first + (2 * root + 2) = first + 2 * root + 2 by omega]
              simpa using this
            (try simp only [Exit.inBlock, Exit.then]); refine bodyPost_ret (results_none rfl _ _ _) rfl ?_
            refine ⟨rfl, ?_⟩
            rw [← HE.out, sd_right_stop ltInt dk h1 HL.out hS]
            exact hA.drewN _
          · have hS : ltInt dk[first + root]! dk[first + (2 * root + 2)]! = true := by
              have : (!ltInt (G (first + root)) (G (first + 2 * root + 2))) = false := by assumption
              rw [← HG.out, ← HG.out, show first + (2 * root + 2) = first + 2 * root + 2 by omega]
              simpa using this
            have HS := hid hS
            clear hS
            go_region
            go_wp2
            go_roundg (hi - (2 * root + 2))
            case measure => omega
            case rel =>
              refine ⟨2 * root + 2, swp dk (first + root) (first + (2 * root + 2)), by simp <;> omega, by omega, Nat.le_refl _, by rw [size_swp]; exact hds, ?_, hid ?_⟩
              · exact (hA.drewN _).swap _ _ (by omega) (by omega) _ _ (HG.out _) (HG.out _)
              · rw [← HE.out, sd_right_go ltInt dk h1 HL.out HS.out]
        · have hL : ltInt (G (first + 2 * root + 1)) (G (first + 2 * root + 2)) = false := by assumption
          have HL : Hid (ltInt dk[first + (2 * root + 1)]! dk[first + (2 * root + 2)]! = false) := by
            refine hid ?_
            rw [← HG.out, ← HG.out, show first + (2 * root + 1) = first + 2 * root + 1 by omega, show first + (2 * root + 2) = first + 2 * root + 2 by omega]; exact hL
          replace hA := hA.drewN nq
          have hcw2 : ∀ t, t < d.size → (wr.drewN nq).cell? ⟨blk, off + t, none⟩ = some (.int .u64 (G t)) := hcw
          have hfw2 : ∀ t, t < d.size → (wr.drewN nq).frozen? ⟨blk, off + t, none⟩ = false := hfw
          clear hcw hfw
          generalize wr.drewN nq = wr2 at hcw2 hfw2 hA ⊢
          go_quiet (first | (go_at_call 33; refine Calls.quiet_of_same (less_calls _ _ _)))
          go_wp2_with fail
          · have hS : ltInt dk[first + root]! dk[first + (2 * root + 1)]! = false := by
              have : (!ltInt (G (first + root)) (G (first + 2 * root + 1))) = true := by assumption
              rw [← HG.out, ← HG.out, show first + (2 * root + 1) = first + 2 * root + 1 by omega]
              simpa using this
            (try simp only [Exit.inBlock, Exit.then]); refine bodyPost_ret (results_none rfl _ _ _) rfl ?_
            refine ⟨rfl, ?_⟩
            rw [← HE.out, sd_left_stop ltInt dk (by omega) (fun _ => HL.out) hS]
            exact hA.drewN _
          · have hS : ltInt dk[first + root]! dk[first + (2 * root + 1)]! = true := by
              have : (!ltInt (G (first + root)) (G (first + 2 * root + 1))) = false := by assumption
              rw [← HG.out, ← HG.out, show first + (2 * root + 1) = first + 2 * root + 1 by omega]
              simpa using this
            have HS := hid hS
            clear hS
            go_region
            go_wp2
            go_roundg (hi - (2 * root + 1))
            case measure => omega
            case rel =>
              refine ⟨2 * root + 1, swp dk (first + root) (first + (2 * root + 1)), by simp <;> omega, by omega, Nat.le_refl _, by rw [size_swp]; exact hds, ?_, hid ?_⟩
              · exact (hA.drewN _).swap _ _ (by omega) (by omega) _ _ (HG.out _) (HG.out _)
              · rw [← HE.out, sd_left_go ltInt dk (by omega) (fun _ => HL.out) HS.out]
      · have h1z : decide (2 * (root : Int) + 1 + 1 < (hi : Int)) = false := decide_eq_false (by omega)
        go_wp2_with fail
        go_quiet (first | (go_at_call 33; refine Calls.quiet_of_same (less_calls _ _ _)))
        go_wp2_with fail
        replace hA := hA.drewN nq
        have hcw2 : ∀ t, t < d.size → (wr.drewN nq).cell? ⟨blk, off + t, none⟩ = some (.int .u64 (G t)) := hcw
        have hfw2 : ∀ t, t < d.size → (wr.drewN nq).frozen? ⟨blk, off + t, none⟩ = false := hfw
        clear hcw hfw
        generalize wr.drewN nq = wr2 at hcw2 hfw2 hA ⊢
        go_quiet (first | (go_at_call 33; refine Calls.quiet_of_same (less_calls _ _ _)))
        go_wp2_with fail
        · have hS : ltInt dk[first + root]! dk[first + (2 * root + 1)]! = false := by
            have : (!ltInt (G (first + root)) (G (first + 2 * root + 1))) = true := by assumption
            rw [← HG.out, ← HG.out, show first + (2 * root + 1) = first + 2 * root + 1 by omega]
            simpa using this
          (try simp only [Exit.inBlock, Exit.then]); refine bodyPost_ret (results_none rfl _ _ _) rfl ?_
          refine ⟨rfl, ?_⟩
          rw [← HE.out, sd_left_stop ltInt dk (by omega) (fun h => absurd h h1) hS]
          exact hA.drewN _
        · have hS : ltInt dk[first + root]! dk[first + (2 * root + 1)]! = true := by
            have : (!ltInt (G (first + root)) (G (first + 2 * root + 1))) = false := by assumption
            rw [← HG.out, ← HG.out, show first + (2 * root + 1) = first + 2 * root + 1 by omega]
            simpa using this
          have HS := hid hS
          clear hS
          go_region
          go_wp2
          go_roundg (hi - (2 * root + 1))
          case measure => omega
          case rel =>
            refine ⟨2 * root + 1, swp dk (first + root) (first + (2 * root + 1)), by simp <;> omega, by omega, Nat.le_refl _, by rw [size_swp]; exact hds, ?_, hid ?_⟩
            · exact (hA.drewN _).swap _ _ (by omega) (by omega) _ _ (HG.out _) (HG.out _)
            · rw [← HE.out, sd_left_go ltInt dk (by omega) (fun h => absurd h h1) HS.out]

theorem heap_calls (blk off len cap : Nat) (d : Array Int) (hlen : d.size = len) (a b : Nat) (w : World) (hH : Holds u64 w blk off d) (hblk : blk < w.heap.size) (hab : a ≤ b) (hb : b ≤ d.size) (hsz : d.size < 4611686018427387904) :
    Calls Ybaf.prog 36 #[.slice (some ⟨blk, off, none⟩) len cap, .int .i64 a, .int .i64 b] w fun e w' => e = .returned (.tuple #[]) ∧ At w blk off (heapSort ltInt d a b) w' := by
  subst hlen
  have hA0 := At.start hH hblk
  clear hH
  have ecast : ((b - a : Nat) : Int) = (b : Int) - (a : Int) := by omega
  go_enter Ybaf.func36, Ybaf.ntmps36
  go_wp2
  go_loopg [9] ((b - a - 1) / 2 + 1) (fun k s9 wr => s9 = .int .i64 ((k : Int) - 1) ∧ k ≤ (b - a - 1) / 2 + 1 ∧ ∃ (dk : Array Int), dk.size = d.size ∧ At w blk off dk wr ∧
    Hid (heapBuild ltInt (b - a) a k dk = heapBuild ltInt (b - a) a ((b - a - 1) / 2 + 1) d))
  case atStart => exact ⟨by rw [half_start hab], Nat.le_refl _, d, rfl, hA0, hid rfl⟩
  case round =>
    obtain ⟨rfl, hkk, dk, hds, hA, HE⟩ := hrel
    cases gk with
    | zero =>
      have HB : Hid (dk = heapBuild ltInt (b - a) a ((b - a - 1) / 2 + 1) d) := HE.out
      clear HE hkk
      go_wp2
      go_loopg [10] (b - a) (fun k s10 wr2 => s10 = .int .i64 ((k : Int) - 1) ∧ k ≤ b - a ∧ ∃ (dj : Array Int), dj.size = d.size ∧ At w blk off dj wr2 ∧ Hid (heapPop ltInt a k dj = heapPop ltInt a (b - a) dk))
      case atStart => exact ⟨by rw [ecast], Nat.le_refl _, dk, hds, hA, hid rfl⟩
      case round =>
        obtain ⟨rfl, hkk, dj, hdj, hAj, HE2⟩ := hrel
        cases gk with
        | zero =>
          go_wp2
          go_end0
          refine ⟨rfl, ?_⟩
          have e : dj = heapSort ltInt d a b := by rw [heapSort, ← HB.out, ← HE2.out]; rfl
          rw [← e]
          exact hAj
        | succ k =>
          obtain ⟨G, hG⟩ : ∃ G : Nat → Int, ∀ t, G t = dj[t]! := ⟨fun t => dj[t]!, fun _ => rfl⟩
          have hcw := hAj.cell G hG _ hdj
          have hfw := hAj.froz _ hdj
          have HG : Hid (∀ t, G t = dj[t]!) := hG
          clear hG
          rcases Nat.eq_zero_or_pos k with hk0 | hkp
          · subst hk0
            go_wp2_with fail
            go_region
            go_wp2_with fail
            have hAs := (hAj.swap a a (by omega) (by omega) _ _ (HG.out _) (HG.out _)).drew
            refine (sift_calls blk off d.size cap (swp dj a a) (by rw [size_swp]; exact hdj) 0 0 a _ hAs.holds (Nat.lt_of_lt_of_le hAs.lt hAs.keeps.size) (Nat.zero_le _) (by rw [size_swp]; omega) (by rw [size_swp]; omega)).mono ?_
            rintro e w1 ⟨rfl, hA1⟩
            go_wp2
            go_roundg 0
            case measure => omega
            case rel =>
              exact ⟨by simp, by omega, siftDown ltInt 0 a 0 (swp dj a (a)), by rw [size_siftDown ltInt _ _ _ _ _ (Nat.le_refl _), size_swp]; exact hdj, hAs.trans hA1, HE2⟩
          · go_wp2_with fail
            go_region
            go_wp2_with fail
            have hAs := (hAj.swap a (a + k) (by omega) (by omega) _ _ (HG.out _) (HG.out _)).drew
            refine (sift_calls blk off d.size cap (swp dj a (a + k)) (by rw [size_swp]; exact hdj) 0 k a _ hAs.holds (Nat.lt_of_lt_of_le hAs.lt hAs.keeps.size) (Nat.zero_le _) (by rw [size_swp]; omega) (by rw [size_swp]; omega)).mono ?_
            rintro e w1 ⟨rfl, hA1⟩
            go_wp2
            go_roundg k
            case measure => omega
            case rel =>
              exact ⟨by simp, by omega, siftDown ltInt k a 0 (swp dj a (a + k)), by rw [size_siftDown ltInt _ _ _ _ _ (Nat.le_refl _), size_swp]; exact hdj, hAs.trans hA1, HE2⟩
    | succ k =>
      have hcall := sift_calls blk off d.size cap dk hds k (b - a) a wr hA.holds (Nat.lt_of_lt_of_le hA.lt hA.keeps.size) (by omega) (by omega) (by omega)
      rw [ecast] at hcall
      go_wp2_with (go_at_call 48; refine hcall.mono ?_; rintro e w1 ⟨rfl, hA1⟩)
      go_roundg k
      case measure => omega
      case rel =>
        exact ⟨by simp, by omega, siftDown ltInt (b - a) a k dk, by rw [size_siftDown ltInt _ _ _ _ _ (Nat.le_refl _)]; exact hds, hA.trans hA1, HE⟩

end Go.Proofs.YbulkbrtmFmt
