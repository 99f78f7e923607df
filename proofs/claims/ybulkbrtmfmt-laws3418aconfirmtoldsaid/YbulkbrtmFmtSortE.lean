import Derived.Test.YbulkbrtmFmtSortD
import Derived.Test.YbulkbrtmFmtShelfA
import Derived.Sort.Walk7
set_option linter.unusedVariables false
set_option linter.unusedSimpArgs false
set_option maxHeartbeats 4000000
set_option maxRecDepth 1000000
namespace Go.Proofs.YbulkbrtmFmt
open Go.RowKit Go.Sort Go.Proofs

theorem len_calls (n : Nat) (hn : n < 4611686018427387904) (w : World) : Calls Ybaf.prog 25 #[.int .u64 (n : Int)] w fun e w' => e = .returned (.int .i64 (bitsLen n : Nat)) ∧ w' = w := by
  have h := Ybaf.bits_Len (n : Int) w (by omega) (by omega)
  rwa [Int.toNat_natCast, bitLen_eq _ (by omega)] at h

theorem power_calls (n : Nat) (hn : n < 4611686018427387904) (w : World) :
    Calls Ybaf.prog 49 #[.int .i64 n] w fun e w' => e = .returned (.int .u64 ((1 <<< bitsLen n : Nat) : Int)) ∧ w' = w := by
  have hLen := len_calls n hn
  have hk : bitsLen n ≤ 62 := (bitsLen_le_iff n 62).2 (by omega)
  have hp := wrap_two_pow (bitsLen n) hk
  go_enter Ybaf.func49, Ybaf.ntmps49
  go_wp2_with (first | (go_at_call 25; refine (hLen _).mono ?_; rintro e w' ⟨rfl, rfl⟩))
  go_ret
  exact ⟨rfl, rfl⟩

theorem next_calls (rb X : Nat) (hX : X < 18446744073709551616) (w : World) (h : Blk w rb 124 #[.int .u64 (X : Int)]) :
    Calls Ybaf.prog 50 #[.pointer (some ⟨rb, 0, none⟩)] w fun e w' => e = .returned (.int .u64 (xorNextN X : Nat)) ∧ Keeps (· = rb) w w' ∧ Blk w' rb 124 #[.int .u64 (xorNextN X : Nat)] := by
  refine (Ybaf.xor_next rb 0 X hX w (by rw [h.cell]; rfl) (h.frozen 0)).mono ?_
  rintro e w' ⟨rfl, rfl⟩
  exact ⟨rfl, (Keeps.setCell (S := (· = rb)) (a := ⟨rb, 0, none⟩) (Keeps.refl _ _) rfl _).drewN 3, (h.set 0 _).drewN 3⟩

theorem break_go (blk off cap a L : Nat) (d : Array Int) (w : World) (hH : Holds u64 w blk off d) (hblk : blk < w.heap.size) (hb : a + L ≤ d.size) (hsz : d.size < 4611686018427387904) (h8 : 8 ≤ L) :
    Calls Ybaf.prog 37 #[.slice (some ⟨blk, off, none⟩) d.size cap, .int .i64 a, .int .i64 ((a + L : Nat) : Int)] w fun e w' =>
      e = .returned (.tuple #[]) ∧ At w blk off (breakPatterns d a (a + L)) w' := by
  rw [breakPatterns_eq d a L h8]
  obtain ⟨M, hM⟩ : ∃ M : Nat, M = 1 <<< bitsLen L := ⟨_, rfl⟩
  have hM1 : 1 ≤ M := by rw [hM, Nat.one_shiftLeft]; exact Nat.two_pow_pos _
  have hM2 : M ≤ 2 * L := by rw [hM, Nat.one_shiftLeft]; exact two_pow_bitsLen_le (by omega)
  have hNP : ∀ w, Calls Ybaf.prog 49 #[.int .i64 (L : Int)] w fun e w' => e = .returned (.int .u64 (M : Int)) ∧ w' = w := by rw [hM]; exact fun w => power_calls L (by omega) w
  rw [← hM]
  clear hM
  have hA0 : At w blk off d (w.alloc (.cells #[.int .u64 (L : Int)] 124)) := (At.start hH hblk).other ((Keeps.refl _ _).alloc _)
  have hB0 : Blk (w.alloc (.cells #[.int .u64 (L : Int)] 124)) w.heap.size 124 #[.int .u64 (L : Int)] := Blk.new _ _ _
  have hLr : ((UInt64.ofNat L).toNat : Int) = (L : Int) := by simp; omega
  have HLr := hid hLr
  clear hLr hH
  go_enter Ybaf.func37, Ybaf.ntmps37
  go_wp2_with (first | (go_at_call 49; rw [show ((a : Int) + (L : Int) - (a : Int)) = (L : Int) by omega]; refine (hNP _).mono ?_; rintro e w' ⟨rfl, rfl⟩))
  go_loopw [9] (fun vi wr => ∃ (t : Nat) (r : UInt64) (dk : Array Int), vi = .int .i64 ((a + L / 4 * 2 - 1 + t : Nat) : Int) ∧ t ≤ 3 ∧ dk.size = d.size ∧
      At w blk off dk wr ∧ Blk wr w.heap.size 124 #[.int .u64 (r.toNat : Int)] ∧
      Hid (bpRest a L M (a + L / 4 * 2 - 1) (3 - t) t (r, dk) = bpRest a L M (a + L / 4 * 2 - 1) 3 0 (UInt64.ofNat L, d))) (fun vi _ => a + L / 4 * 2 + 3 - (intOf vi).toNat)
  case atStart => exact ⟨0, UInt64.ofNat L, d, by congr 1; omega, by omega, rfl, hA0, by rw [HLr.out]; exact hB0, hid rfl⟩
  case round =>
    obtain ⟨t, r, dk, rfl, ht, hsk, hA, hB, HR⟩ := hrel
    obtain ⟨R, hRr⟩ : ∃ R : Nat, R = r.toNat := ⟨_, rfl⟩
    have lR : R < 18446744073709551616 := by rw [hRr]; exact r.toNat_lt
    obtain ⟨R', hR'⟩ : ∃ R' : Nat, R' = xorNextN R := ⟨_, rfl⟩
    have lR' : R' < 18446744073709551616 := by rw [hR']; exact xorNextN_lt R lR
    obtain ⟨O, hO⟩ : ∃ O : Nat, O = R' &&& (M - 1) := ⟨_, rfl⟩
    have lO : O ≤ M - 1 := by rw [hO]; exact Nat.and_le_right
    have eAnd : bits .and .u64 (R' : Int) ((M : Int) - 1) = (O : Int) := by
      rw [show ((M : Int) - 1) = ((M - 1 : Nat) : Int) by omega, bits_and_u64_nat _ _ lR' (by omega), hO]
    obtain ⟨G, hG⟩ : ∃ G : Nat → Int, ∀ x, G x = dk[x]! := ⟨fun x => dk[x]!, fun _ => rfl⟩
    have hNext : Calls Ybaf.prog 50 #[.pointer (some ⟨w.heap.size, 0, none⟩)] wr fun e w' => e = .returned (.int .u64 (R' : Int)) ∧ Keeps (· = w.heap.size) wr w' ∧ Blk w' w.heap.size 124 #[.int .u64 (R' : Int)] := by
      rw [hR']; exact next_calls _ R lR wr (by rw [hRr]; exact hB)
    have HG : Hid (∀ x, G x = dk[x]!) := hG
    have HN : Hid (R' = (xorNext r).toNat ∧ O = (xorNext r).toNat &&& (M - 1)) := by
      have e : R' = (xorNext r).toNat := by rw [hR', hRr, xorNext_toNat]
      exact ⟨e, by rw [hO, e]⟩
    clear hG hRr hR' hO
    by_cases ht3 : t = 3
    · subst ht3
      have h3 : ¬ ((a + L / 4 * 2 - 1 + 3 : Nat) : Int) ≤ (a : Int) + (L : Int) / 4 * 2 + 1 := by omega
      go_wp2_with fail
      go_end0
      refine ⟨rfl, ?_⟩
      rw [← HR.out]
      exact hA
    · go_wp2_with fail
      refine hNext.mono ?_
      rintro e w1 ⟨rfl, k1, hB1⟩
      have hA1 := hA.cnt k1
      have hcw := hA1.cell G HG.out _ hsk
      have hfw := hA1.froz _ hsk
      by_cases hLO : L ≤ O
      · by_cases hEq : a + L / 4 * 2 - 1 + t = a + (O - L)
        all_goals
          go_wp2_with fail
          go_region
          all_goals go_wp2_with fail
          go_roundw
          case rel =>
            refine ⟨t + 1, xorNext r, swp dk (a + L / 4 * 2 - 1 + t) (a + (O - L)), by first | rfl | (congr 1 <;> omega), by omega, by rw [size_swp]; exact hsk, ?_, ?_, ?_⟩
            · (try rw [hEq])
              exact (hA1.swap _ _ (by omega) (by omega) _ _ (HG.out _) (HG.out _)).drew
            · rw [← HN.out.1]
              exact (((hB1.setOther (by simp <;> omega) _).setOther (by simp <;> omega) _)).drewN 1
            · exact hid (by rw [← HR.out, bp_step a L M _ t r dk (O - L) (by omega) (by rw [← HN.out.2, if_pos (by omega)])])
          case measure => simp [intOf]; omega
      · by_cases hEq : a + L / 4 * 2 - 1 + t = a + O
        all_goals
          go_wp2_with fail
          go_region
          all_goals go_wp2_with fail
          go_roundw
          case rel =>
            refine ⟨t + 1, xorNext r, swp dk (a + L / 4 * 2 - 1 + t) (a + O), by first | rfl | (congr 1 <;> omega), by omega, by rw [size_swp]; exact hsk, ?_, ?_, ?_⟩
            · (try rw [hEq])
              exact (hA1.swap _ _ (by omega) (by omega) _ _ (HG.out _) (HG.out _)).drew
            · rw [← HN.out.1]
              exact (((hB1.setOther (by simp <;> omega) _).setOther (by simp <;> omega) _)).drewN 1
            · exact hid (by rw [← HR.out, bp_step a L M _ t r dk O (by omega) (by rw [← HN.out.2, if_neg (by omega)])])
          case measure => simp [intOf]; omega

theorem break_calls (blk off cap a b : Nat) (d : Array Int) (w : World) (hH : Holds u64 w blk off d) (hblk : blk < w.heap.size) (hab : a ≤ b) (hb : b ≤ d.size) (hsz : d.size < 4611686018427387904) :
    Calls Ybaf.prog 37 #[.slice (some ⟨blk, off, none⟩) d.size cap, .int .i64 a, .int .i64 b] w fun e w' =>
      e = .returned (.tuple #[]) ∧ At w blk off (breakPatterns d a b) w' := by
  obtain ⟨L, rfl⟩ : ∃ L, b = a + L := ⟨b - a, by omega⟩
  by_cases h8 : 8 ≤ L
  · exact break_go blk off cap a L d w hH hblk hb hsz h8
  · have hv : breakPatterns d a (a + L) = d := by unfold breakPatterns; simp only [Nat.add_sub_cancel_left]; rw [if_neg h8]
    rw [hv]
    have hA := At.start hH hblk
    clear hH
    go_enter Ybaf.func37, Ybaf.ntmps37
    go_wp2
    go_end0
    exact ⟨rfl, hA⟩

end Go.Proofs.YbulkbrtmFmt
