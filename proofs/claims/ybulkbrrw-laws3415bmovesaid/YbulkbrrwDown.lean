import Derived.Test.YbulkbrrwUp
namespace Go.Proofs.Ybulkbrrw
open Go.RowKit Go.Deep
set_option linter.unusedVariables false
set_option linter.unusedSimpArgs false

set_option maxHeartbeats 2000000 in
theorem down54 {T : TypeId} {h : Addr} {fl fs : Nat} {lt : Nat → Nat → Bool} {I : World → List Nat → Prop} {K : World → World → Prop} (O : Ops T h fl fs lt I K) (w : World) (xs : List Nat) (i0 n : Nat) (hI : I w xs) (hi : i0 < 1000) (hn : n ≤ xs.length) :
    Calls Yba.prog 54 #[.iface T (.pointer (some h)), .int .i64 i0, .int .i64 n] w fun e w' => e = .returned (.bool (decide (i0 < (downF lt n xs i0 n).2))) ∧ I w' (downF lt n xs i0 n).1 ∧ K w w' := by
  have m1 := O.eless
  have m3 := O.eswap
  have m2 := O.mless
  have m4 := O.mswap
  have hfew := O.few w xs hI
  go_enter Yba.func54, Yba.ntmps54
  go_wp2
  go_loopw [7] (fun q wr => ∃ (k : Nat) (ys : List Nat), q = .int .i64 k ∧ k < 1000 ∧ I wr ys ∧ ys.length = xs.length ∧ K w wr ∧ downF lt n xs i0 n = downF lt n ys k n) (fun q _ => n - (intOf q).toNat)
  case atStart => exact ⟨i0, xs, rfl, hi, hI, rfl, O.kdraws w 0, rfl⟩
  case round =>
    obtain ⟨k, ys, rfl, hk, hIr, hly, hK, hdn⟩ := hrel
    have HU : Hid (downF lt n xs i0 n = downF lt n ys k n) := hdn
    have HL : Hid (ys.length = xs.length) := hly
    clear hdn hly
    by_cases hbr : n ≤ 2 * k + 1
    · go_wp2_with fail
      go_ret
      have hd : downF lt n xs i0 n = (ys, k) := by
        rw [HU.out]
        cases n with
        | zero => rfl
        | succ n' => rw [downF, if_pos (.inl hbr)]
      rw [hd]
      exact ⟨rfl, hIr, hK⟩
    · have hbr0 : decide ((n : Int) ≤ 2 * (k : Int) + 1) = false := by simp; omega
      have hbr1 : decide (2 * (k : Int) + 1 < 0) = false := by simp; omega
      have c1 : 2 * k + 1 < ys.length := by have := HL.out; omega
      have c2 : 2 * k + 2 < n → 2 * k + 2 < ys.length := by have := HL.out; omega
      by_cases hj2 : 2 * k + 2 < n
      · have hL := O.less wr ys (2 * k + 2) (2 * k + 1) hIr (c2 hj2) c1
        rw [show ((2 * k + 2 : Nat) : Int) = 2 * (k : Int) + 1 + 1 from by omega, show ((2 * k + 1 : Nat) : Int) = 2 * (k : Int) + 1 from by omega] at hL
        obtain ⟨bb, hbb⟩ : ∃ bb, bb = lt (ys.getD (2 * k + 2) 0) (ys.getD (2 * k + 1) 0) := ⟨_, rfl⟩
        rw [← hbb] at hL
        have HB : Hid (bb = lt (ys.getD (2 * k + 2) 0) (ys.getD (2 * k + 1) 0)) := hbb
        have HLs : Hid (Calls Yba.prog fl #[.pointer (some h), .int .i64 (2 * (k : Int) + 1 + 1), .int .i64 (2 * (k : Int) + 1)] wr fun e w' => e = .returned (.bool bb) ∧ ∃ n, w' = wr.drewN n) := hL
        clear hL hbb c2
        go_wp2_with fail
        refine HLs.out.mono ?_
        rintro e w1 ⟨rfl, m1, hw1⟩
        replace hIr : I w1 ys := by rw [hw1]; exact O.draws _ _ _ hIr
        replace hK : K w w1 := by rw [hw1]; exact O.ktrans _ _ _ hK (O.kdraws _ _)
        clear hw1
        cases bb with
        | true =>
          have hch : childF lt ys k n = 2 * k + 2 := by rw [childF, if_pos ⟨hj2, HB.out.symm⟩]
          have hL2 := O.less w1 ys (2 * k + 2) k (by first | exact hIr | exact O.draws _ _ _ hIr) (by have := HL.out; omega) (by have := HL.out; omega)
          rw [show ((2 * k + 2 : Nat) : Int) = 2 * (k : Int) + 1 + 1 from by omega] at hL2
          obtain ⟨b2, hb2⟩ : ∃ b2, b2 = lt (ys.getD (2 * k + 2) 0) (ys.getD k 0) := ⟨_, rfl⟩
          rw [← hb2] at hL2
          have HB2 : Hid (b2 = lt (ys.getD (2 * k + 2) 0) (ys.getD k 0)) := hb2
          have HL2 : Hid (Calls Yba.prog fl #[.pointer (some h), .int .i64 (2 * (k : Int) + 1 + 1), .int .i64 (k : Int)] w1 fun e w' => e = .returned (.bool b2) ∧ ∃ n, w' = World.drewN w1 n) := hL2
          have HC : Hid (childF lt ys k n = 2 * k + 2) := hch
          clear hL2 hb2 hch
          go_wp2_with fail
          refine HL2.out.mono ?_
          rintro e w' ⟨rfl, m2, rfl⟩
          cases b2 with
          | false =>
            go_wp2_with fail
            go_ret
            have hd : downF lt n xs i0 n = (ys, k) := by
              rw [HU.out]
              obtain ⟨n', rfl⟩ : ∃ n', n = n' + 1 := ⟨n - 1, by omega⟩
              rw [downF, if_pos (.inr (by rw [HC.out]; exact HB2.out.symm))]
            rw [hd]
            exact ⟨rfl, O.draws _ _ _ (by first | exact hIr | exact O.draws _ _ _ hIr), O.ktrans _ _ _ hK (by first | exact O.kdraws _ _ | exact O.ktrans _ _ _ (O.kdraws _ _) (O.kdraws _ _))⟩
          | true =>
            have hSw := O.swap (World.drewN w1 m2) ys k (2 * k + 2) (O.draws _ _ _ (by first | exact hIr | exact O.draws _ _ _ hIr)) (by have := HL.out; omega) (by have := HL.out; omega)
            rw [show ((2 * k + 2 : Nat) : Int) = 2 * (k : Int) + 1 + 1 from by omega] at hSw
            have HS : Hid (Calls Yba.prog fs #[.pointer (some h), .int .i64 (k : Int), .int .i64 (2 * (k : Int) + 1 + 1)] (World.drewN w1 m2) fun e w' => e = .returned (.tuple #[]) ∧ I w' (swapL ys k (2 * k + 2)) ∧ K (World.drewN w1 m2) w') := hSw
            clear hSw
            go_wp2_with fail
            refine HS.out.mono ?_
            rintro e w' ⟨rfl, hI2, hK2⟩
            go_wp2
            go_roundw
            case rel =>
              refine ⟨2 * k + 2, swapL ys k (2 * k + 2), by go_num, by have := HL.out; omega, hI2, by rw [length_swapL]; exact HL.out, O.ktrans _ _ _ (O.ktrans _ _ _ hK (by first | exact O.kdraws _ _ | exact O.ktrans _ _ _ (O.kdraws _ _) (O.kdraws _ _))) hK2, ?_⟩
              rw [HU.out]
              obtain ⟨n', rfl⟩ : ∃ n', n = n' + 1 := ⟨n - 1, by omega⟩
              rw [downF, if_neg (by rw [HC.out, ← HB2.out]; simp; omega), HC.out]
              exact downF_enough lt _ _ _ _ _ (by omega) (by omega)
            case measure => simp [intOf]; omega
        | false =>
          have hch : childF lt ys k n = 2 * k + 1 := by rw [childF, if_neg (by rw [← HB.out]; simp)]
          have hL2 := O.less w1 ys (2 * k + 1) k (by first | exact hIr | exact O.draws _ _ _ hIr) (by have := HL.out; omega) (by have := HL.out; omega)
          rw [show ((2 * k + 1 : Nat) : Int) = 2 * (k : Int) + 1 from by omega] at hL2
          obtain ⟨b2, hb2⟩ : ∃ b2, b2 = lt (ys.getD (2 * k + 1) 0) (ys.getD k 0) := ⟨_, rfl⟩
          rw [← hb2] at hL2
          have HB2 : Hid (b2 = lt (ys.getD (2 * k + 1) 0) (ys.getD k 0)) := hb2
          have HL2 : Hid (Calls Yba.prog fl #[.pointer (some h), .int .i64 (2 * (k : Int) + 1), .int .i64 (k : Int)] w1 fun e w' => e = .returned (.bool b2) ∧ ∃ n, w' = World.drewN w1 n) := hL2
          have HC : Hid (childF lt ys k n = 2 * k + 1) := hch
          clear hL2 hb2 hch
          go_wp2_with fail
          refine HL2.out.mono ?_
          rintro e w' ⟨rfl, m2, rfl⟩
          cases b2 with
          | false =>
            go_wp2_with fail
            go_ret
            have hd : downF lt n xs i0 n = (ys, k) := by
              rw [HU.out]
              obtain ⟨n', rfl⟩ : ∃ n', n = n' + 1 := ⟨n - 1, by omega⟩
              rw [downF, if_pos (.inr (by rw [HC.out]; exact HB2.out.symm))]
            rw [hd]
            exact ⟨rfl, O.draws _ _ _ (by first | exact hIr | exact O.draws _ _ _ hIr), O.ktrans _ _ _ hK (by first | exact O.kdraws _ _ | exact O.ktrans _ _ _ (O.kdraws _ _) (O.kdraws _ _))⟩
          | true =>
            have hSw := O.swap (World.drewN w1 m2) ys k (2 * k + 1) (O.draws _ _ _ (by first | exact hIr | exact O.draws _ _ _ hIr)) (by have := HL.out; omega) (by have := HL.out; omega)
            rw [show ((2 * k + 1 : Nat) : Int) = 2 * (k : Int) + 1 from by omega] at hSw
            have HS : Hid (Calls Yba.prog fs #[.pointer (some h), .int .i64 (k : Int), .int .i64 (2 * (k : Int) + 1)] (World.drewN w1 m2) fun e w' => e = .returned (.tuple #[]) ∧ I w' (swapL ys k (2 * k + 1)) ∧ K (World.drewN w1 m2) w') := hSw
            clear hSw
            go_wp2_with fail
            refine HS.out.mono ?_
            rintro e w' ⟨rfl, hI2, hK2⟩
            go_wp2
            go_roundw
            case rel =>
              refine ⟨2 * k + 1, swapL ys k (2 * k + 1), by go_num, by have := HL.out; omega, hI2, by rw [length_swapL]; exact HL.out, O.ktrans _ _ _ (O.ktrans _ _ _ hK (by first | exact O.kdraws _ _ | exact O.ktrans _ _ _ (O.kdraws _ _) (O.kdraws _ _))) hK2, ?_⟩
              rw [HU.out]
              obtain ⟨n', rfl⟩ : ∃ n', n = n' + 1 := ⟨n - 1, by omega⟩
              rw [downF, if_neg (by rw [HC.out, ← HB2.out]; simp; omega), HC.out]
              exact downF_enough lt _ _ _ _ _ (by omega) (by omega)
            case measure => simp [intOf]; omega
      · clear c2
        have hch : childF lt ys k n = 2 * k + 1 := by rw [childF, if_neg (fun hh => hj2 hh.1)]
        have hL2 := O.less wr ys (2 * k + 1) k (by first | exact hIr | exact O.draws _ _ _ hIr) (by have := HL.out; omega) (by have := HL.out; omega)
        rw [show ((2 * k + 1 : Nat) : Int) = 2 * (k : Int) + 1 from by omega] at hL2
        obtain ⟨b2, hb2⟩ : ∃ b2, b2 = lt (ys.getD (2 * k + 1) 0) (ys.getD k 0) := ⟨_, rfl⟩
        rw [← hb2] at hL2
        have HB2 : Hid (b2 = lt (ys.getD (2 * k + 1) 0) (ys.getD k 0)) := hb2
        have HL2 : Hid (Calls Yba.prog fl #[.pointer (some h), .int .i64 (2 * (k : Int) + 1), .int .i64 (k : Int)] wr fun e w' => e = .returned (.bool b2) ∧ ∃ n, w' = World.drewN wr n) := hL2
        have HC : Hid (childF lt ys k n = 2 * k + 1) := hch
        clear hL2 hb2 hch
        go_wp2_with fail
        refine HL2.out.mono ?_
        rintro e w' ⟨rfl, m2, rfl⟩
        cases b2 with
        | false =>
          go_wp2_with fail
          go_ret
          have hd : downF lt n xs i0 n = (ys, k) := by
            rw [HU.out]
            obtain ⟨n', rfl⟩ : ∃ n', n = n' + 1 := ⟨n - 1, by omega⟩
            rw [downF, if_pos (.inr (by rw [HC.out]; exact HB2.out.symm))]
          rw [hd]
          exact ⟨rfl, O.draws _ _ _ (by first | exact hIr | exact O.draws _ _ _ hIr), O.ktrans _ _ _ hK (by first | exact O.kdraws _ _ | exact O.ktrans _ _ _ (O.kdraws _ _) (O.kdraws _ _))⟩
        | true =>
          have hSw := O.swap (World.drewN wr m2) ys k (2 * k + 1) (O.draws _ _ _ (by first | exact hIr | exact O.draws _ _ _ hIr)) (by have := HL.out; omega) (by have := HL.out; omega)
          rw [show ((2 * k + 1 : Nat) : Int) = 2 * (k : Int) + 1 from by omega] at hSw
          have HS : Hid (Calls Yba.prog fs #[.pointer (some h), .int .i64 (k : Int), .int .i64 (2 * (k : Int) + 1)] (World.drewN wr m2) fun e w' => e = .returned (.tuple #[]) ∧ I w' (swapL ys k (2 * k + 1)) ∧ K (World.drewN wr m2) w') := hSw
          clear hSw
          go_wp2_with fail
          refine HS.out.mono ?_
          rintro e w' ⟨rfl, hI2, hK2⟩
          go_wp2
          go_roundw
          case rel =>
            refine ⟨2 * k + 1, swapL ys k (2 * k + 1), by go_num, by have := HL.out; omega, hI2, by rw [length_swapL]; exact HL.out, O.ktrans _ _ _ (O.ktrans _ _ _ hK (by first | exact O.kdraws _ _ | exact O.ktrans _ _ _ (O.kdraws _ _) (O.kdraws _ _))) hK2, ?_⟩
            rw [HU.out]
            obtain ⟨n', rfl⟩ : ∃ n', n = n' + 1 := ⟨n - 1, by omega⟩
            rw [downF, if_neg (by rw [HC.out, ← HB2.out]; simp; omega), HC.out]
            exact downF_enough lt _ _ _ _ _ (by omega) (by omega)
          case measure => simp [intOf]; omega
end Go.Proofs.Ybulkbrrw
