import Derived.Test.YbulkbrrwRows
import Derived.Test.YbulkbrrwMem
import Derived.Test.YbulkbrrwHeapDefs
namespace Go.Proofs.Ybulkbrrw
open Go.RowKit Go.Deep
set_option linter.unusedVariables false
set_option linter.unusedSimpArgs false

/-- What container/heap asks of a value h of dynamic type T. -/
structure Ops (T : TypeId) (h : Addr) (fl fs : Nat) (lt : Nat → Nat → Bool) (I : World → List Nat → Prop) (K : World → World → Prop) : Prop where
  mless : ∀ w, (method 338 T (.pointer (some h)) "Less").run Yba.prog w = .ok (fl, .pointer (some h)) w
  mswap : ∀ w, (method 338 T (.pointer (some h)) "Swap").run Yba.prog w = .ok (fs, .pointer (some h)) w
  eless : ∀ args w, (callFunc fl args).run Yba.prog w = .ok (.enter fl args) w
  eswap : ∀ args w, (callFunc fs args).run Yba.prog w = .ok (.enter fs args) w
  less : ∀ w xs (i j : Nat), I w xs → i < xs.length → j < xs.length → Calls Yba.prog fl #[.pointer (some h), .int .i64 i, .int .i64 j] w fun e w' => e = .returned (.bool (lt (xs.getD i 0) (xs.getD j 0))) ∧ ∃ n, w' = w.drewN n
  swap : ∀ w xs (i j : Nat), I w xs → i < xs.length → j < xs.length → Calls Yba.prog fs #[.pointer (some h), .int .i64 i, .int .i64 j] w fun e w' => e = .returned (.tuple #[]) ∧ I w' (swapL xs i j) ∧ K w w'
  draws : ∀ w xs n, I w xs → I (w.drewN n) xs
  kdraws : ∀ w n, K w (w.drewN n)
  ktrans : ∀ a b c, K a b → K b c → K a c
  few : ∀ w xs, I w xs → xs.length < 1000

set_option maxHeartbeats 1000000 in
theorem up41 {T : TypeId} {h : Addr} {fl fs : Nat} {lt : Nat → Nat → Bool} {I : World → List Nat → Prop} {K : World → World → Prop} (O : Ops T h fl fs lt I K) (w : World) (xs : List Nat) (j : Nat) (hI : I w xs) (hj : j < xs.length) :
    Calls Yba.prog 41 #[.iface T (.pointer (some h)), .int .i64 j] w fun e w' => e = .returned (.tuple #[]) ∧ I w' (upF lt (j + 1) xs j) ∧ K w w' := by
  have m1 := O.eless
  have m3 := O.eswap
  have m2 := O.mless
  have m4 := O.mswap
  have hfew := O.few w xs hI
  go_enter Yba.func41, Yba.ntmps41
  go_wp2
  go_loopw [1] (fun q wr => ∃ (k : Nat) (ys : List Nat), k ≤ j ∧ q = .int .i64 k ∧ I wr ys ∧ ys.length = xs.length ∧ K w wr ∧ upF lt (j + 1) xs j = upF lt (k + 1) ys k) (fun q _ => (intOf q).toNat)
  case atStart => exact ⟨j, xs, Nat.le_refl _, rfl, hI, rfl, O.kdraws w 0, rfl⟩
  case round =>
    obtain ⟨k, ys, hk, rfl, hIr, hly, hK, hup⟩ := hrel
    have HU : Hid (upF lt (j + 1) xs j = upF lt (k + 1) ys k) := hup
    have HL : Hid (ys.length = xs.length) := hly
    clear hup hly
    by_cases hk0 : k = 0
    · subst hk0
      go_wp2_with fail
      go_end0
      refine ⟨rfl, ?_, hK⟩
      rw [HU.out]
      simpa [upF] using hIr
    obtain ⟨q, rfl⟩ : ∃ q, k = q + 1 := ⟨k - 1, by omega⟩
    have hq1 : q / 2 < ys.length := by have := HL.out; omega
    have hq2 : q + 1 < ys.length := by have := HL.out; omega
    have hL := O.less wr ys (q + 1) (q / 2) hIr hq2 hq1
    rw [show ((q / 2 : Nat) : Int) = (q : Int) / 2 from by omega, show ((q + 1 : Nat) : Int) = (q : Int) + 1 from by omega] at hL
    have hne : ((q : Int) / 2 == (q : Int) + 1) = false := by rw [beq_eq_false_iff_ne]; omega
    obtain ⟨bb, hbb⟩ : ∃ bb, bb = lt (ys.getD (q + 1) 0) (ys.getD (q / 2) 0) := ⟨_, rfl⟩
    rw [← hbb] at hL
    have HB : Hid (bb = lt (ys.getD (q + 1) 0) (ys.getD (q / 2) 0)) := hbb
    have HL2 : Hid (Calls Yba.prog fl #[.pointer (some h), .int .i64 ((q : Int) + 1), .int .i64 ((q : Int) / 2)] wr fun e w' => e = .returned (.bool bb) ∧ ∃ n, w' = wr.drewN n) := hL
    clear hL hbb
    go_wp2_with fail
    refine HL2.out.mono ?_
    rintro e w' ⟨rfl, n, rfl⟩
    have hSw := O.swap (wr.drewN n) ys (q / 2) (q + 1) (O.draws _ _ _ hIr) hq1 hq2
    rw [show ((q / 2 : Nat) : Int) = (q : Int) / 2 from by omega, show ((q + 1 : Nat) : Int) = (q : Int) + 1 from by omega] at hSw
    have HS : Hid (Calls Yba.prog fs #[.pointer (some h), .int .i64 ((q : Int) / 2), .int .i64 ((q : Int) + 1)] (wr.drewN n) fun e w' => e = .returned (.tuple #[]) ∧ I w' (swapL ys (q / 2) (q + 1)) ∧ K (wr.drewN n) w') := hSw
    clear hSw
    cases bb with
    | false =>
      go_wp2_with fail
      go_end0
      refine ⟨rfl, ?_, O.ktrans _ _ _ hK (O.kdraws _ _)⟩
      rw [HU.out, upF, if_pos (.inr (by simpa using HB.out.symm))]
      exact O.draws _ _ _ hIr
    | true =>
      go_wp2_with fail
      refine HS.out.mono ?_
      rintro e w' ⟨rfl, hI2, hK2⟩
      go_wp2
      go_roundw
      case rel =>
        refine ⟨q / 2, swapL ys (q / 2) (q + 1), by omega, by go_num, hI2, by rw [length_swapL]; exact HL.out, O.ktrans _ _ _ (O.ktrans _ _ _ hK (O.kdraws _ _)) hK2, ?_⟩
        rw [HU.out, upF, if_neg (by rw [show (q + 1 - 1) / 2 = q / 2 from rfl, ← HB.out]; simp; omega)]
        exact upF_enough lt _ _ _ (by omega)
      case measure => simp [intOf]; omega
end Go.Proofs.Ybulkbrrw
