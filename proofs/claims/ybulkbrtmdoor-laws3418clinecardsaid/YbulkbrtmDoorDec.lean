import Derived.Test.YbulkbrtmDoorHex
import Derived.Deep.DeepCutAuto
import Derived.Deep.CutBlock
namespace Go.Proofs.YbulkbrtmDoor
open Go.RowKit Go.Deep Go.Lib
set_option linter.unusedVariables false
set_option linter.unusedSimpArgs false
attribute [local go_sem ↓] Go.wp_at_zero Go.wp_at_succ

def decCells (ds : List UInt8) : Array Value := (List.replicate (24 - ds.length) (Value.int .u8 0) ++ byteCells ds).toArray

theorem decCells_set (ds : List UInt8) (d : UInt8) (h : ds.length < 24) : (decCells ds).setIfInBounds (23 - ds.length) (.int .u8 d.toNat) = decCells (d :: ds) := by
  apply Array.ext'
  simp only [decCells, Array.toList_setIfInBounds]
  rw [List.set_append_left _ _ (by simp; omega)]
  obtain ⟨m, hm⟩ : ∃ m, 24 - ds.length = m + 1 := ⟨23 - ds.length, by omega⟩
  rw [show 23 - ds.length = m from by omega, show 24 - (d :: ds).length = m from by simp; omega, hm]
  rw [List.replicate_succ', List.set_append_right _ _ (by simp)]
  simp [byteCells]

theorem decCells_at (ds : List UInt8) (h : ds.length < 24) : (decCells ds)[23 - ds.length]? = some (.int .u8 0) := by
  simp only [decCells, List.getElem?_toArray]
  rw [List.getElem?_append_left (by simp; omega)]
  rw [List.getElem?_replicate, if_pos (by omega)]

theorem decCells_tail (ds : List UInt8) (h : ds.length ≤ 24) (j : Nat) (hj : j < ds.length) : (decCells ds)[24 - ds.length + j]? = some (.int .u8 (ds[j].toNat : Int)) := by
  simp only [decCells, List.getElem?_toArray]
  rw [List.getElem?_append_right (by simp)]
  simp [byteCells, hj]

theorem sl59 (b j : Nat) (hj : j < 24) (w : World) : (Instr.sliceAt 59 (.pointer (some ⟨b, 0, none⟩)) (some (.int .i64 (j : Int))) none none).run Ybad.prog w = .ok (.slice (some ⟨b, j, none⟩) (24 - j) (24 - j)) w := by
  have ha : Ybad.prog.arrayLen 59 = 24 := by kernel_rfl
  have he : Ybad.prog.elem 59 = 5 := by kernel_rfl
  have hs : (sizeOf 5).run Ybad.prog w = .ok 1 w := by kernel_rfl
  rw [run_sliceAt_array_l w 59 ⟨b, 0, none⟩ (by rw [ha, he]; exact Ybad.underlying59) .i64 (j : Int) (by omega) (by rw [ha]; omega)]
  rw [ha, he, hs]
  have e : (⟨b, 0, none⟩ : Addr).add j = ⟨b, j, none⟩ := by unfold Addr.add; split <;> simp_all
  simp [slicedAt, show ¬ 24 = j by omega, e]

theorem dec_step {u : Nat} (h : 10 ≤ u) : decDigits u = decDigits (u / 10) ++ [UInt8.ofNat (48 + u % 10)] := by rw [decDigits, dif_neg (by omega)]

theorem dec_len {u : Nat} (h : u < 18446744073709551616) : (decDigits u).length ≤ 20 := by
  rw [decDigits_length]
  by_cases h0 : u = 0
  · subst h0; rw [nDigits_small (by omega)]; omega
  · have := numDigits_eq u (by omega) h
    have h2 := this.1
    have h3 := this.2
    split at h2 <;> omega

set_option maxRecDepth 100000 in
set_option maxHeartbeats 1000000 in
theorem dec6 (w : World) (n : Int) (h0 : -9223372036854775808 ≤ n) (h1 : n ≤ 9223372036854775807) :
    Calls Ybad.prog 6 #[.int .i64 n] w fun e w' => e = .returned (.string ⟨(itoa n).toArray⟩) ∧ Keeps (fun _ => False) w w' := by
  obtain ⟨U, hU⟩ : ∃ U, U = n.natAbs := ⟨_, rfl⟩
  have hU1 : U < 18446744073709551616 := by omega
  have HI0 : itoa n = if n < 0 then 45 :: decDigits U else decDigits U := by
    rw [itoa, hU]
    by_cases hn : n < 0
    · rw [if_pos hn, if_pos hn]
    · rw [if_neg hn, if_neg hn, show n.toNat = n.natAbs from by omega]
  have HI : Hid (itoa n = if n < 0 then 45 :: decDigits U else decDigits U) := HI0
  have HU : Hid (U = n.natAbs) := hU
  clear hU HI0
  go_enter Ybad.func6, Ybad.ntmps6
  go_upto_if 11 with fail
  go_cut [3] from 11 to 13 (fun s wx => s = .int .u64 (U : Int) ∧ wx = w)
  case first =>
    by_cases hn : n < 0
    · go_wp2_with fail
      go_meet
      case rel =>
        have hU := HU.out
        refine ⟨?_, rfl⟩
        congr 1
        simp [IntKind.wrap, IntKind.bits, IntKind.signed]; omega
    · go_wp2_with fail
      go_meet
      case rel =>
        have hU := HU.out
        refine ⟨?_, rfl⟩
        congr 1
        simp [IntKind.wrap, IntKind.bits, IntKind.signed]; omega
  case rest =>
  obtain ⟨rfl, hwc⟩ := hcut
  obtain ⟨w, hw⟩ : ∃ w', w' = wc := ⟨_, rfl⟩
  subst hw
  subst hwc
  go_upto_if 15 with fail
  go_cut [6] from 14 to 19 (fun q wx => ∃ (k : Nat) (ds : List UInt8), k + ds.length = 24 ∧ q = .int .i64 (k : Int) ∧ Blk wx w.heap.size 59 (decCells ds) ∧ Keeps (fun b => b = w.heap.size) w wx ∧ (U = 0 ∧ ds = [48] ∨ 0 < U ∧ ds = []))
  case first =>
    by_cases h0 : U = 0
    · subst h0
      go_wp2_with fail
      go_meet
      case rel => exact ⟨23, [48], rfl, rfl, Blk.new _ _ _, (Keeps.refl _ w).alloc _, .inl (by simp)⟩
    · have h0' : ((U : Int) == 0) = false := by simp; omega
      go_wp2_with fail
      go_meet
      case rel => exact ⟨24, [], rfl, rfl, Blk.new _ _ _, (Keeps.refl _ w).alloc _, .inr ⟨by omega, rfl⟩⟩
  case rest =>
  obtain ⟨k0, ds0, hk0, rfl, bl, kp, hds⟩ := hcut
  obtain ⟨w5, hw5⟩ : ∃ w', w' = wc := ⟨_, rfl⟩
  subst hw5
  have HB : Hid (k0 + ds0.length = 24 ∧ Blk w5 w.heap.size 59 (decCells ds0)) := ⟨hk0, bl⟩
  have HK : Hid (Keeps (fun b => b = w.heap.size) w w5) := kp
  have HS : Hid (U = 0 ∧ ds0 = [48] ∨ 0 < U ∧ ds0 = []) := hds
  clear bl kp hds hk0
  go_wp2_with fail
  go_loopw [3, 6] (fun s q wr => ∃ (u k : Nat) (ds : List UInt8), k + ds.length = 24 ∧ s = .int .u64 (u : Int) ∧ q = .int .i64 (k : Int) ∧ Keeps (fun b => b = w.heap.size) w wr ∧ Blk wr w.heap.size 59 (decCells ds) ∧ (u = 0 ∧ ds = decDigits U ∨ 0 < u ∧ u ≤ U ∧ decDigits u ++ ds = decDigits U)) (fun s _ _ => (RowKit.intOf s).toNat)
  case atStart =>
    refine ⟨U, k0, ds0, HB.out.1, rfl, rfl, HK.out, HB.out.2, ?_⟩
    rcases HS.out with ⟨rfl, rfl⟩ | ⟨h, rfl⟩
    · exact .inl ⟨rfl, by rw [decDigits_one (by omega)]; rfl⟩
    · exact .inr ⟨h, Nat.le_refl _, by simp⟩
  case round =>
    obtain ⟨u, k, ds, hk, rfl, rfl, kp, bl, hu⟩ := hrel
    have hlen := dec_len hU1
    by_cases hu0 : u = 0
    · subst hu0
      have hds : ds = decDigits U := by rcases hu with h | h; exact h.2; omega
      have HI' : Hid (itoa n = if n < 0 then 45 :: ds else ds) := by rw [hds]; exact HI.out
      rw [← hds] at hlen
      have hlp : 0 < ds.length := by rw [hds, decDigits_length]; exact nDigits_pos U
      clear hds hu HI
      obtain ⟨j, rfl⟩ : ∃ j, k = j + 1 := ⟨k - 1, by omega⟩
      have hj : j = 23 - ds.length := by omega
      have hj24 : j + 1 = 24 - ds.length := by omega
      by_cases hn : n < 0
      · have c0 : wr.cell? ⟨w.heap.size, j, none⟩ = some (.int .u8 0) := by rw [bl.cell, hj, decCells_at _ (by omega)]
        have f0 := bl.frozen j
        have bl2 := bl.set j (.int .u8 45)
        have e1 := decCells_set ds 45 (by omega)
        rw [show ((45 : UInt8).toNat : Int) = 45 from rfl, ← hj] at e1
        rw [e1] at bl2
        have hcv := str_of (l := 45 :: ds) (off := j) (cap := 24 - j) bl2 (fun i hi => by rw [show j = 24 - (45 :: ds).length from by simp; omega]; exact decCells_tail (45 :: ds) (by simp; omega) i hi)
        rw [show (45 :: ds).length = 24 - j from by simp; omega] at hcv
        have HKP : Hid (Keeps (fun b => b = w.heap.size) w wr) := kp
        have HJ : Hid (j + 1 + ds.length = 24) := hk
        have hj23 : j < 24 := by omega
        have hsl := sl59 w.heap.size j hj23
        clear bl bl2 kp e1 hj hj24 hk hlen hlp
        go_wp2_with fail
        go_ret
        rw [HI'.out, if_pos hn]
        exact ⟨rfl, (HKP.out.setCell (a := ⟨w.heap.size, j, none⟩) rfl _).mono (fun b hb e => by omega)⟩
      · have hcv := str_of (l := ds) (off := j + 1) (cap := 24 - (j + 1)) bl (fun i hi => by rw [hj24]; exact decCells_tail ds (by omega) i hi)
        rw [show ds.length = 24 - (j + 1) from by omega] at hcv
        have HKP : Hid (Keeps (fun b => b = w.heap.size) w wr) := kp
        have hj23 : j < 24 := by omega
        have hj1 : j + 1 < 24 := by omega
        clear bl kp hj hj24 hk hlen hlp hj23
        generalize j + 1 = k at *
        have hsl := sl59 w.heap.size k hj1
        go_wp2_with fail
        go_ret
        rw [HI'.out, if_neg (by omega)]
        exact ⟨rfl, HKP.out.mono (fun b hb e => by omega)⟩
    · obtain ⟨hup, huU, hdd⟩ : 0 < u ∧ u ≤ U ∧ decDigits u ++ ds = decDigits U := by rcases hu with h | h; omega; exact h
      have hl2 : (decDigits u).length + ds.length ≤ 20 := by rw [← List.length_append, hdd]; exact hlen
      have hl3 : 0 < (decDigits u).length := by rw [decDigits_length]; exact nDigits_pos u
      obtain ⟨j, rfl⟩ : ∃ j, k = j + 1 := ⟨k - 1, by omega⟩
      have hj : j = 23 - ds.length := by omega
      have hup1 : (0 : Int) < (u : Int) := by omega
      have c0 : wr.cell? ⟨w.heap.size, j, none⟩ = some (.int .u8 0) := by rw [bl.cell, hj, decCells_at _ (by omega)]
      have f0 := bl.frozen j
      have bl2 := bl.set j (.int .u8 ((UInt8.ofNat (48 + u % 10)).toNat : Int))
      have e1 := decCells_set ds (UInt8.ofNat (48 + u % 10)) (by omega)
      rw [← hj] at e1
      rw [e1] at bl2
      have hb8 : ((UInt8.ofNat (48 + u % 10)).toNat : Int) = 48 + (u : Int) % 10 := by simp; omega
      rw [hb8] at bl2
      have HBL : Hid _ := bl2
      have HKP : Hid (Keeps (fun b => b = w.heap.size) w wr) := kp
      have HR : Hid (0 < u ∧ u ≤ U ∧ decDigits u ++ ds = decDigits U ∧ j + 1 + ds.length = 24) := ⟨hup, huU, hdd, hk⟩
      have hj23 : j < 24 := by omega
      have hu64 : u < 18446744073709551616 := by omega
      clear bl bl2 kp e1 hj hb8 hu hup huU hdd hk hl2 hl3 hlen
      go_wp2_with fail
      go_roundw
      case rel =>
        obtain ⟨hup, huU, hdd, hk⟩ := HR.out
        refine ⟨u / 10, j, UInt8.ofNat (48 + u % 10) :: ds, by simp; omega, by go_num, rfl, HKP.out.setCell (a := ⟨w.heap.size, j, none⟩) rfl _, HBL.out, ?_⟩
        by_cases h10 : u < 10
        · left
          refine ⟨by omega, ?_⟩
          rw [← hdd, decDigits_one h10, show u % 10 = u from by omega]
          rfl
        · right
          refine ⟨by omega, by omega, ?_⟩
          rw [← hdd, dec_step (u := u) (by omega)]
          simp
      case measure => simp [RowKit.intOf]; omega
end Go.Proofs.YbulkbrtmDoor
