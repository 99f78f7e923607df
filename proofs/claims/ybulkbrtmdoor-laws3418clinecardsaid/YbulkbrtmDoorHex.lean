import Derived.Test.YbulkbrtmDoorMarker
namespace Go.Proofs.YbulkbrtmDoor
open Go.RowKit Go.Deep Go.Lib
set_option linter.unusedVariables false
set_option linter.unusedSimpArgs false
attribute [local go_sem ↓] Go.wp_at_zero Go.wp_at_succ

def hexCells (id k : Nat) : Array Value := ((List.range 16).map fun i => if i + k < 16 then Value.int .u8 0 else .int .u8 (hexB (id / 16 ^ (15 - i) % 16)).toNat).toArray

theorem hexCells_at (id k i : Nat) (hi : i < 16) : (hexCells id k)[i]? = some (if i + k < 16 then Value.int .u8 0 else .int .u8 (hexB (id / 16 ^ (15 - i) % 16)).toNat) := by
  simp [hexCells, hi]

theorem hexCells_set (id k : Nat) (hk : k < 16) : (hexCells id k).setIfInBounds (15 - k) (.int .u8 (hexB (id / 16 ^ k % 16)).toNat) = hexCells id (k + 1) := by
  apply Array.ext_getElem?
  intro i
  by_cases hi : i < 16
  · by_cases h : 15 - k = i
    · subst h
      rw [hexCells_at _ _ _ hi, Array.getElem?_setIfInBounds_self_of_lt (by simp [hexCells]; omega)]
      rw [if_neg (by omega), show 15 - (15 - k) = k from by omega]
    · rw [Array.getElem?_setIfInBounds_ne h, hexCells_at _ _ _ hi, hexCells_at _ _ _ hi]
      by_cases h2 : i + k < 16
      · rw [if_pos h2, if_pos (by omega)]
      · rw [if_neg h2, if_neg (by omega)]
  · rw [Array.getElem?_eq_none (by simp [hexCells]; omega), Array.getElem?_eq_none (by simp [hexCells]; omega)]

/-- 'string(b)' of a block's bytes. -/
theorem str_of {w : World} {b : Nat} {t : TypeId} {cs : Array Value} {l : List UInt8} {off cap : Nat} (h : Blk w b t cs) (hl : ∀ j (hj : j < l.length), cs[off + j]? = some (.int .u8 (l[j].toNat : Int))) :
    (convert 45 9 (.slice (some ⟨b, off, none⟩) l.length cap)).run Ybad.prog w = .ok (.string ⟨l.toArray⟩) w := by
  refine run_convert_bytes_back w 45 9 5 _ cap l Ybad.underlying45 (by kernel_rfl) Ybad.underlying9 ?_
  intro j hj
  have e : (⟨b, off, none⟩ : Addr).add j = ⟨b, off + j, none⟩ := by unfold Addr.add; split <;> simp_all
  rw [e, h.cell, hl j hj]

set_option maxRecDepth 100000 in
set_option maxHeartbeats 1000000 in
theorem hex5 (w : World) (id : Nat) (hid : id < 18446744073709551616) :
    Calls Ybad.prog 5 #[.int .u64 id] w fun e w' => e = .returned (.string ⟨(hexTo id 16).toArray⟩) ∧ Keeps (fun _ => False) w w' := by
  go_enter Ybad.func5, Ybad.ntmps5
  go_wp2_with fail
  go_loopw [0, 4] (fun s q wr => ∃ k x : Nat, k ≤ 16 ∧ x = id / 16 ^ k ∧ s = .int .u64 (x : Int) ∧ q = .int .i64 (15 - (k : Int)) ∧ Keeps (fun b => b = w.heap.size) w wr ∧ Blk wr w.heap.size 57 (hexCells id k)) (fun _ q _ => (RowKit.intOf q + 1).toNat)
  case atStart =>
    refine ⟨0, id, by omega, by simp, rfl, rfl, (Keeps.refl _ w).alloc _, ?_⟩
    rw [show hexCells id 0 = #[.int .u8 0, .int .u8 0, .int .u8 0, .int .u8 0, .int .u8 0, .int .u8 0, .int .u8 0, .int .u8 0, .int .u8 0, .int .u8 0, .int .u8 0, .int .u8 0, .int .u8 0, .int .u8 0, .int .u8 0, .int .u8 0] from by simp [hexCells]; rfl]
    exact Blk.new _ _ _
  case round =>
    obtain ⟨k, x, hk, hx, rfl, rfl, kp, bl⟩ := hrel
    by_cases h16 : k = 16
    · subst h16
      have hd : ¬ ((0 : Int) ≤ 15 - ((16 : Nat) : Int)) := by omega
      have hcv := str_of (l := hexTo id 16) (off := 0) (cap := 16) bl (by
        intro j hj
        have hj' : j < 16 := by simpa [hexTo] using hj
        rw [Nat.zero_add, hexCells_at _ _ _ hj', if_neg (by omega)]
        simp [hexTo])
      rw [show (hexTo id 16).length = 16 from by simp [hexTo]] at hcv
      clear hx
      go_wp2_with fail
      go_ret
      exact ⟨rfl, kp.mono (fun b hb e => by omega)⟩
    · have hge : (0 : Int) ≤ 15 - (k : Int) := by omega
      have hxl : x < 18446744073709551616 := by rw [hx]; exact Nat.lt_of_le_of_lt (Nat.div_le_self _ _) hid
      have hbt := and15 x hxl
      obtain ⟨d, hd⟩ : ∃ d, d = x % 16 := ⟨_, rfl⟩
      have hd16 : d < 16 := by omega
      have hd16' : (d : Int) < 16 := by omega
      rw [← hd] at hbt
      have HD : Hid (d = id / 16 ^ k % 16) := by rw [← hx]; exact hd
      have HX : Hid (x = id / 16 ^ k) := hx
      clear hd hx
      have hsz : d < (⟨#[48, 49, 50, 51, 52, 53, 54, 55, 56, 57, 97, 98, 99, 100, 101, 102]⟩ : ByteArray).size := by exact hd16
      have c0 : wr.cell? ⟨w.heap.size, 15 - k, none⟩ = some (.int .u8 0) := by rw [bl.cell, hexCells_at _ _ _ (by omega), if_pos (by omega)]
      have f0 := bl.frozen (15 - k)
      have HBL : Hid (Blk wr w.heap.size 57 (hexCells id k)) := bl
      have HKP : Hid (Keeps (fun b => b = w.heap.size) w wr) := kp
      clear bl kp
      go_wp2_with fail
      go_roundw
      case rel =>
        rw [hexB_at d hd16 hsz, HD.out]
        refine ⟨k + 1, x / 16, by omega, by rw [HX.out, Nat.pow_succ, Nat.div_div_eq_div_mul], by go_num, by go_num, HKP.out.setCell (a := ⟨w.heap.size, 15 - k, none⟩) rfl _, ?_⟩
        have := HBL.out.set (15 - k) (.int .u8 (hexB (id / 16 ^ k % 16)).toNat)
        rw [hexCells_set _ _ (by omega)] at this
        exact this
      case measure => simp [RowKit.intOf]; omega
end Go.Proofs.YbulkbrtmDoor
