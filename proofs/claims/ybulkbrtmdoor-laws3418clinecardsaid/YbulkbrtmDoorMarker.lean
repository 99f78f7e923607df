import Derived.Test.YbulkbrtmDoorBuf
import Derived.WalkKit
import Derived.WalkSmall
import Derived.Deep.DrawnRows
import Derived.Deep.RegionHeld3
import Derived.Laws.Bits64b
namespace Go.Proofs.YbulkbrtmDoor
open Go.RowKit Go.Deep Go.Lib
set_option linter.unusedVariables false
set_option linter.unusedSimpArgs false
attribute [local go_sem ↓] Go.wp_at_zero Go.wp_at_succ

def hexTab : List UInt8 := [48, 49, 50, 51, 52, 53, 54, 55, 56, 57, 97, 98, 99, 100, 101, 102]
def hexB (n : Nat) : UInt8 := hexTab.getD n 0
/-- The first k of the sixteen digits. -/
def hexTo (id k : Nat) : List UInt8 := (List.range k).map fun i => hexB (id / 16 ^ (15 - i) % 16)
def preB : List UInt8 := [91, 98, 105, 115, 101, 99, 116, 45, 109, 97, 116, 99, 104, 32]
def mark (id : Nat) : List UInt8 := preB ++ [48, 120] ++ hexTo id 16 ++ [93]

theorem and15 (x : Nat) (hx : x < 18446744073709551616) : bits .and .u64 (x : Int) 15 = ((x % 16 : Nat) : Int) := by
  have := bits_and_u64_nat x 15 hx (by omega)
  rw [show (15 : Int) = ((15 : Nat) : Int) from rfl, this, Nat.and_two_pow_sub_one_eq_mod x 4]

theorem hexB_at (n : Nat) (h : n < 16) (hs : n < (⟨#[48, 49, 50, 51, 52, 53, 54, 55, 56, 57, 97, 98, 99, 100, 101, 102]⟩ : ByteArray).size) : (⟨#[48, 49, 50, 51, 52, 53, 54, 55, 56, 57, 97, 98, 99, 100, 101, 102]⟩ : ByteArray)[n] = hexB n := by
  have : n = 0 ∨ n = 1 ∨ n = 2 ∨ n = 3 ∨ n = 4 ∨ n = 5 ∨ n = 6 ∨ n = 7 ∨ n = 8 ∨ n = 9 ∨ n = 10 ∨ n = 11 ∨ n = 12 ∨ n = 13 ∨ n = 14 ∨ n = 15 := by omega
  rcases this with rfl | rfl | rfl | rfl | rfl | rfl | rfl | rfl | rfl | rfl | rfl | rfl | rfl | rfl | rfl | rfl <;> rfl

theorem pow16 (k : Nat) (hk : k ≤ 15) : (2 : Nat) ^ (60 - 4 * k) = 16 ^ (15 - k) := by
  rw [show (16 : Nat) = 2 ^ 4 from rfl, ← Nat.pow_mul]
  congr 1
  omega

theorem hexTo_succ (id k : Nat) : hexTo id (k + 1) = hexTo id k ++ [hexB (id / 16 ^ (15 - k) % 16)] := by
  simp [hexTo, List.range_succ]

set_option maxRecDepth 100000 in
set_option maxHeartbeats 1000000 in
theorem marker12 (w : World) (B : Nat) (T : TypeId) (v : Value) (bs : List UInt8) (r id : Nat) (h : Buf w B T v bs (33 + r)) (hl : bs.length ≤ 100000) (hB : B ≤ w.heap.size) (hid : id < 18446744073709551616) :
    Calls Ybad.prog 12 #[v, .int .u64 id] w fun e w' => ∃ v', e = .returned v' ∧ Buf w' B T v' (bs ++ mark id) r ∧ Fr B T w v w' v' := by
  have hs : (⟨#[91, 98, 105, 115, 101, 99, 116, 45, 109, 97, 116, 99, 104, 32]⟩ : ByteArray).size = 14 := rfl
  go_enter Ybad.func12, Ybad.ntmps12
  go_wp2_with (at_builtin; refine wpList_buf_str rfl _ _ rfl _ rfl rfl (h.less (r' := 14 + (19 + r)) (by omega)) (by rw [hs]; omega) hB ?_)
  intro v1 w1 b1 k1
  go_wp2_with (at_builtin; refine wpList_buf_app (r := 17 + r) rfl _ _ rfl ⟨w1.heap.size, 0, none⟩ 2 _ [48, 120] rfl rfl ((b1.alloc _).less (by omega)) rfl (cells_new _ _ _ _ rfl) ?c1 ?c2 ?_)
  case c1 => simp; omega
  case c2 => have := k1.1.size; simp; omega
  intro v2 w2 b2 k2
  have k2' : Fr B T w v w2 v2 := (k1.alloc hB _).trans k2
  clear k1 k2 b1 h
  go_wp2_with fail
  go_loopw [0, 5] (fun s q wr => ∃ k : Nat, k ≤ 16 ∧ q = .int .i64 (60 - 4 * (k : Int)) ∧ Buf wr B T s (bs ++ (preB ++ [48, 120] ++ hexTo id k)) (17 - k + r) ∧ Fr B T w v wr s) (fun _ q _ => (RowKit.intOf q + 4).toNat)
  case atStart => exact ⟨0, by omega, rfl, by simpa [preB, hexTo] using b2, k2'⟩
  case round =>
    obtain ⟨k, hk, rfl, bb, kb⟩ := hrel
    by_cases h16 : k = 16
    · subst h16
      have hd : ¬ ((0 : Int) ≤ 60 - 4 * ((16 : Nat) : Int)) := by omega
      go_wp2_with (at_builtin; refine wpList_buf_app (r := r) rfl _ _ rfl ⟨wr.heap.size, 0, none⟩ 1 _ [93] rfl rfl ((bb.alloc _).less (by omega)) rfl (cells_new _ _ _ _ rfl) ?c1 ?c2 ?_)
      case c1 => simp [preB, hexTo]; omega
      case c2 => have := kb.1.size; simp; omega
      intro v3 w3 b3 k3
      go_wp2_with fail
      go_ret
      exact ⟨_, rfl, by simpa [mark] using b3, (kb.alloc hB _).trans k3⟩
    · have hge : (0 : Int) ≤ 60 - 4 * (k : Int) := by omega
      have hx : (id / 2 ^ (60 - 4 * k)) < 18446744073709551616 := Nat.lt_of_le_of_lt (Nat.div_le_self _ _) hid
      obtain ⟨d, hd⟩ : ∃ d, d = id / 2 ^ (60 - 4 * k) % 16 := ⟨_, rfl⟩
      have hd16 : d < 16 := by omega
      have hd16' : (d : Int) < 16 := by omega
      have hbt : bits .and .u64 ((id : Int) / 2 ^ (60 - 4 * k)) 15 = (d : Int) := by
        rw [show ((id : Int) / 2 ^ (60 - 4 * k)) = ((id / 2 ^ (60 - 4 * k) : Nat) : Int) from by simp, and15 _ hx, hd]
      have HD : Hid (d = id / 2 ^ (60 - 4 * k) % 16) := hd
      clear hd hx
      have hsz : d < (⟨#[48, 49, 50, 51, 52, 53, 54, 55, 56, 57, 97, 98, 99, 100, 101, 102]⟩ : ByteArray).size := by exact hd16
      go_wp2_with (at_builtin; refine wpList_buf_app (r := 17 - (k + 1) + r) rfl _ _ rfl ⟨wr.heap.size, 0, none⟩ 1 _ [_] rfl rfl ((bb.alloc _).less (by omega)) rfl (cells_new _ _ _ _ rfl) ?c1 ?c2 ?_)
      case c1 => simp [preB, hexTo]; omega
      case c2 => have := kb.1.size; simp; omega
      intro v3 w3 b3 k3
      rw [hexB_at d hd16] at b3
      have HB0 : Buf w3 B T v3 (bs ++ (preB ++ [48, 120] ++ hexTo id (k + 1))) (17 - (k + 1) + r) := by
        rw [hexTo_succ, ← pow16 k (by omega), ← HD.out]
        simpa using b3
      have HB : Hid (Buf w3 B T v3 (bs ++ (preB ++ [48, 120] ++ hexTo id (k + 1))) (17 - (k + 1) + r)) := HB0
      clear HB0
      have HK : Hid (Fr B T w v w3 v3) := (kb.alloc hB _).trans k3
      clear b3 k3
      go_wp2_with fail
      go_roundw
      case rel => exact ⟨k + 1, by omega, by go_num, HB.out, HK.out⟩
      case measure => simp [RowKit.intOf]; omega
end Go.Proofs.YbulkbrtmDoor
