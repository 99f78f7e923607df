import Derived.Test.YbulkbrtmDoorWrite
namespace Go.Proofs.YbulkbrtmDoor
open Go.RowKit Go.Deep Go.Lib
set_option linter.unusedVariables false
set_option linter.unusedSimpArgs false
attribute [local go_sem ↓] Go.wp_at_zero Go.wp_at_succ

theorem mark_len (id : Nat) : (mark id).length = 33 := by simp [mark, preB, hexTo]

set_option maxRecDepth 100000 in
set_option maxHeartbeats 1000000 in
theorem end10 (w : World) (B : Nat) (T : TypeId) (v : Value) (bs : List UInt8) (r id : Nat) (h : Buf w B T v bs (35 + r)) (hl : bs.length ≤ 50000) (hB : B ≤ w.heap.size) (hid : id < 18446744073709551616) :
    Calls Ybad.prog 10 #[v, .int .u64 id] w fun e w' => ∃ v', e = .returned v' ∧ Buf w' B T v' (bs ++ ([32] ++ mark id ++ [10])) r ∧ Below B w w' := by
  go_enter Ybad.func10, Ybad.ntmps10
  go_wp2_with (at_builtin; refine wpList_buf_app (r := 34 + r) rfl _ _ rfl ⟨w.heap.size, 0, none⟩ 1 _ [32] rfl rfl ((h.alloc _).less (by omega)) rfl (cells_new _ _ _ _ rfl) ?c1 ?c2 ?_)
  case c1 => simp; omega
  case c2 => simp; omega
  intro v1 w1 b1 k1
  have hB1 : B ≤ w1.heap.size := by have := k1.1.size; simp at this; omega
  have hM := marker12 w1 B T v1 (bs ++ [32]) (1 + r) id (b1.less (by omega)) (by simp; omega) hB1 hid
  have HK1 : Hid (Below B w w1) := ((Below.refl _ w).alloc hB _).trans k1.1
  clear k1 b1
  go_wp2_with fail
  refine hM.mono ?_
  rintro e w2 ⟨v2, rfl, b2, k2⟩
  clear hM
  have hB2 : B ≤ w2.heap.size := by have := k2.1.size; omega
  go_wp2_with (at_builtin; refine wpList_buf_app (r := r) rfl _ _ rfl ⟨w2.heap.size, 0, none⟩ 1 _ [10] rfl rfl ((b2.alloc _).less (by omega)) rfl (cells_new _ _ _ _ rfl) ?c1 ?c2 ?_)
  case c1 => simp [mark_len]; omega
  case c2 => simp; omega
  intro v3 w3 b3 k3
  go_wp2_with fail
  go_ret
  exact ⟨_, rfl, by simpa using b3, HK1.out.trans ((k2.1.alloc hB2 _).trans k3.1)⟩

set_option maxRecDepth 100000 in
set_option maxHeartbeats 1000000 in
theorem pos9 (w : World) (B : Nat) (v : Value) (file : ByteArray) (line : Int) (h : Buf w B 5 v [] 0) (hf : file.size ≤ 1024) (hB : B ≤ w.heap.size) (h0 : -9223372036854775808 ≤ line) (h1 : line ≤ 9223372036854775807)
    (htab : Lib.TabBelow Ybad.prog B w tabName .u64 Lib.pow10Tab) :
    Calls Ybad.prog 9 #[v, .string file, .int .i64 line] w fun e w' => ∃ v', e = .returned v' ∧ Buf w' B 5 v' (file.data.toList ++ [58] ++ itoa line) 0 ∧ Below B w w' := by
  have hb0 : Buf w B 5 v [] (file.size + 0) := ⟨h.1, .inl rfl⟩
  have hfl : file.data.toList.length = file.size := by rw [Array.length_toList]; rfl
  go_enter Ybad.func9, Ybad.ntmps9
  go_wp2_with (at_builtin; refine wpList_buf_str rfl _ _ rfl _ rfl rfl hb0 (by simp; omega) hB ?_)
  intro v1 w1 b1 k1
  have hB1 : B ≤ w1.heap.size := by have := k1.1.size; omega
  go_wp2_with (at_builtin; refine wpList_buf_app (r := 0) rfl _ _ rfl ⟨w1.heap.size, 0, none⟩ 1 _ [58] rfl rfl (show Buf _ B 5 _ _ (1 + 0) from ⟨(b1.alloc _).1, .inl rfl⟩) rfl (cells_new _ _ _ _ rfl) ?c1 ?c2 ?_)
  case c1 => simp [hfl]; omega
  case c2 => simp; omega
  intro v2 w2 b2 k2
  have k2' : Below B w w2 := (k1.1.alloc hB1 _).trans k2.1
  have hB2 : B ≤ w2.heap.size := by have := k2'.size; omega
  obtain ⟨bl, hbl⟩ : ∃ bl : List UInt8, bl = file.data.toList ++ [58] := ⟨_, rfl⟩
  have b2' : w2.ownsRow B 5 1 v2 bl.length (byteCells bl) := by rw [hbl]; simpa using b2.1
  have hI : Calls Ybad.prog 13 #[v2, .int .i64 line, .int .i64 10] w2 fun e w' => ∃ v', e = .returned v' ∧ w'.ownsRow B 5 1 v' (bl.length + (itoa line).length) (byteCells bl ++ byteCells (itoa line)) ∧ Below B w2 w' ∧ OthersKept 5 none w2 w' :=
    Go.Proofs.Any.strconv_AppendInt_10 Ybad.laysM176 B bl.length line h0 h1 v2 _ w2 b2' hB2 (by rw [hbl]; simp [hfl]; omega) (htab.on k2')
  have HBL : Hid (bl = file.data.toList ++ [58]) := hbl
  have HK : Hid (Below B w w2) := k2'
  clear k1 k2 k2' b1 b2 b2' hbl
  go_wp2_with fail
  refine hI.mono ?_
  rintro e w3 ⟨v3, rfl, o3, k3, _⟩
  clear hI
  go_wp2_with fail
  go_ret
  refine ⟨_, rfl, ⟨?_, .inl rfl⟩, HK.out.trans k3⟩
  rw [List.length_append, byteCells_append, ← HBL.out]
  exact o3

end Go.Proofs.YbulkbrtmDoor
