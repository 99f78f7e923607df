import Derived.Test.YbulkbrtmDoorLine
import Derived.OpenShut
namespace Go.Proofs.YbulkbrtmDoor
open Go.RowKit Go.Deep Go.Lib
set_option linter.unusedVariables false
set_option linter.unusedSimpArgs false
attribute [local go_sem ↓] Go.wp_at_zero Go.wp_at_succ

theorem new_at (w : World) (t : TypeId) (cs : Array Value) (N : Nat) (h : N = w.heap.size) : Blk (w.alloc (.cells cs t)) N t cs := by subst h; exact Blk.new _ _ _

theorem tab_up {B B' : Nat} {w w1 : World} {n : String} {k : IntKind} {zs : List Int} (h : TabBelow Ybad.prog B w n k zs) (hb : Below B w w1) (hB : B ≤ B') : TabBelow Ybad.prog B' w1 n k zs :=
  fun w' h' => h w' (hb.trans (h'.mono hB))

theorem cat (x y : List UInt8) (hx : x.length ≤ 100000) (hy : y.length ≤ 100000) (w : World) : (Op.stringOp .add ⟨x.toArray⟩ ⟨y.toArray⟩).run Ybad.prog w = .ok (.string ⟨(x ++ y).toArray⟩) w := by
  rw [run_string_add_lists w x y (by omega) (by omega)]

theorem line_str {w : World} {c cap : Nat} {l : List UInt8} (h : Blk w c 5 (byteCells l).toArray) : (convert 45 9 (.slice (some ⟨c, 0, none⟩) l.length cap)).run Ybad.prog w = .ok (.string ⟨l.toArray⟩) w :=
  str_of h (by intro j hj; simp [byteCells, hj])

set_option maxRecDepth 100000 in
set_option maxHeartbeats 4000000 in
theorem law3_big (w : World) (mode line : Int) (id : Int) (file : ByteArray) (hb : 1024 < file.size) (hf : file.size ≤ 9223372036854775807) :
    Calls Ybad.prog 3 #[.int .u8 mode, .string file, .int .i64 line, .int .u64 id] w fun e w' => e = .returned (.bool true) ∧ Below w.heap.size w w' := by
  go_enter Ybad.func3, Ybad.ntmps3
  go_wp2
  go_ret
  exact ⟨rfl, Below.refl _ _⟩

set_option maxRecDepth 100000 in
set_option maxHeartbeats 4000000 in
theorem law3 (w : World) (mode line : Int) (id : Nat) (file : ByteArray) (hm : (Lit.int .u8 mode).wf = true) (hf : file.size ≤ 1024) (hid : id < 18446744073709551616) (h0 : -9223372036854775808 ≤ line) (h1 : line ≤ 9223372036854775807)
    (htab : Lib.TabBelow Ybad.prog w.heap.size w tabName .u64 Lib.pow10Tab) :
    Calls Ybad.prog 3 #[.int .u8 mode, .string file, .int .i64 line, .int .u64 id] w fun e w' => e = .returned (.bool true) ∧ Below w.heap.size w w' := by
  have hf1 : ¬ (1024 : Int) < (file.size : Int) := by omega
  have hmb := bounds_u8 hm
  have h3 : mode % 3 = 0 ∨ mode % 3 = 1 ∨ mode % 3 = 2 := by omega
  rcases h3 with h3 | h3 | h3
  · have hW : Blk (w.alloc (.cells #[.slice none 0 0] 41)) w.heap.size 41 #[.slice none 0 0] := Blk.new _ _ _
    have hP := print4 (w.alloc (.cells #[.slice none 0 0] 41)) none false w.heap.size id file line (.inl ⟨rfl, rfl⟩) hid hf h0 h1 hW (tab_up htab ((Below.refl _ w).alloc (Nat.le_refl _) _) (by simp))
    go_enter Ybad.func3, Ybad.ntmps3
    go_wp2_with fail
    refine hP.mono ?_
    rintro e w2 ⟨rfl, c, k, cap, n, hn, e1, e2, e3, e4, e5⟩
    clear hP hW htab
    have c1 : w2.cell? ⟨w.heap.size, 0, none⟩ = some (.slice (some ⟨k, 0, none⟩) 1 cap) := e1.cell 0
    have HE : Hid (n = (lineB false file line id).length ∧ Blk w2 w.heap.size 41 #[.slice (some ⟨k, 0, none⟩) 1 cap] ∧ w2.cell? ⟨k, 0, none⟩ = some (.slice (some ⟨c, 0, none⟩) n n) ∧ Blk w2 c 5 (byteCells (lineB false file line id)).toArray ∧ Below w.heap.size w w2) := ⟨hn, e1, e2, e3, (((Below.refl _ w).alloc (Nat.le_refl _) _).trans (e5.below (by simp) (fun k hk e => by omega)))⟩
    clear e1 e3 e5 hn
    have hH := hex5 w2 id hid
    go_wp2_with fail
    refine hH.mono ?_
    rintro e w3 ⟨rfl, k3⟩
    clear hH c1 e2
    obtain ⟨hn, e1, e2, e3, e5⟩ := HE.out
    have e1' := e1.keeps k3 (by simp)
    have c1 : w3.cell? ⟨w.heap.size, 0, none⟩ = some (.slice (some ⟨k, 0, none⟩) 1 cap) := e1'.cell 0
    have c2 : w3.cell? ⟨k, 0, none⟩ = some (.slice (some ⟨c, 0, none⟩) n n) := by
      rw [← e2]; exact World.cell?_of_block (k3.block k (block_lt_of_cell e2) (by simp))
    have e3' := e3.keeps k3 (by simp)
    have hcv := line_str e3' (cap := n)
    rw [← hn] at hcv
    obtain ⟨A1, hA1⟩ : ∃ A1, A1 = preB ++ [48, 120] ++ hexTo id 16 := ⟨_, rfl⟩
    have hA1l : A1.length = 32 := by rw [hA1]; simp [preB, hexTo]
    have hc1 : ∀ w, (Op.stringOp .add ⟨#[91, 98, 105, 115, 101, 99, 116, 45, 109, 97, 116, 99, 104, 32, 48, 120]⟩ ⟨(hexTo id 16).toArray⟩).run Ybad.prog w = .ok (.string ⟨A1.toArray⟩) w := fun w => by
      rw [hA1]; exact cat (preB ++ [48, 120]) (hexTo id 16) (by simp [preB]) (by simp [hexTo]) w
    have hc2 : ∀ w, (Op.stringOp .add ⟨A1.toArray⟩ ⟨#[93]⟩).run Ybad.prog w = .ok (.string ⟨(mark id).toArray⟩) w := fun w => by
      have := cat A1 [93] (by omega) (by simp) w
      rw [hA1] at this ⊢
      exact this
    have hc3 : ∀ w, (Op.stringOp .add ⟨(mark id).toArray⟩ ⟨#[10]⟩).run Ybad.prog w = .ok (.string ⟨(lineB false file line id).toArray⟩) w := fun w => cat (mark id) [10] (by rw [mark_len]; omega) (by simp) w
    clear hA1
    have HEND : Hid (Below w.heap.size w w3) := e5.trans (k3.below (by have := e5.size; omega) (by simp))
    clear e1 e2 e3 e5 e1' e3' hn k3 HE
    go_wp2_with fail
    go_ret
    exact ⟨rfl, HEND.out⟩
  · go_enter Ybad.func3, Ybad.ntmps3
    go_wp2_with fail
    refine (print4 _ (some ⟨w.heap.size, 0, none⟩) false (w.heap.size + 1) id file line (.inr ⟨_, rfl, ?h⟩) hid hf h0 h1 ?hw ?ht).mono ?_
    case h => exact ((Blk.new _ _ _).alloc _).cell 0
    case hw => exact new_at _ _ _ _ (by simp)
    case ht => exact tab_up htab (((Below.refl _ w).alloc (Nat.le_refl _) _).alloc (by simp) _) (by simp; omega)
    rintro e w2 ⟨rfl, c, k, cap, n, hn, e1, e2, e3, e4, e5⟩
    have c1 : w2.cell? ⟨w.heap.size + 1, 0, none⟩ = some (.slice (some ⟨k, 0, none⟩) 1 cap) := e1.cell 0
    have cM : w2.cell? ⟨w.heap.size, 0, none⟩ = some (.bool false) := (((Blk.new _ _ _).alloc _).keeps e5 (by omega)).cell 0
    have HE : Hid (n = (lineB false file line id).length ∧ Blk w2 (w.heap.size + 1) 41 #[.slice (some ⟨k, 0, none⟩) 1 cap] ∧ w2.cell? ⟨k, 0, none⟩ = some (.slice (some ⟨c, 0, none⟩) n n) ∧ Blk w2 c 5 (byteCells (lineB false file line id)).toArray ∧ Below w.heap.size w w2 ∧ w2.cell? ⟨w.heap.size, 0, none⟩ = some (.bool false)) := ⟨hn, e1, e2, e3, ((((Below.refl _ w).alloc (Nat.le_refl _) _).alloc (by simp) _).trans (e5.below (by simp; omega) (fun k hk e => by omega))), cM⟩
    clear e1 e3 e5 hn cM htab
    have hH := hex5 w2 id hid
    go_wp2_with fail
    refine hH.mono ?_
    rintro e w3 ⟨rfl, k3⟩
    clear hH c1 e2
    obtain ⟨hn, e1, e2, e3, e5, eM⟩ := HE.out
    obtain ⟨A1, hA1⟩ : ∃ A1, A1 = preB ++ [48, 120] ++ hexTo id 16 := ⟨_, rfl⟩
    have hA1l : A1.length = 32 := by rw [hA1]; simp [preB, hexTo]
    have hc1 : ∀ w, (Op.stringOp .add ⟨#[91, 98, 105, 115, 101, 99, 116, 45, 109, 97, 116, 99, 104, 32, 48, 120]⟩ ⟨(hexTo id 16).toArray⟩).run Ybad.prog w = .ok (.string ⟨A1.toArray⟩) w := fun w => by
      rw [hA1]; exact cat (preB ++ [48, 120]) (hexTo id 16) (by simp [preB]) (by simp [hexTo]) w
    have hc2 : ∀ w, (Op.stringOp .add ⟨A1.toArray⟩ ⟨#[93]⟩).run Ybad.prog w = .ok (.string ⟨(mark id).toArray⟩) w := fun w => by
      have := cat A1 [93] (by omega) (by simp) w
      rw [hA1] at this ⊢
      exact this
    have hc3 : ∀ w, (Op.stringOp .add ⟨(mark id).toArray⟩ ⟨#[10]⟩).run Ybad.prog w = .ok (.string ⟨(lineB false file line id).toArray⟩) w := fun w => cat (mark id) [10] (by rw [mark_len]; omega) (by simp) w
    clear hA1
    have e1' := e1.keeps k3 (by simp)
    have c1 : w3.cell? ⟨w.heap.size + 1, 0, none⟩ = some (.slice (some ⟨k, 0, none⟩) 1 cap) := e1'.cell 0
    have c2 : w3.cell? ⟨k, 0, none⟩ = some (.slice (some ⟨c, 0, none⟩) n n) := by
      rw [← e2]; exact World.cell?_of_block (k3.block k (block_lt_of_cell e2) (by simp))
    have cM : w3.cell? ⟨w.heap.size, 0, none⟩ = some (.bool false) := by
      rw [← eM]; exact World.cell?_of_block (k3.block w.heap.size (block_lt_of_cell eM) (by simp))
    have e3' := e3.keeps k3 (by simp)
    have hcv := line_str e3' (cap := n)
    rw [← hn] at hcv
    have HEND : Hid (Below w.heap.size w w3) := e5.trans (k3.below (by have := e5.size; omega) (by simp))
    clear e1 e2 e3 e5 e1' e3' hn k3 HE eM
    go_wp2_with fail
    go_ret
    exact ⟨rfl, HEND.out⟩
  · go_enter Ybad.func3, Ybad.ntmps3
    go_wp2_with fail
    refine (print4 _ (some ⟨w.heap.size, 0, none⟩) true (w.heap.size + 1) id file line (.inr ⟨_, rfl, ?h⟩) hid hf h0 h1 ?hw ?ht).mono ?_
    case h => exact ((Blk.new _ _ _).alloc _).cell 0
    case hw => exact new_at _ _ _ _ (by simp)
    case ht => exact tab_up htab (((Below.refl _ w).alloc (Nat.le_refl _) _).alloc (by simp) _) (by simp; omega)
    rintro e w2 ⟨rfl, c, k, cap, n, hn, e1, e2, e3, e4, e5⟩
    have c1 : w2.cell? ⟨w.heap.size + 1, 0, none⟩ = some (.slice (some ⟨k, 0, none⟩) 1 cap) := e1.cell 0
    have cM : w2.cell? ⟨w.heap.size, 0, none⟩ = some (.bool true) := (((Blk.new _ _ _).alloc _).keeps e5 (by omega)).cell 0
    have HE : Hid (n = (lineB true file line id).length ∧ Blk w2 (w.heap.size + 1) 41 #[.slice (some ⟨k, 0, none⟩) 1 cap] ∧ w2.cell? ⟨k, 0, none⟩ = some (.slice (some ⟨c, 0, none⟩) n n) ∧ Blk w2 c 5 (byteCells (lineB true file line id)).toArray ∧ Below w.heap.size w w2 ∧ w2.cell? ⟨w.heap.size, 0, none⟩ = some (.bool true)) := ⟨hn, e1, e2, e3, ((((Below.refl _ w).alloc (Nat.le_refl _) _).alloc (by simp) _).trans (e5.below (by simp; omega) (fun k hk e => by omega))), cM⟩
    clear e1 e3 e5 hn cM htab
    have hH := hex5 w2 id hid
    go_wp2_with fail
    refine hH.mono ?_
    rintro e w3 ⟨rfl, k3⟩
    clear hH c1 e2
    obtain ⟨hn, e1, e2, e3, e5, eM⟩ := HE.out
    obtain ⟨A1, hA1⟩ : ∃ A1, A1 = preB ++ [48, 120] ++ hexTo id 16 := ⟨_, rfl⟩
    have hA1l : A1.length = 32 := by rw [hA1]; simp [preB, hexTo]
    have hc1 : ∀ w, (Op.stringOp .add ⟨#[91, 98, 105, 115, 101, 99, 116, 45, 109, 97, 116, 99, 104, 32, 48, 120]⟩ ⟨(hexTo id 16).toArray⟩).run Ybad.prog w = .ok (.string ⟨A1.toArray⟩) w := fun w => by
      rw [hA1]; exact cat (preB ++ [48, 120]) (hexTo id 16) (by simp [preB]) (by simp [hexTo]) w
    have hc2 : ∀ w, (Op.stringOp .add ⟨A1.toArray⟩ ⟨#[93]⟩).run Ybad.prog w = .ok (.string ⟨(mark id).toArray⟩) w := fun w => by
      have := cat A1 [93] (by omega) (by simp) w
      rw [hA1] at this ⊢
      exact this
    have hc3 : ∀ w, (Op.stringOp .add ⟨(mark id).toArray⟩ ⟨#[10]⟩).run Ybad.prog w = .ok (.string ⟨(mark id ++ [10]).toArray⟩) w := fun w => cat (mark id) [10] (by rw [mark_len]; omega) (by simp) w
    clear hA1
    have hD := dec6 w3 line h0 h1
    have HK3 : Hid (Keeps (fun _ => False) w2 w3) := k3
    have HX : Hid (n = (lineB true file line id).length ∧ Blk w2 (w.heap.size + 1) 41 #[.slice (some ⟨k, 0, none⟩) 1 cap] ∧ w2.cell? ⟨k, 0, none⟩ = some (.slice (some ⟨c, 0, none⟩) n n) ∧ Blk w2 c 5 (byteCells (lineB true file line id)).toArray ∧ Below w.heap.size w w2 ∧ w2.cell? ⟨w.heap.size, 0, none⟩ = some (.bool true)) := HE.out
    clear hn e1 e2 e3 e5 eM k3 HE
    obtain ⟨fl, hfl⟩ : ∃ fl, fl = file.data.toList := ⟨_, rfl⟩
    have hff : file = ⟨fl.toArray⟩ := by rw [hfl]
    have hfll : fl.length ≤ 1024 := by rw [hfl, Array.length_toList]; exact hf
    have hil : (itoa line).length ≤ 21 := by
      rw [itoa]
      split
      · have := dec_len (u := line.natAbs) (by omega); simp; omega
      · have := dec_len (u := line.toNat) (by omega); omega
    have hd1 : ∀ w, (Op.stringOp .add file ⟨#[58]⟩).run Ybad.prog w = .ok (.string ⟨(fl ++ [58]).toArray⟩) w := fun w => by
      rw [hff]; exact cat fl [58] (by omega) (by simp) w
    have HF : Hid (fl = file.data.toList) := hfl
    clear hff hfl
    obtain ⟨L1, hL1⟩ : ∃ L, L = fl ++ [58] := ⟨_, rfl⟩
    obtain ⟨L2, hL2⟩ : ∃ L, L = L1 ++ itoa line := ⟨_, rfl⟩
    obtain ⟨L3, hL3⟩ : ∃ L, L = L2 ++ [32] := ⟨_, rfl⟩
    obtain ⟨L4, hL4⟩ : ∃ L, L = L3 ++ mark id := ⟨_, rfl⟩
    have l1 : L1.length ≤ 1025 := by rw [hL1]; simp; omega
    have l2 : L2.length ≤ 1046 := by rw [hL2]; simp; omega
    have l3 : L3.length ≤ 1047 := by rw [hL3]; simp; omega
    have l4 : L4.length ≤ 1080 := by rw [hL4]; simp [mark_len]; omega
    have hlb : L4 ++ [10] = lineB true file line id := by rw [hL4, hL3, hL2, hL1, lineB, if_pos rfl, HF.out]; simp
    rw [← hL1] at hd1
    have hd2 : ∀ w, (Op.stringOp .add ⟨L1.toArray⟩ ⟨(itoa line).toArray⟩).run Ybad.prog w = .ok (.string ⟨L2.toArray⟩) w := fun w => by rw [hL2]; exact cat _ _ (by omega) (by omega) w
    have hd3 : ∀ w, (Op.stringOp .add ⟨L2.toArray⟩ ⟨#[32]⟩).run Ybad.prog w = .ok (.string ⟨L3.toArray⟩) w := fun w => by rw [hL3]; exact cat _ [32] (by omega) (by simp) w
    have hd4 : ∀ w, (Op.stringOp .add ⟨L3.toArray⟩ ⟨(mark id).toArray⟩).run Ybad.prog w = .ok (.string ⟨L4.toArray⟩) w := fun w => by rw [hL4]; exact cat _ _ (by omega) (by rw [mark_len]; omega) w
    have hd5 : ∀ w, (Op.stringOp .add ⟨L4.toArray⟩ ⟨#[10]⟩).run Ybad.prog w = .ok (.string ⟨(lineB true file line id).toArray⟩) w := fun w => by rw [← hlb]; exact cat _ [10] (by omega) (by simp) w
    clear hL1 hL2 hL3 hL4 hlb l1 l2 l3 l4 hfll hil HF
    go_wp2_with fail
    refine hD.mono ?_
    rintro e w4 ⟨rfl, k4⟩
    clear hD
    obtain ⟨hn, e1, e2, e3, e5, eM⟩ := HX.out
    have k3 := HK3.out
    have k34 := k3.trans k4
    have HE : True := trivial
    have e1' := e1.keeps k34 (by simp)
    have c1 : w4.cell? ⟨w.heap.size + 1, 0, none⟩ = some (.slice (some ⟨k, 0, none⟩) 1 cap) := e1'.cell 0
    have c2 : w4.cell? ⟨k, 0, none⟩ = some (.slice (some ⟨c, 0, none⟩) n n) := by
      rw [← e2]; exact World.cell?_of_block (k34.block k (block_lt_of_cell e2) (by simp))
    have cM : w4.cell? ⟨w.heap.size, 0, none⟩ = some (.bool true) := by
      rw [← eM]; exact World.cell?_of_block (k34.block w.heap.size (block_lt_of_cell eM) (by simp))
    have e3' := e3.keeps k34 (by simp)
    have hcv := line_str e3' (cap := n)
    rw [← hn] at hcv
    have HEND : Hid (Below w.heap.size w w4) := e5.trans (k34.below (by have := e5.size; omega) (by simp))
    clear e1 e2 e3 e5 e1' e3' hn k3 k4 k34 HE eM
    go_wp2_with fail
    go_ret
    exact ⟨rfl, HEND.out⟩
end Go.Proofs.YbulkbrtmDoor
