import Derived.Test.YbulkbrtmDoorPrint
import Derived.Laws.MakeOwn
namespace Go.Proofs.YbulkbrtmDoor
open Go.RowKit Go.Deep Go.Lib
set_option linter.unusedVariables false
set_option linter.unusedSimpArgs false
attribute [local go_sem ↓] Go.wp_at_zero Go.wp_at_succ

set_option maxRecDepth 100000 in
theorem only7 (w : World) (mo : Option Addr) (vis : Bool) (h : mo = none ∧ vis = false ∨ ∃ M, mo = some ⟨M, 0, none⟩ ∧ w.cell? ⟨M, 0, none⟩ = some (.bool vis)) :
    Calls Ybad.prog 7 #[.pointer mo] w fun e w' => e = .returned (.bool (!vis)) ∧ w' = w := by
  rcases h with ⟨rfl, rfl⟩ | ⟨M, rfl, hc⟩
  · go_enter Ybad.func7, Ybad.ntmps7
    go_wp2
    go_ret
    exact ⟨rfl, rfl⟩
  · go_enter Ybad.func7, Ybad.ntmps7
    go_wp2
    go_ret
    exact ⟨rfl, rfl⟩

/-- What the line is. -/
def lineB (vis : Bool) (file : ByteArray) (line : Int) (id : Nat) : List UInt8 := if vis then file.data.toList ++ [58] ++ itoa line ++ ([32] ++ mark id ++ [10]) else mark id ++ [10]

set_option maxRecDepth 100000 in
set_option maxHeartbeats 4000000 in
theorem print4 (w : World) (mo : Option Addr) (vis : Bool) (Wb id : Nat) (file : ByteArray) (line : Int) (h : mo = none ∧ vis = false ∨ ∃ M, mo = some ⟨M, 0, none⟩ ∧ w.cell? ⟨M, 0, none⟩ = some (.bool vis)) (hid : id < 18446744073709551616) (hf : file.size ≤ 1024) (h0 : -9223372036854775808 ≤ line) (h1 : line ≤ 9223372036854775807)
    (hw : Blk w Wb 41 #[.slice none 0 0]) (htab : Lib.TabBelow Ybad.prog w.heap.size w tabName .u64 Lib.pow10Tab) :
    Calls Ybad.prog 4 #[.pointer mo, .iface 38 (.pointer (some ⟨Wb, 0, none⟩)), .string file, .int .i64 line, .int .u64 id] w fun e w' => e = .returned (.tuple #[]) ∧ ∃ c k cap n, n = (lineB vis file line id).length ∧ Blk w' Wb 41 #[.slice (some ⟨k, 0, none⟩) 1 cap] ∧ w'.cell? ⟨k, 0, none⟩ = some (.slice (some ⟨c, 0, none⟩) n n) ∧ Blk w' c 5 (byteCells (lineB vis file line id)).toArray ∧ 1 ≤ cap ∧ Keeps (fun b => b = Wb) w w' := by
  have hO := only7 w mo vis h
  cases vis with
  | false =>
    have hP := pm8 w Wb id hid hw
    go_enter Ybad.func4, Ybad.ntmps4
    go_wp2_with fail
    refine hO.mono ?_
    rintro e w' ⟨rfl, rfl⟩
    go_wp2_with fail
    refine hP.mono ?_
    rintro e w2 ⟨rfl, c, k, cap, e1, e2, e3, e4, e5⟩
    clear hP hO
    have HE : Hid (Blk w2 Wb 41 #[.slice (some ⟨k, 0, none⟩) 1 cap] ∧ w2.cell? ⟨k, 0, none⟩ = some (.slice (some ⟨c, 0, none⟩) 34 34) ∧ Blk w2 c 5 (byteCells (mark id ++ [10])).toArray ∧ 1 ≤ cap ∧ Keeps (fun b => b = Wb) w' w2) := ⟨e1, e2, e3, e4, e5⟩
    clear e1 e2 e3 e4 e5
    go_wp2_with fail
    refine bodyPost_ret (results_none rfl _ _ _) rfl ?_
    obtain ⟨e1, e2, e3, e4, e5⟩ := HE.out
    refine ⟨rfl, c, k, cap, 34, by simp [lineB, mark_len], e1, e2, e3, e4, e5⟩
  | true =>
    have hna : ∀ w, (nilAhead 197 38 (.pointer (some ⟨Wb, 0, none⟩)) "Write").run Ybad.prog w = .ok (some false) w := fun w => by kernel_rfl
    have hme : ∀ w, (method 197 38 (.pointer (some ⟨Wb, 0, none⟩)) "Write").run Ybad.prog w = .ok (42, .pointer (some ⟨Wb, 0, none⟩)) w := fun w => by kernel_rfl
    obtain ⟨i0, hi0, hz0, hz1, hz2⟩ := info_parts Ybad.info5
    obtain ⟨B, hB⟩ : ∃ B, B = w.heap.size := ⟨_, rfl⟩
    obtain ⟨w1, hmk, ho1, hg1⟩ := run_make_own (P := Ybad.prog) w B 45 5 i0 (.int .u8 0) 1 Ybad.underlying45 hi0 hz0 hz1 .i64 .i64 (file.size + 24 + 33) (by rw [hz2]; omega) (by simp [maxLen]; omega) (by omega)
    go_enter Ybad.func4, Ybad.ntmps4
    go_wp2_with fail
    refine hO.mono ?_
    rintro e w' ⟨rfl, hw'⟩
    obtain rfl : w = w' := hw'.symm
    rw [show (((file.size + 24 + 33 : Nat) : Int)) = (file.size : Int) + 24 + 33 from by omega] at hmk
    have hfl : file.data.toList.length = file.size := by rw [Array.length_toList]; rfl
    have kb1 : Below B w w1 := (Below.refl _ _).grown hg1 (by omega) (by simp)
    have hB1 : B ≤ w1.heap.size := by have := hg1.size; omega
    rw [← hB] at htab
    have hP := pos9 w1 B (.slice (some ⟨w.heap.size, 0, none⟩) 0 (file.size + 24 + 33)) file line ⟨ho1, .inl rfl⟩ hf hB1 h0 h1 (htab.on kb1)
    have HB : Hid (B = w.heap.size) := hB
    have hwl : Wb < B := by have := hw.lt; omega
    have HW : Hid (Blk w Wb 41 #[.slice none 0 0]) := hw
    have HK1 : Hid (Below B w w1) := kb1
    clear hB hw kb1 ho1 hg1 htab hO h
    go_wp2_with fail
    refine hP.mono ?_
    rintro e w2 ⟨v2, rfl, b2, k2⟩
    clear hP
    have hlen : (file.data.toList ++ [58] ++ itoa line).length ≤ 1100 := by
      have : (itoa line).length ≤ 21 := by
        rw [itoa]
        split
        · have := dec_len (u := line.natAbs) (by omega); simp; omega
        · have := dec_len (u := line.toNat) (by omega); omega
      simp [hfl]; omega
    have hlen2 : 0 < (file.data.toList ++ [58] ++ itoa line ++ ([32] ++ mark id ++ [10])).length := by simp; omega
    have hlen3 : (file.data.toList ++ [58] ++ itoa line ++ ([32] ++ mark id ++ [10])).length ≤ 100000 := by rw [List.length_append]; simp only [List.length_append, mark_len] at hlen ⊢; simp at hlen ⊢; omega
    obtain ⟨bs, hbs⟩ : ∃ bs, bs = file.data.toList ++ [58] ++ itoa line := ⟨_, rfl⟩
    rw [← hbs] at b2 hlen hlen2 hlen3
    have HBS : Hid (bs = file.data.toList ++ [58] ++ itoa line) := hbs
    clear hbs
    have hB2 : B ≤ w2.heap.size := by have := k2.size; omega
    have hw2 : Blk w2 Wb 41 #[.slice none 0 0] := HW.out.of_block ((HK1.out.trans k2).block Wb hwl)
    have HK2 : Hid (Below B w w2) := HK1.out.trans k2
    have b2' : Buf w2 B 5 v2 bs (35 + 0) := ⟨b2.1, .inl rfl⟩
    clear k2 b2
    go_wp2_with fail
    go_region_held3 (fun w' => True) (trivial)
      (first
        | (go_at_call 42; refine (write42 _ B Wb 5 _ (bs ++ ([32] ++ mark id ++ [10])) 0 b3 hlen2 hlen3 (by exact (hw2.drewN 1).of_block (k3.block Wb hwl)) hwl (by have h3 := k3.size; simp at h3; omega)).mono ?_; rintro e w4 ⟨rfl, c, k, cap, e1, e2, e3, e4, e5⟩)
        | (go_at_call 10; refine (end10 _ B 5 _ bs 0 id ?_ (by omega) ?_ hid).mono ?_; (repeat (first | exact b2' | apply Buf.drew | apply Buf.drewN | apply Buf.alloc)); (simp; omega); rintro e w3 ⟨v3, rfl, b3, k3⟩))
    all_goals
      have hbel : Below B w w3 := HK2.out.drew.trans k3
      have HBEL : Hid (Below B w w3 ∧ Keeps (fun b => b = Wb) w3 w4 ∧ Blk w4 Wb 41 #[.slice (some ⟨k, 0, none⟩) 1 cap] ∧ w4.cell? ⟨k, 0, none⟩ = some (.slice (some ⟨c, 0, none⟩) (bs ++ ([32] ++ mark id ++ [10])).length (bs ++ ([32] ++ mark id ++ [10])).length) ∧ Blk w4 c 5 (byteCells (bs ++ ([32] ++ mark id ++ [10]))).toArray ∧ 1 ≤ cap) := ⟨hbel, e5, e1, e2, e3, e4⟩
      clear hbel e1 e2 e3 e4 e5 k3 b3 b2' hw2
      go_wp2_with fail
      go_end0
      obtain ⟨f1, f2, f3, f4, f5, f6⟩ := HBEL.out
      rw [HB.out] at f1
      rw [HBS.out] at f4 f5
      have g1 : Keeps (fun b => b = Wb) w w3 := ⟨f1.os, f1.tape, f1.output, f1.size, fun b hb _ => f1.block b hb⟩
      exact ⟨rfl, c, k, cap, _, rfl, f3, f4, f5, f6, g1.trans f2⟩
end Go.Proofs.YbulkbrtmDoor
