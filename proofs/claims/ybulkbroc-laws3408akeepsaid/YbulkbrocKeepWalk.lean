import Derived.Test.YbulkbrocKeepCalls
namespace Go.Proofs.Ybulkbroc
open Go.RowKit Go.Deep

set_option maxHeartbeats 1000000 in
theorem walk (a0 : Int) (a1 : ByteArray) (a2 : Int) (w0 : 0 ≤ a0 ∧ a0 ≤ 65535) (w : World) :
    Calls Yba.prog 3 #[.int .u16 a0, .string a1, .int .u64 a2] w fun e w' => e = .returned (.bool true) ∧ Below w.heap.size w w' := by
  obtain ⟨h0, h1⟩ := w0
  obtain ⟨n, rfl⟩ : ∃ n : Nat, a0 = n := ⟨a0.toNat, by omega⟩
  obtain ⟨k, hk, hk300⟩ : ∃ k : Nat, (n : Int) % 300 = k ∧ k < 300 := ⟨n % 300, by omega, by omega⟩
  have hmk := run_make_row' (P := Yba.prog) 25 28 (.pointer none) 8 Yba.underlying25 Yba.info28 rfl .i64 .i64 k (by omega) (by omega)
  obtain ⟨i0, hi, hz0, hz1, hz2⟩ := info_parts Yba.info28
  have hpn := neq28
  go_enter Yba.func3, Yba.ntmps3
  go_wp2
  rw [hk]
  clear hk hmk
  go_loopw [10] (fun i wr => ∃ (j : Nat) (P : Nat → Nat) (v : Value), j ≤ k ∧ i = .int .i64 j ∧ Mem wr w.heap.size k j P v ∧ Below w.heap.size w wr) (fun i _ => k - (intOf i).toNat)
  case atStart =>
    refine ⟨0, fun _ => 0, .slice none 0 0, Nat.zero_le _, rfl, ⟨?_, ?_, ?_, ?_⟩, ?_⟩
    · exact (Blk.new _ _ _).alloc _
    · exact World.ownsRow_nil _ _ _ _
    · have := World.rowIs_made (w.alloc (.cells #[.slice none 0 0] 27)) (.pointer none) k 28
      rw [World.size_alloc] at this
      exact this.congr (fun a _ => rfl)
    · intro a ha; omega
    · exact ((Below.refl _ _).alloc (Nat.le_refl _) _).alloc (by simp) _
  case round =>
    obtain ⟨j, P, v, hjk, rfl, hm, hb⟩ := hrel
    by_cases hlt : j < k
    · have hroom : wr.cell? ⟨w.heap.size, 0, none⟩ = some v := hm.room.cell 0
      have hroomf := hm.room.frozen 0
      have hof := hm.olds.frozen j
      have hoc : wr.cell? ⟨w.heap.size + 1, j, none⟩ = some (.pointer none) := by rw [hm.olds.cell hlt]; simp
      have hsz := hm.olds.lt
      have hsz0 := hm.room.lt
      obtain ⟨ao, cap, rfl⟩ := own_slice hm.own
      have hown := (ownsRow_setCell_below hm.own (a := ⟨w.heap.size + 1, j, none⟩) (by simp) (pt wr.heap.size))
      go_wp2_with (at_builtin; refine wpList_append_own _ rfl _ _ 25 rfl (w.heap.size + 2) 28 i0 (.pointer none) 1 8 Yba.underlying25 hi hz0 hz1 hz2 rfl (by decide) _ _ _ rfl ((hown.alloc _).alloc _) ⟨wr.heap.size + 1, 0, none⟩ 1 1 [pt wr.heap.size] rfl rfl ?c1 ?c2 ?c3 ?c4 ?c5 ?_)
      case c1 => exact cell_one_new' _ _ _ _ (by simp [World.setCell])
      case c2 => intro u hu; simp at hu; subst hu; rfl
      case c3 => unfold maxLen; omega
      case c4 => omega
      case c5 => simp [World.setCell]; omega
      intro v' w1 hown' hgrow _
      obtain ⟨g', cap', rfl⟩ := ownsRow_succ hown'
      have R := hm.step hlt (by rfl) hown' hgrow
      have hB1 : Blk w1 w.heap.size 27 #[.slice ao j cap] := (((hm.room.setOther (a := ⟨w.heap.size + 1, j, none⟩) (by simp) _).alloc _).alloc _).grown hgrow (own_lo hown (by omega))
      have hbl : Below w.heap.size w (w1.setCell ⟨w.heap.size, 0, none⟩ (.slice (some ⟨g', 0, none⟩) (j + 1) cap')) :=
        ((((hb.setCell (p := ⟨w.heap.size + 1, j, none⟩) (by simp) _).alloc (by simp [World.setCell]; omega) _).alloc (by simp [World.setCell]; omega) _).grown hgrow (by simp [World.setCell]; omega) (fun q e => by have := (hown.lt q e).1; omega)).setCell (by simp) _
      have hlt1 := hB1.lt
      have hr1 : w1.cell? ⟨w.heap.size, 0, none⟩ = some (.slice ao j cap) := hB1.cell 0
      have hf1 := hB1.frozen 0
      clear hgrow hown hown' hm hB1 hroom hroomf hof hoc hsz hsz0 hb
      go_wp2
      go_roundw
      case rel => exact ⟨j + 1, _, _, by omega, by go_num, R, hbl⟩
      case measure => simp [intOf]; omega
    · obtain rfl : j = k := by omega
      have hsz := hm.olds.lt
      have hmo := hm.own
      have hA : Blk (wr.alloc (.cells #[.string { data := #[] }, .string a1, .int .u64 a2, .slice none 0 0, .int .i64 0, .int .i64 0] 36)) wr.heap.size 36 _ := Blk.new _ _ _
      go_wp2_with (go_at_call 4; refine (keep_any _ w.heap.size wr.heap.size j (w.heap.size + 2) v _ a1 a2 (by omega) (hm.room.alloc _) (by omega) (by omega) (by simp; omega) hA (hmo.alloc _)).mono ?_; rintro e w' ⟨rfl, g, cap, hk1, hk2, hk3, hk4⟩; have AF := hm.after hb rfl hk1 hk2 hk3 hk4; clear hk1 hk2 hk3 hk4 hm hmo hA hb; have c0 : w'.cell? ⟨w.heap.size, 0, none⟩ = some (.slice (some ⟨g, 0, none⟩) (j + 1) cap) := AF.room.cell 0; have c1 : w'.cell? ⟨g, j, none⟩ = some (.pointer (some ⟨wr.heap.size, 0, none⟩)) := AF.last)
      go_loopw [13] (fun i wx => ∃ (q m : Nat), q ≤ j ∧ i = .int .i64 q ∧ wx = w'.drewN m) (fun i _ => j - (intOf i).toNat)
      case atStart => exact ⟨0, 0, Nat.zero_le _, rfl, rfl⟩
      case round =>
        obtain ⟨q, m, hq, rfl, rfl⟩ := hrel
        by_cases hqj : q < j
        · have r1 := AF.row q hqj
          have r2 := AF.olds q hqj
          have r3 := AF.ents q hqj
          unfold pt at r1 r2
          go_wp2_with fail
          go_quiet (fail)
          go_wp2
          go_roundw
          case rel => exact ⟨q + 1, m + nq, by omega, by go_num, rfl⟩
          case measure => simp [intOf]; omega
        · obtain rfl : q = j := by omega
          have d1 : w'.cell? ⟨wr.heap.size, 1, none⟩ = some (.string { data := #[] }) := AF.ent.cell 1
          have d2 : w'.cell? ⟨wr.heap.size, 2, none⟩ = some (.int .u64 0) := AF.ent.cell 2
          have d3 : w'.cell? ⟨wr.heap.size, 3, none⟩ = some (.slice none 0 0) := AF.ent.cell 3
          have hroom : Blk (w'.drewN m) w.heap.size 27 #[.slice (some ⟨g, 0, none⟩) (q + 1) cap] := AF.room
          go_wp2_with (first | (go_at_call 5; refine (room_any _ _ (by exact d3)).mono ?_; rintro e w2 ⟨rfl, rfl⟩) | (go_at_call 6; refine (take_any _ w.heap.size g q cap wr.heap.size (by omega) AF.hcap hroom (by exact c1)).mono ?_; rintro e w2 ⟨rfl, rfl⟩; unfold pt))
          go_ret
          have hd : Below w.heap.size w (w'.drewN m) := ⟨AF.below.os, AF.below.tape, AF.below.output, AF.below.size, AF.below.block⟩
          exact ⟨rfl, hd.setCell (p := ⟨w.heap.size, 0, none⟩) (Nat.le_refl _) _⟩
end Go.Proofs.Ybulkbroc
