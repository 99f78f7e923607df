import Derived.Test.YbulkbrocRows
import Derived.Test.YbulkbrocKeepParts
import Derived.RangeFuncBox
import Derived.BigQuiet
import Derived.Deep.QuietTactic
import Derived.Lib.Builder
namespace Go.Proofs.Ybulkbroc
open Go.RowKit Go.Deep
theorem Yba.info28 : (Yba.prog.info? 28).map (fun i => (i.zero, i.size, i.bytes)) = some (some (.pointer none), 1, 8) := by kernel_rfl

theorem Yba.info36 : (Yba.prog.info? 36).isSome = true := by kernel_rfl
theorem neq28 (a : Addr) (w : World) : (binOp .neq 28 (.pointer (some a)) (.pointer (some a))).run Yba.prog w = .ok (.bool false) w := by
  obtain ⟨j, hj⟩ := Option.isSome_iff_exists.1 Yba.info36
  exact Lib.run_neq_ptr_same w a Yba.underlying28 hj

def blank : Array Value := #[.string { data := #[] }, .string { data := #[] }, .int .u64 0, .slice none 0 0, .int .i64 0, .int .i64 0]

set_option maxHeartbeats 400000 in
theorem room_any (w : World) (A : Nat) (h : w.cell? ⟨A, 3, none⟩ = some (.slice none 0 0)) :
    Calls Yba.prog 5 #[.pointer (some ⟨A, 3, none⟩)] w fun e w' => e = .returned (.int .i64 0) ∧ w' = w := by
  go_enter Yba.func5, Yba.ntmps5
  go_wp2
  go_ret
  exact ⟨rfl, rfl⟩

set_option maxHeartbeats 400000 in
theorem take_any (w : World) (B g n cap A : Nat) (hn : n < 1000) (hcap : n + 1 ≤ cap) (hroom : Blk w B 27 #[.slice (some ⟨g, 0, none⟩) (n + 1) cap]) (hc : w.cell? ⟨g, n, none⟩ = some (pt A)) :
    Calls Yba.prog 6 #[pt B] w fun e w' => e = .returned (pt A) ∧ w' = w.setCell ⟨B, 0, none⟩ (.slice (some ⟨g, 0, none⟩) n cap) := by
  have hr : w.cell? ⟨B, 0, none⟩ = some (.slice (some ⟨g, 0, none⟩) (n + 1) cap) := hroom.cell 0
  have hf := hroom.frozen 0
  unfold pt at *
  go_enter Yba.func6, Yba.ntmps6
  go_wp2
  go_ret
  exact ⟨rfl, rfl⟩

set_option maxHeartbeats 400000 in
theorem keep_any (w : World) (B A n base : Nat) (v : Value) (xs : List Value) (ad : ByteArray) (since : Int) (hn : n < 1000) (hroom : Blk w B 27 #[v]) (hB : B < base) (hBA : B ≠ A) (hbs : base ≤ w.heap.size)
    (ha : Blk w A 36 #[.string { data := #[] }, .string ad, .int .u64 since, .slice none 0 0, .int .i64 0, .int .i64 0]) (hown : w.ownsRow base 28 1 v n xs) :
    Calls Yba.prog 4 #[pt B, pt A] w fun e w' => e = .returned (.tuple #[]) ∧ ∃ g cap, Blk w' B 27 #[.slice (some ⟨g, 0, none⟩) (n + 1) cap] ∧ Blk w' A 36 blank ∧
      w'.ownsRow base 28 1 (.slice (some ⟨g, 0, none⟩) (n + 1) cap) (n + 1) (xs ++ [pt A]) ∧ Keeps (fun b => b = B ∨ b = A ∨ some b = v.ownBlock) w w' := by
  obtain ⟨ao, cap, rfl⟩ := own_slice hown
  obtain ⟨i0, hi, hz0, hz1, hz2⟩ := info_parts Yba.info28
  have hr : w.cell? ⟨B, 0, none⟩ = some (.slice ao n cap) := hroom.cell 0
  have hf := hroom.frozen 0
  have f0 := ha.frozen 0
  have f1 := ha.frozen 1
  have f2 := ha.frozen 2
  have c0 : w.cell? ⟨A, 0, none⟩ = some _ := ha.cell 0
  have c1 : w.cell? ⟨A, 1, none⟩ = some _ := ha.cell 1
  have c2 : w.cell? ⟨A, 2, none⟩ = some _ := ha.cell 2
  have c3 : w.cell? ⟨A, 3, none⟩ = some _ := ha.cell 3
  have hlt := ha.lt
  have hltB := hroom.lt
  unfold pt
  go_enter Yba.func4, Yba.ntmps4
  have hne : some A ≠ (Value.slice ao n cap).ownBlock := own_ne hown ha (by decide)
  have own2 : (((w.setCell ⟨A, 0, none⟩ (.string { data := #[] })).setCell ⟨A, 1, none⟩ (.string { data := #[] })).setCell ⟨A, 2, none⟩ (.int .u64 0)).ownsRow base 28 1 (.slice ao n cap) n xs :=
    ownsRow_store (ownsRow_store (ownsRow_store hown hne _ _) hne _ _) hne _ _
  go_wp2_with (first | (go_at_call 5; go_in) | (at_builtin; refine wpList_append_own _ rfl _ _ 25 rfl base 28 i0 (.pointer none) 1 8 Yba.underlying25 hi hz0 hz1 hz2 rfl (by decide) _ _ _ rfl (own2.alloc _) ⟨w.heap.size, 0, none⟩ 1 1 [pt A] rfl rfl ?c1 ?c2 ?c3 ?c4 ?c5 ?_))
  case c1 => exact cell_one_new' _ _ _ _ (by simp [World.setCell])
  case c2 => intro u hu; simp at hu; subst hu; rfl
  case c3 => unfold maxLen; omega
  case c4 => omega
  case c5 => simp [World.setCell]; omega
  intro v' w1 hown' hgrow _
  obtain ⟨g', cap', rfl⟩ := ownsRow_succ hown'
  have hB1 : Blk w1 B 27 #[.slice ao n cap] := ((((hroom.setOther (a := ⟨A, 0, none⟩) hBA _).setOther (a := ⟨A, 1, none⟩) hBA _).setOther (a := ⟨A, 2, none⟩) hBA _).alloc _).grown hgrow (own_lo hown hB)
  have hA1 : Blk w1 A 36 blank := ((((ha.set 0 _).set 1 _).set 2 _).alloc _).grown hgrow hne
  have hk1 : Keeps (fun b => b = B ∨ b = A ∨ some b = (Value.slice ao n cap).ownBlock) w w1 :=
    (((((Keeps.refl _ w).setCell (a := ⟨A, 0, none⟩) (by simp) _).setCell (a := ⟨A, 1, none⟩) (by simp) _).setCell (a := ⟨A, 2, none⟩) (by simp) _).alloc _).grown hgrow (fun k e => .inr (.inr e.symm))
  have hlt1 := hB1.lt
  have hr1 : w1.cell? ⟨B, 0, none⟩ = some (.slice ao n cap) := hB1.cell 0
  have hf1 := hB1.frozen 0
  clear hgrow hown own2
  go_wp2
  go_end0
  refine ⟨rfl, g', cap', ?_, hA1.setOther (a := ⟨B, 0, none⟩) (Ne.symm hBA) _, ownsRow_setCell_below hown' hB _, hk1.setCell (a := ⟨B, 0, none⟩) (.inl rfl) _⟩
  exact hB1.set 0 _

structure After (w w' : World) (k : Nat) (P : Nat → Nat) (A g cap : Nat) : Prop where
  room : Blk w' w.heap.size 27 #[.slice (some ⟨g, 0, none⟩) (k + 1) cap]
  ent : Blk w' A 36 blank
  hcap : k + 1 ≤ cap
  last : w'.cell? ⟨g, k, none⟩ = some (pt A)
  row : ∀ i, i < k → w'.cell? ⟨g, i, none⟩ = some (pt (P i))
  olds : ∀ i, i < k → w'.cell? ⟨w.heap.size + 1, i, none⟩ = some (pt (P i))
  ents : ∀ i, i < k → w'.cell? ⟨P i, 2, none⟩ = some (.int .u64 i)
  below : Below w.heap.size w w'

theorem Mem.after {w wr w' : World} {k A g cap : Nat} {P : Nat → Nat} {v : Value} {o : Obj} (hm : Mem wr w.heap.size k k P v) (hb : Below w.heap.size w wr) (hA : A = wr.heap.size)
    (h1 : Blk w' w.heap.size 27 #[.slice (some ⟨g, 0, none⟩) (k + 1) cap]) (h2 : Blk w' A 36 blank)
    (h3 : w'.ownsRow (w.heap.size + 2) 28 1 (.slice (some ⟨g, 0, none⟩) (k + 1) cap) (k + 1) (((List.range k).map fun a => pt (P a)) ++ [pt A]))
    (h4 : Keeps (fun b => b = w.heap.size ∨ b = A ∨ some b = v.ownBlock) (wr.alloc o) w') : After w w' k P A g cap := by
  subst hA
  have hlt := hm.olds.lt
  refine ⟨h1, h2, ?_, ?_, ?_, ?_, ?_, ?_⟩
  · rcases h3.2 with ⟨_, h⟩ | ⟨g1, cap1, cur, e, _, _, h, _⟩
    · omega
    · simp at e; omega
  · rw [h3.cellAt k (by omega)]; simp
  · intro i hi
    rw [h3.cellAt i (by omega), List.getElem?_append_left (by simpa using hi)]
    simp [hi]
  · intro i hi
    have := ((hm.olds.alloc o).of_block (h4.block (w.heap.size + 1) (by simp; omega) (by
      have := own_lo hm.own (b := w.heap.size + 1) (by omega)
      intro h; rcases h with h | h | h
      · omega
      · omega
      · exact this h))).cell hi
    rw [this]; simp [hi]
  · intro i hi
    obtain ⟨cs, hb1, hc, hlo⟩ := hm.ents i hi
    have hl := hb1.lt
    have := ((hb1.alloc o).keeps h4 (by
      intro h; rcases h with h | h | h
      · omega
      · omega
      · exact own_ne hm.own hb1 (by decide) h)).cell 2
    rw [this, hc]
  · have hb2 : Below w.heap.size w (wr.alloc o) := hb.alloc hb.size _
    refine hb2.trans (h4.below (by simp; omega) ?_)
    intro b hb3 h
    rcases h with h | h | h
    · omega
    · omega
    · exact own_lo hm.own (b := b) (by omega) h
end Go.Proofs.Ybulkbroc
