import Derived.Test.YbulkbrrwGrp
import Derived.Deep.RegionHeld3
import Derived.Deep.DrawnRows
import Derived.Deep.AppendLies
import Derived.Deep.RegionLaw
namespace Go.Proofs.Ybulkbrrw
open Go.RowKit Go.Deep
set_option linter.unusedVariables false
set_option linter.unusedSimpArgs false
attribute [local go_sem ↓] Go.wp_at_zero Go.wp_at_succ
theorem Yba.info24 : (Yba.prog.info? 24).map (fun i => (i.zero, i.size, i.bytes)) = some (some (.int .u64 0), 1, 8) := by kernel_rfl

def u64s (ls : List Int) : List Value := ls.map (Value.int .u64)

/-- The log: its box L, the limit's box Lim, what has been written. -/
structure Log (w : World) (n0 L Lim : Nat) (limit : Int) (lv : Value) (ls : List Int) : Prop where
  box : Blk w L 94 #[lv]
  lim : Blk w Lim 3 #[.int .i64 limit]
  own : w.ownsRow n0 24 1 lv ls.length (u64s ls)
  lt : L < n0
  lt2 : Lim < n0
  few : n0 ≤ w.heap.size

set_option maxRecDepth 100000 in
set_option maxHeartbeats 4000000 in
theorem log28 (w : World) (n0 L Lim m : Nat) (limit sq : Int) (lv : Value) (ls : List Int) (h : Log w n0 L Lim limit lv ls) (hls : ls.length < 5000) (hlim : limit < 100000) (cm : w.cell? ⟨m, 0, none⟩ = some (.int .u64 sq)) (hm : ∃ t cs, Blk w m t cs ∧ t ≠ 24) (hmL : m ≠ L) :
    Calls Yba.prog 28 #[.pointer (some ⟨m, 0, none⟩), .pointer (some ⟨L, 0, none⟩), .pointer (some ⟨Lim, 0, none⟩)] w fun e w' => e = .returned (.bool (decide (limit < 0) || decide ((ls.length : Int) + 1 < limit))) ∧ ∃ lv', Log w' n0 L Lim limit lv' (ls ++ [sq]) ∧
      Keeps (fun b => b = L ∨ some b = lv.ownBlock) w w' ∧ (lv'.ownBlock = lv.ownBlock ∨ ∃ r, lv'.ownBlock = some r ∧ w.heap.size ≤ r) := by
  obtain ⟨i0, hi, hz0, hz1, hz2⟩ := info_parts Yba.info24
  obtain ⟨t, cs, bm, ht⟩ := hm
  have hown := h.own
  obtain ⟨ao, cap, rfl⟩ := own_slice h.own
  have c0 : w.cell? ⟨L, 0, none⟩ = some (.slice ao ls.length cap) := h.box.cell 0
  have f0 := h.box.frozen 0
  have c1 : w.cell? ⟨Lim, 0, none⟩ = some (.int .i64 limit) := h.lim.cell 0
  have nL : some L ≠ (Value.slice ao ls.length cap).ownBlock := own_lo h.own h.lt
  have nLim : some Lim ≠ (Value.slice ao ls.length cap).ownBlock := own_lo h.own h.lt2
  have nm : some m ≠ (Value.slice ao ls.length cap).ownBlock := own_ne h.own bm ht
  have hLL : L ≠ Lim := blk_ne h.box h.lim (by decide)
  have q1 := Ne.symm hLL
  have q2 := Ne.symm hmL
  have l1 := h.box.lt
  have l2 := h.lim.lt
  have l3 := bm.lt
  have hfew := h.few
  go_enter Yba.func28, Yba.ntmps28
  go_wp2_with fail
  go_region_law
    ((refine step_append_lies _ (by rfl) _ _ _ (by rfl) n0 24 i0 _ 1 8 Yba.underlying94 hi hz0 hz1 hz2 rfl (by omega) (.slice ao ls.length cap) ls.length (u64s ls) (by rfl) ((hown.alloc _).drew)
        ⟨w.heap.size, 0, none⟩ 1 1 [.int .u64 sq] (by rfl) (by rfl) (World.news_of_block (cs := #[.int .u64 sq]) (t := 24) (fr := (0, 0)) (heap_alloc_new w _)) (by simp [Value.oneCell'])
        (by omega) (by unfold maxLen; omega) (by omega) (by simp; omega) (w.heap.size + 1) (by simp) ?_; intro gg cap' w1 hown1 hgrow hat hlt; have hB1 : Blk w1 L 94 #[.slice ao ls.length cap] := Blk.grown (w := (w.alloc (.cells #[.int .u64 sq] 24)).drew) (h.box.alloc _) hgrow nL; have hm1 : Blk w1 m t cs := Blk.grown (w := (w.alloc (.cells #[.int .u64 sq] 24)).drew) (bm.alloc _) hgrow nm; have fz := hB1.frozen 0; have cz : w1.cell? ⟨L, 0, none⟩ = some (.slice ao ls.length cap) := hB1.cell 0; have cmz : w1.cell? ⟨m, 0, none⟩ = some (.int .u64 sq) := (hm1.cell 0).trans ((bm.cell 0).symm.trans cm)))
  all_goals
    have bLim : Blk w1 Lim 3 #[.int .i64 limit] := Blk.grown (w := (w.alloc (.cells #[.int .u64 sq] 24)).drew) (h.lim.alloc _) hgrow nLim
    have hk1 : Keeps (fun b => b = L ∨ some b = (Value.slice ao ls.length cap).ownBlock) w w1 := Keeps.grown (w' := (w.alloc (.cells #[.int .u64 sq] 24)).drew) ((Keeps.refl _ w).alloc _).drew hgrow (fun k e => .inr e.symm)
    have hlog : Log (w1.setCell ⟨L, 0, none⟩ (.slice (some ⟨gg, 0, none⟩) (ls.length + 1) cap')) n0 L Lim limit (.slice (some ⟨gg, 0, none⟩) (ls.length + 1) cap') (ls ++ [sq]) := by
      refine ⟨hB1.set 0 _, bLim.setOther (a := ⟨L, 0, none⟩) q1 _, ?_, h.lt, h.lt2, ?_⟩
      · have := ownsRow_setCell_below hown1 (a := ⟨L, 0, none⟩) h.lt (.slice (some ⟨gg, 0, none⟩) (ls.length + 1) cap')
        simpa [u64s] using this
      · have := hk1.size; simp [World.setCell]; omega
    have hkk := hk1.setCell (a := ⟨L, 0, none⟩) (.inl rfl) (.slice (some ⟨gg, 0, none⟩) (ls.length + 1) cap')
    have hat' : (Value.slice (some ⟨gg, 0, none⟩) (ls.length + 1) cap').ownBlock = (Value.slice ao ls.length cap).ownBlock ∨ ∃ r, (Value.slice (some ⟨gg, 0, none⟩) (ls.length + 1) cap').ownBlock = some r ∧ w.heap.size ≤ r := by
      rcases hat with e | e
      · exact .inl e.symm
      · exact .inr ⟨gg, rfl, by omega⟩
    have k0 : (w1.setCell ⟨L, 0, none⟩ (.slice (some ⟨gg, 0, none⟩) (ls.length + 1) cap')).cell? ⟨L, 0, none⟩ = some (.slice (some ⟨gg, 0, none⟩) (ls.length + 1) cap') := hlog.box.cell 0
    have k1 : (w1.setCell ⟨L, 0, none⟩ (.slice (some ⟨gg, 0, none⟩) (ls.length + 1) cap')).cell? ⟨Lim, 0, none⟩ = some (.int .i64 limit) := hlog.lim.cell 0
    obtain ⟨W, hW⟩ : ∃ W, W = w1.setCell ⟨L, 0, none⟩ (.slice (some ⟨gg, 0, none⟩) (ls.length + 1) cap') := ⟨_, rfl⟩
    rw [← hW] at k0 k1 hlog hkk ⊢
    clear hW cz cmz fz hB1 hm1 hgrow hown1 hat hk1 bLim cm c0 c1 f0 hown bm nL nLim nm
    by_cases hneg : limit < 0
    · have hd : decide (limit < 0) = true := by simpa using hneg
      go_wp2
      go_ret
      refine ⟨?_, _, hlog, hkk, hat'⟩
      simp [hneg]
    · have hd : decide (limit < 0) = false := by simpa using hneg
      go_wp2
      go_ret
      refine ⟨?_, _, hlog, hkk, hat'⟩
      simp [hneg]
end Go.Proofs.Ybulkbrrw
