import Derived.Test.YbulkbrrwGpush
import Derived.WalkSmall
namespace Go.Proofs.Ybulkbrrw
open Go.RowKit Go.Deep
set_option linter.unusedVariables false
set_option linter.unusedSimpArgs false

variable {ms : Nat → List Nat} {sq hd : Nat → Int}

theorem own_shrink {w : World} {base : Nat} {e : TypeId} {r n cap : Nat} {xs : List Value} {x : Value} (h : w.ownsRow base e 1 (.slice (some ⟨r, 0, none⟩) (n + 1) cap) (n + 1) (xs ++ [x])) : w.ownsRow base e 1 (.slice (some ⟨r, 0, none⟩) n cap) n xs := by
  obtain ⟨h1, h2⟩ := h
  have hl : xs.length = n := by simp at h1; omega
  refine ⟨by omega, .inr ?_⟩
  rcases h2 with ⟨h0, _⟩ | ⟨g, cap', cur, e1, hb, hh, hc, hm, hs, ht⟩
  · simp at h0
  · simp at e1
    obtain ⟨rfl, rfl⟩ := e1
    refine ⟨r, cap, cur, rfl, hb, hh, by omega, hm, hs, ?_⟩
    have : (cur.toList.take ((n + 1) * 1)).take n = (xs ++ [x]).take n := by rw [ht]
    rw [List.take_take] at this
    simp only [Nat.mul_one] at this ⊢
    rw [Nat.min_eq_left (by omega)] at this
    rw [this, List.take_append_of_le_length (by omega), List.take_of_length_le (by omega)]

theorem GHeap.popped {w : World} {base H r cap g : Nat} {ys : List Nat} (h : GHeap w ms sq hd base H (.slice (some ⟨r, 0, none⟩) (ys.length + 1) cap) (ys ++ [g])) :
    GHeap (((w.setCell ⟨g, 3, none⟩ (.int .i64 (-1))).setCell ⟨r, ys.length, none⟩ (.pointer none)).setCell ⟨H, 0, none⟩ (.slice (some ⟨r, 0, none⟩) ys.length cap)) ms sq hd base H (.slice (some ⟨r, 0, none⟩) ys.length cap) ys ∧
    Grp (((w.setCell ⟨g, 3, none⟩ (.int .i64 (-1))).setCell ⟨r, ys.length, none⟩ (.pointer none)).setCell ⟨H, 0, none⟩ (.slice (some ⟨r, 0, none⟩) ys.length cap)) ms sq hd g (-1) ∧
    Keeps (fun b => b = H ∨ b = g ∨ b = r) w (((w.setCell ⟨g, 3, none⟩ (.int .i64 (-1))).setCell ⟨r, ys.length, none⟩ (.pointer none)).setCell ⟨H, 0, none⟩ (.slice (some ⟨r, 0, none⟩) ys.length cap)) := by
  have gg := h.grp ys.length g (by simp)
  obtain ⟨gs, bg, _, _⟩ := gg.blk
  have ho : w.ownsRow base 100 1 (.slice (some ⟨r, 0, none⟩) (ys.length + 1) cap) (ys.length + 1) (ys.map pt ++ [pt g]) := by simpa using h.own
  obtain ⟨rs, br⟩ := own_blk ho
  have nrg : r ≠ g := blk_ne br bg (by decide)
  have nHr : H ≠ r := blk_ne h.obj br (by decide)
  have nHg : H ≠ g := blk_ne h.obj bg (by decide)
  obtain ⟨W1, e1⟩ : ∃ W1, W1 = w.setCell ⟨g, 3, none⟩ (.int .i64 (-1)) := ⟨_, rfl⟩
  obtain ⟨W2, e2⟩ : ∃ W2, W2 = W1.setCell ⟨r, ys.length, none⟩ (.pointer none) := ⟨_, rfl⟩
  have br1 : Blk W1 r 100 rs := by rw [e1]; exact br.setOther (a := ⟨g, 3, none⟩) nrg _
  have bH2 : Blk W2 H 120 #[.slice (some ⟨r, 0, none⟩) (ys.length + 1) cap, .func (.func 36) #[] #[], .func (.func 37) #[] #[]] := by rw [e2, e1]; exact (h.obj.setOther (a := ⟨g, 3, none⟩) nHg _).setOther (a := ⟨r, ys.length, none⟩) nHr _
  rw [← e1, ← e2]
  refine ⟨⟨bH2.set 0 _, ?_, ?_, h.lt, ?_⟩, ?_, ?_⟩
  · have o2 := own_shrink ho
    have o3 : W1.ownsRow base 100 1 (.slice (some ⟨r, 0, none⟩) ys.length cap) ys.length (ys.map pt) := by
      rw [e1]; exact ownsRow_store o2 (by simpa [Value.ownBlock] using Ne.symm nrg) _ _
    have o4 := (o3.stored ys.length (.pointer none)).1
    rw [List.set_eq_of_length_le (by simp)] at o4
    rw [← e2] at o4
    exact ownsRow_setCell_below o4 h.lt _
  · intro i c hc
    have hi : i < ys.length := (List.getElem?_eq_some_iff.1 hc).1
    have gc := h.grp i c (by rw [List.getElem?_append_left hi]; exact hc)
    have hne : c ≠ g := by
      intro e
      have := Grp.inj gc (e ▸ gg)
      omega
    refine Grp.setRow (w := W2) ?_ bH2 (by decide) _
    rw [e2]
    refine Grp.setRow (w := W1) ?_ br1 (by decide) _
    rw [e1]
    exact gc.setOther bg hne _
  · have := h.few; simp at this; omega
  · refine Grp.setRow (w := W2) ?_ bH2 (by decide) _
    rw [e2]
    refine Grp.setRow (w := W1) ?_ br1 (by decide) _
    rw [e1]
    exact gg.place (-1)
  · rw [e2, e1]
    exact (((Keeps.refl _ w).setCell (a := ⟨g, 3, none⟩) (.inr (.inl rfl)) _).setCell (a := ⟨r, ys.length, none⟩) (.inr (.inr rfl)) _).setCell (a := ⟨H, 0, none⟩) (.inl rfl) _

/-- What container/heap.Pop makes of the list, ahead of the method Pop. -/
def popL (ms : Nat → List Nat) (sq : Nat → Int) (xs : List Nat) : List Nat := (downF (ltK ms sq) (xs.length - 1) (swapL xs 0 (xs.length - 1)) 0 (xs.length - 1)).1

theorem length_downF (lt : Nat → Nat → Bool) (n : Nat) : ∀ (f : Nat) (xs : List Nat) (i : Nat), (downF lt f xs i n).1.length = xs.length := by
  intro f
  induction f with
  | zero => intro xs i; rfl
  | succ f ih =>
    intro xs i
    rw [downF]
    split
    · rfl
    · rw [ih, length_swapL]

theorem length_popL (xs : List Nat) : (popL ms sq xs).length = xs.length := by rw [popL, length_downF, length_swapL]

set_option maxHeartbeats 1000000 in
theorem pop55 (w : World) (base H : Nat) (v : Value) (xs ys : List Nat) (g : Nat) (h : GHeap w ms sq hd base H v xs) (hxs : popL ms sq xs = ys ++ [g]) :
    Calls Yba.prog 55 #[.iface 135 (.pointer (some ⟨H, 0, none⟩))] w fun e w' => e = .returned (.iface 100 (.pointer (some ⟨g, 0, none⟩))) ∧ ∃ v', GHeap w' ms sq hd base H v' ys ∧ Grp w' ms sq hd g (-1) ∧
      Keeps (fun b => b = H ∨ b ∈ xs ∨ some b = v.ownBlock) w w' ∧ v'.ownBlock = v.ownBlock := by
  have m1 := mPop
  have m2 := mLen
  have m3 := mSwap
  have hlen : xs.length = ys.length + 1 := by
    have := length_popL (ms := ms) (sq := sq) xs
    rw [hxs] at this
    simpa using this.symm
  have hfew := h.few
  obtain ⟨r, cap, rfl, hcap, hbr, hfr, hcell⟩ := h.row (by omega)
  rw [hlen] at h hcap ⊢
  have c0 : w.cell? ⟨H, 0, none⟩ = some (.slice (some ⟨r, 0, none⟩) (ys.length + 1) cap) := h.obj.cell 0
  have hS := (gops ms sq hd base H (.slice (some ⟨r, 0, none⟩) (ys.length + 1) cap) (fun b => b ∈ xs)).swap w xs 0 ys.length ⟨h, fun _ h => h⟩ (by omega) (by omega)
  rw [show ((0 : Nat) : Int) = 0 from rfl] at hS
  have hys : ys.length < 1000 := by omega
  have hHL : Hid (xs.length = ys.length + 1) := hlen
  have HX : Hid (popL ms sq xs = ys ++ [g]) := hxs
  clear hlen hxs hcell hfr
  go_enter Yba.func55, Yba.ntmps55
  go_wp2_with fail
  refine (len97 w H (ys.length + 1) cap _ c0).mono ?_
  rintro e w2 ⟨rfl, rfl⟩
  go_wp2_with fail
  refine hS.mono ?_
  rintro e w1 ⟨rfl, ⟨h1, hU1⟩, hk1⟩
  have hD := down54 (gops ms sq hd base H (.slice (some ⟨r, 0, none⟩) (ys.length + 1) cap) (fun b => b ∈ xs)) w1 _ 0 ys.length ⟨h1, hU1⟩ (by omega) (by rw [length_swapL, hHL.out]; omega)
  rw [show ((0 : Nat) : Int) = 0 from rfl] at hD
  go_wp2_with fail
  refine hD.mono ?_
  rintro e w3 ⟨rfl, ⟨h3, hU3⟩, hk3⟩
  have hpl : (downF (ltK ms sq) ys.length (swapL xs 0 ys.length) 0 ys.length).1 = ys ++ [g] := by
    have := HX.out
    rw [popL, hHL.out] at this
    exact this
  rw [hpl] at h3 hU3
  have gg := h3.grp ys.length g (by simp)
  obtain ⟨gs, bg, sg, _⟩ := gg.blk
  have ho3 : w3.ownsRow base 100 1 (.slice (some ⟨r, 0, none⟩) (ys.length + 1) cap) (ys.length + 1) (ys.map pt ++ [pt g]) := by simpa using h3.own
  obtain ⟨rs, br⟩ := own_blk ho3
  have nHr : H ≠ r := blk_ne h3.obj br (by decide)
  have nHg : H ≠ g := blk_ne h3.obj bg (by decide)
  have hP := pop99 w3 H ys.length base r cap g gs (ys.map pt) (by omega) nHg h3.lt (by omega) h3.obj nHr ho3 (by simp) bg (by omega)
  clear hD hS h1 hU1 hpl
  go_wp2_with fail
  refine hP.mono ?_
  rintro e w4 ⟨rfl, m, rfl⟩
  go_wp2
  go_ret
  have hq := h3.popped
  refine ⟨rfl, _, hq.1.drewN m, hq.2.1.drewN m, ?_, rfl⟩
  refine ((hk1.mono ?_).trans (hk3.mono ?_)).trans ((hq.2.2.drewN m).mono ?_)
  · rintro b _ (hb | hb)
    · exact .inr (.inl hb)
    · exact .inr (.inr hb)
  · rintro b _ (hb | hb)
    · exact .inr (.inl hb)
    · exact .inr (.inr hb)
  · rintro b _ (rfl | rfl | rfl)
    · exact .inl rfl
    · exact .inr (.inl (hU3 _ (by simp)))
    · exact .inr (.inr rfl)

set_option maxHeartbeats 1000000 in
theorem pop49 (w : World) (base H : Nat) (v : Value) (xs ys : List Nat) (g : Nat) (h : GHeap w ms sq hd base H v xs) (hxs : popL ms sq xs = ys ++ [g]) :
    Calls Yba.prog 49 #[.pointer (some ⟨H, 0, none⟩)] w fun e w' => e = .returned (.pointer (some ⟨g, 0, none⟩)) ∧ ∃ v', GHeap w' ms sq hd base H v' ys ∧ Grp w' ms sq hd g (-1) ∧
      Keeps (fun b => b = H ∨ b ∈ xs ∨ some b = v.ownBlock) w w' ∧ v'.ownBlock = v.ownBlock := by
  have hP := pop55 w base H v xs ys g h hxs
  have hta : ∀ w, (Instr.typeAssert (.iface 100 (.pointer (some ⟨g, 0, none⟩))) 20 100 false).run Yba.prog w = .ok (.pointer (some ⟨g, 0, none⟩)) w := fun w => by kernel_rfl
  clear hxs
  go_enter Yba.func49, Yba.ntmps49
  go_wp2_with fail
  refine hP.mono ?_
  rintro e w1 ⟨rfl, hh⟩
  go_wp2
  go_ret
  exact ⟨rfl, hh⟩

set_option maxHeartbeats 1000000 in
theorem len13 (w : World) (base H : Nat) (v : Value) (xs : List Nat) (h : GHeap w ms sq hd base H v xs) :
    Calls Yba.prog 13 #[.pointer (some ⟨H, 0, none⟩)] w fun e w' => e = .returned (.int .i64 xs.length) ∧ w' = w := by
  obtain ⟨ao, cap, rfl⟩ := own_slice h.own
  have c0 : w.cell? ⟨H, 0, none⟩ = some (.slice ao xs.length cap) := h.obj.cell 0
  go_enter Yba.func13, Yba.ntmps13
  go_wp2
  go_ret
  exact ⟨rfl, rfl⟩
end Go.Proofs.Ybulkbrrw
