import Derived.Test.YbulkbrrwFrames
import Derived.TacticsInMore
namespace Go.Proofs.Ybulkbrrw
open Go.RowKit Go.Deep
set_option linter.unusedVariables false
set_option linter.unusedSimpArgs false
variable {ms : Nat → List Nat} {sq hd : Nat → Int}

theorem mem_push {xs : List Nat} {g : Nat} (h : HeapN (key ms sq) xs xs.length) {b : Nat} : b ∈ pushL ms sq xs g ↔ b ∈ xs ∨ b = g := by
  rw [(pushL_law xs g h).1.mem_iff, List.mem_append, List.mem_singleton]

/-- What is pushed back: the heap, and those still to come. -/
structure Back (w : World) (ms : Nat → List Nat) (sq hd : Nat → Int) (lo base H : Nat) (v : Value) (xs : List Nat) (wk bx r2 cap2 : Nat) (ps : List Nat) (k : Nat) : Prop where
  heap : GHeap w ms sq hd base H v xs
  ord : HeapN (key ms sq) xs xs.length
  hlo : lo ≤ H
  los : ∀ g, g ∈ xs ∨ g ∈ ps → lo ≤ g
  box : Blk w bx 81 #[.pointer (some ⟨H, 0, none⟩)]
  wbox : Blk w wk 116 #[.slice (some ⟨r2, 0, none⟩) ps.length cap2]
  row : ∃ rs, Blk w r2 100 rs ∧ ∀ (i p : Nat), ps[i]? = some p → rs[i]? = some (.pointer (some ⟨p, 0, none⟩))
  apart : some r2 ≠ v.ownBlock
  grp : ∀ (i p : Nat), k ≤ i → ps[i]? = some p → Grp w ms sq hd p (-1) ∧ p ∉ xs
  nodup : ps.Nodup
  few : xs.length + ps.length < 1000 + k
  bs : base ≤ w.heap.size

theorem Back.step {w w' : World} {lo base H : Nat} {v v' : Value} {xs : List Nat} {wk bx r2 cap2 : Nat} {ps : List Nat} {k g : Nat} (h : Back w ms sq hd lo base H v xs wk bx r2 cap2 ps k) (hg : ps[k]? = some g)
    (h1 : GHeap w' ms sq hd base H v' (pushL ms sq xs g)) (h2 : Keeps (fun b => b = H ∨ b = g ∨ b ∈ xs ∨ some b = v.ownBlock) w w') (h3 : v'.ownBlock = v.ownBlock ∨ ∃ r, v'.ownBlock = some r ∧ w.heap.size ≤ r) :
    Back w' ms sq hd lo base H v' (pushL ms sq xs g) wk bx r2 cap2 ps (k + 1) ∧ KeepI lo w w' := by
  obtain ⟨hp, ho⟩ := pushL_law (ms := ms) (sq := sq) xs g h.ord
  obtain ⟨gk, gnx⟩ := h.grp k g (Nat.le_refl _) hg
  obtain ⟨gs, bg, _⟩ := gk.blk
  have hgp : g ∈ ps := List.mem_iff_getElem?.2 ⟨k, hg⟩
  have hno : ∀ b t cs, Blk w b t cs → t ≠ 120 → t ≠ 108 → some b ≠ v.ownBlock → ¬ (b = H ∨ b = g ∨ b ∈ xs ∨ some b = v.ownBlock) := by
    rintro b t cs hb n1 n2 n3 (rfl | rfl | hx | hx)
    · exact n1 (blk_inj hb h.heap.obj).1
    · exact n2 (blk_inj hb bg).1
    · obtain ⟨i, hi⟩ := List.mem_iff_getElem?.1 hx
      obtain ⟨gs', bg', _⟩ := (h.heap.grp i b hi).blk
      exact n2 (blk_inj hb bg').1
    · exact n3 hx
  obtain ⟨rs, br, hrs⟩ := h.row
  have hlen : (pushL ms sq xs g).length = xs.length + 1 := by rw [hp.length_eq]; simp
  refine ⟨⟨h1, ho, h.hlo, ?_, ?_, ?_, ?_, ?_, ?_, h.nodup, by have := h.few; omega, by have := h2.size; have := h.bs; omega⟩, ?_⟩
  · rintro b (hb | hb)
    · rcases (mem_push h.ord).1 hb with hb | rfl
      · exact h.los b (.inl hb)
      · exact h.los _ (.inr hgp)
    · exact h.los b (.inr hb)
  · exact h.box.keeps h2 (hno _ _ _ h.box (by decide) (by decide) (own_ne h.heap.own h.box (by decide)))
  · exact h.wbox.keeps h2 (hno _ _ _ h.wbox (by decide) (by decide) (own_ne h.heap.own h.wbox (by decide)))
  · exact ⟨rs, br.keeps h2 (hno _ _ _ br (by decide) (by decide) h.apart), hrs⟩
  · rcases h3 with h3 | ⟨r, h3, h4⟩
    · rw [h3]; exact h.apart
    · rw [h3]; intro e; simp at e; have := br.lt; omega
  · intro i p hi hpi
    obtain ⟨gp, pnx⟩ := h.grp i p (by omega) hpi
    have hne : p ≠ g := by
      intro e
      subst e
      have := (List.getElem?_inj (List.getElem?_eq_some_iff.1 hpi).1 h.nodup).1 (hpi.trans hg.symm)
      omega
    refine ⟨gp.keeps h2 ?_, ?_⟩
    · rintro b t cs hb (⟨rfl, rfl⟩ | rfl | rfl)
      · rintro (rfl | rfl | hx | hx)
        · exact absurd (blk_inj hb h.heap.obj).1 (by decide)
        · exact hne rfl
        · exact pnx hx
        · exact own_ne h.heap.own hb (by decide) hx
      · exact hno _ _ _ hb (by decide) (by decide) (own_ne h.heap.own hb (by decide))
      · exact hno _ _ _ hb (by decide) (by decide) (own_ne h.heap.own hb (by decide))
    · rw [mem_push h.ord]
      rintro (hx | hx)
      · exact pnx hx
      · exact hne hx
  · refine h.heap.keepI h.hlo (fun g hg => h.los g (.inl hg)) h2 ?_
    rintro b (rfl | rfl | hx | hx)
    · exact .inl rfl
    · exact .inr (.inl ⟨h.los _ (.inr hgp), gs, bg⟩)
    · exact .inr (.inr (.inl hx))
    · exact .inr (.inr (.inr hx))

set_option maxHeartbeats 1000000 in
theorem defer48 (m : Nat) (u : FrameMode) (w : World) (lo base H : Nat) (v : Value) (xs : List Nat) (wk bx r2 cap2 : Nat) (ps : List Nat) (hcap : ps.length ≤ cap2) (h : Back w ms sq hd lo base H v xs wk bx r2 cap2 ps 0) :
    CallsDIn Fence.wide m Yba.prog 48 #[.pointer (some ⟨wk, 0, none⟩), .pointer (some ⟨bx, 0, none⟩)] u w fun e u' w' => u' = u ∧ (e = .returned (.tuple #[]) ∧ ∃ v' xs', GHeap w' ms sq hd base H v' xs' ∧ xs'.Perm (xs ++ ps) ∧ HeapN (key ms sq) xs' xs'.length ∧ KeepI lo w w') := by
  refine callsDIn_of_wp Yba.func48 rfl trivial ?_
  refine wpIn_wide.2 ?_
  simp only [Yba.ntmps48, List.size_toArray, List.length_cons, List.length_nil, Nat.reduceAdd, Nat.reduceSub, Array.replicate_succ, Array.replicate_zero, List.push_toArray, List.append_toArray, List.nil_append, List.cons_append]
  have c0 : w.cell? ⟨wk, 0, none⟩ = some (.slice (some ⟨r2, 0, none⟩) ps.length cap2) := h.wbox.cell 0
  have hps : ps.length < 1000 := by have := h.few; omega
  go_wp2
  go_loopw [6] (fun q wr => ∃ (k : Nat) (v' : Value) (xs' : List Nat), k ≤ ps.length ∧ q = .int .i64 k ∧ Back wr ms sq hd lo base H v' xs' wk bx r2 cap2 ps k ∧ xs'.Perm (xs ++ ps.take k) ∧ KeepI lo w wr) (fun q _ => ps.length - (intOf q).toNat)
  case atStart => exact ⟨0, v, xs, Nat.zero_le _, rfl, h, by simp, .refl _ _⟩
  case round =>
    obtain ⟨k, v', xs', hk, rfl, hB, hP, hK⟩ := hrel
    clear c0
    by_cases hlt : k < ps.length
    · obtain ⟨g, hg⟩ : ∃ g, ps[k]? = some g := ⟨ps[k], by simp [hlt]⟩
      obtain ⟨rs, br, hrs⟩ := hB.row
      have cr : wr.cell? ⟨r2, k, none⟩ = some (.pointer (some ⟨g, 0, none⟩)) := by rw [br.cell k]; exact hrs k g hg
      have cb : wr.cell? ⟨bx, 0, none⟩ = some (.pointer (some ⟨H, 0, none⟩)) := hB.box.cell 0
      obtain ⟨gk, gnx⟩ := hB.grp k g (Nat.le_refl _) hg
      have hPu := push26 wr base H g v' xs' (-1) hB.heap gk gnx (by have := hB.few; omega) hB.bs
      have HG : Hid (ps[k]? = some g) := hg
      have HP : Hid (xs'.Perm (xs ++ ps.take k)) := hP
      clear hg hrs br gk gnx hP
      go_wp2_with fail
      refine hPu.mono ?_
      rintro e w1 ⟨rfl, v1, h1, h2, h3⟩
      have hst := hB.step HG.out h1 h2 h3
      have hperm : (pushL ms sq xs' g).Perm (xs ++ ps.take (k + 1)) := by
        have e1 : ps.take (k + 1) = ps.take k ++ [g] := by
          rw [List.take_add_one, HG.out]; rfl
        rw [e1, ← List.append_assoc]
        exact (pushL_law xs' g hB.ord).1.trans (HP.out.append_right [g])
      clear h1 h2 h3 hPu cr cb
      go_wp2
      go_roundw
      case rel => exact ⟨k + 1, v1, _, by omega, by go_num, hst.1, hperm, hK.trans hst.2⟩
      case measure => simp [intOf]; omega
    · go_wp2_with fail
      go_end0
      obtain rfl : k = ps.length := by omega
      rw [List.take_length] at hP
      exact ⟨rfl, v', xs', hB.heap, hP, hB.ord, hK⟩

set_option maxHeartbeats 1000000 in
theorem defer48_nil (m : Nat) (u : FrameMode) (w : World) (wk bx : Nat) (h : Blk w wk 116 #[.slice none 0 0]) :
    CallsDIn Fence.wide m Yba.prog 48 #[.pointer (some ⟨wk, 0, none⟩), .pointer (some ⟨bx, 0, none⟩)] u w fun e u' w' => u' = u ∧ (e = .returned (.tuple #[]) ∧ w' = w) := by
  refine callsDIn_of_wp Yba.func48 rfl trivial ?_
  refine wpIn_wide.2 ?_
  simp only [Yba.ntmps48, List.size_toArray, List.length_cons, List.length_nil, Nat.reduceAdd, Nat.reduceSub, Array.replicate_succ, Array.replicate_zero, List.push_toArray, List.append_toArray, List.nil_append, List.cons_append]
  have c0 : w.cell? ⟨wk, 0, none⟩ = some (.slice none 0 0) := h.cell 0
  go_wp2
  go_loopw [6] (fun q wr => q = .int .i64 0 ∧ wr = w) (fun q _ => 0)
  case atStart => exact ⟨rfl, rfl⟩
  case round =>
    obtain ⟨rfl, rfl⟩ := hrel
    go_wp2
    go_end0
    exact ⟨rfl, rfl⟩
end Go.Proofs.Ybulkbrrw
