import Derived.Test.YbulkbrrwDefer
import Derived.RangeFuncLeaves
import Derived.RangeFuncRecord
import Derived.RangeFuncSeq
import Derived.OwnWalkIn
import Derived.LoopNIn
import Derived.LoopIn
namespace Go.Proofs.Ybulkbrrw
open Go.RowKit Go.Deep
set_option linter.unusedVariables false
set_option linter.unusedSimpArgs false
variable {ms : Nat → List Nat} {sq hd : Nat → Int}

/-- What a round keeps: every block of cells but logs and their rows. -/
structure KeepB (W W' : World) : Prop where
  size : W.heap.size ≤ W'.heap.size
  blk : ∀ b t cs, t ≠ 94 → t ≠ 24 → Blk W b t cs → Blk W' b t cs

theorem KeepB.refl (W : World) : KeepB W W := ⟨Nat.le_refl _, fun _ _ _ _ _ h => h⟩
theorem KeepB.trans {A B C : World} (h : KeepB A B) (k : KeepB B C) : KeepB A C := ⟨Nat.le_trans h.size k.size, fun b t cs h1 h2 hb => k.blk b t cs h1 h2 (h.blk b t cs h1 h2 hb)⟩

theorem Grp.keepB {w w' : World} {g : Nat} {idx : Int} (h : Grp w ms sq hd g idx) (k : KeepB w w') : Grp w' ms sq hd g idx := by
  obtain ⟨⟨r, cap, rs, h1, h2, h3, h4⟩, h5, h6⟩ := h
  refine ⟨⟨r, cap, rs, k.blk _ _ _ (by decide) (by decide) h1, h2, k.blk _ _ _ (by decide) (by decide) h3, h4⟩, fun m hm => ?_, h6⟩
  obtain ⟨cs, c1, c2, c3⟩ := h5 m hm
  exact ⟨cs, k.blk _ _ _ (by decide) (by decide) c1, c2, c3⟩

theorem own_keepB {w w' : World} {base : Nat} {v : Value} {n : Nat} {xs : List Value} (h : w.ownsRow base 100 1 v n xs) (k : KeepB w w') : w'.ownsRow base 100 1 v n xs := by
  refine ⟨h.1, ?_⟩
  rcases h.2 with h2 | ⟨g, cap, cur, h1, h2, hh, h3⟩
  · exact .inl h2
  · exact .inr ⟨g, cap, cur, h1, h2, k.blk g 100 cur (by decide) (by decide) hh, h3⟩

theorem GHeap.keepB {w w' : World} {base H : Nat} {v : Value} {xs : List Nat} (h : GHeap w ms sq hd base H v xs) (k : KeepB w w') : GHeap w' ms sq hd base H v xs :=
  ⟨k.blk _ _ _ (by decide) (by decide) h.obj, own_keepB h.own k, fun i g hg => (h.grp i g hg).keepB k, h.lt, h.few⟩

/-- The iterator's state: j groups have come off the heap, k of them lie in the slice of those that were walked. -/
structure Iter (w : World) (ms : Nat → List Nat) (sq hd : Nat → Int) (base H : Nat) (v : Value) (ys : List Nat) (wk bx wb : Nat) (wv : Value) (S : List Nat) (k j : Nat) : Prop where
  heap : GHeap w ms sq hd base H v ys
  ord : HeapN (key ms sq) ys ys.length
  perm : ys.Perm (S.drop j)
  box : Blk w bx 81 #[.pointer (some ⟨H, 0, none⟩)]
  wbox : Blk w wk 116 #[wv]
  wown : w.ownsRow wb 100 1 wv k ((S.take k).map pt)
  apart : ∀ b, some b = v.ownBlock → b < wb
  grp : ∀ p, p ∈ S.take j → Grp w ms sq hd p (-1)
  kle : j ≤ S.length
  wlt : wk < wb
  bs : wb ≤ w.heap.size

/-- What stands of the order, the places. -/
structure Stage (ms : Nat → List Nat) (sq : Nat → Int) (lo H : Nat) (S : List Nat) : Prop where
  srt : S.Pairwise (fun a b => key ms sq a < key ms sq b)
  los : ∀ g, g ∈ S → lo ≤ g
  hlo : lo ≤ H
  few : S.length < 1000

theorem nodup_of_srt (k : Nat → Int) : ∀ (S : List Nat), S.Pairwise (fun a b => k a < k b) → S.Nodup
  | [], _ => List.nodup_nil
  | a :: S, h => by
    rw [List.pairwise_cons] at h
    rw [List.nodup_cons]
    exact ⟨fun hm => by have := h.1 a hm; omega, nodup_of_srt k S h.2⟩

theorem Stage.nodup {lo H : Nat} {S : List Nat} (h : Stage ms sq lo H S) : S.Nodup := nodup_of_srt _ S h.srt

variable {w w' : World} {lo base H : Nat} {v v' : Value} {ys zs : List Nat} {wk bx wb : Nat} {wv : Value} {S : List Nat} {k j g : Nat}

theorem Iter.keepB (h : Iter w ms sq hd base H v ys wk bx wb wv S k j) (kb : KeepB w w') : Iter w' ms sq hd base H v ys wk bx wb wv S k j :=
  ⟨h.heap.keepB kb, h.ord, h.perm, kb.blk _ _ _ (by decide) (by decide) h.box, kb.blk _ _ _ (by decide) (by decide) h.wbox, own_keepB h.wown kb, h.apart, fun p hp => (h.grp p hp).keepB kb, h.kle, h.wlt, Nat.le_trans h.bs kb.size⟩

/-- The least of what is left comes off. -/
theorem Iter.popped (st : Stage ms sq lo H S) (h : Iter w ms sq hd base H v ys wk bx wb wv S k k) (hk : k < S.length)
    (hp : (zs ++ [g]).Perm ys) (ho : HeapN (key ms sq) zs zs.length) (hmin : ∀ y, y ∈ zs → key ms sq g ≤ key ms sq y)
    (h1 : GHeap w' ms sq hd base H v' zs) (h2 : Grp w' ms sq hd g (-1)) (h3 : Keeps (fun b => b = H ∨ b ∈ ys ∨ some b = v.ownBlock) w w') (h4 : v'.ownBlock = v.ownBlock) :
    S[k]? = some g ∧ Iter w' ms sq hd base H v' zs wk bx wb wv S k (k + 1) ∧ KeepI lo w w' := by
  have hd1 : S.drop k = S[k] :: S.drop (k + 1) := List.drop_eq_getElem_cons hk
  have hperm : (zs ++ [g]).Perm (S[k] :: S.drop (k + 1)) := by rw [← hd1]; exact hp.trans h.perm
  have hsrt : ∀ y, y ∈ S.drop (k + 1) → key ms sq S[k] < key ms sq y := by
    have : (S.drop k).Pairwise (fun a b => key ms sq a < key ms sq b) := st.srt.sublist (List.drop_sublist k S)
    rw [hd1, List.pairwise_cons] at this
    exact this.1
  have hgk : g = S[k] := by
    have hg : g ∈ S[k] :: S.drop (k + 1) := hperm.mem_iff.1 (by simp)
    rcases List.mem_cons.1 hg with e | hg
    · exact e
    · have hs : S[k] ∈ zs ++ [g] := hperm.mem_iff.2 List.mem_cons_self
      rcases List.mem_append.1 hs with hs | hs
      · have := hmin _ hs; have := hsrt _ hg; omega
      · exact (List.mem_singleton.1 hs).symm
  have hzs : zs.Perm (S.drop (k + 1)) := by
    rw [← hgk] at hperm
    exact ((List.perm_append_comm (l₁ := [g]) (l₂ := zs)).trans hperm).cons_inv
  have hys : ∀ p, p ∈ ys → p ∈ S.drop k := fun p hp => h.perm.mem_iff.1 hp
  have hno : ∀ b t cs, Blk w b t cs → t ≠ 120 → t ≠ 108 → some b ≠ v.ownBlock → ¬ (b = H ∨ b ∈ ys ∨ some b = v.ownBlock) := by
    rintro b t cs hb n1 n2 n3 (rfl | hx | hx)
    · exact n1 (blk_inj hb h.heap.obj).1
    · obtain ⟨i, hi⟩ := List.mem_iff_getElem?.1 hx
      obtain ⟨gs', bg', _⟩ := (h.heap.grp i b hi).blk
      exact n2 (blk_inj hb bg').1
    · exact n3 hx
  refine ⟨by rw [hgk]; simp [hk], ⟨h1, ho, hzs, ?_, ?_, ?_, ?_, ?_, hk, h.wlt, Nat.le_trans h.bs h3.size⟩, ?_⟩
  · exact h.box.keeps h3 (hno _ _ _ h.box (by decide) (by decide) (own_ne h.heap.own h.box (by decide)))
  · exact h.wbox.keeps h3 (hno _ _ _ h.wbox (by decide) (by decide) (own_ne h.heap.own h.wbox (by decide)))
  · refine ⟨h.wown.1, ?_⟩
    rcases h.wown.2 with e | ⟨gg, cap, cur, e1, e2, e3, e4⟩
    · exact .inl e
    · refine .inr ⟨gg, cap, cur, e1, e2, ?_, e4⟩
      have hb : Blk w gg 100 cur := e3
      refine hb.keeps h3 (hno _ _ _ hb (by decide) (by decide) ?_)
      intro e
      have := h.apart gg e
      omega
  · intro b hb; rw [h4] at hb; exact h.apart b hb
  · intro p hp
    rw [List.take_add_one] at hp
    rcases List.mem_append.1 hp with hp | hp
    · have hnd := st.nodup
      have hpy : p ∉ ys := by
        intro hx
        have h5 : p ∈ S.drop k := hys p hx
        rw [← List.take_append_drop k S, List.nodup_append] at hnd
        exact hnd.2.2 p hp p h5 rfl
      refine (h.grp p hp).keeps h3 ?_
      rintro b t cs hb (⟨rfl, rfl⟩ | rfl | rfl)
      · rintro (rfl | hx | hx)
        · exact absurd (blk_inj hb h.heap.obj).1 (by decide)
        · exact hpy hx
        · exact own_ne h.heap.own hb (by decide) hx
      · exact hno _ _ _ hb (by decide) (by decide) (own_ne h.heap.own hb (by decide))
      · exact hno _ _ _ hb (by decide) (by decide) (own_ne h.heap.own hb (by decide))
    · simp [hk] at hp
      rw [hp, ← hgk]
      exact h2
  · refine h.heap.keepI st.hlo (fun p hp => st.los p (List.mem_of_mem_drop (hys p hp))) h3 ?_
    rintro b (rfl | hx | hx)
    · exact .inl rfl
    · exact .inr (.inr (.inl hx))
    · exact .inr (.inr (.inr hx))

/-- The group that came off is laid behind those that were walked. -/
theorem Iter.appended {w1 : World} {r cap : Nat} {o : Obj} (st : Stage ms sq lo H S) (h : Iter w ms sq hd base H v ys wk bx wb wv S k (k + 1)) (hg : S[k]? = some g) (hlo : lo ≤ wb) (hwk : lo ≤ wk)
    (h1 : w1.ownsRow wb 100 1 (.slice (some ⟨r, 0, none⟩) (k + 1) cap) (k + 1) ((S.take k).map pt ++ [pt g])) (h2 : (w.alloc o).grownBy w1 wv.ownBlock) :
    Iter (w1.setCell ⟨wk, 0, none⟩ (.slice (some ⟨r, 0, none⟩) (k + 1) cap)) ms sq hd base H v ys wk bx wb (.slice (some ⟨r, 0, none⟩) (k + 1) cap) S (k + 1) (k + 1) ∧
    KeepI lo w (w1.setCell ⟨wk, 0, none⟩ (.slice (some ⟨r, 0, none⟩) (k + 1) cap)) := by
  have hk1 : Keeps (fun b => b = wk ∨ some b = wv.ownBlock) w (w1.setCell ⟨wk, 0, none⟩ (.slice (some ⟨r, 0, none⟩) (k + 1) cap)) :=
    (((Keeps.refl _ w).alloc o).grown h2 (fun k e => .inr e.symm)).setCell (a := ⟨wk, 0, none⟩) (.inl rfl) _
  have hwb1 : Blk w1 wk 116 #[wv] := (h.wbox.alloc o).grown h2 (own_ne (h.wown.alloc o) (h.wbox.alloc o) (by decide))
  have hno : ∀ b t cs, Blk w b t cs → t ≠ 116 → some b ≠ wv.ownBlock → ¬ (b = wk ∨ some b = wv.ownBlock) := by
    rintro b t cs hb n1 n2 (rfl | hx)
    · exact n1 (blk_inj hb h.wbox).1
    · exact n2 hx
  have hgrp : ∀ p i, Grp w ms sq hd p i → Grp (w1.setCell ⟨wk, 0, none⟩ (.slice (some ⟨r, 0, none⟩) (k + 1) cap)) ms sq hd p i := by
    intro p i hp
    refine hp.keeps hk1 ?_
    rintro b t cs hb (⟨rfl, rfl⟩ | rfl | rfl)
    · exact hno _ _ _ hb (by decide) (own_ne h.wown hb (by decide))
    · exact hno _ _ _ hb (by decide) (own_ne h.wown hb (by decide))
    · exact hno _ _ _ hb (by decide) (own_ne h.wown hb (by decide))
  have htk : (S.take (k + 1)).map pt = (S.take k).map pt ++ [pt g] := by
    rw [List.take_add_one, hg]; simp
  refine ⟨⟨⟨?_, ?_, fun i p hp => hgrp p i (h.heap.grp i p hp), h.heap.lt, h.heap.few⟩, h.ord, h.perm, ?_, hwb1.set 0 _, ?_, h.apart, fun p hp => hgrp p _ (h.grp p hp), h.kle, h.wlt, Nat.le_trans h.bs hk1.size⟩, ?_⟩
  · exact h.heap.obj.keeps hk1 (hno _ _ _ h.heap.obj (by decide) (own_ne h.wown h.heap.obj (by decide)))
  · refine ⟨h.heap.own.1, ?_⟩
    rcases h.heap.own.2 with e | ⟨gg, cap', cur, e1, e2, e3, e4⟩
    · exact .inl e
    · refine .inr ⟨gg, cap', cur, e1, e2, ?_, e4⟩
      have hb : Blk w gg 100 cur := e3
      refine hb.keeps hk1 (hno _ _ _ hb (by decide) ?_)
      intro e
      have h5 := h.apart gg (by rw [e1]; rfl)
      have h6 := (h.wown.lt gg e.symm).1
      omega
  · exact h.box.keeps hk1 (hno _ _ _ h.box (by decide) (own_ne h.wown h.box (by decide)))
  · rw [htk]
    exact ownsRow_setCell_below h1 (a := ⟨wk, 0, none⟩) h.wlt _
  · refine .of_keeps hk1 ?_
    rintro b o hb (rfl | hx)
    · exact ⟨hwk, by rw [tag_of_blk h.wbox hb]; rfl⟩
    · obtain ⟨h5, cs, h6⟩ := own_tag h.wown hx
      exact ⟨by omega, by rw [tag_of_blk h6 hb]; rfl⟩
end Go.Proofs.Ybulkbrrw
