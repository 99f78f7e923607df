import Derived.Test.YbulkbrrwGpop
import Derived.Test.YbulkbrrwHeapLaws
namespace Go.Proofs.Ybulkbrrw
open Go.RowKit Go.Deep

def tagIn (l : List Nat) : Obj → Bool
  | .cells _ t _ => l.contains t
  | _ => false

/-- What the iterator over the heap leaves alone: all below lo; above it, all but the heap's own blocks (the object, rows of groups, groups, the slice of those that were walked). -/
structure KeepI (lo : Nat) (W W' : World) : Prop where
  os : W'.os = W.os
  tape : W'.tape = W.tape
  output : W'.output = W.output
  size : W.heap.size ≤ W'.heap.size
  same : ∀ b o, W.heap[b]? = some o → (lo ≤ b → tagIn [120, 100, 108, 116] o = false) → W'.heap[b]? = some o

namespace KeepI
variable {lo : Nat} {W W' W'' : World}
theorem refl (lo : Nat) (W : World) : KeepI lo W W := ⟨rfl, rfl, rfl, Nat.le_refl _, fun _ _ h _ => h⟩
theorem trans (h : KeepI lo W W') (k : KeepI lo W' W'') : KeepI lo W W'' :=
  ⟨k.os.trans h.os, k.tape.trans h.tape, k.output.trans h.output, Nat.le_trans h.size k.size, fun b o hb ho => k.same b o (h.same b o hb ho) ho⟩
theorem of_keeps {S : Nat → Prop} (h : Keeps S W W') (hs : ∀ b o, W.heap[b]? = some o → S b → lo ≤ b ∧ tagIn [120, 100, 108, 116] o = true) : KeepI lo W W' :=
  ⟨h.os, h.tape, h.output, h.size, fun b o hb ho => (h.block b (Array.getElem?_eq_some_iff.1 hb).1 (fun x => by
    obtain ⟨h1, h2⟩ := hs b o hb x
    rw [ho h1] at h2; exact absurd h2 (by simp))).trans hb⟩
theorem alloc (W : World) (o : Obj) : KeepI lo W (W.alloc o) := of_keeps (S := fun _ => False) ((Keeps.refl _ W).alloc o) (by intro b o _ h; exact h.elim)
theorem drewN (W : World) (n : Nat) : KeepI lo W (W.drewN n) := of_keeps (S := fun _ => False) (.ofDraws W n) (by intro b o _ h; exact h.elim)
theorem blk {b : Nat} {t : TypeId} {cs : Array Value} (h : KeepI lo W W') (hb : Blk W b t cs) (ht : lo ≤ b → t ≠ 120 ∧ t ≠ 100 ∧ t ≠ 108 ∧ t ≠ 116) : Blk W' b t cs :=
  h.same b _ hb (fun hl => by
    obtain ⟨h1, h2, h3, h4⟩ := ht hl
    simp [tagIn, h1, h2, h3, h4])
end KeepI

theorem tag_of_blk {W : World} {b : Nat} {t : TypeId} {cs : Array Value} {o : Obj} (h : Blk W b t cs) (ho : W.heap[b]? = some o) : o = .cells cs t (0, 0) := by
  unfold Blk at h; rw [h] at ho; simpa using ho.symm

theorem own_tag {w : World} {base : Nat} {e : TypeId} {size : Nat} {v : Value} {n : Nat} {xs : List Value} (h : w.ownsRow base e size v n xs) {b : Nat} (hb : some b = v.ownBlock) : base ≤ b ∧ ∃ cs, Blk w b e cs := by
  rcases h.2 with ⟨rfl, _⟩ | ⟨g, cap, cur, rfl, h1, hh, _⟩
  · simp [Value.ownBlock] at hb
  · simp [Value.ownBlock] at hb
    subst hb
    exact ⟨h1, cur, hh⟩

variable {ms : Nat → List Nat} {sq hd : Nat → Int}

/-- A push or a pop turns the heap's own blocks alone. -/
theorem GHeap.keepI {lo base H : Nat} {v : Value} {xs : List Nat} {w w' : World} {S : Nat → Prop} (h : GHeap w ms sq hd base H v xs) (hlo : lo ≤ H) (hxs : ∀ g, g ∈ xs → lo ≤ g) (hk : Keeps S w w')
    (hS : ∀ b, S b → b = H ∨ (lo ≤ b ∧ ∃ cs, Blk w b 108 cs) ∨ b ∈ xs ∨ some b = v.ownBlock) : KeepI lo w w' := by
  refine .of_keeps hk ?_
  intro b o hb hs
  rcases hS b hs with rfl | ⟨h1, cs, h2⟩ | h1 | h1
  · refine ⟨hlo, ?_⟩
    rw [tag_of_blk h.obj hb]; rfl
  · refine ⟨h1, ?_⟩
    rw [tag_of_blk h2 hb]; rfl
  · refine ⟨hxs b h1, ?_⟩
    obtain ⟨i, hi⟩ := List.mem_iff_getElem?.1 h1
    obtain ⟨gs, bg, _⟩ := (h.grp i b hi).blk
    rw [tag_of_blk bg hb]; rfl
  · obtain ⟨h2, cs, h3⟩ := own_tag h.own h1
    refine ⟨by have := h.lt; omega, ?_⟩
    rw [tag_of_blk h3 hb]; rfl

theorem key_lt (a b : Nat) : ltK ms sq a b = decide (key ms sq a < key ms sq b) := rfl

theorem pushL_law (xs : List Nat) (g : Nat) (h : HeapN (key ms sq) xs xs.length) : (pushL ms sq xs g).Perm (xs ++ [g]) ∧ HeapN (key ms sq) (pushL ms sq xs g) (pushL ms sq xs g).length :=
  push_law (key ms sq) (ltK ms sq) key_lt xs g h

theorem popL_law (xs : List Nat) (n : Nat) (hn : xs.length = n + 1) (h : HeapN (key ms sq) xs xs.length) :
    ∃ ys g, popL ms sq xs = ys ++ [g] ∧ (ys ++ [g]).Perm xs ∧ HeapN (key ms sq) ys ys.length ∧ ∀ y, y ∈ ys → key ms sq g ≤ key ms sq y :=
  pop_law (key ms sq) (ltK ms sq) key_lt xs n hn h
end Go.Proofs.Ybulkbrrw
