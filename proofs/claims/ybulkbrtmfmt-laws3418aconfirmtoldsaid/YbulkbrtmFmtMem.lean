import Derived.WalkKit
import Derived.WalkSpells
import Derived.Deep.OwnRows
import Derived.Deep.Draws
namespace Go.Proofs.YbulkbrtmFmt
open Go.RowKit Go.Deep
/-- Block b holds these cells, of type t, none frozen. -/
def Blk (w : World) (b : Nat) (t : TypeId) (cs : Array Value) : Prop := w.heap[b]? = some (.cells cs t (0, 0))

namespace Blk
variable {w w' : World} {b : Nat} {t : TypeId} {cs : Array Value}
theorem lt (h : Blk w b t cs) : b < w.heap.size := (Array.getElem?_eq_some_iff.1 h).1
theorem cell (h : Blk w b t cs) (i : Nat) : w.cell? ⟨b, i, none⟩ = cs[i]? := by
  unfold Blk at h; simp [World.cell?, h]
theorem frozen (h : Blk w b t cs) (i : Nat) : w.frozen? ⟨b, i, none⟩ = false := by
  unfold Blk at h; simp [World.frozen?, h]
theorem of_block (h : Blk w b t cs) (e : w'.heap[b]? = w.heap[b]?) : Blk w' b t cs := e.trans h
theorem alloc (h : Blk w b t cs) (o : Obj) : Blk (w.alloc o) b t cs := h.of_block (Below.heap_alloc _ _ _ h.lt)
theorem setOther (h : Blk w b t cs) {a : Addr} (ha : b ≠ a.block) (v : Value) : Blk (w.setCell a v) b t cs := h.of_block (Below.heap_setCell _ _ _ _ ha)
theorem set (h : Blk w b t cs) (i : Nat) (v : Value) : Blk (w.setCell ⟨b, i, none⟩ v) b t (cs.setIfInBounds i v) := by
  unfold Blk at h ⊢; simp [World.setCell, Array.getElem?_modify, h]
theorem new (w : World) (t : TypeId) (cs : Array Value) : Blk (w.alloc (.cells cs t)) w.heap.size t cs := blk_alloc_new _ _
theorem grown {row : Option Nat} (h : Blk w b t cs) (hg : w.grownBy w' row) (hne : some b ≠ row) : Blk w' b t cs := h.of_block (hg.block b h.lt hne)
end Blk

/-- What an owned row is made of is of its own type. -/
theorem own_ne {w : World} {base : Nat} {e : TypeId} {size : Nat} {v : Value} {n : Nat} {xs : List Value} (h : w.ownsRow base e size v n xs) {b : Nat} {t : TypeId} {cs : Array Value} (hb : Blk w b t cs) (hne : t ≠ e) : some b ≠ v.ownBlock := by
  rcases h.2 with ⟨rfl, _⟩ | ⟨g, cap, cur, rfl, _, hh, _⟩
  · simp [Value.ownBlock]
  · intro e1
    simp [Value.ownBlock] at e1
    subst e1
    unfold Blk at hb
    rw [hh] at hb
    simp at hb
    exact hne hb.2.symm

theorem own_lo {w : World} {base : Nat} {e : TypeId} {size : Nat} {v : Value} {n : Nat} {xs : List Value} (h : w.ownsRow base e size v n xs) {b : Nat} (hb : b < base) : some b ≠ v.ownBlock := by
  intro e1
  have := (h.lt b e1.symm).1
  omega

theorem own_slice {w : World} {base : Nat} {e : TypeId} {size : Nat} {v : Value} {n : Nat} {xs : List Value} (h : w.ownsRow base e size v n xs) : ∃ ao cap, v = .slice ao n cap := by
  rcases h.2 with ⟨rfl, rfl⟩ | ⟨g, cap, cur, rfl, _⟩
  · exact ⟨_, _, rfl⟩
  · exact ⟨_, _, rfl⟩

theorem ownsRow_store {w : World} {base : Nat} {e : TypeId} {size : Nat} {v : Value} {n : Nat} {xs : List Value} (h : w.ownsRow base e size v n xs) {b : Nat} (hb : some b ≠ v.ownBlock) (i : Nat) (u : Value) : (w.setCell ⟨b, i, none⟩ u).ownsRow base e size v n xs :=
  h.kept (row := some b) ⟨rfl, rfl, rfl, by simp [World.setCell], fun c _ hc => Below.heap_setCell _ _ _ _ (fun e1 => hc (by rw [e1]))⟩ (.inr (Ne.symm hb))

theorem cell_one_new' (w : World) (x : Value) (t : TypeId) (N : Nat) (hN : N = w.heap.size) : ∀ j u, [x][j]? = some u → (w.alloc (.cells #[x] t)).cell? ((⟨N, 0, none⟩ : Addr).add j) = some u := by
  subst hN; exact cell_one_new w x t

def pt (b : Nat) : Value := .pointer (some ⟨b, 0, none⟩)

/-- All blocks but those of S are as they were. -/
structure Keeps (S : Nat → Prop) (w w' : World) : Prop where
  os : w'.os = w.os
  tape : w'.tape = w.tape
  output : w'.output = w.output
  size : w.heap.size ≤ w'.heap.size
  block : ∀ b, b < w.heap.size → ¬ S b → w'.heap[b]? = w.heap[b]?

namespace Keeps
variable {S T : Nat → Prop} {w w' w'' : World}
theorem refl (S : Nat → Prop) (w : World) : Keeps S w w := ⟨rfl, rfl, rfl, Nat.le_refl _, fun _ _ _ => rfl⟩
theorem trans (h : Keeps S w w') (k : Keeps S w' w'') : Keeps S w w'' :=
  ⟨k.os.trans h.os, k.tape.trans h.tape, k.output.trans h.output, Nat.le_trans h.size k.size, fun b hb hs => (k.block b (Nat.lt_of_lt_of_le hb h.size) hs).trans (h.block b hb hs)⟩
theorem mono (h : Keeps S w w') (hst : ∀ b, b < w.heap.size → S b → T b) : Keeps T w w' := ⟨h.os, h.tape, h.output, h.size, fun b hb hs => h.block b hb fun x => hs (hst b hb x)⟩
theorem alloc (h : Keeps S w w') (o : Obj) : Keeps S w (w'.alloc o) :=
  h.trans ⟨rfl, rfl, rfl, by simp, fun _ hb _ => Below.heap_alloc _ _ _ hb⟩
theorem setCell (h : Keeps S w w') {a : Addr} (ha : S a.block) (v : Value) : Keeps S w (w'.setCell a v) :=
  h.trans ⟨rfl, rfl, rfl, by simp [World.setCell], fun b _ hs => Below.heap_setCell _ _ _ _ (fun e => hs (e ▸ ha))⟩
theorem drew (h : Keeps S w w') : Keeps S w w'.drew := ⟨h.os, h.tape, h.output, h.size, h.block⟩
theorem grown (h : Keeps S w w') {row : Option Nat} (hg : w'.grownBy w'' row) (hr : ∀ k, row = some k → S k) : Keeps S w w'' :=
  h.trans ⟨hg.os, hg.tape, hg.output, hg.size, fun b hb hs => hg.block b hb (fun e => hs (hr b e.symm))⟩
theorem below {B : Nat} (h : Keeps S w w') (hB : B ≤ w.heap.size) (hs : ∀ k, k < B → ¬ S k) : Below B w w' := ⟨h.os, h.tape, h.output, h.size, fun k hk => h.block k (by omega) (hs k hk)⟩
end Keeps
theorem Blk.keeps {S : Nat → Prop} {w w' : World} {b : Nat} {t : TypeId} {cs : Array Value} (h : Blk w b t cs) (k : Keeps S w w') (hs : ¬ S b) : Blk w' b t cs := h.of_block (k.block b h.lt hs)
theorem Blk.drewN {w : World} {b : Nat} {t : TypeId} {cs : Array Value} (h : Blk w b t cs) (n : Nat) : Blk (w.drewN n) b t cs := h
theorem Keeps.drewN {S : Nat → Prop} {w w' : World} (h : Keeps S w w') (n : Nat) : Keeps S w (w'.drewN n) := ⟨h.os, h.tape, h.output, h.size, h.block⟩
theorem ownsRow_drewN {w : World} {base : Nat} {e : TypeId} {size : Nat} {v : Value} {n : Nat} {xs : List Value} (h : w.ownsRow base e size v n xs) (k : Nat) : (w.drewN k).ownsRow base e size v n xs := h
theorem blk_inj {w : World} {b : Nat} {t t' : TypeId} {cs cs' : Array Value} (h : Blk w b t cs) (h' : Blk w b t' cs') : t = t' ∧ cs = cs' := by
  unfold Blk at h h'; rw [h] at h'; simp at h'; exact ⟨h'.2, h'.1⟩
theorem blk_ne {w : World} {b b' : Nat} {t t' : TypeId} {cs cs' : Array Value} (h : Blk w b t cs) (h' : Blk w b' t' cs') (hne : t ≠ t') : b ≠ b' := by
  intro e; subst e; exact hne (blk_inj h h').1
theorem Keeps.setNew {S : Nat → Prop} {w w' : World} (h : Keeps S w w') {a : Addr} (ha : w.heap.size ≤ a.block) (v : Value) : Keeps S w (w'.setCell a v) :=
  ⟨h.os, h.tape, h.output, by simpa [World.setCell] using h.size, fun b hb hs => (Below.heap_setCell _ _ _ _ (fun e => by omega)).trans (h.block b hb hs)⟩
theorem Keeps.weak {S : Nat → Prop} {w w' : World} (h : Keeps (fun _ => False) w w') : Keeps S w w' := h.mono fun _ _ x => x.elim
end Go.Proofs.YbulkbrtmFmt
