import Derived.Test.YbulkbrrwInorder
import Derived.Test.YbulkbrrwLog
import Derived.RangeFuncCalls
namespace Go.Proofs.Ybulkbrrw
open Go.RowKit Go.Deep
set_option linter.unusedVariables false
set_option linter.unusedSimpArgs false
variable {ms : Nat → List Nat} {sq hd : Nat → Int}

/-- The sequence numbers of a group's messages up to the first hidden one. -/
def vis (ms : Nat → List Nat) (sq hd : Nat → Int) (g : Nat) : List Int := ((ms g).takeWhile fun m => hd m == 0).map sq

theorem KeepI.below {lo : Nat} {w0 W W' : World} (h : KeepI lo w0 W) (k : Below w0.heap.size W W') : KeepI lo w0 W' :=
  ⟨k.os.trans h.os, k.tape.trans h.tape, k.output.trans h.output, Nat.le_trans h.size k.size, fun b o hb ho => (k.block b (Array.getElem?_eq_some_iff.1 hb).1).trans (h.same b o hb ho)⟩

theorem below_putObj {n : Nat} {W : World} {l : Nat} (o : Obj) (h : n ≤ l) : Below n W (W.putObj l o) :=
  ⟨rfl, rfl, rfl, by simp, fun k hk => World.putObj_heap_other (by omega)⟩

theorem blk_putObj {W : World} {l b : Nat} {t : TypeId} {cs : Array Value} {o : Obj} (o' : Obj) (hb : Blk W b t cs) (hl : W.heap[l]? = some o) (ho : ∀ cs t fr, o ≠ .cells cs t fr) : Blk (W.putObj l o') b t cs := by
  have hne : b ≠ l := by
    intro e; subst e; unfold Blk at hb; rw [hb] at hl; exact ho _ _ _ (Option.some.inj hl).symm
  exact (World.putObj_heap_other hne).trans hb

theorem own_putObj {W : World} {l : Nat} {base : Nat} {e : TypeId} {v : Value} {n : Nat} {xs : List Value} {o : Obj} (o' : Obj) (h : W.ownsRow base e 1 v n xs) (hl : W.heap[l]? = some o) (ho : ∀ cs t fr, o ≠ .cells cs t fr) : (W.putObj l o').ownsRow base e 1 v n xs := by
  refine ⟨h.1, ?_⟩
  rcases h.2 with h2 | ⟨g, cap, cur, h1, h2, hh, h3⟩
  · exact .inl h2
  · exact .inr ⟨g, cap, cur, h1, h2, blk_putObj (t := e) (cs := cur) o' hh hl ho, h3⟩

/-- What the walk over the groups holds between two rounds. -/
structure RS (w0 W : World) (lo n0 L Lim : Nat) (limit : Int) (yb l D : Nat) (rc : Obj) (ls : List Int) : Prop where
  log : ∃ lv, Log W n0 L Lim limit lv ls
  ybox : Blk W yb 115 #[.func (.func 28) #[] #[.pointer (some ⟨L, 0, none⟩), .pointer (some ⟨Lim, 0, none⟩)]]
  rcd : W.heap[l]? = some rc
  dfr : W.heap[D]? = some (.deferred (some []))
  frame : KeepI lo w0 W
  geL : w0.heap.size ≤ L
  gen : w0.heap.size ≤ n0
  gel : w0.heap.size ≤ l
  geD : w0.heap.size ≤ D
  neD : D ≠ l

variable {w0 W W' : World} {lo n0 L Lim : Nat} {limit : Int} {yb l D : Nat} {rc : Obj} {ls : List Int}

theorem RS.keepI (h : RS w0 W lo n0 L Lim limit yb l D rc ls) (hr : ∀ cs t fr, rc ≠ .cells cs t fr) (k : KeepI lo W W') : RS w0 W' lo n0 L Lim limit yb l D rc ls := by
  obtain ⟨lv, hl⟩ := h.log
  refine ⟨⟨lv, ⟨k.blk hl.box (fun _ => by decide), k.blk hl.lim (fun _ => by decide), ⟨hl.own.1, ?_⟩, hl.lt, hl.lt2, Nat.le_trans hl.few k.size⟩⟩, k.blk h.ybox (fun _ => by decide), k.same _ _ h.rcd (fun _ => ?_), k.same _ _ h.dfr (fun _ => rfl), h.frame.trans k, h.geL, h.gen, h.gel, h.geD, h.neD⟩
  · rcases hl.own.2 with h2 | ⟨g, cap, cur, h1, h2, hh, h3⟩
    · exact .inl h2
    · exact .inr ⟨g, cap, cur, h1, h2, k.blk (t := 24) (cs := cur) hh (fun _ => by decide), h3⟩
  · cases hrc : rc with
    | cells cs t fr => exact absurd hrc (hr cs t fr)
    | _ => rfl

theorem RS.putRec (h : RS w0 W lo n0 L Lim limit yb l D rc ls) (hr : ∀ cs t fr, rc ≠ .cells cs t fr) (rc' : Obj) : RS w0 (W.putObj l rc') lo n0 L Lim limit yb l D rc' ls ∧ KeepB W (W.putObj l rc') := by
  obtain ⟨lv, hl⟩ := h.log
  refine ⟨⟨⟨lv, ⟨blk_putObj _ hl.box h.rcd hr, blk_putObj _ hl.lim h.rcd hr, own_putObj _ hl.own h.rcd hr, hl.lt, hl.lt2, by simpa using hl.few⟩⟩, blk_putObj _ h.ybox h.rcd hr, World.putObj_heap_same (Array.getElem?_eq_some_iff.1 h.rcd).1, (World.putObj_heap_other h.neD).trans h.dfr, h.frame.below (below_putObj _ h.gel), h.geL, h.gen, h.gel, h.geD, h.neD⟩, ⟨by simp, fun b t cs _ _ hb => blk_putObj _ hb h.rcd hr⟩⟩

theorem RS.logged {lv lv' : Value} {x : Int} (h : RS w0 W lo n0 L Lim limit yb l D rc ls) (hr : ∀ cs t fr, rc ≠ .cells cs t fr) (hl : Log W n0 L Lim limit lv ls)
    (hl' : Log W' n0 L Lim limit lv' (ls ++ [x])) (hk : Keeps (fun b => b = L ∨ some b = lv.ownBlock) W W') : RS w0 W' lo n0 L Lim limit yb l D rc (ls ++ [x]) ∧ KeepB W W' := by
  have hnr : ∀ (b : Nat) (o : Obj), W.heap[b]? = some o → (∀ cs t fr, o = .cells cs t fr → t ≠ 94 ∧ t ≠ 24) → ¬ (b = L ∨ some b = lv.ownBlock) := by
    rintro b o hb ho (rfl | hx)
    · have := tag_of_blk hl.box hb
      exact (ho _ _ _ this).1 rfl
    · obtain ⟨_, cs, h1⟩ := own_tag hl.own hx
      have := tag_of_blk h1 hb
      exact (ho _ _ _ this).2 rfl
  have same : ∀ (b : Nat) (o : Obj), W.heap[b]? = some o → (∀ cs t fr, o = .cells cs t fr → t ≠ 94 ∧ t ≠ 24) → W'.heap[b]? = some o := fun b o hb ho => (hk.block b (Array.getElem?_eq_some_iff.1 hb).1 (hnr b o hb ho)).trans hb
  refine ⟨⟨⟨lv', hl'⟩, same _ _ h.ybox (fun _ _ _ e => by cases e; decide), same _ _ h.rcd (fun cs t fr e => absurd e (hr cs t fr)), same _ _ h.dfr (fun _ _ _ e => by cases e), ?_, h.geL, h.gen, h.gel, h.geD, h.neD⟩, ⟨hk.size, fun b t cs h1 h2 hb => same _ _ hb (fun _ _ _ e => by cases e; exact ⟨h1, h2⟩)⟩⟩
  refine h.frame.below ?_
  refine hk.below h.frame.size ?_
  rintro k hk1 (rfl | hx)
  · have := h.geL; omega
  · have := (own_tag hl.own hx).1
    have := h.gen; omega
end Go.Proofs.Ybulkbrrw
