import Derived.Test.YbulkbruaParts
namespace Go.Proofs.Ybulkbrua
open Go.RowKit Go.Deep
set_option linter.unusedVariables false
set_option linter.unusedSimpArgs false
attribute [local go_sem ↓] Go.wp_at_zero Go.wp_at_succ

theorem RejAt.els {w : World} {v : Value} {L : List El} (h : RejAt w v L) {t : Nat} {e : El} (ht : L[t]? = some e) :
    ∃ b o cap, v = .slice (some ⟨b, o, none⟩) L.length cap ∧ L.length ≤ cap ∧ b < w.heap.size ∧ w.cell? ⟨b, o + t * 11, none⟩ = some (.int .u8 e.x0) ∧ w.cell? ⟨b, o + t * 11 + 1, none⟩ = some (.bool e.h1) ∧ w.cell? ⟨b, o + t * 11 + 2, none⟩ = some (.int .u8 e.s0) ∧ w.cell? ⟨b, o + t * 11 + 3, none⟩ = some (.int .u8 e.s1) ∧ w.cell? ⟨b, o + t * 11 + 4, none⟩ = some (.int .u8 e.s2) ∧ w.cell? ⟨b, o + t * 11 + 5, none⟩ = some (.bool e.h2) ∧ w.cell? ⟨b, o + t * 11 + 6, none⟩ = some (.int .u8 e.x1) ∧ w.cell? ⟨b, o + t * 11 + 7, none⟩ = some (.bool e.h3) ∧ w.cell? ⟨b, o + t * 11 + 8, none⟩ = some (.int .u8 e.t0) ∧ w.cell? ⟨b, o + t * 11 + 9, none⟩ = some (.int .u8 e.t1) ∧ w.cell? ⟨b, o + t * 11 + 10, none⟩ = some (.int .u8 e.t2) := by
  obtain ⟨b, o, cap, h1, h2, h3, h4⟩ := h.el ht
  exact ⟨b, o, cap, h1, h2, h3, h4 0 (by omega), h4 1 (by omega), h4 2 (by omega), h4 3 (by omega), h4 4 (by omega), h4 5 (by omega), h4 6 (by omega), h4 7 (by omega), h4 8 (by omega), h4 9 (by omega), h4 10 (by omega)⟩

theorem slice_nil_eq (w : World) (a : Option Addr) (l c : Nat) (h : a = none → l = 0 ∧ c = 0) : (binOp .eql 23 (.slice a l c) (.slice none 0 0)).run Yba.prog w = .ok (.bool a.isNone) w := by
  cases a with
  | none => obtain ⟨rfl, rfl⟩ := h rfl; exact nil_eq w
  | some a => exact some_eq w a l c

theorem Yba.info37 : (Yba.prog.info? 37).map (fun i => (i.zero.map Value.cells, i.size, i.bytes)) = some (some #[.string ⟨#[]⟩, .string ⟨#[]⟩, .slice none 0 0, .map none, .slice none 0 0, .map none], 6, 96) := by kernel_rfl

theorem i37 : ∃ i z, Yba.prog.info? 37 = some i ∧ i.zero = some z ∧ i.size = 6 ∧ i.bytes = 96 ∧ z.cells.size = 6 := by
  have h := Yba.info37
  cases hi : Yba.prog.info? 37 with
  | none => rw [hi] at h; simp at h
  | some i =>
    rw [hi] at h
    simp at h
    obtain ⟨⟨z, hz, hc⟩, h2, h3⟩ := h
    exact ⟨i, z, rfl, hz, h2, h3, by rw [hc]; rfl⟩

/-- The append of one entry, as a step of a region that draws its order. -/
theorem step_pl_app {w : World} {ops : Array Oper} {o : Oper} {a : Act} {K : Act → World → Prop} {Q : Exit → Act → World → Prop} {Ee : Prop} (hgd : o.guard = none) (s x : Operand)
    (ho : o.op = .call { callee := .builtin .append, args := #[s, x], argTypes := #[27, 27] }) (ad : Addr) (c : Nat) (hx : a.eval x = .slice (some ad) 1 c) {B n : Nat} {v : Value} {xs : List Value} (hs : a.eval s = v) (hown : w.ownsRow B 37 6 v n xs) (news : List Value) (hl : news.length = 6)
    (hc : ∀ j u, news[j]? = some u → w.cell? (ad.add j) = some u) (h1 : ∀ u ∈ news, u.oneCell' = true) (hn : n ≤ 2000) (hB : B ≤ w.heap.size)
    (h : ∀ g cap w', w'.ownsRow B 37 6 (.slice (some ⟨g, 0, none⟩) (n + 1) cap) (n + 1) (xs ++ news) → w.grownBy w' v.ownBlock → K (a.put o.dst (.slice (some ⟨g, 0, none⟩) (n + 1) cap)) w') : if Region.wanted o (yielded ops a.tmps) = true then Oper.wp Yba.prog o a w K Q else Ee := by
  have hw : Region.wanted o (yielded ops a.tmps) = true := by simp [Region.wanted, hgd]
  rw [if_pos hw]
  obtain ⟨i, z, hi, hz, hsz, hb, hzs⟩ := i37
  obtain ⟨v', w', hr, h2, h3, _⟩ := run_append_own (P := Yba.prog) w B 27 o.type 37 i z 6 96 Yba.underlying27 hi hz hsz hb hzs (by omega) v n xs hown ad 1 c news (by omega) hc h1 (by simp [maxLen]; omega) (by omega) hB
  unfold Oper.wp execOp
  simp only [ho, resolve, invoke, builtin, Sem.run_bind, Sem.run_pure, Result.andThen_ok, List.map_toArray, List.map_cons, List.map_nil, hs, hx, hr]
  obtain ⟨g, gc, rfl⟩ := ownsRow_succ h2
  exact h g gc w' h2 h3

theorem en_one (e : En) (co : Option Addr) (cn cc : Nat) : ∀ u ∈ enCells e (.slice co cn cc), u.oneCell' = true := by
  intro u hu
  simp [enCells] at hu
  rcases hu with rfl | rfl | rfl | rfl | rfl | rfl <;> rfl

theorem cells_new6 (w : World) (t : TypeId) (ns : List Value) (cs : Array Value) (hcs : cs.toList = ns) (N : Nat) (hN : N = w.heap.size) : ∀ j u, ns[j]? = some u → (w.alloc (.cells cs t)).cell? ((⟨N, 0, none⟩ : Addr).add j) = some u := by
  subst hN
  intro j u hj
  have hb : Blk (w.alloc (.cells cs t)) w.heap.size t cs := Blk.new _ _ _
  have e : (⟨w.heap.size, 0, none⟩ : Addr).add j = ⟨w.heap.size, j, none⟩ := by unfold Addr.add; split <;> simp_all
  rw [e, hb.cell j, ← hj, ← hcs]
  simp

theorem grown_cell {w w' : World} {row : Option Nat} (g : w.grownBy w' row) {a : Addr} {u : Value} (h : w.cell? a = some u) (hr : some a.block ≠ row) : w'.cell? a = some u := by
  rw [← h]; exact World.cell?_of_block (g.block _ (block_lt_of_cell h) hr)

theorem grown4 {W0 w2 w3 : World} {o : Obj} {row : Option Nat} {S A : Nat} {x0 x1 x2 x3 : Value} (k : Keeps (fun _ => False) W0.drew w2) (g : (w2.alloc o).grownBy w3 row) (a3 : W0.cell? ⟨S, 1, none⟩ = some x3) (a0 : W0.cell? ⟨A, 0, none⟩ = some x0) (a1 : W0.cell? ⟨A, 1, none⟩ = some x1) (a2 : W0.cell? ⟨A, 2, none⟩ = some x2) (hS : some S ≠ row) (hA : some A ≠ row) :
    w3.cell? ⟨S, 1, none⟩ = some x3 ∧ w3.cell? ⟨A, 0, none⟩ = some x0 ∧ w3.cell? ⟨A, 1, none⟩ = some x1 ∧ w3.cell? ⟨A, 2, none⟩ = some x2 := by
  have up : ∀ {a : Addr} {u : Value}, W0.cell? a = some u → (w2.alloc o).cell? a = some u := fun {a u} h =>
    (k.alloc o).cell (w := W0.drew) (show W0.drew.cell? a = some u from h) (by simp)
  exact ⟨grown_cell g (up a3) hS, grown_cell g (up a0) hA, grown_cell g (up a1) hA, grown_cell g (up a2) hA⟩

theorem stored3 {w3 : World} {S A i : Nat} {x0 x1 x2 u : Value} (hne : A ≠ S) (h : w3.cell? ⟨A, 0, none⟩ = some x0 ∧ w3.cell? ⟨A, 1, none⟩ = some x1 ∧ w3.cell? ⟨A, 2, none⟩ = some x2) :
    (w3.setCell ⟨S, i, none⟩ u).cell? ⟨A, 0, none⟩ = some x0 ∧ (w3.setCell ⟨S, i, none⟩ u).cell? ⟨A, 1, none⟩ = some x1 ∧ (w3.setCell ⟨S, i, none⟩ u).cell? ⟨A, 2, none⟩ = some x2 := by
  have e : (w3.setCell ⟨S, i, none⟩ u).heap[A]? = w3.heap[A]? := Below.heap_setCell _ _ _ _ hne
  exact ⟨(World.cell?_of_block (w := w3) e).trans h.1, (World.cell?_of_block (w := w3) e).trans h.2.1, (World.cell?_of_block (w := w3) e).trans h.2.2⟩

/-- While the source is built: i entries in it. -/
structure Inv (w : World) (S : Nat) (E : Nat → En) (i : Nat) (wr : World) (C : Nat → Value) (vS : Value) : Prop where
  obj : Blk wr S 31 #[.slice none 0 0, vS, .map none, .map none]
  row : wr.ownsRow (S + 1) 37 6 vS i (plCells E C i)
  cop : ∀ j, j < i → CopyAt wr (S + 1) (E j).v (C j) (E j).L
  below : Below S w wr
  size : S + 1 ≤ wr.heap.size

theorem inv_step {w wr W0 w2 w3 : World} {S j gg gc : Nat} {E : Nat → En} {C : Nat → Value} {vS : Value} {vo co : Option Addr} {m vc cn cc : Nat} {lit : Obj} (inv : Inv w S E j wr C vS) (kW : Keeps (fun _ => False) wr W0) (k2 : Keeps (fun _ => False) W0.drew w2)
    (hv : (E j).v = .slice vo m vc) (cp2 : CopyAt w2 W0.drew.heap.size (.slice vo m vc) (.slice co cn cc) (E j).L)
    (o3 : w3.ownsRow (S + 1) 37 6 (.slice (some ⟨gg, 0, none⟩) (j + 1) gc) (j + 1) (plCells E C j ++ enCells (E j) (.slice co cn cc))) (g3 : (w2.alloc lit).grownBy w3 vS.ownBlock) (bS3 : Blk w3 S 31 #[.slice none 0 0, vS, .map none, .map none]) (hbS : some S ≠ vS.ownBlock) :
    Inv w S E (j + 1) (w3.setCell ⟨S, 1, none⟩ (.slice (some ⟨gg, 0, none⟩) (j + 1) gc)) (fun t => if t = j then .slice co cn cc else C t) (.slice (some ⟨gg, 0, none⟩) (j + 1) gc) := by
  have kd : Keeps (fun b => some b = vS.ownBlock) wr W0.drew := (kW.mono (fun b hb h => h.elim)).drew
  have k3 : Keeps (fun b => some b = vS.ownBlock) w2 w3 := ((Keeps.refl _ w2).alloc _).grown g3 (fun k e => e.symm)
  have kk : Keeps (fun b => some b = vS.ownBlock) wr w3 := (kd.trans (k2.mono (fun b hb h => h.elim))).trans k3
  have hsz := inv.size
  have hszd : wr.heap.size ≤ W0.drew.heap.size := kd.size
  have tag : ∀ (w' : World) (c : Nat) (cs : Array Value), Blk w' c 41 cs → w'.ownsRow (S + 1) 37 6 vS j (plCells E C j) → ¬ (some c = vS.ownBlock) := fun w' c cs hb ho => own_ne ho hb (by decide)
  have ow2 : w2.ownsRow (S + 1) 37 6 vS j (plCells E C j) := own_keeps (own_keeps inv.row (kW.drew) (by simp)) k2 (by simp)
  have hstore : ∀ {v v' : Value} {L : List El}, CopyAt w3 (S + 1) v v' L → CopyAt (w3.setCell ⟨S, 1, none⟩ (.slice (some ⟨gg, 0, none⟩) (j + 1) gc)) (S + 1) v v' L := fun h =>
    h.keeps ((Keeps.refl (fun b => b = S) w3).setCell (a := ⟨S, 1, none⟩) rfl _) (fun c cs hc _ => by omega)
  refine ⟨?_, ?_, ?_, ?_, ?_⟩
  · exact bS3.set 1 _
  · have e : plCells E (fun t => if t = j then .slice co cn cc else C t) (j + 1) = plCells E C j ++ enCells (E j) (.slice co cn cc) := by
      rw [plCells_succ, plCells_congr E _ C j (fun t ht => by simp; omega)]
      simp
    rw [e]
    exact ownsRow_store o3 (own_lo o3 (by omega)) _ _
  · intro t ht
    by_cases h : t = j
    · subst h
      simp only [if_true]
      rw [hv]
      refine hstore ?_
      refine (cp2.lower (B' := S + 1) (by omega)).keeps k3 (fun c cs _ hb => tag w2 c cs hb ow2)
    · simp only [h, if_false]
      exact hstore ((inv.cop t (by omega)).keeps kk (fun c cs _ hb => tag wr c cs hb inv.row))
  · refine (inv.below.trans (kk.below (by omega) ?_)).setCell (Nat.le_refl _) _
    intro k hk e
    have := (inv.row.lt k e.symm).1
    omega
  · have h1 := kk.size
    have h2 : (w3.setCell ⟨S, 1, none⟩ (.slice (some ⟨gg, 0, none⟩) (j + 1) gc)).heap.size = w3.heap.size := by simp [World.setCell]
    omega
end Go.Proofs.Ybulkbrua
