import Derived.Test.YbulkbrrwMfns
import Derived.Deep.RegionHeld3
import Derived.Deep.DrawnRows
namespace Go.Proofs.Ybulkbrrw
open Go.RowKit Go.Deep Go.Maps
set_option linter.unusedVariables false
set_option linter.unusedSimpArgs false
attribute [local go_sem ↓] Go.wp_at_zero Go.wp_at_succ

/-- The engine. -/
def ecells (ns lb st : Int) : Array Value := #[.string { data := #[] }, .string { data := #[] }, .int .i64 0, .pointer none, .nilFunc, .int .i32 0, .int .u32 0, .nilIface, .string { data := #[] }, .nilIface, .pointer none, .map none, .map none, .map none, .int .u64 0,
  .int .u64 ns, .int .i64 lb, .int .i64 st, .int .i64 0, .pointer none, .int .i64 0, .int .i64 0, .int .i64 0, .bool false, .bool false, .chan none, .chan none]

/-- How a pointer to a message reads. -/
def ptrElem : Value → Option (DataW Unit × List MemPlace)
  | .pointer (some ⟨b, 0, none⟩) => some (.lit (.int .u64 b), [])
  | .pointer none => some (.lit (.int .u64 (-1)), [])
  | _ => none

abbrev MapAt (w : World) (s n : Nat) (Dm : DataW Unit) : Prop := w.ownsMap Yba.prog 24 ptrElem s n Dm

theorem MapAt.keeps {S : Nat → Prop} {w w' : World} {s n : Nat} {Dm : DataW Unit} (h : MapAt w s n Dm) (k : Keeps S w w') (hs : ¬ S s) : MapAt w' s n Dm := by
  have hlt := World.ownsMap.lt h
  obtain ⟨es, clock, hb, F, hz, hD⟩ := h
  exact ⟨es, clock, (k.block s hlt hs).trans hb, F, hz, hD⟩

theorem key24 : Keyed Yba.prog 24 := int_keyed Yba.underlying24
theorem under75 : Yba.prog.underlying 75 = some (.map 24 53) := Yba.underlying75

theorem map_ne {w : World} {s n : Nat} {Dm : DataW Unit} (h : MapAt w s n Dm) {b : Nat} {t : TypeId} {cs : Array Value} (hb : Blk w b t cs) : b ≠ s := by
  obtain ⟨es, clock, hh, _⟩ := h
  intro e
  subst e
  unfold Blk at hb
  rw [hh] at hb
  simp at hb

theorem turned_keeps {w w1 : World} {s : Nat} (h : w.drew.mapTurned w1 s) : Keeps (fun b => b = s) w w1 := by
  have hg := h.grown
  exact ⟨hg.os, hg.tape, hg.output, hg.size, fun b hb hs => hg.block b hb (fun e => hs (by simpa using e))⟩

theorem QH.mapped {w w1 : World} {D : Nat → Rec} {base s s' : Nat} {id : Int} {v : Nat → Value} {X : Nat → List Nat} {n : Nat} {Dm : DataW Unit} (q : QH w D base s id v X) (hm : MapAt w s' n Dm) (k : Keeps (fun b => b = s') w w1) : QH w1 D base s id v X :=
  q.frame k (map_ne hm q.q) (fun c hc => map_ne hm (q.heap c hc).obj) (fun c hc b hb => by
    obtain ⟨cs, hh⟩ := own_row (q.heap c hc).own hb
    exact map_ne hm hh) (fun c hc g hg => ⟨rfl, map_ne hm ((q.heap c hc).msg g hg)⟩)

/-- What 'add' and 'remove' may turn. -/
def AS (s E g : Nat) (v : Nat → Value) (X : Nat → List Nat) (b : Nat) : Prop := b = s ∨ b = E ∨ b = g ∨ ∃ c, c < 4 ∧ (b = s + 2 + c ∨ b ∈ X c ∨ some b = (v c).ownBlock)

/-- What 'add' leaves. -/
structure Added (w : World) (D : Nat → Rec) (base s : Nat) (id : Int) (v : Nat → Value) (X : Nat → List Nat) (g E n : Nat) (ns lb st : Int) (Dm : DataW Unit) (w' : World) (D' : Nat → Rec) (v' : Nat → Value) (X' : Nat → List Nat) : Prop where
  q : QH w' D' base s id v' X'
  eng : Blk w' E 49 (ecells ns (lb + 64) (st + 1))
  map : MapAt w' s (n + 1) (Dm.put (.int .u64 (D g).sq) (.lit (.int .u64 g)))
  p0 : (X' (cls (D g))).Perm (X (cls (D g)) ++ [g])
  p3 : (X' 3).Perm (X 3 ++ [g])
  po : ∀ c, c ≠ 3 → c ≠ cls (D g) → X' c = X c
  like : ∀ x, ∃ i j, D' x = ((D x).put false i).put true j
  same : ∀ x, x ∉ X (cls (D g)) → x ∉ X 3 → x ≠ g → D' x = D x
  keeps : Keeps (AS s E g v X) w w'

set_option maxRecDepth 100000 in
set_option maxHeartbeats 2000000 in
theorem add7 (w : World) (D : Nat → Rec) (base s : Nat) (id : Int) (v : Nat → Value) (X : Nat → List Nat) (g E n : Nat) (ns lb st : Int) (Dm : DataW Unit)
    (q : QH w D base s id v X) (hg : Blk w g 61 (D g).cells) (hE : Blk w E 49 (ecells ns lb st)) (hm : MapAt w s n Dm) (hn : n < 100000) (hsq : (Lit.int .u64 (D g).sq).wf = true)
    (hgx : ∀ c, c < 4 → g ∉ X c) (hfew : ∀ c, c < 4 → (X c).length + 1 < 1000) (hbs : base ≤ w.heap.size) (hlb : 0 ≤ lb ∧ lb ≤ 1000000) (hst : 0 ≤ st ∧ st ≤ 1000000) :
    Calls Yba.prog 7 #[.pointer (some ⟨E, 0, none⟩), .pointer (some ⟨s + 1, 0, none⟩), .pointer (some ⟨g, 0, none⟩)] w fun e w' => e = .returned (.tuple #[]) ∧ ∃ D' v' X', Added w D base s id v X g E n ns lb st Dm w' D' v' X' := by
  have q13 : w.cell? ⟨s + 1, 13, none⟩ = some (.map (some s)) := q.q.cell 13
  have g0 : w.cell? ⟨g, 0, none⟩ = some (.int .u64 (D g).sq) := hg.cell 0
  obtain ⟨w1, hrun, hm1, hturn⟩ := World.ownsMap.store (w := w.drew) (key := .int .u64 (D g).sq) (val := .pointer (some ⟨g, 0, none⟩)) (kl := .int .u64 (D g).sq) (d := .lit (.int .u64 g)) (ps := []) hm key24 under75 (by unfold maxLen; omega) (keyOf_int_mk Yba.underlying24 hsq) rfl
  have hk1 := turned_keeps hturn
  have q1 := q.mapped hm hk1
  have hg1 := hg.keeps hk1 (map_ne hm hg)
  have hE1 := hE.keeps hk1 (map_ne hm hE)
  have hc3 := cls_lt (D g)
  have hJ := join18 w1 s g id q1.q
  have hP := place19 w1 D base s id v X g q1 hg1 (hgx _ (by omega)) (hfew _ (by omega)) (Nat.le_trans hbs hk1.size)
  go_enter Yba.func7, Yba.ntmps7
  go_wp2
  go_region
  clear hrun q13 g0 hturn
  go_wp2_with fail
  refine hJ.mono ?_
  rintro e w2 ⟨rfl, hw2⟩
  have hw2' := hw2.symm
  subst hw2'
  clear hw2 hJ
  go_wp2_with fail
  refine hP.mono ?_
  rintro e w3 ⟨rfl, W, n3, D3, v3, ys3, rfl, hp3⟩
  clear hP
  have h0 := q1.heap (cls (D g)) (by omega)
  have t3 := hp3.turned h0 hg1
  have hy3 : ∀ x, x ∈ ys3 → x ∈ X (cls (D g)) ∨ x = g := fun x hx => by simpa using hp3.perm.mem_iff.1 hx
  have q3 := (q1.turned (by omega) t3 hy3 (fun _ => rfl)).drewN n3
  have hE3 := (t3.blk hE1 (by decide) (by decide) (by intro e; exact absurd (blk_inj hE1 (e ▸ h0.obj)).1 (by decide))).drewN n3
  have hk3 : Keeps _ w1 (W.drewN n3) := t3.keeps.drewN n3
  have hg3 : Blk (W.drewN n3) g 61 (D3 g).cells := (t3.msgs g (.inr rfl)).drewN n3
  have h3 := q3.heap 3 (by omega)
  have hne3 : (3 : Nat) ≠ cls (D g) := by omega
  rw [upd_other _ _ _ hne3, upd_other _ _ _ hne3] at h3
  have q17 : (W.drewN n3).cell? ⟨s + 1, 17, none⟩ = some (.pointer (some ⟨s + 5, 0, none⟩)) := q3.q.cell 17
  have hlt := q.lt
  have hPA := mpush20 (W.drewN n3) D3 3 base (s + 2 + 3) g (v 3) (X 3) h3 hg3 (hgx 3 (by omega)) (hfew 3 (by omega)) (by omega) (Nat.le_trans hbs (Nat.le_trans hk1.size hk3.size))
  rw [show s + 2 + 3 = s + 5 from rfl] at hPA h3
  obtain ⟨W3, hW3⟩ : ∃ W3, W3 = W.drewN n3 := ⟨_, rfl⟩
  rw [← hW3] at q3 hE3 hk3 hg3 h3 q17 hPA ⊢
  clear hW3
  go_wp2_with fail
  refine hPA.mono ?_
  rintro e w5 ⟨rfl, D5, v5, ys5, hp5⟩
  clear hPA
  have t5 := hp5.turned h3 hg3
  have hE5 := t5.blk hE3 (by decide) (by decide) (by intro e; exact absurd (blk_inj hE3 (e ▸ h3.obj)).1 (by decide))
  have hg5 := t5.msgs g (.inr rfl)
  have e16 : w5.cell? ⟨E, 16, none⟩ = some (.int .i64 lb) := hE5.cell 16
  have hsz := size21 w5.drew g (D5 g) hg5
  have HE5 : Hid (Blk w5 E 49 (ecells ns lb st)) := hE5
  have q5 := q3.turned (c := 3) (g := g) (w' := w5) (D' := D5) (v' := v5) (ys := ys5) (by omega) (by rw [upd_other _ _ _ hne3, upd_other _ _ _ hne3]; exact t5) (fun x hx => by rw [upd_other _ _ _ hne3]; simpa using hp5.perm.mem_iff.1 hx) (fun h => absurd h (by decide))
  have hk5 : Keeps (AS s E g v X) w w5 := by
    refine ((hk1.mono ?_).trans (hk3.mono ?_)).trans (t5.keeps.mono ?_)
    · rintro b _ rfl; exact .inl rfl
    · rintro b _ (h | h | h | h)
      · exact .inr (.inr (.inr ⟨cls (D g), by omega, .inl h⟩))
      · exact .inr (.inr (.inl h))
      · exact .inr (.inr (.inr ⟨cls (D g), by omega, .inr (.inl h)⟩))
      · exact .inr (.inr (.inr ⟨cls (D g), by omega, .inr (.inr h)⟩))
    · rintro b _ (h | h | h | h)
      · exact .inr (.inr (.inr ⟨3, by omega, .inl h⟩))
      · exact .inr (.inr (.inl h))
      · exact .inr (.inr (.inr ⟨3, by omega, .inr (.inl h)⟩))
      · exact .inr (.inr (.inr ⟨3, by omega, .inr (.inr h)⟩))
  have hm5 : MapAt w5 s (n + 1) (Dm.put (.int .u64 (D g).sq) (.lit (.int .u64 g))) := by
    have a1 : MapAt W3 s (n + 1) (Dm.put (.int .u64 (D g).sq) (.lit (.int .u64 g))) := by
      refine MapAt.keeps hm1 hk3 ?_
      rintro (e | e | e | e)
      · omega
      · exact map_ne hm1 hg1 e.symm
      · exact map_ne hm1 (h0.msg s e) rfl
      · obtain ⟨cs, hh⟩ := own_row h0.own e.symm
        exact map_ne hm1 hh rfl
    refine MapAt.keeps a1 t5.keeps ?_
    rintro (e | e | e | e)
    · omega
    · exact map_ne a1 hg3 e.symm
    · exact map_ne a1 (h3.msg s e) rfl
    · obtain ⟨cs, hh⟩ := own_row h3.own e.symm
      exact map_ne a1 hh rfl
  have fin : ∀ W6, Keeps (fun b => b = E) w5 W6 → Blk W6 E 49 (ecells ns (lb + 64) (st + 1)) → ∃ D' v' X', Added w D base s id v X g E n ns lb st Dm W6 D' v' X' := by
    intro W6 hk6 hE6
    have hq6 : QH W6 D5 base s id (upd (upd v (cls (D g)) v3) 3 v5) (upd (upd X (cls (D g)) ys3) 3 ys5) := by
      refine q5.frame hk6 ?_ ?_ ?_ ?_
      · exact blk_ne q5.q hE5 (by decide)
      · exact fun c hc => blk_ne (q5.heap c hc).obj hE5 (by decide)
      · intro c hc b hb
        obtain ⟨cs, hh⟩ := own_row (q5.heap c hc).own hb
        exact blk_ne hh hE5 (by decide)
      · exact fun c hc x hx => ⟨rfl, blk_ne ((q5.heap c hc).msg x hx) hE5 (by decide)⟩
    refine ⟨D5, _, _, hq6, hE6, MapAt.keeps hm5 hk6 (fun e => map_ne hm5 hE5 e.symm), ?_, ?_, ?_, ?_, ?_, ?_⟩
    · rw [upd_other _ _ _ (Ne.symm hne3), upd_same]
      exact hp3.perm
    · rw [upd_same]
      exact hp5.perm
    · intro c h1 h2
      rw [upd_other _ _ _ h1, upd_other _ _ _ h2]
    · intro x
      obtain ⟨i, hi⟩ := hp3.like x
      obtain ⟨j, hj⟩ := hp5.like x
      rw [show (cls (D g) == 3) = false from by simp; omega] at hi
      exact ⟨i, j, by rw [hj, hi]; rfl⟩
    · intro x h1 h2 h3
      rw [hp5.same x h2 h3, hp3.same x h1 h3]
    · exact hk5.trans (hk6.mono (by rintro b _ rfl; exact .inr (.inl rfl)))
  have HF := fin
  have hHF : Hid _ := HF
  clear HF fin hm5 hk5 q5 hp5 t5 hE5 hg5 hp3 t3 hy3 q3 hE3 hk3 hg3 h3 q17 h0 hm1 hk1 q1 hg1 hE1 q hg hE hm hn hsq hgx hfew hbs
  go_wp2
  go_region_with
    ((go_at_call 21; refine hsz.mono ?_; rintro e w6 ⟨rfl, hk6⟩; have hE6 := HE5.out.keeps ((Keeps.refl (fun _ => False) w5).drew.trans hk6) (by simp); have c6 : w6.cell? ⟨E, 16, none⟩ = some (.int .i64 lb) := hE6.cell 16; have c7 : w6.cell? ⟨E, 17, none⟩ = some (.int .i64 st) := hE6.cell 17; have f6 := hE6.frozen 16; have f7 := hE6.frozen 17))
  all_goals
    rw [show IntKind.i64.wrap (lb + 64) = lb + 64 from by rw [IntKind.wrap_i64]; omega]
    clear hsz e16
    go_wp2
    go_end0
    refine ⟨rfl, hHF.out _ ?_ ?_⟩
    · exact ((((Keeps.refl (fun b => b = E) w5).drew.trans (hk6.mono (by simp))).setCell (a := ⟨E, 16, none⟩) rfl _).setCell (a := ⟨E, 17, none⟩) rfl _)
    · exact (hE6.set 16 _).set 17 _
end Go.Proofs.Ybulkbrrw
