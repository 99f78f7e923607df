import Derived.Test.YbulkbrrwMadd
namespace Go.Proofs.Ybulkbrrw
open Go.RowKit Go.Deep Go.Maps
set_option linter.unusedVariables false
set_option linter.unusedSimpArgs false
attribute [local go_sem ↓] Go.wp_at_zero Go.wp_at_succ

/-- What 'remove' leaves. -/
structure Taken (w : World) (D : Nat → Rec) (base s : Nat) (id : Int) (v : Nat → Value) (X : Nat → List Nat) (g E n : Nat) (ns lb st : Int) (Dm : DataW Unit) (w' : World) (D' : Nat → Rec) (v' : Nat → Value) (X' : Nat → List Nat) : Prop where
  q : QH w' D' base s id v' X'
  msg : Blk w' g 61 (D' g).cells
  eng : Blk w' E 49 (ecells ns (lb - 64) (st - 1))
  map : MapAt w' s n (Dm.del (.int .u64 (D g).sq))
  p0 : (X' (cls (D g)) ++ [g]).Perm (X (cls (D g)))
  p3 : (X' 3 ++ [g]).Perm (X 3)
  po : ∀ c, c ≠ 3 → c ≠ cls (D g) → X' c = X c
  like : ∀ x, ∃ i j, D' x = ((D x).put false i).put true j
  keeps : Keeps (AS s E g v X) w w'

theorem Like.sq {k : Bool} {D D' : Nat → Rec} (h : Like k D D') (g : Nat) : (D' g).sq = (D g).sq := by
  obtain ⟨i, hi⟩ := h g
  rw [hi]; cases k <;> rfl

set_option maxRecDepth 100000 in
set_option maxHeartbeats 2000000 in
theorem remove23 (w : World) (D : Nat → Rec) (base s : Nat) (id : Int) (v : Nat → Value) (X : Nat → List Nat) (g E n : Nat) (ns lb st : Int) (Dm : DataW Unit)
    (q : QH w D base s id v X) (hE : Blk w E 49 (ecells ns lb st)) (hm : MapAt w s n Dm) (hsq : (Lit.int .u64 (D g).sq).wf = true)
    (hgx : g ∈ X (cls (D g))) (hgx3 : g ∈ X 3) (hlb : 64 ≤ lb ∧ lb ≤ 1000000) (hst : 1 ≤ st ∧ st ≤ 1000000) :
    Calls Yba.prog 23 #[.pointer (some ⟨E, 0, none⟩), .pointer (some ⟨s + 1, 0, none⟩), .pointer (some ⟨g, 0, none⟩)] w fun e w' => e = .returned (.tuple #[]) ∧ ∃ D' v' X', Taken w D base s id v X g E n ns lb st Dm w' D' v' X' := by
  have hc3 := cls_lt (D g)
  have hlt := q.lt
  have hne3 : (3 : Nat) ≠ cls (D g) := by omega
  have hU := unplace33 w D base s id v X g q hgx
  go_enter Yba.func23, Yba.ntmps23
  go_wp2_with fail
  refine hU.mono ?_
  rintro e w3 ⟨rfl, W, n3, D3, v3, ys3, rfl, hp3⟩
  clear hU
  have h0 := q.heap (cls (D g)) (by omega)
  have t3 := hp3.turned h0 hgx
  have hy3 : ∀ x, x ∈ ys3 → x ∈ X (cls (D g)) ∨ x = g := fun x hx => .inl (hp3.perm.mem_iff.1 (by simp [hx]))
  have q3 := q.turned (by omega) t3 hy3 (fun _ => rfl)
  have hE3 := t3.blk hE (by decide) (by decide) (by intro e; exact absurd (blk_inj hE (e ▸ h0.obj)).1 (by decide))
  have hk3 := t3.keeps
  have hg3 := t3.msgs g (.inr rfl)
  have hm3 : MapAt W s n Dm := by
    refine MapAt.keeps hm hk3 ?_
    rintro (e | e | e | e)
    · omega
    · exact map_ne hm (h0.msg g hgx) e.symm
    · exact map_ne hm (h0.msg s e) rfl
    · obtain ⟨cs, hh⟩ := own_row h0.own e.symm
      exact map_ne hm hh rfl
  have hL := leave34 (W.drewN n3) s g id (D3 g) (q3.q.drewN n3) (hg3.drewN n3)
  go_wp2_with fail
  refine hL.mono ?_
  rintro e w4 ⟨rfl, n4, rfl⟩
  clear hL
  rw [drewN_add]
  obtain ⟨W3, hW3⟩ : ∃ W3, W3 = W.drewN (n3 + n4) := ⟨_, rfl⟩
  replace q3 := q3.drewN (n3 + n4)
  replace hE3 := hE3.drewN (n3 + n4)
  replace hk3 := hk3.drewN (n3 + n4)
  replace hg3 := hg3.drewN (n3 + n4)
  replace hm3 : MapAt (W.drewN (n3 + n4)) s n Dm := hm3
  rw [← hW3] at q3 hE3 hk3 hg3 hm3 ⊢
  clear hW3
  have h3 := q3.heap 3 (by omega)
  rw [upd_other _ _ _ hne3, upd_other _ _ _ hne3] at h3
  have q17 : W3.cell? ⟨s + 1, 17, none⟩ = some (.pointer (some ⟨s + 5, 0, none⟩)) := q3.q.cell 17
  have hPA := remove35 W3 D3 3 base (s + 2 + 3) (v 3) (X 3) g h3 hgx3 (by omega)
  rw [show s + 2 + 3 = s + 5 from rfl] at hPA h3
  go_wp2_with fail
  refine hPA.mono ?_
  rintro e w5 ⟨rfl, D5, v5, ys5, hp5⟩
  clear hPA
  have t5 := hp5.turned h3 hgx3
  have hE5 := t5.blk hE3 (by decide) (by decide) (by intro e; exact absurd (blk_inj hE3 (e ▸ h3.obj)).1 (by decide))
  have hg5 := t5.msgs g (.inr rfl)
  have q5 := q3.turned (c := 3) (g := g) (w' := w5) (D' := D5) (v' := v5) (ys := ys5) (by omega) (by rw [upd_other _ _ _ hne3, upd_other _ _ _ hne3]; exact t5) (fun x hx => by rw [upd_other _ _ _ hne3]; exact .inl (hp5.perm.mem_iff.1 (by simp [hx]))) (fun h => absurd h (by decide))
  have hm5 : MapAt w5 s n Dm := by
    refine MapAt.keeps hm3 t5.keeps ?_
    rintro (e | e | e | e)
    · omega
    · exact map_ne hm3 hg3 e.symm
    · exact map_ne hm3 (h3.msg s e) rfl
    · obtain ⟨cs, hh⟩ := own_row h3.own e.symm
      exact map_ne hm3 hh rfl
  have hk5 : Keeps (AS s E g v X) w w5 := by
    refine (hk3.mono ?_).trans (t5.keeps.mono ?_)
    · rintro b _ (h | h | h | h)
      · exact .inr (.inr (.inr ⟨cls (D g), by omega, .inl h⟩))
      · exact .inr (.inr (.inl h))
      · exact .inr (.inr (.inr ⟨cls (D g), by omega, .inr (.inl h)⟩))
      · exact .inr (.inr (.inr ⟨cls (D g), by omega, .inr (.inr h)⟩))
    · rintro b _ (h | h | h | h)
      · exact .inr (.inr (.inr ⟨3, by omega, .inl h⟩))
      · exact .inr (.inr (.inl h))
      · exact .inr (.inr (.inr ⟨3, by omega, .inr (.inl h)⟩))
      · exact .inr (.inr (.inr ⟨3, by omega, .inr (.inr h)⟩))
  have hsq5 : (D5 g).sq = (D g).sq := by rw [hp5.like.sq, hp3.like.sq]
  have g0 : w5.cell? ⟨g, 0, none⟩ = some (.int .u64 (D g).sq) := by rw [← hsq5]; exact hg5.cell 0
  have q13 : w5.cell? ⟨s + 1, 13, none⟩ = some (.map (some s)) := q5.q.cell 13
  obtain ⟨w6, hrun, hm6, hturn⟩ := World.ownsMap.drop (w := w5.drew) (key := .int .u64 (D g).sq) (kl := .int .u64 (D g).sq) hm5 key24 under75 (keyOf_int_mk Yba.underlying24 hsq) 0
  have hk6 := turned_keeps hturn
  have q6 := q5.mapped hm5 hk6
  have hg6 := hg5.keeps hk6 (map_ne hm5 hg5)
  have hE6 := hE5.keeps hk6 (map_ne hm5 hE5)
  have fin : ∀ W7, Keeps (fun b => b = E) w6 W7 → Blk W7 E 49 (ecells ns (lb - 64) (st - 1)) → ∃ D' v' X', Taken w D base s id v X g E n ns lb st Dm W7 D' v' X' := by
    intro W7 hk7 hE7
    have hq7 : QH W7 D5 base s id (upd (upd v (cls (D g)) v3) 3 v5) (upd (upd X (cls (D g)) ys3) 3 ys5) := by
      refine q6.frame hk7 ?_ ?_ ?_ ?_
      · exact blk_ne q6.q hE6 (by decide)
      · exact fun c hc => blk_ne (q6.heap c hc).obj hE6 (by decide)
      · intro c hc b hb
        obtain ⟨cs, hh⟩ := own_row (q6.heap c hc).own hb
        exact blk_ne hh hE6 (by decide)
      · exact fun c hc x hx => ⟨rfl, blk_ne ((q6.heap c hc).msg x hx) hE6 (by decide)⟩
    refine ⟨D5, _, _, hq7, hg6.keeps hk7 (blk_ne hg6 hE6 (by decide)), hE7, MapAt.keeps hm6 hk7 (fun e => map_ne hm6 hE6 e.symm), ?_, ?_, ?_, ?_, ?_⟩
    · rw [upd_other _ _ _ (Ne.symm hne3), upd_same]
      exact hp3.perm
    · rw [upd_same]
      exact hp5.perm
    · intro c h1 h2
      rw [upd_other _ _ _ h1, upd_other _ _ _ h2]
    · intro x
      obtain ⟨i, hi⟩ := hp3.like x
      obtain ⟨j, hj⟩ := hp5.like x
      rw [show (cls (D g) == 3) = false from by simp; omega] at hi
      exact ⟨i, j, by rw [hj, hi]; rfl⟩
    · exact (hk5.trans (hk6.mono (by rintro b _ rfl; exact .inl rfl))).trans (hk7.mono (by rintro b _ rfl; exact .inr (.inl rfl)))
  have hHF : Hid _ := fin
  have HE6 : Hid (Blk w6 E 49 (ecells ns lb st)) := hE6
  have e16 : w6.cell? ⟨E, 16, none⟩ = some (.int .i64 lb) := hE6.cell 16
  have hsz := size21 w6.drew g (D5 g) hg6
  clear fin hm5 hk5 q5 hp5 t5 hE5 hg5 hp3 t3 hy3 q3 hE3 hk3 hg3 h3 q17 h0 q hE hm hsq hgx hm6 hturn hk6 q6 hg6 hE6 hsq5 hm3
  go_wp2
  go_region
  clear hrun g0 q13
  go_wp2
  go_region_with
    ((go_at_call 21; refine hsz.mono ?_; rintro e w7 ⟨rfl, hk7⟩; have hE7 := HE6.out.keeps ((Keeps.refl (fun _ => False) w6).drew.trans hk7) (by simp); have c6 : w7.cell? ⟨E, 16, none⟩ = some (.int .i64 lb) := hE7.cell 16; have c7 : w7.cell? ⟨E, 17, none⟩ = some (.int .i64 st) := hE7.cell 17; have f6 := hE7.frozen 16; have f7 := hE7.frozen 17))
  all_goals
    rw [show IntKind.i64.wrap (lb - 64) = lb - 64 from by rw [IntKind.wrap_i64]; omega]
    clear hsz e16
    go_wp2
    go_end0
    refine ⟨rfl, hHF.out _ ?_ ?_⟩
    · exact ((((Keeps.refl (fun b => b = E) w6).drew.trans (hk7.mono (by simp))).setCell (a := ⟨E, 16, none⟩) rfl _).setCell (a := ⟨E, 17, none⟩) rfl _)
    · exact (hE7.set 16 _).set 17 _
end Go.Proofs.Ybulkbrrw
