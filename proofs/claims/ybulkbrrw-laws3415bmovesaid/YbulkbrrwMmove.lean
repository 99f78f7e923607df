import Derived.Test.YbulkbrrwMmoveAdd
namespace Go.Proofs.Ybulkbrrw
open Go.RowKit Go.Deep Go.Maps
set_option linter.unusedVariables false
set_option linter.unusedSimpArgs false
attribute [local go_sem ↓] Go.wp_at_zero Go.wp_at_succ

set_option maxRecDepth 100000 in
set_option maxHeartbeats 4000000 in
theorem move8 (w : World) (D : Nat → Rec) (base s s2 : Nat) (v : Nat → Value) (X : Nat → List Nat) (g E n : Nat) (ns lb st : Int) (Dm : DataW Unit) (seq rc : Int) (og tk : Option Addr)
    (q : QH w D base s 1 v X) (q2 : QH w D base s2 2 nilV nilX) (hs2 : s + 6 ≤ s2) (hE : Blk w E 49 (ecells ns lb st)) (hm : MapAt w s n Dm) (hm2 : MapAt w s2 0 (.map []))
    (hgx : g ∈ X (cls (D g))) (hgx3 : g ∈ X 3) (hsq : (Lit.int .u64 (D g).sq).wf = true) (hseq : (Lit.int .u64 seq).wf = true) (hbs : base ≤ w.heap.size) (hlb : 64 ≤ lb ∧ lb ≤ 1000000) (hst : 1 ≤ st ∧ st ≤ 1000000) (htk : tk = none ∨ ∃ T tc mv, tk = some ⟨T, 0, none⟩ ∧ Blk w T 66 tc ∧ tc[6]? = some (.int .i64 mv)) :
    Calls Yba.prog 8 #[.pointer (some ⟨E, 0, none⟩), .agg #[.pointer (some ⟨g, 0, none⟩), .pointer (some ⟨s + 1, 0, none⟩), .pointer (some ⟨s2 + 1, 0, none⟩), .int .u64 seq, .int .i64 rc, .pointer og, .pointer tk]] w fun e w' => e = .returned (.tuple #[]) ∧ Blk w' E 49 (ecells (if ns < IntKind.u64.wrap (seq + 1) then IntKind.u64.wrap (seq + 1) else ns) lb st) ∧ (∀ T tc mv, tk = some ⟨T, 0, none⟩ → Blk w T 66 tc → tc[6]? = some (.int .i64 mv) → Blk w' T 66 (tc.setIfInBounds 6 (.int .i64 (wrap64 (mv + 1))))) ∧ Keeps (fun b => MS s s2 E g v X b ∨ ∃ T, tk = some ⟨T, 0, none⟩ ∧ b = T) w w' ∧ ∃ D' v' X' v2 X2, Moved w D base s s2 v X g E n ns lb st Dm seq rc og w' D' v' X' v2 X2 := by
  obtain ⟨nx, hnx⟩ : ∃ nx, nx = (if ns < IntKind.u64.wrap (seq + 1) then IntKind.u64.wrap (seq + 1) else ns) := ⟨_, rfl⟩
  rw [← hnx]
  have HNX : Hid (nx = (if ns < IntKind.u64.wrap (seq + 1) then IntKind.u64.wrap (seq + 1) else ns)) := hnx
  clear hnx
  obtain ⟨B, hB⟩ : ∃ B, B = w.heap.size := ⟨_, rfl⟩
  obtain ⟨w0, hw0⟩ : ∃ w0, w0 = w.alloc (.cells #[.pointer (some ⟨g, 0, none⟩), .pointer (some ⟨s + 1, 0, none⟩), .pointer (some ⟨s2 + 1, 0, none⟩), .int .u64 seq, .int .i64 rc, .pointer og, .pointer tk] 69) := ⟨_, rfl⟩
  have hk0 : Keeps (fun _ => False) w w0 := by rw [hw0]; exact (Keeps.refl _ w).alloc _
  have bB0 : Blk w0 B 69 #[.pointer (some ⟨g, 0, none⟩), .pointer (some ⟨s + 1, 0, none⟩), .pointer (some ⟨s2 + 1, 0, none⟩), .int .u64 seq, .int .i64 rc, .pointer og, .pointer tk] := by rw [hw0, hB]; exact Blk.new _ _ _
  have htk0 : tk = none ∨ ∃ T tc mv, tk = some ⟨T, 0, none⟩ ∧ (Blk w T 66 tc ∧ Blk w0 T 66 tc) ∧ tc[6]? = some (.int .i64 mv) := by
    rcases htk with h | ⟨T, tc, mv, h1, h2, h3⟩
    · exact Or.inl h
    · exact Or.inr ⟨T, tc, mv, h1, ⟨h2, h2.keeps hk0 (by simp)⟩, h3⟩
  have q0 := q.frame (D' := D) hk0 (by simp) (by simp) (by simp) (by simp)
  have q20 := q2.frame (D' := D) hk0 (by simp) (by simp) (by simp) (by simp)
  have hE0 := hE.keeps hk0 (by simp)
  have hm0 := MapAt.keeps hm hk0 (by simp)
  have hm20 := MapAt.keeps hm2 hk0 (by simp)
  have hR := relocate22 w0 E ns lb st (.pointer (some ⟨s + 1, 0, none⟩)) (.pointer (some ⟨g, 0, none⟩)) hE0
  have hT := remove23 w0 D base s 1 v X g E n ns lb st Dm q0 hE0 hm0 hsq hgx hgx3 hlb hst
  have hg0 := (q0.heap 3 (by omega)).msg g hgx3
  go_enter Yba.func8, Yba.ntmps8
  go_wp2_with fail
  rw [← hB, ← hw0]
  clear hB hw0
  refine hR.mono ?_
  rintro e w1 ⟨rfl, hw1⟩
  have hw1' := hw1.symm
  subst hw1'
  clear hw1 hR
  have b0 : w0.cell? ⟨B, 0, none⟩ = some (.pointer (some ⟨g, 0, none⟩)) := bB0.cell 0
  have b1 : w0.cell? ⟨B, 1, none⟩ = some (.pointer (some ⟨s + 1, 0, none⟩)) := bB0.cell 1
  go_wp2_with fail
  refine hT.mono ?_
  rintro e w1 ⟨rfl, D1, v1, X1, t1⟩
  clear hT b0 b1
  have nas0 : ∀ {b t cs}, Blk w0 b t cs → t ≠ 49 → t ≠ 61 → (t ≠ 89 ∨ ∀ c, c < 4 → b ≠ s + 2 + c) → (t ≠ 53 ∨ ∀ c, c < 4 → (v c).ownBlock ≠ some b) → Blk w1 b t cs := fun hb h1 h2 h3 h4 => hb.keeps t1.keeps (not_AS q0 hm0 hE0 hg0 hb h1 h2 h3 h4)
  have bB1 := nas0 bB0 (by decide) (by decide) (.inl (by decide)) (.inl (by decide))
  have hm21 : MapAt w1 s2 0 (.map []) := MapAt.keeps hm20 t1.keeps (by
    rintro (e | e | e | ⟨c, hc, e | e | e⟩)
    · omega
    · exact map_ne hm20 hE0 e.symm
    · exact map_ne hm20 hg0 e.symm
    · omega
    · exact map_ne hm20 ((q0.heap c hc).msg s2 e) rfl
    · obtain ⟨cs, hh⟩ := own_row (q0.heap c hc).own e.symm
      exact map_ne hm20 hh rfl)
  have q21 : QH w1 D1 base s2 2 nilV nilX := by
    refine q20.frame t1.keeps (not_AS q0 hm0 hE0 hg0 q20.q (by decide) (by decide) (.inl (by decide)) (.inl (by decide))) (fun c hc => not_AS q0 hm0 hE0 hg0 (q20.heap c hc).obj (by decide) (by decide) (.inr (fun c' hc' => by omega)) (.inl (by decide))) (fun c hc b hb => by simp [nilV, Value.ownBlock] at hb) (fun c hc x hx => by simp [nilX] at hx)
  have gone := t1.gone q0
  have HT1 : Hid (tk = none ∨ ∃ T tc mv, tk = some ⟨T, 0, none⟩ ∧ (Blk w T 66 tc ∧ Blk w1 T 66 tc) ∧ tc[6]? = some (.int .i64 mv)) := by
    rcases htk0 with h | ⟨T, tc, mv, h1, ⟨h0, h2⟩, h3⟩
    · exact Or.inl h
    · exact Or.inr ⟨T, tc, mv, h1, ⟨h0, nas0 h2 (by decide) (by decide) (.inl (by decide)) (.inl (by decide))⟩, h3⟩
  have HB1 : Hid (Blk w1 B 69 #[.pointer (some ⟨g, 0, none⟩), .pointer (some ⟨s + 1, 0, none⟩), .pointer (some ⟨s2 + 1, 0, none⟩), .int .u64 seq, .int .i64 rc, .pointer og, .pointer tk]) := bB1
  have HG1 : Hid (Blk w1 g 61 (D1 g).cells) := t1.msg
  have b0 : w1.cell? ⟨B, 0, none⟩ = some (.pointer (some ⟨g, 0, none⟩)) := bB1.cell 0
  have b3 : w1.cell? ⟨B, 3, none⟩ = some (.int .u64 seq) := bB1.cell 3
  have b4 : w1.cell? ⟨B, 4, none⟩ = some (.int .i64 rc) := bB1.cell 4
  have b5 : w1.cell? ⟨B, 5, none⟩ = some (.pointer og) := bB1.cell 5
  have g0 : w1.cell? ⟨g, 0, none⟩ = some (.int .u64 (D1 g).sq) := t1.msg.cell 0
  have g34 : w1.cell? ⟨g, 34, none⟩ = some (.int .i64 (D1 g).rc) := t1.msg.cell 34
  have g35 : w1.cell? ⟨g, 35, none⟩ = some (.int .i64 (D1 g).hd) := t1.msg.cell 35
  have g46 : w1.cell? ⟨g, 46, none⟩ = some (D1 g).og := t1.msg.cell 46
  have f0 := t1.msg.frozen 0
  have f34 := t1.msg.frozen 34
  have f35 := t1.msg.frozen 35
  have f46 := t1.msg.frozen 46
  have hgB : g ≠ B := blk_ne t1.msg bB1 (by decide)
  have hgB' := Ne.symm hgB
  clear bB1
  have HALL : Hid (Taken w0 D base s 1 v X g E n ns lb st Dm w1 D1 v1 X1 ∧ (∀ c, c < 4 → g ∉ X1 c) ∧ QH w1 D1 base s2 2 nilV nilX ∧ MapAt w1 s2 0 (.map [])) := ⟨t1, gone, q21, hm21⟩
  have hbs0 : base ≤ w0.heap.size := Nat.le_trans hbs hk0.size
  clear t1 gone q21 hm21 nas0 htk htk0 q q2 hE hm hm2 bB0 q0 q20 hE0 hm0 hm20 hg0
  go_wp2
  go_region_held3 (fun w' => w'.cell? ⟨B, 0, none⟩ = some (.pointer (some ⟨g, 0, none⟩)) ∧ w'.cell? ⟨B, 3, none⟩ = some (.int .u64 seq) ∧ w'.cell? ⟨B, 4, none⟩ = some (.int .i64 rc) ∧ w'.cell? ⟨B, 5, none⟩ = some (.pointer og)) (go_keep) (fail)
  obtain ⟨w2, hw2⟩ : ∃ w2, w2 = ((((w1.setCell ⟨g, 0, none⟩ (.int .u64 seq)).setCell ⟨g, 34, none⟩ (.int .i64 rc)).setCell ⟨g, 35, none⟩ (.int .i64 0)).setCell ⟨g, 46, none⟩ (.pointer og)).drew := ⟨_, rfl⟩
  have hk2 : Keeps (fun b => b = g) w1 w2 := by
    rw [hw2]
    exact (((((Keeps.refl (fun b => b = g) w1).setCell (a := ⟨g, 0, none⟩) rfl _).setCell (a := ⟨g, 34, none⟩) rfl _).setCell (a := ⟨g, 35, none⟩) rfl _).setCell (a := ⟨g, 46, none⟩) rfl _).drew
  have bg2 : Blk w2 g 61 (((((D1 g).cells.setIfInBounds 0 (.int .u64 seq)).setIfInBounds 34 (.int .i64 rc)).setIfInBounds 35 (.int .i64 0)).setIfInBounds 46 (.pointer og)) := by
    rw [hw2]
    exact (((HG1.out.set 0 _).set 34 _).set 35 _).set 46 _
  rw [← hw2]
  have bB2 := HB1.out.keeps hk2 hgB'
  have HB2 : Hid (Blk w2 B 69 #[.pointer (some ⟨g, 0, none⟩), .pointer (some ⟨s + 1, 0, none⟩), .pointer (some ⟨s2 + 1, 0, none⟩), .int .u64 seq, .int .i64 rc, .pointer og, .pointer tk]) := bB2
  clear hw2 b0 b3 b4 b5 g0 g34 g35 g46 f0 f34 f35 f46
  have step5 := fun w3 k hg => move_add w0 w1 w3 D D1 base s s2 v v1 X X1 g E n ns lb st Dm seq rc og HALL.out.1 HALL.out.2.1 HALL.out.2.2.1 HALL.out.2.2.2 hs2 hseq hbs0 hlb hst k hg
  have HS5 : Hid _ := step5
  clear step5
  have b4 : w2.cell? ⟨B, 4, none⟩ = some (.int .i64 rc) := bB2.cell 4
  have b0 : w2.cell? ⟨B, 0, none⟩ = some (.pointer (some ⟨g, 0, none⟩)) := bB2.cell 0
  have b2 : w2.cell? ⟨B, 2, none⟩ = some (.pointer (some ⟨s2 + 1, 0, none⟩)) := bB2.cell 2
  by_cases hrc : rc = 0
  · subst hrc
    have g44 : w2.cell? ⟨g, 44, none⟩ = some (.int .i64 (D1 g).fi) := by rw [bg2.cell 44]; simp [Rec.cells]
    have g45 : w2.cell? ⟨g, 45, none⟩ = some (.int .i64 (D1 g).la) := by rw [bg2.cell 45]; simp [Rec.cells]
    have f44 := bg2.frozen 44
    have f45 := bg2.frozen 45
    have HG2 : Hid (Blk w2 g 61 (((((D1 g).cells.setIfInBounds 0 (.int .u64 seq)).setIfInBounds 34 (.int .i64 0)).setIfInBounds 35 (.int .i64 0)).setIfInBounds 46 (.pointer og))) := bg2
    clear bg2 bB2
    go_wp2
    go_region_held3 (fun w' => w'.cell? ⟨B, 0, none⟩ = some (.pointer (some ⟨g, 0, none⟩))) (go_keep) (fail)
    obtain ⟨w3, hw3⟩ : ∃ w3, w3 = ((w2.setCell ⟨g, 44, none⟩ (.int .i64 0)).setCell ⟨g, 45, none⟩ (.int .i64 0)).drew := ⟨_, rfl⟩
    have k13 : Keeps (fun b => b = g) w1 w3 := by
      rw [hw3]
      exact ((hk2.setCell (a := ⟨g, 44, none⟩) rfl _).setCell (a := ⟨g, 45, none⟩) rfl _).drew
    have bg3 : Blk w3 g 61 (newRec (D1 g) seq 0 og).cells := by
      rw [hw3, ← newRec_cells0]
      exact (HG2.out.set 44 _).set 45 _
    rw [← hw3]
    clear hw3 g44 g45 f44 f45 b4 b0 b2
    have bB3 := HB1.out.keeps k13 hgB'
    have b4 : w3.cell? ⟨B, 4, none⟩ = some (.int .i64 0) := bB3.cell 4
    have b0 : w3.cell? ⟨B, 0, none⟩ = some (.pointer (some ⟨g, 0, none⟩)) := bB3.cell 0
    have b2 : w3.cell? ⟨B, 2, none⟩ = some (.pointer (some ⟨s2 + 1, 0, none⟩)) := bB3.cell 2
    clear bB3
    have hA := HS5.out w3 k13 bg3
    have HG3 : Hid (Blk w3 g 61 (newRec (D1 g) seq 0 og).cells) := bg3
    have HB3 : Hid (Blk w3 B 69 #[.pointer (some ⟨g, 0, none⟩), .pointer (some ⟨s + 1, 0, none⟩), .pointer (some ⟨s2 + 1, 0, none⟩), .int .u64 seq, .int .i64 0, .pointer og, .pointer tk]) := HB1.out.keeps k13 hgB'
    clear bg3
    go_wp2_with fail
    refine hA.mono ?_
    rintro e w4 ⟨rfl, hE4, hk04, hk34, hM⟩
    clear hA b4 b0 b2
    have HK34 : Hid (∀ {b t cs}, Blk w3 b t cs → t ≠ 49 → t ≠ 61 → t ≠ 89 → Blk w4 b t cs) := by
      intro b t cs hb h1 h2 h3
      have qb := HALL.out.2.2.1.other k13 HALL.out.1.msg (fun c hc => by simp [nilX]) (newRec (D1 g) seq 0 og)
      have hE3 := HALL.out.1.eng.keeps k13 (blk_ne HALL.out.1.eng HALL.out.1.msg (by decide))
      have hm23 := MapAt.keeps HALL.out.2.2.2 k13 (fun e => map_ne HALL.out.2.2.2 HALL.out.1.msg e.symm)
      exact hb.keeps hk34 (not_AS qb hm23 hE3 HG3.out hb h1 h2 (.inl h3) (.inr (fun c hc => by simp [nilV, Value.ownBlock])))
    have bB4 := HK34.out HB3.out (by decide) (by decide) (by decide)
    have HB4 : Hid (Blk w4 B 69 #[.pointer (some ⟨g, 0, none⟩), .pointer (some ⟨s + 1, 0, none⟩), .pointer (some ⟨s2 + 1, 0, none⟩), .int .u64 seq, .int .i64 0, .pointer og, .pointer tk]) := bB4
    have b3 : w4.cell? ⟨B, 3, none⟩ = some (.int .u64 seq) := bB4.cell 3
    have e15 : w4.cell? ⟨E, 15, none⟩ = some (.int .u64 ns) := hE4.cell 15
    have f15 := hE4.frozen 15
    have hEB : E ≠ B := blk_ne hE4 bB4 (by decide)
    have HE4 : Hid (Blk w4 E 49 (ecells ns lb st)) := hE4
    have HM4 : Hid _ := hM
    have HK04 : Hid (Keeps (MS s s2 E g v X) w0 w4) := hk04
    have HT4 : Hid (tk = none ∨ ∃ T tc mv, tk = some ⟨T, 0, none⟩ ∧ (Blk w T 66 tc ∧ Blk w4 T 66 tc) ∧ tc[6]? = some (.int .i64 mv)) := by
      rcases HT1.out with h | ⟨T, tc, mv, h1, ⟨h0, h2⟩, h3⟩
      · exact Or.inl h
      · exact Or.inr ⟨T, tc, mv, h1, ⟨h0, HK34.out (h2.keeps k13 (blk_ne h2 HALL.out.1.msg (by decide))) (by decide) (by decide) (by decide)⟩, h3⟩
    clear hE4 bB4 hM hk04 hk34
    go_wp2
    go_region
    clear b3 e15 f15
    rw [← HNX.out]
    obtain ⟨w6, hw6⟩ : ∃ w6, w6 = (w4.setCell ⟨E, 15, none⟩ (.int .u64 nx)).drew := ⟨_, rfl⟩
    have hk46 : Keeps (fun b => b = E) w4 w6 := by rw [hw6]; exact ((Keeps.refl (fun b => b = E) w4).setCell (a := ⟨E, 15, none⟩) rfl _).drew
    have hE6 : Blk w6 E 49 (ecells nx lb st) := by rw [hw6]; exact HE4.out.set 15 _
    rw [← hw6]
    clear hw6
    obtain ⟨D', v', X', v2, X2, hM⟩ := HM4.out
    have hM6 := hM.frame hk46 (fun b hb => ⟨49, _, hb ▸ HE4.out, .inl rfl⟩)
    have hB6 := HB4.out.keeps hk46 (Ne.symm hEB)
    have b6 : w6.cell? ⟨B, 6, none⟩ = some (.pointer tk) := hB6.cell 6
    have hk6 : Keeps (MS s s2 E g v X) w w6 := ((hk0.mono (by simp)).trans HK04.out).trans (hk46.mono (by rintro b _ rfl; exact .inl (.inr (.inl rfl))))
    have HE6 : Hid (Blk w6 E 49 (ecells nx lb st)) := hE6
    have HM6 : Hid (Moved w0 D base s s2 v X g E n ns lb st Dm seq 0 og w6 D' v' X' v2 X2) := hM6
    have HK6 : Hid (Keeps (MS s s2 E g v X) w w6) := hk6
    have HK46 : Hid (Keeps (fun b => b = E) w4 w6) := hk46
    clear hM hM6 hB6 hE6 hk6 hk46
    rcases HT4.out with htn | ⟨T, tc, mv, htn, ⟨hTw, hT⟩, hmv⟩
    · subst htn
      go_wp2
      go_end0
      refine ⟨rfl, HE6.out, HK6.out, D', v', X', v2, X2, ⟨HM6.out.q, HM6.out.q2, HM6.out.p0, HM6.out.p3, HM6.out.po, HM6.out.gone, HM6.out.r0, HM6.out.r1, HM6.out.r2, HM6.out.r3, HM6.out.msg, HM6.out.like, HM6.out.map, HM6.out.map2⟩⟩
    · subst htn
      have hTE : T ≠ E := blk_ne hT HE4.out (by decide)
      have hT6 : Blk w6 T 66 tc := hT.keeps HK46.out hTE
      have t6 : w6.cell? ⟨T, 6, none⟩ = some (.int .i64 mv) := by rw [hT6.cell 6]; exact hmv
      have ft6 := hT6.frozen 6
      have HT6 : Hid (Blk w6 T 66 tc) := hT6
      have HTw : Hid (Blk w T 66 tc ∧ tc[6]? = some (.int .i64 mv)) := ⟨hTw, hmv⟩
      clear hT6 hT hTw hmv
      go_wp2
      go_end0
      refine ⟨rfl, HE6.out.setOther (a := ⟨T, 6, none⟩) (Ne.symm hTE) _, ?_, ?_, D', v', X', v2, X2, ?_⟩
      · intro T' tc' mv' h1 h2 h3
        obtain rfl : T = T' := by simpa using h1
        obtain rfl := (blk_inj HTw.out.1 h2).2
        have h3' := HTw.out.2
        rw [h3'] at h3
        obtain rfl : mv = mv' := by simpa using h3
        exact HT6.out.set 6 _
      · exact (HK6.out.mono (fun b _ h => .inl h)).trans' ((Keeps.refl (fun b => b = T) w6).setCell (a := ⟨T, 6, none⟩) rfl _) (by rintro b _ rfl; exact .inr ⟨_, rfl, rfl⟩)
      · have hM7 := HM6.out.frame ((Keeps.refl (fun b => b = T) w6).setCell (a := ⟨T, 6, none⟩) rfl (.int .i64 (wrap64 (mv + 1)))) (fun b hb => ⟨66, _, hb ▸ HT6.out, .inr rfl⟩)
        exact ⟨hM7.q, hM7.q2, hM7.p0, hM7.p3, hM7.po, hM7.gone, hM7.r0, hM7.r1, hM7.r2, hM7.r3, hM7.msg, hM7.like, hM7.map, hM7.map2⟩
  · have hrc' : (rc == 0) = false := by simpa using hrc
    have bg3 := bg2
    rw [newRec_cells _ _ _ _ hrc] at bg3
    have k13 := hk2
    clear bg2 bB2
    have hA := HS5.out w2 k13 bg3
    have HG3 : Hid (Blk w2 g 61 (newRec (D1 g) seq rc og).cells) := bg3
    have HB3 : Hid (Blk w2 B 69 #[.pointer (some ⟨g, 0, none⟩), .pointer (some ⟨s + 1, 0, none⟩), .pointer (some ⟨s2 + 1, 0, none⟩), .int .u64 seq, .int .i64 rc, .pointer og, .pointer tk]) := HB1.out.keeps k13 hgB'
    clear bg3
    go_wp2_with fail
    refine hA.mono ?_
    rintro e w4 ⟨rfl, hE4, hk04, hk34, hM⟩
    clear hA b4 b0 b2
    have HK34 : Hid (∀ {b t cs}, Blk w2 b t cs → t ≠ 49 → t ≠ 61 → t ≠ 89 → Blk w4 b t cs) := by
      intro b t cs hb h1 h2 h3
      have qb := HALL.out.2.2.1.other k13 HALL.out.1.msg (fun c hc => by simp [nilX]) (newRec (D1 g) seq rc og)
      have hE3 := HALL.out.1.eng.keeps k13 (blk_ne HALL.out.1.eng HALL.out.1.msg (by decide))
      have hm23 := MapAt.keeps HALL.out.2.2.2 k13 (fun e => map_ne HALL.out.2.2.2 HALL.out.1.msg e.symm)
      exact hb.keeps hk34 (not_AS qb hm23 hE3 HG3.out hb h1 h2 (.inl h3) (.inr (fun c hc => by simp [nilV, Value.ownBlock])))
    have bB4 := HK34.out HB3.out (by decide) (by decide) (by decide)
    have HB4 : Hid (Blk w4 B 69 #[.pointer (some ⟨g, 0, none⟩), .pointer (some ⟨s + 1, 0, none⟩), .pointer (some ⟨s2 + 1, 0, none⟩), .int .u64 seq, .int .i64 rc, .pointer og, .pointer tk]) := bB4
    have b3 : w4.cell? ⟨B, 3, none⟩ = some (.int .u64 seq) := bB4.cell 3
    have e15 : w4.cell? ⟨E, 15, none⟩ = some (.int .u64 ns) := hE4.cell 15
    have f15 := hE4.frozen 15
    have hEB : E ≠ B := blk_ne hE4 bB4 (by decide)
    have HE4 : Hid (Blk w4 E 49 (ecells ns lb st)) := hE4
    have HM4 : Hid _ := hM
    have HK04 : Hid (Keeps (MS s s2 E g v X) w0 w4) := hk04
    have HT4 : Hid (tk = none ∨ ∃ T tc mv, tk = some ⟨T, 0, none⟩ ∧ (Blk w T 66 tc ∧ Blk w4 T 66 tc) ∧ tc[6]? = some (.int .i64 mv)) := by
      rcases HT1.out with h | ⟨T, tc, mv, h1, ⟨h0, h2⟩, h3⟩
      · exact Or.inl h
      · exact Or.inr ⟨T, tc, mv, h1, ⟨h0, HK34.out (h2.keeps k13 (blk_ne h2 HALL.out.1.msg (by decide))) (by decide) (by decide) (by decide)⟩, h3⟩
    clear hE4 bB4 hM hk04 hk34
    go_wp2
    go_region
    clear b3 e15 f15
    rw [← HNX.out]
    obtain ⟨w6, hw6⟩ : ∃ w6, w6 = (w4.setCell ⟨E, 15, none⟩ (.int .u64 nx)).drew := ⟨_, rfl⟩
    have hk46 : Keeps (fun b => b = E) w4 w6 := by rw [hw6]; exact ((Keeps.refl (fun b => b = E) w4).setCell (a := ⟨E, 15, none⟩) rfl _).drew
    have hE6 : Blk w6 E 49 (ecells nx lb st) := by rw [hw6]; exact HE4.out.set 15 _
    rw [← hw6]
    clear hw6
    obtain ⟨D', v', X', v2, X2, hM⟩ := HM4.out
    have hM6 := hM.frame hk46 (fun b hb => ⟨49, _, hb ▸ HE4.out, .inl rfl⟩)
    have hB6 := HB4.out.keeps hk46 (Ne.symm hEB)
    have b6 : w6.cell? ⟨B, 6, none⟩ = some (.pointer tk) := hB6.cell 6
    have hk6 : Keeps (MS s s2 E g v X) w w6 := ((hk0.mono (by simp)).trans HK04.out).trans (hk46.mono (by rintro b _ rfl; exact .inl (.inr (.inl rfl))))
    have HE6 : Hid (Blk w6 E 49 (ecells nx lb st)) := hE6
    have HM6 : Hid (Moved w0 D base s s2 v X g E n ns lb st Dm seq rc og w6 D' v' X' v2 X2) := hM6
    have HK6 : Hid (Keeps (MS s s2 E g v X) w w6) := hk6
    have HK46 : Hid (Keeps (fun b => b = E) w4 w6) := hk46
    clear hM hM6 hB6 hE6 hk6 hk46
    rcases HT4.out with htn | ⟨T, tc, mv, htn, ⟨hTw, hT⟩, hmv⟩
    · subst htn
      go_wp2
      go_end0
      refine ⟨rfl, HE6.out, HK6.out, D', v', X', v2, X2, ⟨HM6.out.q, HM6.out.q2, HM6.out.p0, HM6.out.p3, HM6.out.po, HM6.out.gone, HM6.out.r0, HM6.out.r1, HM6.out.r2, HM6.out.r3, HM6.out.msg, HM6.out.like, HM6.out.map, HM6.out.map2⟩⟩
    · subst htn
      have hTE : T ≠ E := blk_ne hT HE4.out (by decide)
      have hT6 : Blk w6 T 66 tc := hT.keeps HK46.out hTE
      have t6 : w6.cell? ⟨T, 6, none⟩ = some (.int .i64 mv) := by rw [hT6.cell 6]; exact hmv
      have ft6 := hT6.frozen 6
      have HT6 : Hid (Blk w6 T 66 tc) := hT6
      have HTw : Hid (Blk w T 66 tc ∧ tc[6]? = some (.int .i64 mv)) := ⟨hTw, hmv⟩
      clear hT6 hT hTw hmv
      go_wp2
      go_end0
      refine ⟨rfl, HE6.out.setOther (a := ⟨T, 6, none⟩) (Ne.symm hTE) _, ?_, ?_, D', v', X', v2, X2, ?_⟩
      · intro T' tc' mv' h1 h2 h3
        obtain rfl : T = T' := by simpa using h1
        obtain rfl := (blk_inj HTw.out.1 h2).2
        have h3' := HTw.out.2
        rw [h3'] at h3
        obtain rfl : mv = mv' := by simpa using h3
        exact HT6.out.set 6 _
      · exact (HK6.out.mono (fun b _ h => .inl h)).trans' ((Keeps.refl (fun b => b = T) w6).setCell (a := ⟨T, 6, none⟩) rfl _) (by rintro b _ rfl; exact .inr ⟨_, rfl, rfl⟩)
      · have hM7 := HM6.out.frame ((Keeps.refl (fun b => b = T) w6).setCell (a := ⟨T, 6, none⟩) rfl (.int .i64 (wrap64 (mv + 1)))) (fun b hb => ⟨66, _, hb ▸ HT6.out, .inr rfl⟩)
        exact ⟨hM7.q, hM7.q2, hM7.p0, hM7.p3, hM7.po, hM7.gone, hM7.r0, hM7.r1, hM7.r2, hM7.r3, hM7.msg, hM7.like, hM7.map, hM7.map2⟩
end Go.Proofs.Ybulkbrrw
