import Derived.Test.YbulkbrrwMlook
namespace Go.Proofs.Ybulkbrrw
open Go.RowKit Go.Deep Go.Maps
set_option linter.unusedVariables false
set_option linter.unusedSimpArgs false

theorem kput_sq (r : Rec) (k : Bool) (i : Int) : (r.put k i).sq = r.sq := by cases k <;> rfl

section
variable {w0 wr w7 w9 : World} {lo base s s2 E R i kk g : Nat} {ns lb st a2 a3 : Int} {F : Nat → Rec} {L : List Nat} {D D8 : Nat → Rec} {v v8 v28 : Nat → Value} {X X8 X28 : Nat → List Nat} {og tk : Option Addr}

theorem tail_R (inv : Inv w0 lo base s s2 E R i ns F i wr L D v X) (hkw : Keeps (fun _ => False) wr w7) (hgk : L[kk]? = some g) (hT : ∀ T, tk = some ⟨T, 0, none⟩ → wr.heap.size ≤ T) {cs : Array Value} (hr : Blk wr R 53 cs) :
    ¬ (MS s s2 E g v X R ∨ ∃ T, tk = some ⟨T, 0, none⟩ ∧ R = T) := by
  have hgL : g ∈ L := List.mem_iff_getElem?.2 ⟨_, hgk⟩
  have hl := inv.lows
  have hgB := (inv.q.heap 3 (by omega)).msg g (inv.mem g hgL).2
  rintro ((h | h) | ⟨T, h1, h2⟩)
  · rcases h with e | e | e | ⟨c, hc, e | e | e⟩
    · exact map_ne inv.map hr e
    · exact blk_ne hr inv.eng (by decide) e
    · exact blk_ne hr hgB (by decide) e
    · exact blk_ne hr (inv.q.heap c hc).obj (by decide) e
    · exact blk_ne hr ((inv.q.heap c hc).msg R e) (by decide) rfl
    · have := ((inv.q.heap c hc).own.lt R e.symm).1
      omega
  · rcases h with e | e | e | ⟨c, hc, e | e | e⟩
    · exact map_ne inv.map2 hr e
    · exact blk_ne hr inv.eng (by decide) e
    · exact blk_ne hr hgB (by decide) e
    · exact blk_ne hr (inv.q2.heap c hc).obj (by decide) e
    · simp [nilX] at e
    · simp [nilV, Value.ownBlock] at e
  · have := hT T h1
    have := hr.lt
    omega

theorem tail_rows (inv : Inv w0 lo base s s2 E R i ns F i wr L D v X) (hkw : Keeps (fun _ => False) wr w7) (hk8 : Keeps (fun b => MS s s2 E g v X b ∨ ∃ T, tk = some ⟨T, 0, none⟩ ∧ b = T) w7 w9)
    (mv : Moved w7 D base s s2 v X g E i ns lb st (mp L i) a2 a3 og w9 D8 v8 X8 v28 X28) (hT : ∀ T, tk = some ⟨T, 0, none⟩ → wr.heap.size ≤ T) (hgk : L[kk]? = some g) (hF : ∀ j : Nat, (F j).sq = (j : Int) + 1) (hi : i ≤ 300) :
    ∀ j : Nat, j < i → ∃ x, w9.cell? ⟨R, j, none⟩ = some (.pointer (some ⟨x, 0, none⟩)) ∧ (j ≠ kk → w9.cell? ⟨x, 0, none⟩ = some (.int .u64 ((j : Int) + 1)) ∧ ∀ m, (Instr.lookup 75 (.map (some s)) (.int .u64 ((j : Int) + 1)) false).run Yba.prog (w9.drewN m) = .ok (.pointer (some ⟨x, 0, none⟩)) (w9.drewN m)) := by
  intro j hj
  have hlen := inv.len
  obtain ⟨x, hxk⟩ : ∃ x, L[j]? = some x := ⟨L[j]'(by omega), by simp⟩
  obtain ⟨rs, hr, hrs, hrj⟩ := inv.row
  have hr9 := (hr.keeps hkw (by simp)).keeps hk8 (tail_R inv hkw hgk hT hr)
  refine ⟨x, by rw [hr9.cell j]; exact hrj j x hxk, fun hne => ?_⟩
  have hsq : ∀ (j x : Nat), L[j]? = some x → (D x).sq = (j : Int) + 1 := by
    intro j x h
    obtain ⟨a, b, e⟩ := inv.rcd j x h
    rw [e, kput_sq, kput_sq, hF]
  have hxg : x ≠ g := by
    rintro rfl
    have e1 := hsq j x hxk
    have e2 := hsq kk x hgk
    omega
  have hx8 : x ∈ X8 3 := by
    have h3 := (inv.mem x (List.mem_iff_getElem?.2 ⟨_, hxk⟩)).2
    have h4 := mv.p3.mem_iff.2 h3
    simpa [hxg] using h4
  have hxB := (mv.q.heap 3 (by omega)).msg x hx8
  obtain ⟨a, b, hD⟩ := mv.like x hxg
  have e8 : (D8 x).sq = (j : Int) + 1 := by rw [hD, kput_sq, kput_sq, hsq j x hxk]
  refine ⟨by rw [hxB.cell 0, ← e8]; rfl, fun m => ?_⟩
  have hm : MapAt (w9.drewN m) s i ((mp L i).del (.int .u64 (D g).sq)) := MapAt.keeps mv.map ((Keeps.refl (fun _ => False) w9).drewN m) (by simp)
  refine look_in hm (WalkArith.wf_u64 (by omega)) ?_
  rw [hsq kk g hgk, atKey_del_other (by simp; omega), mp_at L _ i j hj]
  rw [show L.getD j 0 = x from by simp [List.getD, hxk]]

theorem tail_lens (inv : Inv w0 lo base s s2 E R i ns F i wr L D v X) (mv : Moved w7 D base s s2 v X g E i ns lb st (mp L i) a2 a3 og w9 D8 v8 X8 v28 X28) :
    ((X8 0).length : Int) + ((X8 1).length : Int) + ((X8 2).length : Int) = (i : Int) - 1 ∧ ((X8 3).length : Int) = (i : Int) - 1 := by
  have c0 := inv.cnt
  have e3 := mv.p3.length_eq
  have e0 := mv.p0.length_eq
  have hpo := mv.po
  simp at e3 e0
  have h3 := cls_lt (D g)
  have hcc : cls (D g) = 0 ∨ cls (D g) = 1 ∨ cls (D g) = 2 := by omega
  rcases hcc with e | e | e <;> rw [e] at e0 hpo
  · rw [hpo 1 (by decide) (by decide), hpo 2 (by decide) (by decide)]; omega
  · rw [hpo 0 (by decide) (by decide), hpo 2 (by decide) (by decide)]; omega
  · rw [hpo 0 (by decide) (by decide), hpo 1 (by decide) (by decide)]; omega

/-- One heap of a queue, as the checks read it. -/
theorem tail_heap {w : World} {D : Nat → Rec} {base s : Nat} {id : Int} {v : Nat → Value} {X : Nat → List Nat} (q : QH w D base s id v X) (c : Nat) (hc : c < 4) :
    ∃ ao cap, v c = .slice ao (X c).length cap ∧ w.cell? ⟨s + 2 + c, 0, none⟩ = some (.slice ao (X c).length cap) := by
  obtain ⟨ao, cap, e⟩ := own_slice (q.heap c hc).own
  exact ⟨ao, cap, e, by rw [(q.heap c hc).obj.cell 0, ← e]; rfl⟩

theorem tail_notin (mv : Moved w7 D base s s2 v X g E i ns lb st (mp L i) a2 a3 og w9 D8 v8 X8 v28 X28) (c : Nat) (hc : c < 4) (m : Nat) :
    Calls Yba.prog 9 #[v8 c, .pointer (some ⟨g, 0, none⟩)] (w9.drewN m) fun e w' => e = .returned (.bool true) ∧ w' = w9.drewN m := by
  have h := mv.q.heap c hc
  have hg : Blk w9 g 61 (D8 g).cells := (mv.q2.heap 0 (by omega)).msg g (by rw [mv.r0]; simp)
  exact notin9 _ _ base (X8 c) g (ownsRow_drewN h.own m) (mv.gone c hc) h.few (fun x hx => ⟨_, (h.msg x hx).drewN m⟩) ⟨_, hg.drewN m⟩

theorem tail_src (inv : Inv w0 lo base s s2 E R i ns F i wr L D v X) (mv : Moved w7 D base s s2 v X g E i ns lb st (mp L i) a2 a3 og w9 D8 v8 X8 v28 X28) :
    ∃ ao0 n0 c0 ao1 n1 c1 ao2 n2 c2 ao3 n3 c3, w9.cell? ⟨s + 2, 0, none⟩ = some (.slice ao0 n0 c0) ∧ w9.cell? ⟨s + 3, 0, none⟩ = some (.slice ao1 n1 c1) ∧ w9.cell? ⟨s + 4, 0, none⟩ = some (.slice ao2 n2 c2) ∧ w9.cell? ⟨s + 5, 0, none⟩ = some (.slice ao3 n3 c3) ∧
      (n0 < 1000 ∧ n1 < 1000 ∧ n2 < 1000 ∧ n3 < 1000 ∧ (n0 : Int) + n1 + n2 = (i : Int) - 1 ∧ (n3 : Int) = (i : Int) - 1) ∧
      (∀ m, Calls Yba.prog 9 #[.slice ao0 n0 c0, .pointer (some ⟨g, 0, none⟩)] (w9.drewN m) fun e w' => e = .returned (.bool true) ∧ w' = w9.drewN m) ∧
      (∀ m, Calls Yba.prog 9 #[.slice ao1 n1 c1, .pointer (some ⟨g, 0, none⟩)] (w9.drewN m) fun e w' => e = .returned (.bool true) ∧ w' = w9.drewN m) ∧
      (∀ m, Calls Yba.prog 9 #[.slice ao2 n2 c2, .pointer (some ⟨g, 0, none⟩)] (w9.drewN m) fun e w' => e = .returned (.bool true) ∧ w' = w9.drewN m) ∧
      ∀ m, Calls Yba.prog 9 #[.slice ao3 n3 c3, .pointer (some ⟨g, 0, none⟩)] (w9.drewN m) fun e w' => e = .returned (.bool true) ∧ w' = w9.drewN m := by
  obtain ⟨ao0, c0, e0, h0⟩ := tail_heap mv.q 0 (by omega)
  obtain ⟨ao1, c1, e1, h1⟩ := tail_heap mv.q 1 (by omega)
  obtain ⟨ao2, c2, e2, h2⟩ := tail_heap mv.q 2 (by omega)
  obtain ⟨ao3, c3, e3, h3⟩ := tail_heap mv.q 3 (by omega)
  have f := fun c hc => (mv.q.heap c hc).few
  refine ⟨ao0, _, c0, ao1, _, c1, ao2, _, c2, ao3, _, c3, h0, h1, h2, h3, ⟨f 0 (by omega), f 1 (by omega), f 2 (by omega), f 3 (by omega), (tail_lens inv mv).1, (tail_lens inv mv).2⟩, ?_, ?_, ?_, ?_⟩
  · rw [← e0]; exact tail_notin mv 0 (by omega)
  · rw [← e1]; exact tail_notin mv 1 (by omega)
  · rw [← e2]; exact tail_notin mv 2 (by omega)
  · rw [← e3]; exact tail_notin mv 3 (by omega)

theorem tail_one (mv : Moved w7 D base s s2 v X g E i ns lb st (mp L i) a2 a3 og w9 D8 v8 X8 v28 X28) (c : Nat) (hc : c = 0 ∨ c = 3) :
    ∃ r cap, w9.cell? ⟨s2 + 2 + c, 0, none⟩ = some (.slice (some ⟨r, 0, none⟩) 1 cap) ∧ w9.cell? ⟨r, 0, none⟩ = some (.pointer (some ⟨g, 0, none⟩)) ∧ 1 ≤ cap := by
  have hX : X28 c = [g] := by rcases hc with rfl | rfl; exact mv.r0; exact mv.r3
  have h := mv.q2.heap c (by omega)
  obtain ⟨r, cap, e, hcap, _, _, hcell⟩ := h.row (by rw [hX]; simp)
  refine ⟨r, cap, ?_, hcell 0 g (by rw [hX]; rfl), by rw [hX] at hcap; simpa using hcap⟩
  have := h.obj.cell 0
  rw [this, e, hX]; rfl

theorem tail_none (mv : Moved w7 D base s s2 v X g E i ns lb st (mp L i) a2 a3 og w9 D8 v8 X8 v28 X28) (c : Nat) (hc : c = 1 ∨ c = 2) :
    ∃ ao cap, w9.cell? ⟨s2 + 2 + c, 0, none⟩ = some (.slice ao 0 cap) := by
  have hX : X28 c = [] := by rcases hc with rfl | rfl; exact mv.r1; exact mv.r2
  obtain ⟨ao, cap, _, h⟩ := tail_heap mv.q2 c (by omega)
  rw [hX] at h
  exact ⟨ao, cap, h⟩

theorem tail_map2 (mv : Moved w7 D base s s2 v X g E i ns lb st (mp L i) a2 a3 og w9 D8 v8 X8 v28 X28) (ha : (Lit.int .u64 a2).wf = true) (m : Nat) :
    (Instr.lookup 75 (.map (some s2)) (.int .u64 a2) false).run Yba.prog (w9.drewN m) = .ok (.pointer (some ⟨g, 0, none⟩)) (w9.drewN m) ∧
    ∀ ty, Sem.run Yba.prog (Builtin.len_ #[75] ty #[Value.map (some s2)]) (w9.drewN m) = .ok (.int .i64 1) (w9.drewN m) := by
  have hm : MapAt (w9.drewN m) s2 1 ((.map [] : DataW Unit).put (.int .u64 a2) (.lit (.int .u64 g))) := MapAt.keeps mv.map2 ((Keeps.refl (fun _ => False) w9).drewN m) (by simp)
  refine ⟨look_in hm ha ?_, fun ty => ?_⟩
  · rw [atKey_put_same (by exact tidy_empty.isMap) (kl_key _)]
  · have := World.ownsMap.len hm under75 ty
    rw [show Maps.size ((.map [] : DataW Unit).put (.int .u64 a2) (.lit (.int .u64 g))) = 1 from by rw [size_put tidy_empty]; rfl] at this
    exact this

theorem tail_below (inv : Inv w0 lo base s s2 E R i ns F i wr L D v X) (hkw : Keeps (fun _ => False) wr w7) (hk8 : Keeps (fun b => MS s s2 E g v X b ∨ ∃ T, tk = some ⟨T, 0, none⟩ ∧ b = T) w7 w9)
    (hT : ∀ T, tk = some ⟨T, 0, none⟩ → wr.heap.size ≤ T) (hgk : L[kk]? = some g) (m : Nat) : Below lo w0 (w9.drewN m) := by
  obtain ⟨l1, l2, l3, l4, l5, l6, l7⟩ := inv.lows
  have hgL : g ∈ L := List.mem_iff_getElem?.2 ⟨_, hgk⟩
  have hlo : lo ≤ wr.heap.size := Nat.le_trans l6 inv.size
  have b7 := Below.keeps inv.below hkw hlo (by simp)
  refine Below.keeps b7 (hk8.drewN m) (Nat.le_trans hlo hkw.size) ?_
  rintro b hb ((h | h) | ⟨T, h1, h2⟩)
  · exact AS_lo inv.q l1 l3 (l7 g hgL) l6 (fun c hc x hx => l7 x (inv.sub c hc x hx)) b hb h
  · exact AS_lo inv.q2 (by omega) l3 (l7 g hgL) l6 (fun c hc x hx => by simp [nilX] at hx) b hb h
  · have := hT T h1
    omega
end
end Go.Proofs.Ybulkbrrw
