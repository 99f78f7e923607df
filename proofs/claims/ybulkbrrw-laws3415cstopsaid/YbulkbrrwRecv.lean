import Derived.Test.YbulkbrrwRecvParts
namespace Go.Proofs.Ybulkbrrw
open Go.RowKit Go.Deep
set_option linter.unusedVariables false
set_option linter.unusedSimpArgs false
attribute [local go_sem] Oper.semAt_some
variable {ms : Nat → List Nat} {sq hd : Nat → Int}

theorem inOrder39 (w : World) (H : Nat) :
    Calls Yba.prog 39 #[.pointer (some ⟨H, 0, none⟩)] w fun e w' => e = .returned (.func (.func 47) #[] #[.pointer (some ⟨w.heap.size, 0, none⟩)]) ∧ w' = w.alloc (.cells #[.pointer (some ⟨H, 0, none⟩)] 81) := by
  go_enter Yba.func39, Yba.ntmps39
  go_wp2
  go_ret
  exact ⟨rfl, rfl⟩

theorem recv27 (w : World) (Q : Nat) :
    Calls Yba.prog 27 #[.pointer (some ⟨Q, 0, none⟩)] w fun e w' => e = .returned (.func (.func 38) #[] #[.pointer (some ⟨w.heap.size, 0, none⟩)]) ∧ w' = w.alloc (.cells #[.pointer (some ⟨Q, 0, none⟩)] 50) := by
  go_enter Yba.func27, Yba.ntmps27
  go_wp2
  go_ret
  exact ⟨rfl, rfl⟩

/-- The statement 'for x := range seq', outermost, whatever function it stands in. -/
theorem wpIn_range_at {P : Program} {g : Operand} {ps : Array Tmp} {assign body : Code} {Q : Exit → Act → World → Prop} {a : Act} {w : World} {gf : Nat} {lb : Array Value} (hg : a.eval g = .func (.func gf) #[] lb) (eg : ∀ args w, (callFunc gf args).run P w = .ok (.enter gf args) w)
    (h : ∀ fn (r : Loop), r = { state := .ready, pending := none, fn, tmps := a.tmps, params := ps, assign, body, defers := w.heap.size } → CallsIn Fence.wide (9 - 1) P gf (#[.func (.yield (w.heap.size + 1)) #[] #[]] ++ lb) ((w.alloc (.deferred (some []))).alloc (.loop r))
      (rangePost Fence.wide 9 P (w.heap.size + 1) Q { a with defers := [{ target := .collected w.heap.size, args := #[] }] ++ a.defers })) :
    (Code.rangeFunc g ps assign body).wpIn Fence.wide 9 P Q a w := by
  refine wpIn_rangeFunc ?_
  intro fn hfn
  have hro : Fence.wide.round = none := rfl
  rw [hro]
  have hcall := h fn _ rfl
  have e1 := run_enterLoop_outer (P := P) (w := w) fn a.tmps ps assign body
  obtain ⟨W1, hW1⟩ : ∃ W1, (w.alloc (.deferred (some []))).alloc (.loop { state := .ready, pending := none, fn, tmps := a.tmps, params := ps, assign, body, defers := w.heap.size }) = W1 := ⟨_, rfl⟩
  rw [hW1] at hcall e1
  have e2 : (resolve a.eval (rangeCall g (w.heap.size + 1)) 0).run P W1 = .ok { target := .fn (.func gf) lb, args := #[.func (.yield (w.heap.size + 1)) #[] #[]] } W1 := by
    simp only [resolve, hg]
    simp [go_sem]
  have e3 : (invoke (.fn (.func gf) lb) #[.func (.yield (w.heap.size + 1)) #[] #[]]).run P W1 = .ok (.enter gf (#[.func (.yield (w.heap.size + 1)) #[] #[]] ++ lb)) W1 := by
    simp [invoke, go_sem, eg]
  exact ⟨_, _, W1, _, W1, gf, _, W1, e1, e2, fun _ _ => trivial, e3, fun _ => by decide, hcall⟩

/-- A round, from its record. -/
theorem yield_at {P : Program} {l n : Nat} {r : Loop} {args : Array Value} {W : World} {R : Ending → World → Prop} (hl : W.heap[l]? = some (.loop r)) (hr : r.state = .ready) (hs : args.size = r.params.size)
    (h : r.assign.wpIn (Fence.wide.inRound l) n P (Exit.then (fun a₁ w₁ => ∃ w₂, (Instr.beginRound l).run P w₁ = .ok () w₂ ∧ r.body.wpIn (Fence.wide.inRound l) n P (roundPost P l R) a₁ w₂) (fun _ _ _ => False))
      { tmps := (r.params.zip args).foldl (fun tmps (t, a) => tmps.setIfInBounds t a) r.tmps, defers := [] } W) :
    YieldAt Fence.wide n P l args W R :=
  ⟨r.fn, _, r.assign, r.body, run_yield hl hs, roundIn_of_wpIn trivial h⟩

theorem takeWhile_stop (p : Nat → Bool) : ∀ (l : List Nat) (i : Nat), (∀ m, m ∈ l.take i → p m = true) → (∀ m, l[i]? = some m → p m = false) → l.takeWhile p = l.take i
  | [], i, _, _ => by simp
  | a :: l, 0, _, h => by simp [h a (by simp)]
  | a :: l, i + 1, h1, h2 => by
    have ha : p a = true := h1 a (by simp)
    rw [List.takeWhile_cons_of_pos ha, List.take_succ_cons, takeWhile_stop p l i (fun m hm => h1 m (by simp [hm])) (fun m hm => h2 m (by simpa using hm))]

theorem takeWhile_pre (p : Nat → Bool) : ∀ (l : List Nat) (i : Nat), (∀ m, m ∈ l.take i → p m = true) → l.take i <+: l.takeWhile p
  | [], i, _ => by simp
  | a :: l, 0, _ => by simp
  | a :: l, i + 1, h1 => by
    have ha : p a = true := h1 a (by simp)
    rw [List.takeWhile_cons_of_pos ha, List.take_succ_cons]
    exact (List.prefix_cons_inj a).2 (takeWhile_pre p l i (fun m hm => h1 m (by simp [hm])))

theorem length_flatMap_le (f : Nat → List Int) (c : Nat) : ∀ (l : List Nat), (∀ g, g ∈ l → (f g).length ≤ c) → (l.flatMap f).length ≤ c * l.length
  | [], _ => by simp
  | a :: l, h => by
    have h1 := length_flatMap_le f c l (fun g hg => h g (by simp [hg]))
    have h2 := h a (by simp)
    rw [List.flatMap_cons, List.length_append, List.length_cons, Nat.mul_add]
    omega

theorem vis_len (g : Nat) : (vis ms sq hd g).length ≤ (ms g).length := by
  unfold vis
  rw [List.length_map]
  exact (List.takeWhile_sublist _).length_le

/-- As many as the limit lets by; all, where it is negative. -/
def takeI (limit : Int) (xs : List Int) : List Int := if limit < 0 then xs else xs.take limit.toNat

def open38 (limit : Int) (ls : List Int) : Prop := limit < 0 ∨ (ls.length : Int) < limit

/-- At the door. -/
theorem leave38 {w0 W : World} {lo n0 L Lim base H : Nat} {limit : Int} {yb l D : Nat} {rc : Obj} {ls : List Int} {S xs : List Nat} {v : Value} (h : RS w0 W lo n0 L Lim limit yb l D rc ls) (hls : takeI limit (S.flatMap (vis ms sq hd)) = ls) (hbs : base ≤ w0.heap.size)
    (g1 : GHeap W ms sq hd base H v xs) (g2 : xs.Perm S) (g3 : HeapN (key ms sq) xs xs.length) (tmps : Array Value) :
    LeavesInM Fence.wide 9 Yba.prog Yba.f38 tmps (fun e w' => e = .returned (.tuple #[]) ∧ (∃ lv, Log w' n0 L Lim limit lv (takeI limit (S.flatMap (vis ms sq hd)))) ∧ KeepI lo w0 w' ∧
      ∃ v' xs', GHeap w' ms sq hd base H v' xs' ∧ xs'.Perm S ∧ HeapN (key ms sq) xs' xs'.length ∧ base ≤ w'.heap.size) [{ target := .collected D, args := #[] }] .returning W := by
  have hnd : ∀ cs t fr, Obj.deferred (some []) ≠ .cells cs t fr := by intro _ _ _ e; cases e
  refine ⟨by simp, .inl ⟨D, W.putObj D (.deferred none), rfl, run_takeDeferred h.dfr, ?_⟩⟩
  obtain ⟨lv, hl⟩ := h.log
  refine ⟨.tuple #[], results_none rfl _ _ _, rfl, ⟨lv, ?_⟩, h.frame.below (below_putObj _ h.geD), v, xs, g1.keepB ⟨by simp, fun b t cs _ _ hb => blk_putObj _ hb h.dfr hnd⟩, g2, g3, ?_⟩
  · rw [hls]
    exact ⟨blk_putObj _ hl.box h.dfr hnd, blk_putObj _ hl.lim h.dfr hnd, own_putObj _ hl.own h.dfr hnd, hl.lt, hl.lt2, by simpa using hl.few⟩
  · have := h.frame.size; simp; omega

set_option maxHeartbeats 2000000 in
theorem walk38 (w0 w : World) (lo n0 L Lim qb Q H base : Nat) (limit : Int) (S : List Nat) (v : Value) (xs : List Nat) (st : Stage ms sq lo H S)
    (hlog : Log w n0 L Lim limit (.slice none 0 0) []) (hfr : KeepI lo w0 w) (geL : w0.heap.size ≤ L) (gen : w0.heap.size ≤ n0) (hlo : lo ≤ w0.heap.size) (hlim : limit < 100000) (hop : open38 limit [])
    (hmany : ∀ g, g ∈ S → (ms g).length ≤ 5)
    (h : GHeap w ms sq hd base H v xs) (ho : HeapN (key ms sq) xs xs.length) (hp : xs.Perm S) (hbs : base ≤ w0.heap.size)
    (bq : Blk w qb 50 #[.pointer (some ⟨Q, 0, none⟩)]) (bQ : ∃ cs, Blk w Q 85 cs ∧ cs[24]? = some (.pointer (some ⟨H, 0, none⟩))) :
    Calls Yba.prog 38 #[.func (.func 28) #[] #[.pointer (some ⟨L, 0, none⟩), .pointer (some ⟨Lim, 0, none⟩)], .pointer (some ⟨qb, 0, none⟩)] w fun e w' => e = .returned (.tuple #[]) ∧ (∃ lv, Log w' n0 L Lim limit lv (takeI limit (S.flatMap (vis ms sq hd)))) ∧ KeepI lo w0 w' ∧
      ∃ v' xs', GHeap w' ms sq hd base H v' xs' ∧ xs'.Perm S ∧ HeapN (key ms sq) xs' xs'.length ∧ base ≤ w'.heap.size := by
  obtain ⟨qs, bQ, hqs⟩ := bQ
  have c1 : w.cell? ⟨qb, 0, none⟩ = some (.pointer (some ⟨Q, 0, none⟩)) := bq.cell 0
  have c2 : w.cell? ⟨Q, 24, none⟩ = some (.pointer (some ⟨H, 0, none⟩)) := by rw [bQ.cell 24]; exact hqs
  have l1 := bq.lt
  have l2 := bQ.lt
  refine (callsIn_wide (n := 9)).1 ?_
  refine callsIn_of_wp_marks Yba.func38 rfl trivial ?_
  simp only [Yba.ntmps38, List.size_toArray, List.length_cons, List.length_nil, Nat.reduceAdd, Nat.reduceSub, Array.replicate_succ, Array.replicate_zero, List.push_toArray, List.append_toArray, List.nil_append, List.cons_append]
  gi_wp2_with (refine ⟨trivial, ?_⟩; gi_at_call 39; refine (callsIn_wide.2 (inOrder39 _ H)).mono ?_; rintro e w' ⟨rfl, rfl⟩)
  obtain ⟨Wa, hWa⟩ : ∃ Wa, Wa = (w.alloc (.cells #[.func (.func 28) #[] #[.pointer (some ⟨L, 0, none⟩), .pointer (some ⟨Lim, 0, none⟩)]] 115)).alloc (.cells #[.pointer (some ⟨H, 0, none⟩)] 81) := ⟨_, rfl⟩
  have sza : Wa.heap.size = w.heap.size + 2 := by rw [hWa]; simp
  rw [← hWa]
  have e47 : ∀ (args : Array Value) (w : World), (callFunc 47 args).run Yba.prog w = .ok (.enter 47 args) w := enters_of Yba.func47 (by kernel_rfl) rfl
  refine wpIn_range_at (gf := 47) (lb := #[.pointer (some ⟨w.heap.size + 1, 0, none⟩)]) rfl e47 ?_
  intro fn r hr
  have hst0 : r.state = .ready := by rw [hr]
  have hpe0 : r.pending = none := by rw [hr]
  have hnc : ∀ (r : Loop) cs t fr, Obj.loop r ≠ .cells cs t fr := by intro _ _ _ _ e; cases e
  have hkw : KeepI lo w ((Wa.alloc (.deferred (some []))).alloc (.loop r)) := by
    rw [hWa]; exact ((((KeepI.alloc w _).trans (.alloc _ _)).trans (.alloc _ _)).trans (.alloc _ _))
  have hkb : KeepB w ((Wa.alloc (.deferred (some []))).alloc (.loop r)) := by
    rw [hWa]; exact ⟨by simp; omega, fun b t cs _ _ hb => (((hb.alloc _).alloc _).alloc _).alloc _⟩
  have hRS0 : RS w0 ((Wa.alloc (.deferred (some []))).alloc (.loop r)) lo n0 L Lim limit w.heap.size (Wa.heap.size + 1) Wa.heap.size (.loop r) [] := by
    have hl0 : Log ((Wa.alloc (.deferred (some []))).alloc (.loop r)) n0 L Lim limit (.slice none 0 0) [] :=
      ⟨hkw.blk hlog.box (fun _ => by decide), hkw.blk hlog.lim (fun _ => by decide), World.ownsRow_nil _ _ _ _, hlog.lt, hlog.lt2, Nat.le_trans hlog.few hkw.size⟩
    refine ⟨⟨_, hl0⟩, ?_, ?_, ?_, hfr.trans hkw, geL, gen, ?_, ?_, by omega⟩
    · rw [hWa]; exact (((Blk.new w _ _).alloc _).alloc _).alloc _
    · have := World.alloc_heap_new (Wa.alloc (.deferred (some []))) (.loop r)
      rwa [World.size_alloc] at this
    · exact (Below.heap_alloc _ _ _ (by simp)).trans (World.alloc_heap_new Wa _)
    · have := hfr.size; omega
    · have := hfr.size; omega
  have hbx : Blk ((Wa.alloc (.deferred (some []))).alloc (.loop r)) (w.heap.size + 1) 81 #[.pointer (some ⟨H, 0, none⟩)] := by
    rw [hWa]
    have := Blk.new (w.alloc (.cells #[.func (.func 28) #[] #[.pointer (some ⟨L, 0, none⟩), .pointer (some ⟨Lim, 0, none⟩)]] 115)) 81 #[.pointer (some ⟨H, 0, none⟩)]
    rw [World.size_alloc] at this
    exact (this.alloc _).alloc _
  have hs1 : lo ≤ ((Wa.alloc (.deferred (some []))).alloc (.loop r)).heap.size := by have := hkw.size; have := hfr.size; omega
  have hs2 : base ≤ ((Wa.alloc (.deferred (some []))).alloc (.loop r)).heap.size := by have := hkw.size; have := hfr.size; omega
  have hh := h.keepB hkb
  obtain ⟨W1, hW1⟩ : ∃ W1, W1 = (Wa.alloc (.deferred (some []))).alloc (.loop r) := ⟨_, rfl⟩
  obtain ⟨D, hD⟩ : ∃ D, D = Wa.heap.size := ⟨_, rfl⟩
  rw [← hW1] at hs1 hs2 hh hRS0 hbx ⊢
  rw [← hD] at hRS0 hr ⊢
  clear hkw hkb hW1 hD sza hWa h hlog hfr bq bQ c1 c2 l1 l2 hqs e47 Wa
  refine (inorder47 (D + 1) lo base H (w.heap.size + 1) S
    (fun pre W => ∃ ls, RS w0 W lo n0 L Lim limit w.heap.size (D + 1) D (.loop r) ls ∧ ls = pre.flatMap (vis ms sq hd) ∧ open38 limit ls)
    (fun pre W => ∃ ls, RS w0 W lo n0 L Lim limit w.heap.size (D + 1) D (.loop { r with state := .done, pending := some .ret }) ls ∧ ls <+: pre.flatMap (vis ms sq hd) ∧ (ls.length : Int) = limit)
    st ?_ ?_ ?_ _ v xs hh ho hp hbx ⟨[], hRS0, rfl, hop⟩ ?_ ?_).mono ?_
  · rintro pre W W' ⟨ls, h1, h2, h3⟩ hk
    exact ⟨ls, h1.keepI (hnc _) hk, h2, h3⟩
  · rintro pre W W' ⟨ls, h1, h2, h3⟩ hk
    exact ⟨ls, h1.keepI (hnc _) hk, h2, h3⟩
  · rintro k g W hg ⟨ls, hRS, hls, hopn⟩ hG
    suffices hall : ∀ R : Ending → World → Prop, (∀ (e : Ending) (W' : World), (((e = .returned (.bool true) ∧ ∃ ls, RS w0 W' lo n0 L Lim limit w.heap.size (D + 1) D (.loop r) ls ∧ ls = (S.take k ++ [g]).flatMap (vis ms sq hd) ∧ open38 limit ls) ∨
        (e = .returned (.bool false) ∧ ∃ ls, RS w0 W' lo n0 L Lim limit w.heap.size (D + 1) D (.loop { r with state := .done, pending := some .ret }) ls ∧ ls <+: (S.take k ++ [g]).flatMap (vis ms sq hd) ∧ (ls.length : Int) = limit)) ∧ KeepB W W') → R e W') → YieldAt Fence.wide 7 Yba.prog (D + 1) #[.pointer (some ⟨g, 0, none⟩)] W R from hall _ (fun _ _ h => h)
    intro R hR
    have HRp : Hid (∀ (e : Ending) (W' : World), (((e = .returned (.bool true) ∧ ∃ ls, RS w0 W' lo n0 L Lim limit w.heap.size (D + 1) D (.loop r) ls ∧ ls = (S.take k ++ [g]).flatMap (vis ms sq hd) ∧ open38 limit ls) ∨
        (e = .returned (.bool false) ∧ ∃ ls, RS w0 W' lo n0 L Lim limit w.heap.size (D + 1) D (.loop { r with state := .done, pending := some .ret }) ls ∧ ls <+: (S.take k ++ [g]).flatMap (vis ms sq hd) ∧ (ls.length : Int) = limit)) ∧ KeepB W W') → R e W') := hR
    clear hR
    refine yield_at hRS.rcd hst0 (by rw [hr]; rfl) ?_
    have hRB := hRS.putRec (hnc _) (.loop { r with state := .busy })
    have hbr := run_beginRound (P := Yba.prog) hRS.rcd hst0
    obtain ⟨W2, hW2⟩ : ∃ W2, W2 = W.putObj (D + 1) (.loop { r with state := .busy }) := ⟨_, rfl⟩
    rw [← hW2] at hRB hbr
    obtain ⟨hRS2, hKB2⟩ := hRB
    have hG2 := hG.keepB hKB2
    obtain ⟨⟨rr, cap, rs, hb1, hb2, hb3, hb4⟩, hb5, hb6⟩ := hG2
    have hgS : g ∈ S := List.mem_iff_getElem?.2 ⟨k, hg⟩
    have hm5 := hmany g hgS
    have d1 : W2.cell? ⟨g, 1, none⟩ = some (.slice (some ⟨rr, 0, none⟩) (ms g).length cap) := hb1.cell 1
    have hlsb : ls.length ≤ 5 * k := by
      have h1 := length_flatMap_le (vis ms sq hd) 5 (S.take k) (fun g hg => Nat.le_trans (vis_len g) (hmany g (List.mem_of_mem_take hg)))
      rw [← hls, List.length_take] at h1
      have : min k S.length ≤ k := Nat.min_le_left _ _
      omega
    have endN : ∀ {W3 : World} {ls3 : List Int}, RS w0 W3 lo n0 L Lim limit w.heap.size (D + 1) D (.loop { r with state := .busy }) ls3 → RS w0 (W3.putObj (D + 1) (.loop { { r with state := .busy } with state := if (none : Option Code).isNone then .ready else .done, pending := none })) lo n0 L Lim limit w.heap.size (D + 1) D (.loop r) ls3 ∧ KeepB W3 (W3.putObj (D + 1) (.loop { { r with state := .busy } with state := if (none : Option Code).isNone then .ready else .done, pending := none })) := by
      intro W3 ls3 h3
      have h4 := h3.putRec (hnc _) (.loop { { r with state := .busy } with state := if (none : Option Code).isNone then .ready else .done, pending := none })
      have e : ({ { r with state := .busy } with state := if (none : Option Code).isNone then .ready else .done, pending := none } : Loop) = r := by
        rw [hr]; rfl
      rw [e] at h4 ⊢
      exact h4
    have hk9 : k < 1000 := by have := (List.getElem?_eq_some_iff.1 hg).1; have := st.few; omega
    have HR : Hid (RS w0 W2 lo n0 L Lim limit w.heap.size (D + 1) D (.loop { r with state := .busy }) ls ∧ KeepB W W2 ∧ ls = (S.take k).flatMap (vis ms sq hd)) := ⟨hRS2, hKB2, hls⟩
    have HRR := hr
    rw [hr]
    dsimp only
    have HR2 : Hid (r = _) := HRR
    clear HRR hRS2 hKB2 hls hr hW2 hRS hG hs1 hs2 hh hRS0 hbx ho hp hmany
    gi_wp2_with fail
    gi_loopw [17] (fun q wr => ∃ i : Nat, i ≤ (ms g).length ∧ q = .int .i64 i ∧ RS w0 wr lo n0 L Lim limit w.heap.size (D + 1) D (.loop { r with state := .busy }) (ls ++ ((ms g).take i).map sq) ∧ KeepB W2 wr ∧ (∀ m, m ∈ (ms g).take i → hd m = 0) ∧ open38 limit (ls ++ ((ms g).take i).map sq)) (fun q _ => (ms g).length - (intOf q).toNat)
    case atStart =>
      refine ⟨0, Nat.zero_le _, rfl, ?_, .refl _, by simp, ?_⟩
      · simpa using HR.out.1
      · simpa using hopn
    case round =>
      obtain ⟨i, hi, rfl, hRr, hKr, hvi, hoi⟩ := hrel
      have HRr : Hid (RS w0 wr lo n0 L Lim limit w.heap.size (D + 1) D (.loop { r with state := .busy }) (ls ++ ((ms g).take i).map sq) ∧ KeepB W2 wr ∧ (∀ m, m ∈ (ms g).take i → hd m = 0) ∧ open38 limit (ls ++ ((ms g).take i).map sq)) := ⟨hRr, hKr, hvi, hoi⟩
      have hvb : ∀ m, m ∈ (ms g).take i → (hd m == 0) = true := fun m hm => by simpa using hvi m hm
      have HVB : Hid (∀ m, m ∈ (ms g).take i → (hd m == 0) = true) := hvb
      have hyb : wr.cell? ⟨w.heap.size, 0, none⟩ = some (.func (.func 28) #[] #[.pointer (some ⟨L, 0, none⟩), .pointer (some ⟨Lim, 0, none⟩)]) := hRr.ybox.cell 0
      have herN := run_endRound (P := Yba.prog) none hRr.rcd
      have herR := run_endRound (P := Yba.prog) (some .ret) hRr.rcd
      by_cases hlt : i < (ms g).length
      · obtain ⟨m, hm⟩ : ∃ m, (ms g)[i]? = some m := ⟨(ms g)[i], by simp [hlt]⟩
        have hmm : m ∈ ms g := List.mem_iff_getElem?.2 ⟨i, hm⟩
        obtain ⟨cs, bm, cm0, cm35⟩ := hb5 m hmm
        have bmr := hKr.blk m 61 cs (by decide) (by decide) bm
        have brr := hKr.blk rr 53 rs (by decide) (by decide) hb3
        have x1 : wr.cell? ⟨rr, i, none⟩ = some (.pointer (some ⟨m, 0, none⟩)) := by rw [brr.cell i]; exact hb4 i m hm
        have x2 : wr.cell? ⟨m, 35, none⟩ = some (.int .i64 (hd m)) := by rw [bmr.cell 35]; exact cm35
        have x3 : wr.cell? ⟨m, 0, none⟩ = some (.int .u64 (sq m)) := by rw [bmr.cell 0]; exact cm0
        have HM : Hid ((ms g)[i]? = some m) := hm
        obtain ⟨lv, hlg⟩ := hRr.log
        have hmL : m ≠ L := blk_ne bmr hlg.box (by decide)
        have hlen9 : (ls ++ ((ms g).take i).map sq).length < 5000 := by simp; omega
        have hC := log28 wr n0 L Lim m limit (sq m) lv _ hlg hlen9 hlim x3 ⟨61, cs, bmr, by decide⟩ hmL
        obtain ⟨bb, hbb⟩ : ∃ bb, bb = (decide (limit < 0) || decide (((ls ++ ((ms g).take i).map sq).length : Int) + 1 < limit)) := ⟨_, rfl⟩
        rw [← hbb] at hC
        have HBB : Hid (bb = (decide (limit < 0) || decide (((ls ++ ((ms g).take i).map sq).length : Int) + 1 < limit))) := hbb
        clear hbb
        have HCs : Hid (Calls Yba.prog 28 #[.pointer (some ⟨m, 0, none⟩), .pointer (some ⟨L, 0, none⟩), .pointer (some ⟨Lim, 0, none⟩)] wr fun e w' => e = .returned (.bool bb) ∧ ∃ lv', Log w' n0 L Lim limit lv' ((ls ++ ((ms g).take i).map sq) ++ [sq m]) ∧
          Keeps (fun b => b = L ∨ some b = lv.ownBlock) wr w' ∧ (lv'.ownBlock = lv.ownBlock ∨ ∃ r, lv'.ownBlock = some r ∧ wr.heap.size ≤ r)) := hC
        have HLG : Hid (Log wr n0 L Lim limit lv (ls ++ ((ms g).take i).map sq)) := hlg
        clear hC hlg hRr hKr hvi hoi hvb hm cm0 cm35 bm hb4 hb5
        by_cases hz : hd m = 0
        · have hz' : (hd m != 0) = false := by simpa using hz
          have htk : (ms g).take (i + 1) = (ms g).take i ++ [m] := by rw [List.take_add_one, HM.out]; rfl
          have hls2 : (ls ++ ((ms g).take i).map sq) ++ [sq m] = ls ++ ((ms g).take (i + 1)).map sq := by rw [htk]; simp
          have hv2 : ∀ m', m' ∈ (ms g).take (i + 1) → hd m' = 0 := by
            intro m' hm'
            rw [htk] at hm'
            rcases List.mem_append.1 hm' with h | h
            · exact HRr.out.2.2.1 m' h
            · rw [List.mem_singleton.1 h]; exact hz
          have HT : Hid ((ls ++ ((ms g).take i).map sq) ++ [sq m] = ls ++ ((ms g).take (i + 1)).map sq ∧ ∀ m', m' ∈ (ms g).take (i + 1) → hd m' = 0) := ⟨hls2, hv2⟩
          clear htk hls2 hv2
          gi_wp2_with fail
          refine ⟨trivial, (CallsIn.inRound (D + 1) (callsIn_wide.2 HCs.out)).mono ?_⟩
          rintro e w3 ⟨rfl, lv', q1, q2, q3⟩
          have hst := HRr.out.1.logged (hnc _) HLG.out q1 q2
          have HST : Hid (RS w0 w3 lo n0 L Lim limit w.heap.size (D + 1) D (.loop { r with state := .busy }) ((ls ++ ((ms g).take i).map sq) ++ [sq m]) ∧ KeepB wr w3) := hst
          have herR3 := run_endRound (P := Yba.prog) (some .ret) hst.1.rcd
          clear hst q1 q2 q3 herN herR HCs x1 x2 x3 hyb
          cases bb with
          | true =>
            gi_wp2_with fail
            go_roundw
            case rel =>
              refine ⟨i + 1, by omega, by go_num, ?_, HRr.out.2.1.trans HST.out.2, HT.out.2, ?_⟩
              · rw [← HT.out.1]; exact HST.out.1
              · rw [← HT.out.1]
                have hb := HBB.out
                unfold open38
                simp only [List.length_append, List.length_cons, List.length_nil]
                simp at hb
                rcases hb with hb | hb
                · exact .inl hb
                · right; simp; omega
            case measure => simp [intOf]; omega
          | false =>
            gi_wp2_with fail
            refine ⟨_, _, herR3, HRp.out _ _ ?_⟩
            have hq := HST.out.1.putRec (hnc _) (.loop { { r with state := .busy } with state := if (some Code.ret : Option Code).isNone then .ready else .done, pending := some .ret })
            refine ⟨.inr ⟨rfl, _, hq.1, ?_, ?_⟩, ((HR.out.2.1.trans HRr.out.2.1).trans HST.out.2).trans hq.2⟩
            · rw [HT.out.1, HR.out.2.2, List.flatMap_append]
              simp only [List.flatMap_cons, List.flatMap_nil, List.append_nil, vis]
              refine (List.prefix_append_right_inj _).2 ?_
              exact (takeWhile_pre _ _ (i + 1) (fun m' hm' => by simpa using HT.out.2 m' hm')).map sq
            · have hb := HBB.out
              have ho := HRr.out.2.2.2
              unfold open38 at ho
              simp at hb
              simp only [List.length_append, List.length_cons, List.length_nil] at ho ⊢
              simp at ho ⊢
              omega
        · have hz' : (hd m != 0) = true := by simpa using hz
          gi_wp2_with fail
          refine ⟨_, _, herN, HRp.out _ _ ?_⟩
          have hq := endN HRr.out.1
          refine ⟨.inl ⟨rfl, _, hq.1, ?_, HRr.out.2.2.2⟩, (HR.out.2.1.trans HRr.out.2.1).trans hq.2⟩
          rw [HR.out.2.2, List.flatMap_append]
          congr 1
          simp only [List.flatMap_cons, List.flatMap_nil, List.append_nil, vis]
          rw [takeWhile_stop _ _ i HVB.out (fun m' hm' => by rw [HM.out] at hm'; cases hm'; simpa using hz)]
      · gi_wp2_with fail
        refine ⟨_, _, herN, HRp.out _ _ ?_⟩
        have hq := endN HRr.out.1
        refine ⟨.inl ⟨rfl, _, hq.1, ?_, HRr.out.2.2.2⟩, (HR.out.2.1.trans HRr.out.2.1).trans hq.2⟩
        rw [HR.out.2.2, List.flatMap_append]
        congr 1
        simp only [List.flatMap_cons, List.flatMap_nil, List.append_nil, vis]
        rw [takeWhile_stop _ _ i HVB.out (fun m' hm' => by have := (List.getElem?_eq_some_iff.1 hm').1; omega)]
  · exact hs1
  · exact hs2
  · rintro e w' ⟨rfl, v', xs', g1, g2, g3, g4⟩
    rcases g4 with ⟨ls, hRS, hls, hopn⟩ | ⟨k, hk0, hkS, ls, hRS, hls, hlen⟩
    · have hq := hRS.putRec (hnc _) (.loop { r with state := .exhausted })
      refine ⟨none, w'.putObj (D + 1) (.loop { r with state := .exhausted }), by rw [run_endLoop hRS.rcd (by rw [hst0]; simp), hpe0], ?_⟩
      have e1 : takeI limit (S.flatMap (vis ms sq hd)) = ls := by
        unfold takeI
        rw [← hls]
        rcases hopn with h1 | h1
        · rw [if_pos h1]
        · rw [if_neg (by omega), List.take_of_length_le (by omega)]
      obtain ⟨W4, hW4⟩ : ∃ W4, W4 = w'.putObj (D + 1) (.loop { r with state := .exhausted }) := ⟨_, rfl⟩
      rw [← hW4] at hq ⊢
      have hdoor := leave38 hq.1 e1 hbs (g1.keepB hq.2) g2 g3
      have HDR : Hid (∀ tmps : Array Value, LeavesInM Fence.wide 9 Yba.prog Yba.f38 tmps (fun e w' => e = .returned (.tuple #[]) ∧ (∃ lv, Log w' n0 L Lim limit lv (takeI limit (S.flatMap (vis ms sq hd)))) ∧ KeepI lo w0 w' ∧
        ∃ v' xs', GHeap w' ms sq hd base H v' xs' ∧ xs'.Perm S ∧ HeapN (key ms sq) xs' xs'.length ∧ base ≤ w'.heap.size) [{ target := .collected D, args := #[] }] .returning W4) := hdoor
      clear hW4 hq hr hdoor e1
      gi_wp2_with fail
      exact HDR.out _
    · have hq := hRS.putRec (hnc _) (.loop { { r with state := .done, pending := some .ret } with state := .exhausted })
      refine ⟨some .ret, w'.putObj (D + 1) (.loop { { r with state := .done, pending := some .ret } with state := .exhausted }), by rw [run_endLoop hRS.rcd (by simp)], ?_⟩
      have e1 : takeI limit (S.flatMap (vis ms sq hd)) = ls := by
        unfold takeI
        rw [if_neg (by omega)]
        have hpre : ls <+: S.flatMap (vis ms sq hd) := by
          refine hls.trans ?_
          conv => rhs; rw [← List.take_append_drop k S, List.flatMap_append]
          exact List.prefix_append _ _
        have := List.prefix_iff_eq_take.1 hpre
        rw [this]
        congr 1
        omega
      obtain ⟨W4, hW4⟩ : ∃ W4, W4 = w'.putObj (D + 1) (.loop { { r with state := .done, pending := some .ret } with state := .exhausted }) := ⟨_, rfl⟩
      rw [← hW4] at hq ⊢
      have hdoor := leave38 hq.1 e1 hbs (g1.keepB hq.2) g2 g3
      have HDR : Hid (∀ tmps : Array Value, LeavesInM Fence.wide 9 Yba.prog Yba.f38 tmps (fun e w' => e = .returned (.tuple #[]) ∧ (∃ lv, Log w' n0 L Lim limit lv (takeI limit (S.flatMap (vis ms sq hd)))) ∧ KeepI lo w0 w' ∧
        ∃ v' xs', GHeap w' ms sq hd base H v' xs' ∧ xs'.Perm S ∧ HeapN (key ms sq) xs' xs'.length ∧ base ≤ w'.heap.size) [{ target := .collected D, args := #[] }] .returning W4) := hdoor
      clear hW4 hq hr hdoor e1
      gi_wp2_with fail
      exact HDR.out _
end Go.Proofs.Ybulkbrrw
