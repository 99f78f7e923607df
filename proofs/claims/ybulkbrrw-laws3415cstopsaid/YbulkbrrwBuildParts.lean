import Derived.Test.YbulkbrrwStart
namespace Go.Proofs.Ybulkbrrw
open Go.RowKit Go.Deep
set_option linter.unusedVariables false
set_option linter.unusedSimpArgs false
theorem Yba.info3 : (Yba.prog.info? 3).map (fun i => (i.zero, i.size, i.bytes)) = some (some (.int .i64 0), 1, 8) := by kernel_rfl
theorem Yba.info53 : (Yba.prog.info? 53).map (fun i => (i.zero, i.size, i.bytes)) = some (some (.pointer none), 1, 8) := by kernel_rfl

def bs (K : Nat → Nat) (i : Nat) : Nat := K i * 1024 + i
def cnt (K : Nat → Nat) (i : Nat) : Nat := 1 + K i % 5


/-- A group in the making: its block g, j messages. -/
structure Bld (wr ws : World) (K : Nat → Nat) (hs : List Bool) (i j g : Nat) (mv : Value) (M : List Nat) : Prop where
  grp : Blk ws g 108 #[.string { data := #[] }, mv, .int .i64 0, .int .i64 (-1)]
  own : ws.ownsRow (g + 1) 53 1 mv M.length (M.map pt)
  len : M.length = j
  msg : ∀ (t m : Nat), M[t]? = some m → ∃ cs, Blk ws m 61 cs ∧ cs[0]? = some (.int .u64 (((bs K i * 8 + t : Nat)) : Int)) ∧ cs[35]? = some (.int .i64 (if hidF hs i t then 1 else 0))
  below : Below wr.heap.size wr ws
  gwr : g = wr.heap.size
  ge : ∀ m, m ∈ M → wr.heap.size ≤ m

theorem Bld.step {wr ws w3 : World} {K : Nat → Nat} {hs : List Bool} {i j g : Nat} {mv : Value} {M : List Nat} {r cap : Nat} {cs : Array Value} {o : Obj} (h : Bld wr ws K hs i j g mv M)
    (c0 : cs[0]? = some (.int .u64 (((bs K i * 8 + j : Nat)) : Int))) (c35 : cs[35]? = some (.int .i64 (if hidF hs i j then 1 else 0)))
    (hg : ((ws.alloc (.cells cs 61)).alloc o).grownBy w3 mv.ownBlock) (ho : w3.ownsRow (g + 1) 53 1 (.slice (some ⟨r, 0, none⟩) (M.length + 1) cap) (M.length + 1) (M.map pt ++ [pt ws.heap.size])) :
    Bld wr (w3.setCell ⟨g, 1, none⟩ (.slice (some ⟨r, 0, none⟩) (M.length + 1) cap)) K hs i (j + 1) g (.slice (some ⟨r, 0, none⟩) (M.length + 1) cap) (M ++ [ws.heap.size]) := by
  have hbm : Blk (ws.alloc (.cells cs 61)) ws.heap.size 61 cs := Blk.new _ _ _
  have hnb : ∀ b t cs, Blk ws b t cs → t ≠ 53 → Blk w3 b t cs := fun b t cs hb ht => ((hb.alloc _).alloc _).grown hg (own_ne h.own hb ht)
  have hbm3 : Blk w3 ws.heap.size 61 cs := (hbm.alloc _).grown hg (own_ne (h.own.alloc _) hbm (by decide))
  have hg3 := hnb _ _ _ h.grp (by decide)
  have hsz := h.below.size
  have hw1 : Below wr.heap.size wr w3 := (((h.below.alloc hsz _).alloc (by simp; omega) _).grown hg (by simp; omega) (fun k e => by have := (h.own.lt k e).1; have := h.gwr; omega))
  refine ⟨hg3.set 1 _, ?_, by simp [h.len], ?_, hw1.setCell (p := ⟨g, 1, none⟩) (by have := h.gwr; show wr.heap.size ≤ g; omega) _, h.gwr, ?_⟩
  · have := ownsRow_setCell_below ho (a := ⟨g, 1, none⟩) (by show g < g + 1; omega) (.slice (some ⟨r, 0, none⟩) (M.length + 1) cap)
    simpa using this
  · intro t m hm
    by_cases ht : t < M.length
    · rw [List.getElem?_append_left ht] at hm
      obtain ⟨ds, d1, d2, d3⟩ := h.msg t m hm
      exact ⟨ds, (hnb _ _ _ d1 (by decide)).setOther (a := ⟨g, 1, none⟩) (blk_ne d1 h.grp (by decide)) _, d2, d3⟩
    · rw [List.getElem?_append_right (by omega)] at hm
      have ht2 : t - M.length = 0 := by
        have := (List.getElem?_eq_some_iff.1 hm).1
        simp at this; omega
      rw [ht2] at hm
      simp at hm
      subst hm
      have ht3 : t = j := by have := h.len; omega
      subst ht3
      exact ⟨cs, hbm3.setOther (a := ⟨g, 1, none⟩) (by have := h.grp.lt; show ws.heap.size ≠ g; omega) _, c0, c35⟩
  · intro m hm
    rcases List.mem_append.1 hm with hm | hm
    · exact h.ge m hm
    · simp at hm; omega

theorem Grp.agree {w : World} {ms ms' : Nat → List Nat} {sq sq' hd hd' : Nat → Int} {g : Nat} {idx : Int} (h : Grp w ms sq hd g idx) (e1 : ms' g = ms g) (e2 : ∀ m, m ∈ ms g → sq' m = sq m ∧ hd' m = hd m) : Grp w ms' sq' hd' g idx := by
  obtain ⟨⟨r, cap, rs, h1, h2, h3, h4⟩, h5, h6⟩ := h
  refine ⟨⟨r, cap, rs, by rw [e1]; exact h1, by rw [e1]; exact h2, h3, by rw [e1]; exact h4⟩, fun m hm => ?_, by rw [e1]; exact h6⟩
  rw [e1] at hm
  obtain ⟨cs, c1, c2, c3⟩ := h5 m hm
  exact ⟨cs, c1, by rw [(e2 m hm).1]; exact c2, by rw [(e2 m hm).2]; exact c3⟩

theorem GHeap.below {w w' : World} {ms : Nat → List Nat} {sq hd : Nat → Int} {base H : Nat} {v : Value} {xs : List Nat} (h : GHeap w ms sq hd base H v xs) (hb : Below w.heap.size w w') : GHeap w' ms sq hd base H v xs := by
  have hk : Keeps (fun _ => False) w w' := ⟨hb.os, hb.tape, hb.output, hb.size, fun b h _ => hb.block b h⟩
  refine ⟨h.obj.keeps hk (by simp), ⟨h.own.1, ?_⟩, fun i g hg => (h.grp i g hg).keeps hk (by simp), h.lt, h.few⟩
  rcases h.own.2 with e | ⟨g, cap, cur, e1, e2, e3, e4⟩
  · exact .inl e
  · have : Blk w g 100 cur := e3
    exact .inr ⟨g, cap, cur, e1, e2, this.keeps hk (by simp), e4⟩

theorem GHeap.lts {w : World} {ms : Nat → List Nat} {sq hd : Nat → Int} {base H : Nat} {v : Value} {xs : List Nat} (h : GHeap w ms sq hd base H v xs) {g : Nat} (hg : g ∈ xs) : g < w.heap.size ∧ ∀ m, m ∈ ms g → m < w.heap.size := by
  obtain ⟨i, hi⟩ := List.mem_iff_getElem?.1 hg
  have gg := h.grp i g hi
  obtain ⟨gs, bg, _⟩ := gg.blk
  refine ⟨bg.lt, fun m hm => ?_⟩
  obtain ⟨cs, c1, _⟩ := gg.msgs m hm
  exact c1.lt

/-- i groups have been built and pushed. -/
structure StB (w wr : World) (Q H Bb base n : Nat) (K : Nat → Nat) (hs : List Bool) (i : Nat) (ms : Nat → List Nat) (sq hd : Nat → Int) (v : Value) (xs G : List Nat) : Prop where
  q : ∃ cs, Blk wr Q 85 cs ∧ cs[24]? = some (.pointer (some ⟨H, 0, none⟩))
  row : wr.rowIs Bb 24 n (fun t => .int .u64 (bs K t : Int))
  heap : GHeap wr ms sq hd base H v xs
  ord : HeapN (key ms sq) xs xs.length
  perm : xs.Perm G
  len : G.length = i
  desc : ∀ (t g : Nat), G[t]? = some g → w.heap.size ≤ g ∧ (ms g).length = cnt K t ∧ ∀ (j m : Nat), (ms g)[j]? = some m → sq m = ((bs K t * 8 + j : Nat) : Int) ∧ hd m = (if hidF hs t j then 1 else 0)
  below : Below w.heap.size w wr
  size : base ≤ wr.heap.size

/-- What a block's cell holds, as a number. -/
def rd (w : World) (b i : Nat) : Int := match w.cell? ⟨b, i, none⟩ with
  | some (.int _ z) => z
  | _ => 0

theorem HeapN.agree {k k' : Nat → Int} {xs : List Nat} {n : Nat} (h : HeapN k xs n) (hn : n ≤ xs.length) (e : ∀ g, g ∈ xs → k' g = k g) : HeapN k' xs n := by
  intro i h0 hi
  have m1 : xs.getD ((i - 1) / 2) 0 ∈ xs := by
    rw [List.getD_eq_getElem?_getD, List.getElem?_eq_getElem (by omega)]; simp
  have m2 : xs.getD i 0 ∈ xs := by
    rw [List.getD_eq_getElem?_getD, List.getElem?_eq_getElem (by omega)]; simp
  rw [e _ m1, e _ m2]
  exact h i h0 hi

/-- The built group made known: the functions turned at the new blocks. -/
theorem StB.ready {w wr ws : World} {Q H Bb base n : Nat} {K : Nat → Nat} {hs : List Bool} {i : Nat} {ms : Nat → List Nat} {sq hd : Nat → Int} {v : Value} {xs G : List Nat} {g : Nat} {mv : Value} {M : List Nat}
    (h : StB w wr Q H Bb base n K hs i ms sq hd v xs G) (hb : Bld wr ws K hs i (cnt K i) g mv M) :
    ∃ ms' sq' hd', StB w ws Q H Bb base n K hs i ms' sq' hd' v xs G ∧ Grp ws ms' sq' hd' g (-1) ∧ g ∉ xs ∧ (ms' g).length = cnt K i ∧ ∀ (j m : Nat), (ms' g)[j]? = some m → sq' m = ((bs K i * 8 + j : Nat) : Int) ∧ hd' m = (if hidF hs i j then 1 else 0) := by
  have hlt : ∀ p, p ∈ xs → p < wr.heap.size ∧ ∀ m, m ∈ ms p → m < wr.heap.size := fun p hp => h.heap.lts hp
  have hGx : ∀ p, p ∈ G ↔ p ∈ xs := fun p => h.perm.mem_iff.symm
  refine ⟨fun x => if x < wr.heap.size then ms x else M, fun m => if m < wr.heap.size then sq m else rd ws m 0, fun m => if m < wr.heap.size then hd m else rd ws m 35, ?_, ?_, ?_, ?_, ?_⟩
  · have hms : ∀ p, p ∈ xs → (if p < wr.heap.size then ms p else M) = ms p := fun p hp => if_pos (hlt p hp).1
    have hagr : ∀ p, p ∈ xs → ∀ m, m ∈ ms p → (if m < wr.heap.size then sq m else rd ws m 0) = sq m ∧ (if m < wr.heap.size then hd m else rd ws m 35) = hd m := by
      intro p hp m hm
      have := (hlt p hp).2 m hm
      exact ⟨if_pos this, if_pos this⟩
    have hh := h.heap.below hb.below
    obtain ⟨qs, bq, hq⟩ := h.q
    refine ⟨⟨qs, bq.of_block (hb.below.block _ bq.lt), hq⟩, h.row.of_block (hb.below.block _ h.row.lt), ⟨hh.obj, hh.own, fun t p hp => ?_, hh.lt, hh.few⟩, ?_, h.perm, h.len, ?_, h.below.trans (hb.below.mono h.below.size), Nat.le_trans h.size hb.below.size⟩
    · have hpx : p ∈ xs := List.mem_iff_getElem?.2 ⟨t, hp⟩
      exact (hh.grp t p hp).agree (hms p hpx) (fun m hm => hagr p hpx m hm)
    · refine h.ord.agree (Nat.le_refl _) (fun p hp => ?_)
      have hne : ms p ≠ [] := by
        obtain ⟨t, ht⟩ := List.mem_iff_getElem?.1 hp
        exact (h.heap.grp t p ht).ne
      obtain ⟨a, l, e⟩ := List.exists_cons_of_ne_nil hne
      unfold key
      dsimp only
      rw [hms p hp, e]
      exact (hagr p hp a (by rw [e]; simp)).1
    · intro t p hp
      have hpx : p ∈ xs := (hGx p).1 (List.mem_iff_getElem?.2 ⟨t, hp⟩)
      obtain ⟨d1, d2, d3⟩ := h.desc t p hp
      refine ⟨d1, by rw [hms p hpx]; exact d2, fun j m hm => ?_⟩
      rw [hms p hpx] at hm
      have hmm : m ∈ ms p := List.mem_iff_getElem?.2 ⟨j, hm⟩
      rw [(hagr p hpx m hmm).1, (hagr p hpx m hmm).2]
      exact d3 j m hm
  · have hmg : (if g < wr.heap.size then ms g else M) = M := if_neg (by have := hb.gwr; omega)
    rcases hb.own.2 with ⟨_, h0⟩ | ⟨r, cap, cur, e1, e2, e3, e4, e5, e6, e7⟩
    · exfalso
      have := hb.len
      unfold cnt at this
      omega
    · subst e1
      refine ⟨⟨r, cap, cur, ?_, ?_, e3, ?_⟩, ?_, ?_⟩
      · show Blk ws g 108 #[_, .slice _ (if g < wr.heap.size then ms g else M).length _, _, _]
        rw [hmg]; exact hb.grp
      · show (if g < wr.heap.size then ms g else M).length ≤ cap
        rw [hmg]; exact e4
      · intro t m hm
        have hm' : M[t]? = some m := by
          have : (if g < wr.heap.size then ms g else M)[t]? = some m := hm
          rwa [hmg] at this
        have ht := (List.getElem?_eq_some_iff.1 hm').1
        have h1 : (cur.toList.take (M.length * 1))[t]? = some (pt m) := by rw [e7, List.getElem?_map, hm']; rfl
        rw [Nat.mul_one, List.getElem?_take_of_lt ht] at h1
        simpa using h1
      · intro m hm
        have hm' : m ∈ M := by
          have : m ∈ (if g < wr.heap.size then ms g else M) := hm
          rwa [hmg] at this
        obtain ⟨t, ht⟩ := List.mem_iff_getElem?.1 hm'
        obtain ⟨cs, c1, c2, c3⟩ := hb.msg t m ht
        have hge := hb.ge m hm'
        refine ⟨cs, c1, ?_, ?_⟩
        · show cs[0]? = some (.int .u64 (if m < wr.heap.size then sq m else rd ws m 0))
          rw [if_neg (by omega)]
          unfold rd
          rw [c1.cell 0, c2]
        · show cs[35]? = some (.int .i64 (if m < wr.heap.size then hd m else rd ws m 35))
          rw [if_neg (by omega)]
          unfold rd
          rw [c1.cell 35, c3]
      · show (if g < wr.heap.size then ms g else M) ≠ []
        rw [hmg]
        intro e
        have := hb.len
        rw [e] at this
        unfold cnt at this
        simp at this
        omega
  · intro hx
    have := (hlt g hx).1
    have := hb.gwr
    omega
  · show (if g < wr.heap.size then ms g else M).length = cnt K i
    rw [if_neg (by have := hb.gwr; omega)]; exact hb.len
  · intro j m hm
    have hm' : M[j]? = some m := by
      have : (if g < wr.heap.size then ms g else M)[j]? = some m := hm
      rwa [if_neg (by have := hb.gwr; omega)] at this
    obtain ⟨cs, c1, c2, c3⟩ := hb.msg j m hm'
    have hge := hb.ge m (List.mem_iff_getElem?.2 ⟨j, hm'⟩)
    constructor
    · show (if m < wr.heap.size then sq m else rd ws m 0) = _
      rw [if_neg (by omega)]
      unfold rd
      rw [c1.cell 0, c2]
    · show (if m < wr.heap.size then hd m else rd ws m 35) = _
      rw [if_neg (by omega)]
      unfold rd
      rw [c1.cell 35, c3]

/-- The group has been pushed. -/
theorem StB.pushed {w ws w' : World} {Q H Bb base n : Nat} {K : Nat → Nat} {hs : List Bool} {i : Nat} {ms : Nat → List Nat} {sq hd : Nat → Int} {v v' : Value} {xs G : List Nat} {g : Nat} {gs : Array Value}
    (h : StB w ws Q H Bb base n K hs i ms sq hd v xs G) (hgw : w.heap.size ≤ g) (hlen : (ms g).length = cnt K i) (hdesc : ∀ (j m : Nat), (ms g)[j]? = some m → sq m = ((bs K i * 8 + j : Nat) : Int) ∧ hd m = (if hidF hs i j then 1 else 0)) (hQ : w.heap.size ≤ Q) (hHw : w.heap.size ≤ H) (hbg : Blk ws g 108 gs)
    (h1 : GHeap w' ms sq hd base H v' (pushL ms sq xs g)) (h2 : Keeps (fun b => b = H ∨ b = g ∨ b ∈ xs ∨ some b = v.ownBlock) ws w') :
    StB w w' Q H Bb base n K hs (i + 1) ms sq hd v' (pushL ms sq xs g) (G ++ [g]) := by
  obtain ⟨hp, ho⟩ := pushL_law (ms := ms) (sq := sq) xs g h.ord
  have hno : ∀ b t cs, Blk ws b t cs → t ≠ 120 → t ≠ 108 → t ≠ 100 → ¬ (b = H ∨ b = g ∨ b ∈ xs ∨ some b = v.ownBlock) := by
    rintro b t cs hb n1 n2 n3 (rfl | rfl | hx | hx)
    · exact n1 (blk_inj hb h.heap.obj).1
    · exact n2 (blk_inj hb hbg).1
    · obtain ⟨k, hk⟩ := List.mem_iff_getElem?.1 hx
      obtain ⟨gs', bg', _⟩ := (h.heap.grp k b hk).blk
      exact n2 (blk_inj hb bg').1
    · exact own_ne h.heap.own hb n3 hx
  obtain ⟨qs, bq, hq⟩ := h.q
  have hrow : w'.rowIs Bb 24 n (fun t => .int .u64 (bs K t : Int)) := by
    obtain ⟨c, hb, hc⟩ := h.row
    have hb' : Blk ws Bb 24 c := hb
    exact ⟨c, hb'.keeps h2 (hno _ _ _ hb' (by decide) (by decide) (by decide)), hc⟩
  refine ⟨⟨qs, bq.keeps h2 (hno _ _ _ bq (by decide) (by decide) (by decide)), hq⟩, hrow, h1, ho, hp.trans (h.perm.append_right _), by simp [h.len], ?_, ?_, Nat.le_trans h.size h2.size⟩
  · intro t p hpt
    by_cases ht : t < G.length
    · rw [List.getElem?_append_left ht] at hpt
      exact h.desc t p hpt
    · rw [List.getElem?_append_right (by omega)] at hpt
      have ht2 : t - G.length = 0 := by
        have := (List.getElem?_eq_some_iff.1 hpt).1
        simp at this; omega
      rw [ht2] at hpt
      simp at hpt
      subst hpt
      have ht3 : t = i := by have := h.len; omega
      subst ht3
      exact ⟨hgw, hlen, hdesc⟩
  · refine h.below.trans (h2.below h.below.size ?_)
    rintro k hk (rfl | rfl | hx | hx)
    · omega
    · omega
    · have := (h.perm.mem_iff.1 hx)
      obtain ⟨t, ht⟩ := List.mem_iff_getElem?.1 this
      have := (h.desc t k ht).1
      omega
    · have := (own_tag h.heap.own hx).1
      have := h.heap.lt
      omega
end Go.Proofs.Ybulkbrrw
