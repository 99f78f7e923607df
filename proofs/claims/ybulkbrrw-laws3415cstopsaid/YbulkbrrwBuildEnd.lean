import Derived.Test.YbulkbrrwSortParts
namespace Go.Proofs.Ybulkbrrw
open Go.RowKit Go.Deep
set_option linter.unusedVariables false
set_option linter.unusedSimpArgs false

theorem range_map_getD : ∀ (G : List Nat), (List.range G.length).map (fun i => G.getD i 0) = G := by
  intro G
  apply List.ext_getElem?
  intro i
  rw [List.getElem?_map]
  by_cases h : i < G.length
  · rw [List.getElem?_range h]; simp [h]
  · rw [List.getElem?_eq_none (by simp; omega), List.getElem?_eq_none (by omega)]; rfl

theorem map_takeWhile_range (p : Nat → Bool) (q : Nat → Bool) : ∀ (l : List Nat) (a : Nat), (∀ j m, l[j]? = some m → p m = q (a + j)) → (l.takeWhile p).length = ((List.range' a l.length).takeWhile q).length
  | [], a, _ => rfl
  | x :: l, a, h => by
    have h0 := h 0 x rfl
    have ih := map_takeWhile_range p q l (a + 1) (fun j m hj => by have := h (j + 1) m (by simpa using hj); rw [this]; congr 1; omega)
    rw [List.length_cons, List.range'_succ]
    rw [List.takeWhile_cons, List.takeWhile_cons, h0]
    by_cases hq : q (a + 0) = true
    · have hq' : q a = true := hq
      rw [if_pos hq, if_pos hq', List.length_cons, List.length_cons, ih]
    · have hq' : ¬ q a = true := hq
      rw [if_neg hq, if_neg hq']

theorem vis_eq (ms : Nat → List Nat) (sq hd : Nat → Int) (K : Nat → Nat) (hs : List Bool) (t g : Nat) (hl : (ms g).length = cnt K t)
    (hd1 : ∀ (j m : Nat), (ms g)[j]? = some m → sq m = ((bs K t * 8 + j : Nat) : Int) ∧ hd m = (if hidF hs t j then 1 else 0)) : vis ms sq hd g = visI K hs t := by
  unfold vis visI
  have hlen : ((ms g).takeWhile fun m => hd m == 0).length = ((List.range (cnt K t)).takeWhile fun j => !hidF hs t j).length := by
    rw [List.range_eq_range', ← hl]
    refine map_takeWhile_range _ _ (ms g) 0 (fun j m hm => ?_)
    rw [(hd1 j m hm).2, Nat.zero_add]
    cases hidF hs t j <;> rfl
  apply List.ext_getElem?
  intro j
  rw [List.getElem?_map, List.getElem?_map]
  by_cases h : j < ((ms g).takeWhile fun m => hd m == 0).length
  · obtain ⟨k1, e1⟩ : ∃ k1, (ms g).takeWhile (fun m => hd m == 0) = (ms g).take k1 := by
      exact ⟨_, List.prefix_iff_eq_take.1 (List.takeWhile_prefix _)⟩
    obtain ⟨k2, e2⟩ : ∃ k2, (List.range (cnt K t)).takeWhile (fun j => !hidF hs t j) = (List.range (cnt K t)).take k2 := by
      exact ⟨_, List.prefix_iff_eq_take.1 (List.takeWhile_prefix _)⟩
    have hj2 : j < ((List.range (cnt K t)).takeWhile fun j => !hidF hs t j).length := by rw [← hlen]; exact h
    rw [e1] at h ⊢
    rw [e2] at hj2 ⊢
    rw [List.length_take] at h hj2
    rw [List.getElem?_take_of_lt (by omega), List.getElem?_take_of_lt (by omega)]
    rw [List.length_range] at hj2
    rw [List.getElem?_range (by omega), List.getElem?_eq_getElem (by omega)]
    have := hd1 j (ms g)[j] (by simp)
    simp only [Option.map_some]
    rw [this.1]
  · rw [List.getElem?_eq_none (by omega), List.getElem?_eq_none (by rw [← hlen]; omega)]; rfl

theorem key_eq (ms : Nat → List Nat) (sq hd : Nat → Int) (K : Nat → Nat) (hs : List Bool) (t g : Nat) (hl : (ms g).length = cnt K t)
    (hd1 : ∀ (j m : Nat), (ms g)[j]? = some m → sq m = ((bs K t * 8 + j : Nat) : Int) ∧ hd m = (if hidF hs t j then 1 else 0)) : key ms sq g = ((bs K t * 8 : Nat) : Int) := by
  unfold key
  have hne : 0 < (ms g).length := by rw [hl]; unfold cnt; omega
  have := (hd1 0 (ms g)[0] (by simp [hne])).1
  rw [List.headD_eq_head?_getD, List.head?_eq_getElem?, List.getElem?_eq_getElem hne]
  exact this

theorem flatMap_agree (f g : Nat → List Int) : ∀ (l : List Nat), (∀ a, a ∈ l → f a = g a) → l.flatMap f = l.flatMap g
  | [], _ => rfl
  | a :: l, h => by
    rw [List.flatMap_cons, List.flatMap_cons, h a (by simp), flatMap_agree f g l (fun b hb => h b (by simp [hb]))]

theorem pairwise_map_to (r : Nat → Nat → Prop) (k : Nat → Int) (f : Nat → Nat) : ∀ (l : List Nat), l.Pairwise r → (∀ a b, a ∈ l → b ∈ l → r a b → k (f a) < k (f b)) → (l.map f).Pairwise (fun a b => k a < k b)
  | [], _, _ => List.Pairwise.nil
  | a :: l, h, hr => by
    rw [List.pairwise_cons] at h
    rw [List.map_cons, List.pairwise_cons]
    refine ⟨?_, pairwise_map_to r k f l h.2 (fun x y hx hy => hr x y (by simp [hx]) (by simp [hy]))⟩
    intro b hb
    obtain ⟨c, hc, e⟩ := List.mem_map.1 hb
    subst e
    exact hr a c (by simp) (by simp [hc]) (h.1 c hc)

theorem StB.queue {w WB w' : World} {Q H Bb base n : Nat} {K : Nat → Nat} {hs : List Bool} {ms : Nat → List Nat} {sq hd : Nat → Int} {v : Value} {xs G o : List Nat}
    (h : StB w WB Q H Bb base n K hs n ms sq hd v xs G) (hb : Below WB.heap.size WB w') (hO : Ord K n o) (hn : n < 1000) (hH : w.heap.size ≤ H) :
    Queue w' ms sq hd w.heap.size base Q H (o.map fun i => G.getD i 0) ∧ (o.map fun i => G.getD i 0).flatMap (vis ms sq hd) = o.flatMap (visI K hs) ∧ Below w.heap.size w w' := by
  have hlen := h.len
  have hol := hO.length
  have hget : ∀ i, i < n → G[i]? = some (G.getD i 0) := fun i hi => by
    rw [List.getD_eq_getElem?_getD, List.getElem?_eq_getElem (by omega)]; rfl
  have hin : ∀ i, i ∈ o → i < n := fun i hi => List.mem_range.1 (hO.perm.mem_iff.1 hi)
  have hSG : (o.map fun i => G.getD i 0).Perm G := by
    have h1 := hO.perm.map (fun i => G.getD i 0)
    rw [← hlen, range_map_getD] at h1
    exact h1
  obtain ⟨qs, bq, hq⟩ := h.q
  refine ⟨⟨⟨qs, bq.of_block (hb.block _ bq.lt), hq⟩, ⟨v, xs, h.heap.below hb, h.perm.trans hSG.symm, h.ord⟩, ⟨?_, ?_, hH, by simp; omega⟩, ?_, Nat.le_trans h.size hb.size, Nat.le_trans h.below.size hb.size⟩, ?_, h.below.trans (hb.mono h.below.size)⟩
  · refine pairwise_map_to _ _ _ o hO.srt ?_
    intro a b ha hb hab
    obtain ⟨_, a2, a3⟩ := h.desc a _ (hget a (hin a ha))
    obtain ⟨_, b2, b3⟩ := h.desc b _ (hget b (hin b hb))
    rw [key_eq ms sq hd K hs a _ a2 a3, key_eq ms sq hd K hs b _ b2 b3]
    omega
  · intro g hg
    obtain ⟨i, hi, e⟩ := List.mem_map.1 hg
    subst e
    exact (h.desc i _ (hget i (hin i hi))).1
  · intro g hg
    obtain ⟨i, hi, e⟩ := List.mem_map.1 hg
    subst e
    rw [(h.desc i _ (hget i (hin i hi))).2.1]
    unfold cnt; omega
  · rw [List.flatMap_map]
    refine flatMap_agree _ _ o ?_
    intro i hi
    obtain ⟨_, a2, a3⟩ := h.desc i _ (hget i (hin i hi))
    exact vis_eq ms sq hd K hs i _ a2 a3
end Go.Proofs.Ybulkbrrw
