import Derived.Test.YbulkbrrwMmove
import Derived.Test.YbulkbrrwMqnew
namespace Go.Proofs.Ybulkbrrw
open Go.RowKit Go.Deep Go.Maps
set_option linter.unusedVariables false
set_option linter.unusedSimpArgs false

abbrev kl (k : Int) : Lit := .int .u64 k

/-- The source's map when the messages of L are in it, numbered from 1. -/
def mp (L : List Nat) : Nat → DataW Unit
  | 0 => .map []
  | i + 1 => (mp L i).put (kl (i + 1)) (.lit (.int .u64 (L.getD i 0)))

theorem kl_key (k : Int) : WideAt.IsKeyLit (kl k) := by simp [WideAt.IsKeyLit, kl]

theorem mp_tidy (L : List Nat) : ∀ i, Tidy (mp L i)
  | 0 => tidy_empty
  | i + 1 => (mp_tidy L i).put (kl_key _) _

theorem mp_has (L : List Nat) (k : Int) : ∀ i : Nat, has (mp L i) (kl k) = decide (1 ≤ k ∧ k ≤ i) := by
  intro i
  induction i with
  | zero => simp [mp, has]; omega
  | succ i ih =>
    by_cases h : k = (i : Int) + 1
    · subst h
      rw [mp, has_put_same (mp_tidy L i).isMap (kl_key _)]
      symm; simp; omega
    · rw [mp, has_put_other (by simpa using h), ih]
      congr 1
      apply propext
      constructor <;> (rintro ⟨h1, h2⟩; constructor <;> omega)

theorem mp_size (L : List Nat) : ∀ i : Nat, size (mp L i) = i := by
  intro i
  induction i with
  | zero => rfl
  | succ i ih =>
    rw [mp, size_put (mp_tidy L i), mp_has, ih]
    simp
    omega

theorem mp_at (L : List Nat) (z : DataW Unit) : ∀ i j : Nat, j < i → (mp L i).atKey (kl (j + 1)) z = .lit (.int .u64 (L.getD j 0)) := by
  intro i
  induction i with
  | zero => intro j h; omega
  | succ i ih =>
    intro j h
    by_cases e : j = i
    · subst e
      rw [mp, atKey_put_same (mp_tidy L j).isMap (kl_key _)]
    · rw [mp, atKey_put_other (by simp; omega)]
      exact ih j (by omega)

theorem mp_append (L : List Nat) (x : Nat) : ∀ i, i ≤ L.length → mp (L ++ [x]) i = mp L i := by
  intro i
  induction i with
  | zero => intro _; rfl
  | succ i ih =>
    intro h
    rw [mp, mp, ih (by omega)]
    rw [show (L ++ [x]).getD i 0 = L.getD i 0 from by simp [List.getD, List.getElem?_append_left (show i < L.length by omega)]]

/-- The source while it is built: i messages L in it. -/
structure Inv (w0 : World) (lo base s s2 E R n : Nat) (ns : Int) (F : Nat → Rec) (i : Nat) (wr : World) (L : List Nat) (D : Nat → Rec) (v : Nat → Value) (X : Nat → List Nat) : Prop where
  len : L.length = i
  q : QH wr D base s 1 v X
  q2 : QH wr D base s2 2 nilV nilX
  map : MapAt wr s i (mp L i)
  map2 : MapAt wr s2 0 (.map [])
  eng : Blk wr E 49 (ecells ns (64 * i) i)
  row : ∃ rs, Blk wr R 53 rs ∧ rs.size = n ∧ ∀ (j g : Nat), L[j]? = some g → rs[j]? = some (pt g)
  rcd : ∀ (j g : Nat), L[j]? = some g → ∃ a b, D g = ((F j).put false a).put true b
  mem : ∀ g, g ∈ L → g ∈ X (cls (D g)) ∧ g ∈ X 3
  sub : ∀ c, c < 4 → ∀ g, g ∈ X c → g ∈ L
  cnt : (X 0).length + (X 1).length + (X 2).length = i ∧ (X 3).length = i
  below : Below lo w0 wr
  size : base ≤ wr.heap.size
  lows : lo ≤ s ∧ s + 6 ≤ s2 ∧ lo ≤ E ∧ lo ≤ R ∧ R < base ∧ lo ≤ base ∧ ∀ g, g ∈ L → lo ≤ g

theorem AS_lo {w : World} {D : Nat → Rec} {base s : Nat} {id : Int} {v : Nat → Value} {X : Nat → List Nat} {g E lo : Nat} (q : QH w D base s id v X) (hs : lo ≤ s) (hE : lo ≤ E) (hg : lo ≤ g) (hb : lo ≤ base) (hx : ∀ c, c < 4 → ∀ g, g ∈ X c → lo ≤ g) : ∀ b, b < lo → ¬ AS s E g v X b := by
  rintro b hb' (e | e | e | ⟨c, hc, e | e | e⟩)
  · omega
  · omega
  · omega
  · omega
  · have := hx c hc b e; omega
  · have := ((q.heap c hc).own.lt b e.symm).1
    omega

theorem Below.keeps {lo : Nat} {w w1 w2 : World} {S : Nat → Prop} (h : Below lo w w1) (k : Keeps S w1 w2) (hl : lo ≤ w1.heap.size) (hs : ∀ b, b < lo → ¬ S b) : Below lo w w2 :=
  h.trans (k.below hl hs)

set_option maxHeartbeats 1000000 in
theorem inv_add {w0 : World} {lo base s s2 E R n : Nat} {ns : Int} {F : Nat → Rec} {i : Nat} {wr : World} {L : List Nat} {D : Nat → Rec} {v : Nat → Value} {X : Nat → List Nat} (h : Inv w0 lo base s s2 E R n ns F i wr L D v X) (hi : i < n) (hn : n ≤ 300) (hF : (F i).sq = i + 1)
    {W : World} {g : Nat} {rs : Array Value} (k : Keeps (fun b => b = R) wr W) (hg : Blk W g 61 (F i).cells) (hgl : wr.heap.size ≤ g) (hr : Blk wr R 53 rs) (hrs : rs.size = n) (hrj : ∀ (j g : Nat), L[j]? = some g → rs[j]? = some (pt g)) (hR : Blk W R 53 (rs.setIfInBounds i (pt g))) :
    Calls Yba.prog 7 #[.pointer (some ⟨E, 0, none⟩), .pointer (some ⟨s + 1, 0, none⟩), .pointer (some ⟨g, 0, none⟩)] W fun e w' => e = .returned (.tuple #[]) ∧ ∃ D' v' X', Inv w0 lo base s s2 E R n ns F (i + 1) w' (L ++ [g]) D' v' X' := by
  obtain ⟨l1, l2, l3, l4, l5, l6, l7⟩ := h.lows
  have hlen := h.len
  have hlo : lo ≤ wr.heap.size := Nat.le_trans l6 h.size
  have hgL : g ∉ L := by
    intro hgL
    have := ((h.q.heap 3 (by omega)).msg g (h.mem g hgL).2).lt
    omega
  have hgX : ∀ c, c < 4 → g ∉ X c := fun c hc hx => hgL (h.sub c hc g hx)
  -- the queues in the world W, with the new message's record
  have fr : ∀ {s' : Nat} {id : Int} {v' : Nat → Value} {X' : Nat → List Nat}, QH wr D base s' id v' X' → (∀ c, c < 4 → g ∉ X' c) → QH W (putD D g (F i)) base s' id v' X' := by
    intro s' id v' X' q hx
    refine q.frame k (blk_ne q.q hr (by decide)) (fun c hc => blk_ne (q.heap c hc).obj hr (by decide)) ?_ ?_
    · intro c hc b hb e
      have := ((q.heap c hc).own.lt b hb).1
      omega
    · intro c hc x hx'
      have hne : x ≠ g := fun e => hx c hc (e ▸ hx')
      exact ⟨putD_other _ _ _ hne, blk_ne ((q.heap c hc).msg x hx') hr (by decide)⟩
  have qW := fr h.q hgX
  have q2W := fr h.q2 (fun c hc => by simp [nilX])
  have hEW := h.eng.keeps k (blk_ne h.eng hr (by decide))
  have hmW := MapAt.keeps h.map k (fun e => map_ne h.map hr e.symm)
  have hm2W := MapAt.keeps h.map2 k (fun e => map_ne h.map2 hr e.symm)
  have hgW : Blk W g 61 (putD D g (F i) g).cells := by rw [putD_same]; exact hg
  have hfew : ∀ c, c < 4 → (X c).length + 1 < 1000 := by
    intro c hc
    have := h.cnt
    obtain rfl | rfl | rfl | rfl : c = 0 ∨ c = 1 ∨ c = 2 ∨ c = 3 := by omega
    all_goals omega
  have hA := add7 W (putD D g (F i)) base s 1 v X g E i ns (64 * i) i (mp L i) qW hgW hEW hmW (by omega) (by rw [putD_same, hF]; exact WalkArith.wf_u64 (by omega)) hgX hfew (Nat.le_trans h.size k.size) (by omega) (by omega)
  refine hA.mono ?_
  rintro e w' ⟨rfl, D', v', X', a⟩
  refine ⟨rfl, D', v', X', ?_⟩
  have hc3 := cls_lt (F i)
  have hcg : cls (putD D g (F i) g) = cls (F i) := by rw [putD_same]
  have hp0 := a.p0
  have hpo := a.po
  have hlk := a.like
  have hsm := a.same
  have hmap := a.map
  rw [hcg] at hp0 hpo hsm
  rw [putD_same, hF] at hmap
  have hX : ∀ c, c < 4 → ∀ x, x ∈ X' c ↔ x ∈ X c ∨ (x = g ∧ (c = 3 ∨ c = cls (F i))) := by
    intro c hc x
    by_cases e3 : c = 3
    · subst e3
      rw [a.p3.mem_iff]; simp
    · by_cases e0 : c = cls (F i)
      · rw [e0, hp0.mem_iff]; simp
      · rw [hpo c e3 e0]; simp [e3, e0]
  have nas : ∀ {b t cs}, Blk W b t cs → t ≠ 49 → t ≠ 61 → (t ≠ 89 ∨ ∀ c, c < 4 → b ≠ s + 2 + c) → (t ≠ 53 ∨ ∀ c, c < 4 → (v c).ownBlock ≠ some b) → ¬ AS s E g v X b := fun hb h1 h2 h3 h4 => not_AS qW hmW hEW hgW hb h1 h2 h3 h4
  have hRb : ∀ c, c < 4 → (v c).ownBlock ≠ some R := by
    intro c hc hb
    have := ((h.q.heap c hc).own.lt R hb).1
    omega
  refine ⟨by simp [hlen], a.q, ?_, ?_, ?_, ?_, ⟨_, hR.keeps a.keeps (nas hR (by decide) (by decide) (.inl (by decide)) (.inr hRb)), by simp [hrs], ?_⟩, ?_, ?_, ?_, ?_, ?_, ?_, ?_⟩
  · refine q2W.frame a.keeps (nas q2W.q (by decide) (by decide) (.inl (by decide)) (.inl (by decide))) (fun c hc => nas (q2W.heap c hc).obj (by decide) (by decide) (.inr (fun c' hc' => by omega)) (.inl (by decide))) (fun c hc b hb => by simp [nilV, Value.ownBlock] at hb) (fun c hc x hx => by simp [nilX] at hx)
  · have e1 : mp (L ++ [g]) (i + 1) = (mp L i).put (kl (i + 1)) (.lit (.int .u64 g)) := by
      rw [mp, mp_append L g i (by omega)]
      rw [show (L ++ [g]).getD i 0 = g from by rw [← hlen]; simp [List.getD]]
    rw [e1]
    exact hmap
  · refine MapAt.keeps hm2W a.keeps ?_
    rintro (e | e | e | ⟨c, hc, e | e | e⟩)
    · omega
    · exact map_ne hm2W hEW e.symm
    · exact map_ne hm2W hgW e.symm
    · omega
    · exact map_ne hm2W ((qW.heap c hc).msg s2 e) rfl
    · obtain ⟨cs, hh⟩ := own_row (qW.heap c hc).own e.symm
      exact map_ne hm2W hh rfl
  · have := a.eng
    rw [show (64 : Int) * (i : Int) + 64 = 64 * ((i + 1 : Nat) : Int) from by omega, show (i : Int) + 1 = ((i + 1 : Nat) : Int) from by omega] at this
    exact this
  · intro j x hx
    by_cases hj : j < L.length
    · rw [List.getElem?_append_left hj] at hx
      rw [Array.getElem?_setIfInBounds_ne (by omega)]
      exact hrj j x hx
    · rw [List.getElem?_append_right (by omega)] at hx
      have hj2 : j - L.length = 0 := by
        have := (List.getElem?_eq_some_iff.1 hx).1
        simp at this; omega
      rw [hj2] at hx
      simp at hx
      subst hx
      have : j = i := by omega
      subst this
      simp [hrs, hi]
  · intro j x hx
    obtain ⟨a1, b1, h1⟩ := hlk x
    by_cases hj : j < L.length
    · rw [List.getElem?_append_left hj] at hx
      have hxg : x ≠ g := fun e => hgL (e ▸ List.mem_iff_getElem?.2 ⟨_, hx⟩)
      obtain ⟨a2, b2, h2⟩ := h.rcd j x hx
      rw [putD_other _ _ _ hxg, h2] at h1
      exact ⟨a1, b1, by rw [h1]; rfl⟩
    · rw [List.getElem?_append_right (by omega)] at hx
      have hj2 : j - L.length = 0 := by
        have := (List.getElem?_eq_some_iff.1 hx).1
        simp at this; omega
      rw [hj2] at hx
      simp at hx
      subst hx
      have : j = i := by omega
      subst this
      rw [putD_same] at h1
      exact ⟨a1, b1, h1⟩
  · intro x hx
    have hcx : cls (D' x) = cls (putD D g (F i) x) := by
      obtain ⟨a1, b1, h1⟩ := hlk x
      rw [h1, cls_put, cls_put]
    rw [hcx]
    by_cases hxg : x = g
    · subst hxg
      rw [hcg]
      exact ⟨(hX _ (by omega) _).2 (.inr ⟨rfl, .inr rfl⟩), (hX 3 (by omega) _).2 (.inr ⟨rfl, .inl rfl⟩)⟩
    · rw [putD_other _ _ _ hxg]
      have hxL : x ∈ L := by simpa [hxg] using hx
      obtain ⟨m1, m2⟩ := h.mem x hxL
      have := cls_lt (D x)
      exact ⟨(hX _ (by omega) _).2 (.inl m1), (hX 3 (by omega) _).2 (.inl m2)⟩
  · intro c hc x hx
    rcases (hX c hc x).1 hx with h1 | ⟨h1, _⟩
    · simp [h.sub c hc x h1]
    · simp [h1]
  · have c0 := h.cnt
    have e3 := a.p3.length_eq
    have e0 := hp0.length_eq
    simp at e3 e0
    have hcc : cls (F i) = 0 ∨ cls (F i) = 1 ∨ cls (F i) = 2 := by omega
    rcases hcc with e | e | e <;> rw [e] at e0 hpo
    · rw [hpo 1 (by decide) (by decide), hpo 2 (by decide) (by decide)]; omega
    · rw [hpo 0 (by decide) (by decide), hpo 2 (by decide) (by decide)]; omega
    · rw [hpo 0 (by decide) (by decide), hpo 1 (by decide) (by decide)]; omega
  · have b1 := Below.keeps h.below k hlo (fun b hb e => by omega)
    exact Below.keeps b1 a.keeps (Nat.le_trans hlo k.size) (AS_lo qW l1 l3 (by omega) l6 (fun c hc x hx => l7 x (h.sub c hc x hx)))
  · exact Nat.le_trans h.size (Nat.le_trans k.size a.keeps.size)
  · refine ⟨l1, l2, l3, l4, l5, l6, ?_⟩
    intro x hx
    rcases List.mem_append.1 hx with hx | hx
    · exact l7 x hx
    · simp at hx; omega
end Go.Proofs.Ybulkbrrw
