import Derived.Test.YbulkbrrwMmoveParts
namespace Go.Proofs.Ybulkbrrw
open Go.RowKit Go.Deep Go.Maps
set_option linter.unusedVariables false
set_option linter.unusedSimpArgs false
attribute [local go_sem ↓] Go.wp_at_zero Go.wp_at_succ

theorem perm_one {xs : List Nat} {g : Nat} (h : xs.Perm ([] ++ [g])) : xs = [g] := by
  simpa using h

theorem QH.frame' {w w' : World} {D : Nat → Rec} {base s : Nat} {id : Int} {v : Nat → Value} {X : Nat → List Nat} {S : Nat → Prop} (q : QH w D base s id v X) (k : Keeps S w w') (hS : ∀ b, S b → ∃ t cs, Blk w b t cs ∧ (t = 49 ∨ t = 66)) : QH w' D base s id v X := by
  have no : ∀ {b t cs}, Blk w b t cs → t ≠ 49 → t ≠ 66 → ¬ S b := by
    intro b t cs hb h1 h2 hs
    obtain ⟨t', cs', hb', h⟩ := hS b hs
    have := (blk_inj hb hb').1
    subst this
    rcases h with h | h
    · exact h1 h
    · exact h2 h
  refine q.frame k (no q.q (by decide) (by decide)) (fun c hc => no (q.heap c hc).obj (by decide) (by decide)) ?_ (fun c hc x hx => ⟨rfl, no ((q.heap c hc).msg x hx) (by decide) (by decide)⟩)
  intro c hc b hb
  obtain ⟨cs, hh⟩ := own_row (q.heap c hc).own hb
  exact no hh (by decide) (by decide)

theorem MapAt.frame' {w w' : World} {s n : Nat} {Dm : DataW Unit} {S : Nat → Prop} (h : MapAt w s n Dm) (k : Keeps S w w') (hS : ∀ b, S b → ∃ t cs, Blk w b t cs ∧ (t = 49 ∨ t = 66)) : MapAt w' s n Dm :=
  MapAt.keeps h k (fun hs => by
    obtain ⟨t', cs', hb', _⟩ := hS s hs
    exact map_ne h hb' rfl)

theorem Moved.frame {w : World} {D : Nat → Rec} {base s s2 : Nat} {v : Nat → Value} {X : Nat → List Nat} {g E n : Nat} {ns lb st : Int} {Dm : DataW Unit} {seq rc : Int} {og : Option Addr} {w' : World} {D' : Nat → Rec} {v' : Nat → Value} {X' : Nat → List Nat} {v2 : Nat → Value} {X2 : Nat → List Nat} {S : Nat → Prop} {w'' : World}
    (h : Moved w D base s s2 v X g E n ns lb st Dm seq rc og w' D' v' X' v2 X2) (k : Keeps S w' w'') (hS : ∀ b, S b → ∃ t cs, Blk w' b t cs ∧ (t = 49 ∨ t = 66)) : Moved w D base s s2 v X g E n ns lb st Dm seq rc og w'' D' v' X' v2 X2 :=
  ⟨h.q.frame' k hS, h.q2.frame' k hS, h.p0, h.p3, h.po, h.gone, h.r0, h.r1, h.r2, h.r3, h.msg, h.like, MapAt.frame' h.map k hS, MapAt.frame' h.map2 k hS⟩

/-- What the move may turn. -/
def MS (s s2 E g : Nat) (v : Nat → Value) (X : Nat → List Nat) (b : Nat) : Prop := AS s E g v X b ∨ AS s2 E g nilV nilX b

set_option maxHeartbeats 1000000 in
/-- The add at the other queue. -/
theorem move_add (w0 w1 w3 : World) (D D1 : Nat → Rec) (base s s2 : Nat) (v v1 : Nat → Value) (X X1 : Nat → List Nat) (g E n : Nat) (ns lb st : Int) (Dm : DataW Unit) (seq rc : Int) (og : Option Addr) (t1 : Taken w0 D base s 1 v X g E n ns lb st Dm w1 D1 v1 X1) (gone : ∀ c, c < 4 → g ∉ X1 c) (q21 : QH w1 D1 base s2 2 nilV nilX) (hm21 : MapAt w1 s2 0 (.map []))
    (hs2 : s + 6 ≤ s2) (hseq : (Lit.int .u64 seq).wf = true) (hbs : base ≤ w0.heap.size) (hlb : 64 ≤ lb ∧ lb ≤ 1000000) (hst : 1 ≤ st ∧ st ≤ 1000000)
    (k : Keeps (fun b => b = g) w1 w3) (hg : Blk w3 g 61 (newRec (D1 g) seq rc og).cells) :
    Calls Yba.prog 7 #[.pointer (some ⟨E, 0, none⟩), .pointer (some ⟨s2 + 1, 0, none⟩), .pointer (some ⟨g, 0, none⟩)] w3 fun e w' => e = .returned (.tuple #[]) ∧ Blk w' E 49 (ecells ns lb st) ∧ Keeps (MS s s2 E g v X) w0 w' ∧ Keeps (AS s2 E g nilV nilX) w3 w' ∧ ∃ D' v' X' v2 X2, Moved w0 D base s s2 v X g E n ns lb st Dm seq rc og w' D' v' X' v2 X2 := by
  have qa := t1.q.other k t1.msg gone (newRec (D1 g) seq rc og)
  have qb := q21.other k t1.msg (fun c hc => by simp [nilX]) (newRec (D1 g) seq rc og)
  have hE3 := t1.eng.keeps k (blk_ne t1.eng t1.msg (by decide))
  have hm3 := MapAt.keeps t1.map k (fun e => map_ne t1.map t1.msg e.symm)
  have hm23 := MapAt.keeps hm21 k (fun e => map_ne hm21 t1.msg e.symm)
  have hgD : Blk w3 g 61 (putD D1 g (newRec (D1 g) seq rc og) g).cells := by rw [putD_same]; exact hg
  have hcl : cls (putD D1 g (newRec (D1 g) seq rc og) g) = 0 := by rw [putD_same]; simp [cls, newRec]
  have hsz : w0.heap.size ≤ w3.heap.size := Nat.le_trans t1.keeps.size k.size
  have hA := add7 w3 (putD D1 g (newRec (D1 g) seq rc og)) base s2 2 nilV nilX g E 0 ns (lb - 64) (st - 1) (.map []) qb hgD hE3 hm23 (by omega) (by rw [putD_same]; exact hseq) (fun c hc => by simp [nilX]) (fun c hc => by simp [nilX]) (Nat.le_trans hbs hsz) (by omega) (by omega)
  refine hA.mono ?_
  rintro e w4 ⟨rfl, D4, v4, X4, a4⟩
  have hp0 := a4.p0
  have hp3 := a4.p3
  have hpo := a4.po
  rw [hcl] at hp0 hpo
  have hsame := a4.same
  rw [hcl] at hsame
  have nas : ∀ {b t cs}, Blk w3 b t cs → t ≠ 49 → t ≠ 61 → (t ≠ 89 ∨ ∀ c, c < 4 → b ≠ s2 + 2 + c) → ¬ AS s2 E g nilV nilX b := fun hb h1 h2 h3 => not_AS qb hm23 hE3 hgD hb h1 h2 h3 (.inr (fun c hc => by simp [nilV, Value.ownBlock]))
  have hlt := q21.lt
  have qa4 : QH w4 D4 base s 1 v1 X1 := by
    refine qa.frame a4.keeps (nas qa.q (by decide) (by decide) (.inl (by decide))) (fun c hc => nas (qa.heap c hc).obj (by decide) (by decide) (.inr (fun c' hc' => by omega))) ?_ ?_
    · intro c hc b hb
      obtain ⟨cs, hh⟩ := own_row (qa.heap c hc).own hb
      exact nas hh (by decide) (by decide) (.inl (by decide))
    · intro c hc x hx
      have hxg : x ≠ g := fun e => gone c hc (e ▸ hx)
      refine ⟨hsame x (by simp [nilX]) (by simp [nilX]) hxg, ?_⟩
      rintro (e | e | e | ⟨c', hc', e | e | e⟩)
      · exact map_ne hm23 ((qa.heap c hc).msg x hx) e
      · exact blk_ne ((qa.heap c hc).msg x hx) hE3 (by decide) e
      · exact hxg e
      · exact blk_ne ((qa.heap c hc).msg x hx) (e ▸ (qb.heap c' hc').obj) (by decide) rfl
      · simp [nilX] at e
      · simp [nilV, Value.ownBlock] at e
  have hE4 := a4.eng
  rw [show lb - 64 + 64 = lb from by omega, show st - 1 + 1 = st from by omega] at hE4
  have hmp := a4.map
  rw [putD_same, show (newRec (D1 g) seq rc og).sq = seq from rfl] at hmp
  refine ⟨rfl, hE4, ?_, a4.keeps, D4, v1, X1, v4, X4, qa4, a4.q, t1.p0, t1.p3, t1.po, gone, ?_, ?_, ?_, ?_, ?_, ?_, ?_, hmp⟩
  · refine ((t1.keeps.mono (fun b _ h => .inl h)).trans (k.mono ?_)).trans (a4.keeps.mono (fun b _ h => .inr h))
    rintro b _ rfl
    exact .inl (.inr (.inr (.inl rfl)))
  · exact perm_one hp0
  · exact hpo 1 (by decide) (by decide)
  · exact hpo 2 (by decide) (by decide)
  · exact perm_one hp3
  · obtain ⟨i, j, h⟩ := a4.like g
    rw [putD_same] at h
    obtain ⟨i', j', h'⟩ := t1.like g
    refine ⟨i, j, ?_⟩
    rw [h, h']
    rfl
  · intro x hx
    obtain ⟨i, j, h⟩ := a4.like x
    rw [putD_other _ _ _ hx] at h
    obtain ⟨i', j', h'⟩ := t1.like x
    refine ⟨i, j, ?_⟩
    rw [h, h']
    rfl
  · refine MapAt.keeps hm3 a4.keeps ?_
    rintro (e | e | e | ⟨c', hc', e | e | e⟩)
    · omega
    · exact map_ne hm3 hE3 e.symm
    · exact map_ne hm3 hgD e.symm
    · omega
    · simp [nilX] at e
    · simp [nilV, Value.ownBlock] at e

end Go.Proofs.Ybulkbrrw
