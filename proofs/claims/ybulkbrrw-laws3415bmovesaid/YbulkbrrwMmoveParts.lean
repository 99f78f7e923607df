import Derived.Test.YbulkbrrwMtake
import Derived.WalkSmall
namespace Go.Proofs.Ybulkbrrw
open Go.RowKit Go.Deep Go.Maps
set_option linter.unusedVariables false
set_option linter.unusedSimpArgs false
attribute [local go_sem ↓] Go.wp_at_zero Go.wp_at_succ

theorem relocate22 (w : World) (E : Nat) (ns lb st : Int) (a b : Value) (hE : Blk w E 49 (ecells ns lb st)) :
    Calls Yba.prog 22 #[.pointer (some ⟨E, 0, none⟩), a, b] w fun e w' => e = .returned (.tuple #[]) ∧ w' = w := by
  have c19 : w.cell? ⟨E, 19, none⟩ = some (.pointer none) := hE.cell 19
  clear hE
  go_enter Yba.func22, Yba.ntmps22
  go_wp2
  refine bodyPost_ret (results_none rfl _ _ _) rfl ?_
  exact ⟨rfl, rfl⟩

/-- The message as the move leaves it. -/
def newRec (r : Rec) (seq rc : Int) (og : Option Addr) : Rec :=
  { r with sq := seq, rc := rc, hd := 0, og := .pointer og, fi := if rc = 0 then 0 else r.fi, la := if rc = 0 then 0 else r.la }

theorem newRec_cells (r : Rec) (seq rc : Int) (og : Option Addr) (h : rc ≠ 0) :
    (((r.cells.setIfInBounds 0 (.int .u64 seq)).setIfInBounds 34 (.int .i64 rc)).setIfInBounds 35 (.int .i64 0)).setIfInBounds 46 (.pointer og) = (newRec r seq rc og).cells := by
  simp [Rec.cells, newRec, h]
theorem newRec_cells0 (r : Rec) (seq : Int) (og : Option Addr) :
    (((((r.cells.setIfInBounds 0 (.int .u64 seq)).setIfInBounds 34 (.int .i64 0)).setIfInBounds 35 (.int .i64 0)).setIfInBounds 46 (.pointer og)).setIfInBounds 44 (.int .i64 0)).setIfInBounds 45 (.int .i64 0) = (newRec r seq 0 og).cells := by
  simp [Rec.cells, newRec]

def putD (D : Nat → Rec) (g : Nat) (r : Rec) : Nat → Rec := fun x => if x = g then r else D x
theorem putD_same (D : Nat → Rec) (g : Nat) (r : Rec) : putD D g r g = r := by simp [putD]
theorem putD_other (D : Nat → Rec) (g : Nat) (r : Rec) {x : Nat} (h : x ≠ g) : putD D g r x = D x := by simp [putD, h]

theorem MHeap.nodup {w : World} {D : Nat → Rec} {c base H : Nat} {v : Value} {xs : List Nat} (h : MHeap w D c base H v xs) : xs.Nodup := by
  rw [List.Nodup, List.pairwise_iff_getElem]
  intro i j hi hj hij e
  have := h.inj (i := i) (j := j) (g := xs[j]) (by rw [← e]; simp [hi]) (by simp [hj])
  omega

/-- Behind the remove the message is in none of the heaps. -/
theorem Taken.gone {w : World} {D : Nat → Rec} {base s : Nat} {id : Int} {v : Nat → Value} {X : Nat → List Nat} {g E n : Nat} {ns lb st : Int} {Dm : DataW Unit} {w' : World} {D' : Nat → Rec} {v' : Nat → Value} {X' : Nat → List Nat} (h : Taken w D base s id v X g E n ns lb st Dm w' D' v' X') (q : QH w D base s id v X) : ∀ c, c < 4 → g ∉ X' c := by
  have hc3 := cls_lt (D g)
  have dup : ∀ c, c < 4 → ∀ ys : List Nat, (ys ++ [g]).Perm (X c) → g ∉ ys := by
    intro c hc ys hp hg
    have := hp.nodup_iff.2 (q.heap c hc).nodup
    rw [List.nodup_append] at this
    exact this.2.2 g hg g (by simp) rfl
  intro c hc hg
  by_cases h3 : c = 3
  · subst h3; exact dup 3 (by omega) _ h.p3 hg
  by_cases h0 : c = cls (D g)
  · subst h0; exact dup _ (by omega) _ h.p0 hg
  · rw [h.po c h3 h0] at hg
    exact h0 (q.cls c (by omega) g hg).symm

/-- A queue stands while a message that is not in it is turned. -/
theorem QH.other {w w' : World} {D : Nat → Rec} {base s : Nat} {id : Int} {v : Nat → Value} {X : Nat → List Nat} {g : Nat} {cs : Array Value} (q : QH w D base s id v X) (k : Keeps (fun b => b = g) w w') (hg : Blk w g 61 cs) (hx : ∀ c, c < 4 → g ∉ X c) (r : Rec) : QH w' (putD D g r) base s id v X := by
  refine q.frame k (blk_ne q.q hg (by decide)) (fun c hc => blk_ne (q.heap c hc).obj hg (by decide)) ?_ ?_
  · intro c hc b hb
    obtain ⟨cs, hh⟩ := own_row (q.heap c hc).own hb
    exact blk_ne hh hg (by decide)
  · intro c hc x hx'
    have hne : x ≠ g := fun e => hx c hc (e ▸ hx')
    exact ⟨putD_other _ _ _ hne, hne⟩

def nilV : Nat → Value := fun _ => .slice none 0 0
def nilX : Nat → List Nat := fun _ => []

theorem not_AS {w : World} {D : Nat → Rec} {base s : Nat} {id : Int} {v : Nat → Value} {X : Nat → List Nat} {g E n : Nat} {Dm : DataW Unit} {ec gc : Array Value} (q : QH w D base s id v X) (hm : MapAt w s n Dm) (hE : Blk w E 49 ec) (hg : Blk w g 61 gc) {b : Nat} {t : TypeId} {cs : Array Value} (hb : Blk w b t cs) (h1 : t ≠ 49) (h2 : t ≠ 61) (h3 : t ≠ 89 ∨ ∀ c, c < 4 → b ≠ s + 2 + c) (h4 : t ≠ 53 ∨ ∀ c, c < 4 → (v c).ownBlock ≠ some b) : ¬ AS s E g v X b := by
  rintro (e | e | e | ⟨c, hc, e | e | e⟩)
  · exact map_ne hm hb e
  · exact blk_ne hb hE h1 e
  · exact blk_ne hb hg h2 e
  · rcases h3 with h3 | h3
    · exact blk_ne hb (q.heap c hc).obj h3 e
    · exact h3 c hc e
  · exact blk_ne hb ((q.heap c hc).msg b e) h2 rfl
  · rcases h4 with h4 | h4
    · exact own_ne (q.heap c hc).own hb h4 e
    · exact h4 c hc e.symm

/-- What the move leaves. -/
structure Moved (w : World) (D : Nat → Rec) (base s s2 : Nat) (v : Nat → Value) (X : Nat → List Nat) (g E n : Nat) (ns lb st : Int) (Dm : DataW Unit) (seq rc : Int) (og : Option Addr) (w' : World) (D' : Nat → Rec) (v' : Nat → Value) (X' : Nat → List Nat) (v2 : Nat → Value) (X2 : Nat → List Nat) : Prop where
  q : QH w' D' base s 1 v' X'
  q2 : QH w' D' base s2 2 v2 X2
  p0 : (X' (cls (D g)) ++ [g]).Perm (X (cls (D g)))
  p3 : (X' 3 ++ [g]).Perm (X 3)
  po : ∀ c, c ≠ 3 → c ≠ cls (D g) → X' c = X c
  gone : ∀ c, c < 4 → g ∉ X' c
  r0 : X2 0 = [g]
  r1 : X2 1 = []
  r2 : X2 2 = []
  r3 : X2 3 = [g]
  msg : ∃ i j, D' g = ((newRec (D g) seq rc og).put false i).put true j
  like : ∀ x, x ≠ g → ∃ i j, D' x = ((D x).put false i).put true j
  map : MapAt w' s n (Dm.del (.int .u64 (D g).sq))
  map2 : MapAt w' s2 1 ((.map [] : DataW Unit).put (.int .u64 seq) (.lit (.int .u64 g)))
end Go.Proofs.Ybulkbrrw
