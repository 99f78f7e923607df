import Derived.Test.YbulkbrrwMremove
import Derived.Test.YbulkbrrwMsize
namespace Go.Proofs.Ybulkbrrw
open Go.RowKit Go.Deep
set_option linter.unusedVariables false
set_option linter.unusedSimpArgs false

/-- The queue whose map is block s: the queue itself s + 1, its heaps s + 2 .. s + 5. -/
def qcells (id : Int) (s : Nat) : Array Value := #[.int .u64 id, .string { data := #[] }, .string { data := #[] }, .int .i64 0, .int .i64 0, .int .i64 0, .int .i64 0, .int .i64 0, .int .i64 0, .string { data := #[] }, .int .i64 0, .bool false, .bool false,
  .map (some s), .pointer (some ⟨s + 2, 0, none⟩), .pointer (some ⟨s + 3, 0, none⟩), .pointer (some ⟨s + 4, 0, none⟩), .pointer (some ⟨s + 5, 0, none⟩),
  .slice none 0 0, .int .i64 0, .pointer none, .int .i64 0, .slice none 0 0, .map none, .pointer none, .map none, .slice none 0 0]

/-- The heap that a message's state puts it in. -/
def cls (r : Rec) : Nat := if r.hd = 0 then 0 else if r.rc = 0 then 2 else 1
theorem cls_put (r : Rec) (k : Bool) (i : Int) : cls (r.put k i) = cls r := by cases k <;> rfl
theorem Like.cls {k : Bool} {D D' : Nat → Rec} (h : Like k D D') (g : Nat) : cls (D' g) = cls (D g) := by
  obtain ⟨i, hi⟩ := h g
  rw [hi, cls_put]

def upd {α : Type} (f : Nat → α) (c : Nat) (x : α) : Nat → α := fun i => if i = c then x else f i
theorem upd_same {α : Type} (f : Nat → α) (c : Nat) (x : α) : upd f c x c = x := by simp [upd]
theorem upd_other {α : Type} (f : Nat → α) (c : Nat) (x : α) {i : Nat} (h : i ≠ c) : upd f c x i = f i := by simp [upd, h]

structure QH (w : World) (D : Nat → Rec) (base s : Nat) (id : Int) (v : Nat → Value) (X : Nat → List Nat) : Prop where
  q : Blk w (s + 1) 85 (qcells id s)
  heap : ∀ c, c < 4 → MHeap w D c base (s + 2 + c) (v c) (X c)
  rows : ∀ c c', c < 4 → c' < 4 → c ≠ c' → ∀ b, (v c).ownBlock = some b → (v c').ownBlock ≠ some b
  lt : s + 6 ≤ base
  cls : ∀ c, c < 3 → ∀ g, g ∈ X c → Ybulkbrrw.cls (D g) = c

/-- What a push or a remove of g at one heap leaves. -/
structure Turned (w : World) (D : Nat → Rec) (c base H : Nat) (v : Value) (xs : List Nat) (g : Nat) (w' : World) (D' : Nat → Rec) (v' : Value) (ys : List Nat) : Prop where
  heap : MHeap w' D' c base H v' ys
  msgs : ∀ x, x ∈ xs ∨ x = g → Blk w' x 61 (D' x).cells
  old : ∀ x, x ∈ xs ∨ x = g → Blk w x 61 (D x).cells
  like : Like (c == 3) D D'
  same : ∀ x, x ∉ xs → x ≠ g → D' x = D x
  keeps : Keeps (fun b => b = H ∨ b = g ∨ b ∈ xs ∨ some b = v.ownBlock) w w'
  row : v'.ownBlock = v.ownBlock ∨ ∃ r, v'.ownBlock = some r ∧ w.heap.size ≤ r
  own : w.ownsRow base 53 1 v xs.length (xs.map pt)
  obj : ∃ cs, Blk w H 89 cs

theorem Pushed.turned {w : World} {D : Nat → Rec} {c base H : Nat} {v : Value} {xs : List Nat} {g : Nat} {w' : World} {D' : Nat → Rec} {v' : Value} {ys : List Nat} (h : Pushed w D c base H v xs g w' D' v' ys) (h0 : MHeap w D c base H v xs) (hg : Blk w g 61 (D g).cells) : Turned w D c base H v xs g w' D' v' ys :=
  ⟨h.heap, fun x hx => h.heap.msg x (h.perm.mem_iff.2 (by simpa using hx)), fun x hx => by rcases hx with hx | rfl; exact h0.msg x hx; exact hg, h.like, h.same, h.keeps, h.row, h0.own, ⟨_, h0.obj⟩⟩

theorem Removed.turned {w : World} {D : Nat → Rec} {c base H : Nat} {v : Value} {xs : List Nat} {g : Nat} {w' : World} {D' : Nat → Rec} {v' : Value} {ys : List Nat} (h : Removed w D c base H v xs g w' D' v' ys) (h0 : MHeap w D c base H v xs) (hg : g ∈ xs) : Turned w D c base H v xs g w' D' v' ys :=
  ⟨h.heap, fun x hx => by
    have hx' : x ∈ ys ++ [g] := h.perm.mem_iff.2 (by rcases hx with hx | rfl; exact hx; exact hg)
    rcases List.mem_append.1 hx' with hx' | hx'
    · exact h.heap.msg x hx'
    · simp at hx'; subst hx'; exact h.out,
   fun x hx => by rcases hx with hx | rfl; exact h0.msg x hx; exact h0.msg x hg, h.like, fun x hx _ => h.same x hx,
   h.keeps.mono (by rintro b _ (hb | hb | hb); exact .inl hb; exact .inr (.inr (.inl hb)); exact .inr (.inr (.inr hb))), .inl h.row, h0.own, ⟨_, h0.obj⟩⟩

/-- A block of another kind stands. -/
theorem Turned.blk {w : World} {D : Nat → Rec} {c base H : Nat} {v : Value} {xs : List Nat} {g : Nat} {w' : World} {D' : Nat → Rec} {v' : Value} {ys : List Nat} (h : Turned w D c base H v xs g w' D' v' ys) {b : Nat} {t : TypeId} {cs : Array Value} (hb : Blk w b t cs) (h1 : t ≠ 61) (h2 : t ≠ 53) (h3 : b ≠ H) : Blk w' b t cs := by
  refine hb.keeps h.keeps ?_
  rintro (e | e | e | e)
  · exact h3 e
  · exact blk_ne hb (h.old g (.inr rfl)) h1 e
  · exact blk_ne hb (h.old b (.inl e)) h1 rfl
  · exact own_ne h.own hb h2 e

theorem own_keeps {S : Nat → Prop} {w w' : World} {base : Nat} {e : TypeId} {v : Value} {n : Nat} {xs : List Value} (h : w.ownsRow base e 1 v n xs) (k : Keeps S w w') (hs : ∀ b, v.ownBlock = some b → ¬ S b) : w'.ownsRow base e 1 v n xs := by
  refine ⟨h.1, ?_⟩
  rcases h.2 with h2 | ⟨g, cap, cur, rfl, h2, hh, h3⟩
  · exact .inl h2
  · refine .inr ⟨g, cap, cur, rfl, h2, ?_, h3⟩
    rw [k.block g (Array.getElem?_eq_some_iff.1 hh).1 (hs g rfl)]
    exact hh

theorem own_row {w : World} {base : Nat} {v : Value} {n : Nat} {xs : List Value} (h : w.ownsRow base 53 1 v n xs) {b : Nat} (hb : v.ownBlock = some b) : ∃ cs, Blk w b 53 cs := by
  rcases h.2 with ⟨rfl, _⟩ | ⟨g, cap, cur, rfl, _, hh, _⟩
  · simp [Value.ownBlock] at hb
  · simp [Value.ownBlock] at hb; subst hb; exact ⟨cur, hh⟩

theorem QH.turned {w : World} {D : Nat → Rec} {base s : Nat} {id : Int} {v : Nat → Value} {X : Nat → List Nat} {c g : Nat} {w' : World} {D' : Nat → Rec} {v' : Value} {ys : List Nat} (q : QH w D base s id v X) (hc : c < 4) (h : Turned w D c base (s + 2 + c) (v c) (X c) g w' D' v' ys)
    (hys : ∀ x, x ∈ ys → x ∈ X c ∨ x = g) (hg : c < 3 → Ybulkbrrw.cls (D g) = c) :
    QH w' D' base s id (upd v c v') (upd X c ys) := by
  refine ⟨h.blk q.q (by decide) (by decide) (by omega), ?_, ?_, q.lt, ?_⟩
  · intro c' hc'
    by_cases e : c' = c
    · subst e; rw [upd_same, upd_same]; exact h.heap
    rw [upd_other _ _ _ e, upd_other _ _ _ e]
    have h' := q.heap c' hc'
    have hmem : ∀ x, x ∈ X c' → (c' == 3) = (c == 3) → x ∉ X c ∧ x ≠ g := by
      intro x hx he
      have h3 : c' < 3 ∧ c < 3 := by
        by_cases e3 : c = 3
        · subst e3; simp at he; omega
        · have : c' ≠ 3 := by intro e4; subst e4; simp at he; omega
          omega
      have hx1 := q.cls c' h3.1 x hx
      refine ⟨fun hx2 => e ?_, fun hx2 => e ?_⟩
      · rw [← hx1, q.cls c h3.2 x hx2]
      · rw [← hx1, hx2]; exact hg h3.2
    refine ⟨h.blk h'.obj (by decide) (by decide) (by omega), own_keeps h'.own h.keeps ?_, ?_, ?_, h'.few⟩
    · intro b hb
      obtain ⟨cs, bb⟩ := own_row h'.own hb
      rintro (e1 | e1 | e1 | e1)
      · obtain ⟨co, ho⟩ := h.obj
        exact blk_ne bb ho (by decide) e1
      · exact blk_ne bb (h.old g (.inr rfl)) (by decide) e1
      · exact blk_ne bb (h.old b (.inl e1)) (by decide) rfl
      · exact q.rows c' c hc' hc e b hb e1.symm
    · intro x hx
      by_cases hx1 : x ∈ X c ∨ x = g
      · exact h.msgs x hx1
      · have hn1 : x ∉ X c := fun h => hx1 (.inl h)
        have hn2 : x ≠ g := fun h => hx1 (.inr h)
        rw [h.same x hn1 hn2]
        refine (h'.msg x hx).keeps h.keeps ?_
        rintro (e1 | e1 | e1 | e1)
        · obtain ⟨co, ho⟩ := h.obj
          exact blk_ne (h'.msg x hx) ho (by decide) e1
        · exact hn2 e1
        · exact hn1 e1
        · exact own_ne h.own (h'.msg x hx) (by decide) e1
    · intro i x hx
      by_cases he : (c' == 3) = (c == 3)
      · obtain ⟨n1, n2⟩ := hmem x (List.mem_iff_getElem?.2 ⟨_, hx⟩) he
        rw [h.same x n1 n2]
        exact h'.pos i x hx
      · obtain ⟨j, hj⟩ := h.like x
        rw [hj, Rec.pos_put_other _ _ _ _ he]
        exact h'.pos i x hx
  · intro a b ha hb hab r hr
    have key : ∀ d, d < 4 → d ≠ c → ∀ r, v'.ownBlock = some r → (v d).ownBlock ≠ some r := by
      intro d hd hdc r hr hr2
      rcases h.row with e | ⟨r', e1, e2⟩
      · rw [e] at hr
        exact q.rows c d hc hd (Ne.symm hdc) r hr hr2
      · rw [hr] at e1
        obtain ⟨cs, bb⟩ := own_row (q.heap d hd).own hr2
        have := bb.lt
        simp at e1
        omega
    by_cases e1 : a = c
    · subst e1
      rw [upd_same] at hr
      rw [upd_other _ _ _ (Ne.symm hab)]
      exact key b hb (Ne.symm hab) r hr
    · rw [upd_other _ _ _ e1] at hr
      by_cases e2 : b = c
      · subst e2
        rw [upd_same]
        exact fun h => key a ha e1 r h hr
      · rw [upd_other _ _ _ e2]
        exact q.rows a b ha hb hab r hr
  · intro c' hc' x hx
    rw [h.like.cls]
    by_cases e : c' = c
    · subst e
      rw [upd_same] at hx
      rcases hys x hx with hx | rfl
      · exact q.cls c' hc' x hx
      · exact hg hc'
    · rw [upd_other _ _ _ e] at hx
      exact q.cls c' hc' x hx

/-- It stands while others are turned. -/
theorem QH.frame {w w' : World} {D D' : Nat → Rec} {base s : Nat} {id : Int} {v : Nat → Value} {X : Nat → List Nat} {S : Nat → Prop} (q : QH w D base s id v X) (k : Keeps S w w')
    (h1 : ¬ S (s + 1)) (h2 : ∀ c, c < 4 → ¬ S (s + 2 + c)) (h3 : ∀ c, c < 4 → ∀ b, (v c).ownBlock = some b → ¬ S b) (h4 : ∀ c, c < 4 → ∀ g, g ∈ X c → D' g = D g ∧ ¬ S g) : QH w' D' base s id v X := by
  refine ⟨q.q.keeps k h1, fun c hc => ?_, q.rows, q.lt, fun c hc g hg => by rw [(h4 c (by omega) g hg).1]; exact q.cls c hc g hg⟩
  have h := q.heap c hc
  exact ⟨h.obj.keeps k (h2 c hc), own_keeps h.own k (h3 c hc), fun g hg => by rw [(h4 c hc g hg).1]; exact (h.msg g hg).keeps k (h4 c hc g hg).2,
    fun i g hg => by rw [(h4 c hc g (List.mem_iff_getElem?.2 ⟨_, hg⟩)).1]; exact h.pos i g hg, h.few⟩

theorem QH.drewN {w : World} {D : Nat → Rec} {base s : Nat} {id : Int} {v : Nat → Value} {X : Nat → List Nat} (q : QH w D base s id v X) (n : Nat) : QH (w.drewN n) D base s id v X :=
  ⟨q.q, fun c hc => (q.heap c hc).drewN n, q.rows, q.lt, q.cls⟩
end Go.Proofs.Ybulkbrrw
