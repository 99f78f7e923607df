import Derived.Test.YbulkbrtmFmtRows
import Derived.Test.YbulkbrtmFmtMem
import Derived.Maps.Own
import Derived.Maps.OwnSet
import Derived.Maps.Views
set_option linter.unusedVariables false
set_option linter.unusedSimpArgs false
set_option maxRecDepth 100000
namespace Go.Proofs.YbulkbrtmFmt
open Go.RowKit Go.Proofs Go.Deep Go.WideMaps Go.ChangeMaps

theorem zero4 (w : World) : (zeroValue 4).run Ybaf.prog w = .ok (.bool false) w := by kernel_rfl
theorem rb (x : Bool) : (plainElem (H := Unit) Ybaf.prog 4) (.bool x) = some (.lit (.bool x), []) := plainElem_bool Ybaf.underlying4 x
theorem rb_inv {v : Value} {x : Bool} {ps : List MemPlace} (h : (plainElem (H := Unit) Ybaf.prog 4) v = some (.lit (.bool x), ps)) : v = .bool x := by
  unfold plainElem at h
  rw [Ybaf.underlying4] at h
  cases v <;> simp at h
  rw [h.1]
theorem keeps_grown {w w' : World} {b : Nat} (h : w.grownBy w' (some b)) : Keeps (· = b) w w' := ⟨h.os, h.tape, h.output, h.size, fun c hc hn => h.block c hc (fun e => hn (by cases e; rfl))⟩
theorem grown_keeps {S : Nat → Prop} {w w' : World} {b : Nat} {k : TypeId} {n : Nat} {D : DataW Unit} (h : w.ownsMap Ybaf.prog k (plainElem (H := Unit) Ybaf.prog 4) b n D) (kk : Keeps S w w') (hs : ¬ S b) : w'.ownsMap Ybaf.prog k (plainElem (H := Unit) Ybaf.prog 4) b n D := by
  obtain ⟨es, c, hb, hr⟩ := h
  exact ⟨es, c, (kk.block b (Array.getElem?_eq_some_iff.1 hb).1 hs).trans hb, hr⟩

/-- The map of the changes seen: these are in it. -/
def Seen (w : World) (m N : Nat) (S : Int → Prop) : Prop :=
  ∃ D, w.ownsMap Ybaf.prog 26 (plainElem (H := Unit) Ybaf.prog 4) m N D ∧ ∀ x, S x → D.atKey (.int .u64 x) (.lit (.bool false)) = .lit (.bool true)
theorem Seen.made (w : World) : Seen (w.alloc (.map #[] 0)) w.heap.size 0 (fun _ => False) := ⟨_, World.ownsMap_made w _ _ _, fun _ h => h.elim⟩
theorem Seen.keeps {T : Nat → Prop} {w w' : World} {m N : Nat} {S : Int → Prop} (h : Seen w m N S) (k : Keeps T w w') (hn : ¬ T m) : Seen w' m N S := by
  obtain ⟨D, h1, h2⟩ := h
  exact ⟨D, grown_keeps h1 k hn, h2⟩
theorem Seen.lt {w : World} {m N : Nat} {S : Int → Prop} (h : Seen w m N S) : m < w.heap.size := by
  obtain ⟨D, h1, _⟩ := h
  exact h1.lt
theorem Seen.mono {w : World} {m N N' : Nat} {S T : Int → Prop} (h : Seen w m N S) (hN : N ≤ N') (hs : ∀ x, T x → S x) : Seen w m N' T := by
  obtain ⟨D, h1, h2⟩ := h
  exact ⟨D, h1.mono hN, fun x hx => h2 x (hs x hx)⟩
theorem Seen.update {w : World} {m N : Nat} {S : Int → Prop} (h : Seen w m N S) (hN : N < 1000000) (x : Int) (hx : (Lit.int .u64 x).wf = true) :
    ∃ w', (Instr.mapUpdate 40 (.map (some m)) (.int .u64 x) (.bool true)).run Ybaf.prog w = .ok () w' ∧ Seen w' m (N + 1) (fun y => y = x ∨ S y) ∧ Keeps (· = m) w w' := by
  obtain ⟨D, h1, h2⟩ := h
  obtain ⟨w', hr, h3, h4⟩ := h1.update (Maps.int_keyed Ybaf.underlying26) Ybaf.underlying40 (by unfold maxLen; omega) (Maps.keyOf_int_mk Ybaf.underlying26 hx) (rb true)
  refine ⟨w', hr, ⟨_, h3, fun y hy => ?_⟩, keeps_grown h4⟩
  by_cases e : y = x
  · subst e
    exact Maps.atKey_put_same h1.isMap ((Maps.int_keyed Ybaf.underlying26).key (Maps.keyOf_int_mk Ybaf.underlying26 hx)) _ _
  · rw [Maps.atKey_put_other (by intro e'; cases e'; exact e rfl)]
    exact h2 y (hy.resolve_left e)
theorem Seen.look {w : World} {m N : Nat} {S : Int → Prop} (h : Seen w m N S) (x : Int) (hx : (Lit.int .u64 x).wf = true) (hs : S x) : (Instr.lookup 40 (.map (some m)) (.int .u64 x) false).run Ybaf.prog w = .ok (.bool true) w := by
  obtain ⟨D, h1, h2⟩ := h
  obtain ⟨v, ps, hr, hv⟩ := h1.lookup (Maps.int_keyed Ybaf.underlying26) Ybaf.underlying40 (zero4 w) (rb false) (Maps.keyOf_int_mk Ybaf.underlying26 hx)
  rw [h2 x hs] at hv
  rw [hr, rb_inv hv]

/-- The map of the trials made: empty, or with this one entry. -/
def Done0 (w : World) (m : Nat) : Prop := w.ownsMap Ybaf.prog 9 (plainElem (H := Unit) Ybaf.prog 4) m 0 (.map [])
def Done1 (w : World) (m : Nat) (p : ByteArray) (f : Bool) : Prop := w.ownsMap Ybaf.prog 9 (plainElem (H := Unit) Ybaf.prog 4) m 1 ((DataW.map []).put (.string p.data.toList) (.lit (.bool f)))
theorem Done0.made (w : World) : Done0 (w.alloc (.map #[] 0)) w.heap.size := World.ownsMap_made w _ _ _
theorem Done0.look {w : World} {m : Nat} (h : Done0 w m) (p : ByteArray) (hp : p.size ≤ maxLen) : (Instr.lookup 41 (.map (some m)) (.string p) true).run Ybaf.prog w = .ok (.tuple #[.bool false, .bool false]) w := by
  obtain ⟨v, ps, hr, hv⟩ := World.ownsMap.look_ok h (Maps.string_keyed Ybaf.underlying9) Ybaf.underlying41 (zero4 w) (rb false) (keyOf_string_mk Ybaf.underlying9 hp)
  have e : (DataW.map [] : DataW Unit).atKey (.string p.data.toList) (.lit (.bool false)) = .lit (.bool false) := rfl
  rw [e] at hv
  rw [hr, rb_inv hv]
  rfl
theorem Done0.update {w : World} {m : Nat} (h : Done0 w m) (p : ByteArray) (hp : p.size ≤ maxLen) (f : Bool) :
    ∃ w', (Instr.mapUpdate 41 (.map (some m)) (.string p) (.bool f)).run Ybaf.prog w = .ok () w' ∧ Done1 w' m p f ∧ Keeps (· = m) w w' := by
  obtain ⟨w', hr, h3, h4⟩ := World.ownsMap.update h (Maps.string_keyed Ybaf.underlying9) Ybaf.underlying41 (by unfold maxLen; omega) (keyOf_string_mk Ybaf.underlying9 hp) (rb f)
  exact ⟨w', hr, h3, keeps_grown h4⟩
theorem Done0.len {w : World} {m : Nat} (h : Done0 w m) (ty : TypeId) : (Builtin.len_ #[41] ty #[.map (some m)]).run Ybaf.prog w = .ok (.int .i64 0) w := World.ownsMap.len h Ybaf.underlying41 ty
theorem Done1.len {w : World} {m : Nat} {p : ByteArray} {f : Bool} (h : Done1 w m p f) (ty : TypeId) : (Builtin.len_ #[41] ty #[.map (some m)]).run Ybaf.prog w = .ok (.int .i64 1) w := World.ownsMap.len h Ybaf.underlying41 ty
theorem Done1.look {w : World} {m : Nat} {p : ByteArray} {f : Bool} (h : Done1 w m p f) (hp : p.size ≤ maxLen) : (Instr.lookup 41 (.map (some m)) (.string p) true).run Ybaf.prog w = .ok (.tuple #[.bool f, .bool true]) w := by
  obtain ⟨v, ps, hr, hv⟩ := World.ownsMap.look_ok h (Maps.string_keyed Ybaf.underlying9) Ybaf.underlying41 (zero4 w) (rb false) (keyOf_string_mk Ybaf.underlying9 hp)
  rw [Maps.atKey_put_same Maps.isMap_empty ((Maps.string_keyed Ybaf.underlying9).key (keyOf_string_mk Ybaf.underlying9 hp))] at hv
  rw [Maps.has_put_same Maps.isMap_empty ((Maps.string_keyed Ybaf.underlying9).key (keyOf_string_mk Ybaf.underlying9 hp))] at hr
  rw [hr, rb_inv hv]
theorem Done0.keeps {T : Nat → Prop} {w w' : World} {m : Nat} (h : Done0 w m) (k : Keeps T w w') (hn : ¬ T m) : Done0 w' m := grown_keeps h k hn
theorem Done1.keeps {T : Nat → Prop} {w w' : World} {m : Nat} {p : ByteArray} {f : Bool} (h : Done1 w m p f) (k : Keeps T w w') (hn : ¬ T m) : Done1 w' m p f := grown_keeps h k hn
end Go.Proofs.YbulkbrtmFmt
