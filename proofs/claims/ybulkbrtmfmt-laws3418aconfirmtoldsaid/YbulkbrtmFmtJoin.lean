import Derived.Test.YbulkbrtmFmtShelf
import Derived.Test.YbulkbrtmFmtMem
import Derived.Lib.Join
set_option linter.unusedVariables false
set_option linter.unusedSimpArgs false
set_option maxHeartbeats 2000000
set_option maxRecDepth 100000
namespace Go.Proofs.YbulkbrtmFmt
open Go.RowKit Go.Proofs Go.Deep Go.Lib

theorem ownsRow_keeps {S : Nat → Prop} {w w' : World} {base : Nat} {e : TypeId} {size : Nat} {v : Value} {n : Nat} {xs : List Value} (h : w.ownsRow base e size v n xs) (k : Keeps S w w') (hS : ∀ b, S b → b < base) : w'.ownsRow base e size v n xs := by
  refine ⟨h.1, ?_⟩
  rcases h.2 with h0 | ⟨g, cap, cur, hv, hb, hh, hr⟩
  · exact .inl h0
  · exact .inr ⟨g, cap, cur, hv, hb, (k.block g (Array.getElem?_eq_some_iff.1 hh).1 (fun x => by have := hS g x; omega)).trans hh, hr⟩
theorem Keeps.thenBelow {S : Nat → Prop} {w w' w'' : World} {B : Nat} (h : Keeps S w w') (k : Below B w' w'') (hB : w.heap.size ≤ B) : Keeps S w w'' :=
  ⟨k.os.trans h.os, k.tape.trans h.tape, k.output.trans h.output, Nat.le_trans h.size k.size, fun b hb hs => (k.block b (by omega)).trans (h.block b hb hs)⟩

theorem lens_le : ∀ (xs : List ByteArray), (∀ s ∈ xs, s.size ≤ 100) → lens (xs.map (·.data.toList)) ≤ 100 * xs.length := by
  intro xs
  induction xs with
  | nil => intro _; simp [lens]
  | cons x r ih =>
    intro h
    have h1 := ih fun s hs => h s (by simp [hs])
    have h2 := h x (by simp)
    have h3 : x.data.toList.length ≤ 100 := by simpa using h2
    simp [lens] at h1 h3 ⊢
    omega
theorem join_le (xs : List ByteArray) (sep : List UInt8) (hs : sep.length = 1) (h : ∀ s ∈ xs, s.size ≤ 100) : (Lib.join (xs.map (·.data.toList)) sep).length ≤ 101 * xs.length := by
  cases xs with
  | nil => simp [Lib.join]
  | cons x r =>
    have h1 := lens_le (x :: r) h
    rw [List.map_cons] at h1 ⊢
    rw [Lib.join_length, hs]
    simp at h1 ⊢
    omega

theorem join_own (w : World) (base : Nat) (v : Value) (n : Nat) (ts : List ByteArray) (sep : ByteArray) (hsep : sep.size = 1) (h : w.ownsRow base 9 1 v n (ts.map Value.string)) (hn : n ≤ 1024) (hs : ∀ s ∈ ts, s.size ≤ 100) :
    Calls Ybaf.prog 18 #[v, .string sep] w fun e w' => ∃ s : ByteArray, e = .returned (.string s) ∧ s.size ≤ 200000 ∧ Keeps (fun _ => False) w w' := by
  have hlen : ts.length = n := by simpa using h.1
  rcases h.2 with ⟨rfl, rfl⟩ | ⟨g, cap, cur, rfl, _, hh, hc, _, hsz, ht⟩
  · refine (Ybaf.strings_Join_none none 0 sep w).mono ?_
    rintro e w' ⟨rfl, rfl⟩
    exact ⟨_, rfl, by decide, Keeps.refl _ _⟩
  · have hB : Blk w g 9 cur := hh
    have hj := join_le ts sep.data.toList (by simpa using hsep) hs
    have hcells : ∀ (j : Nat) x, ts[j]? = some x → w.cell? ⟨g, 0 + j, none⟩ = some (.string x) := fun j x hx => by
      rw [hB.cell, Nat.zero_add]
      have hjn : j < n := by have := (List.getElem?_eq_some_iff.1 hx).1; omega
      have := congrArg (·[j]?) ht
      rw [Nat.mul_one] at this
      simp only [List.getElem?_take_of_lt hjn, List.getElem?_map, hx] at this
      simpa using this
    have hcall := Ybaf.strings_Join g 0 cap ts sep w hcells hB.lt (by omega) (by omega) (by omega)
    rw [hlen] at hcall
    refine hcall.mono ?_
    rintro e w' ⟨rfl, hb⟩
    refine ⟨_, rfl, ?_, (Keeps.refl _ _).thenBelow hb (Nat.le_refl _)⟩
    show (Lib.join (ts.map (·.data.toList)) sep.data.toList).toArray.size ≤ 200000
    simp
    omega

/-- A builder with these bytes in it, in a block b from B on. -/
def Bld (B b : Nat) (l : List UInt8) (w : World) : Prop := Lib.IsBuilder 92 5 B b (Lib.byteCells l) w ∧ B ≤ w.heap.size
theorem Bld.start (w : World) : Bld w.heap.size w.heap.size [] (w.alloc (.cells #[.pointer none, .slice none 0 0] 92)) := ⟨fresh_isBuilder 92 5 w, by simp⟩
theorem Bld.keeps {B b : Nat} {l : List UInt8} {w w' : World} {S : Nat → Prop} (h : Bld B b l w) (k : Keeps S w w') (hS : ∀ c, S c → c < B) : Bld B b l w' := by
  have hk : ∀ p, BuilderAt 92 5 B b p (byteCells l) w → BuilderAt 92 5 B b p (byteCells l) w' := fun p ⟨hB, v, hb, ho, hne⟩ =>
    ⟨hB, v, (k.block b (Array.getElem?_eq_some_iff.1 hb).1 (fun x => by have := hS b x; omega)).trans hb, ownsRow_keeps ho k hS, hne⟩
  exact ⟨h.1.elim (fun x => .inl (hk _ x)) (fun x => .inr (hk _ x)), Nat.le_trans h.2 k.size⟩
theorem write_calls (B b : Nat) (l : List UInt8) (s : ByteArray) (w : World) (h : Bld B b l w) (hl : l.length + s.size ≤ 1000000) :
    Calls Ybaf.prog 28 #[.pointer (some ⟨b, 0, none⟩), .string s] w fun e w' => e = .returned (.tuple #[.int .i64 s.size, .nilIface]) ∧ Bld B b (l ++ s.data.toList) w' ∧ Below B w w' := by
  refine (Ybaf.Builder_WriteString B b _ s w h.1 (by rw [byteCells_length]; omega) h.2).mono ?_
  rintro e w' ⟨rfl, hb, hbel⟩
  refine ⟨rfl, ⟨.inr ?_, Nat.le_trans h.2 hbel.size⟩, hbel⟩
  have e : byteCells (l ++ s.data.toList) = byteCells l ++ strCells s := by
    simp [byteCells, strCells]
  rw [e]
  exact hb
theorem string_calls (B b : Nat) (l : List UInt8) (w : World) (h : Bld B b l w) :
    Calls Ybaf.prog 29 #[.pointer (some ⟨b, 0, none⟩)] w fun e w' => e = .returned (.string ⟨l.toArray⟩) ∧ Below B w w' := Ybaf.Builder_String_any B b l w h.1 h.2
end Go.Proofs.YbulkbrtmFmt
