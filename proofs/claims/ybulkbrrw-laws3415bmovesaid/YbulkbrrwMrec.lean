import Derived.Test.YbulkbrrwRows
import Derived.Test.YbulkbrrwMem
import Derived.Test.YbulkbrrwHeapDefs
import Derived.RangeFuncBox
import Derived.BigQuiet
import Derived.Deep.QuietTactic
namespace Go.Proofs.Ybulkbrrw
open Go.RowKit Go.Deep
set_option linter.unusedVariables false
set_option linter.unusedSimpArgs false

/-- A message as plain data. -/
structure Rec where
  sq : Int
  rc : Int
  hd : Int
  fi : Int
  la : Int
  og : Value
  ix : Int
  ag : Int

/-- .. and its 51 cells. -/
def Rec.cells (r : Rec) : Array Value := #[.int .u64 r.sq,
  .int .u8 0, .int .u8 0, .int .u8 0, .int .u8 0, .int .u8 0, .int .u8 0, .int .u8 0, .int .u8 0, .int .u8 0, .int .u8 0, .int .u8 0, .int .u8 0, .int .u8 0, .int .u8 0, .int .u8 0, .int .u8 0,
  .int .i64 0,
  .int .u8 0, .int .u8 0, .int .u8 0, .int .u8 0, .int .u8 0, .int .u8 0, .int .u8 0, .int .u8 0, .int .u8 0, .int .u8 0, .int .u8 0, .int .u8 0, .int .u8 0, .int .u8 0, .int .u8 0, .int .u8 0,
  .int .i64 r.rc, .int .i64 r.hd,
  .int .i64 0, .int .i64 0, .int .i64 0, .int .i64 0, .int .i64 0, .int .i64 0, .int .i64 0, .int .i64 0,
  .int .i64 r.fi, .int .i64 r.la, r.og, .int .i64 r.ix, .int .i64 r.ag, .string { data := #[] }, .string { data := #[] }]

/-- The place that a heap keeps in it: the state's (false), the aged heap's (true). -/
def Rec.pos (r : Rec) : Bool → Int
  | false => r.ix
  | true => r.ag
def Rec.put (r : Rec) : Bool → Int → Rec
  | false, i => { r with ix := i }
  | true, i => { r with ag := i }
def so : Bool → Nat
  | false => 47
  | true => 48
def sl : Bool → Nat
  | false => 16
  | true => 17

theorem Rec.set (r : Rec) (k : Bool) (i : Int) : r.cells.setIfInBounds (so k) (.int .i64 i) = (r.put k i).cells := by cases k <;> rfl
theorem Rec.at_pos (r : Rec) (k : Bool) : r.cells[so k]? = some (.int .i64 (r.pos k)) := by cases k <;> rfl
theorem Rec.pos_put (r : Rec) (k : Bool) (i : Int) : (r.put k i).pos k = i := by cases k <;> rfl
theorem Rec.pos_put_other (r : Rec) (k k' : Bool) (i : Int) (h : k' ≠ k) : (r.put k i).pos k' = r.pos k' := by cases k <;> cases k' <;> first | rfl | exact absurd rfl h
theorem Rec.put_put (r : Rec) (k : Bool) (i j : Int) : (r.put k i).put k j = r.put k j := by cases k <;> rfl
theorem Rec.put_pos (r : Rec) (k : Bool) : r.put k (r.pos k) = r := by cases k <;> rfl

set_option maxHeartbeats 400000 in
theorem slot16 (w : World) (a : Nat) :
    Calls Yba.prog 16 #[.pointer (some ⟨a, 0, none⟩)] w fun e w' => e = .returned (.pointer (some ⟨a, 47, none⟩)) ∧ w' = w := by
  go_enter Yba.func16, Yba.ntmps16
  go_wp2
  go_ret
  exact ⟨rfl, rfl⟩

set_option maxHeartbeats 400000 in
theorem slot17 (w : World) (a : Nat) :
    Calls Yba.prog 17 #[.pointer (some ⟨a, 0, none⟩)] w fun e w' => e = .returned (.pointer (some ⟨a, 48, none⟩)) ∧ w' = w := by
  go_enter Yba.func17, Yba.ntmps17
  go_wp2
  go_ret
  exact ⟨rfl, rfl⟩

/-- By sequence number (heaps 0, 3); by due time, then by sequence number (heaps 1, 2). -/
def ltM (c : Nat) (a b : Rec) : Bool := if c = 0 ∨ c = 3 then decide (a.sq < b.sq) else if a.hd ≠ b.hd then decide (a.hd < b.hd) else decide (a.sq < b.sq)
def le (c : Nat) : Nat := if c = 0 ∨ c = 3 then 14 else 15

set_option maxHeartbeats 400000 in
theorem less14 (w : World) (a b : Nat) (ra rb : Rec) (ha : Blk w a 61 ra.cells) (hb : Blk w b 61 rb.cells) :
    Calls Yba.prog 14 #[.pointer (some ⟨a, 0, none⟩), .pointer (some ⟨b, 0, none⟩)] w fun e w' => e = .returned (.bool (decide (ra.sq < rb.sq))) ∧ ∃ n, w' = w.drewN n := by
  have a3 : w.cell? ⟨a, 0, none⟩ = some (.int .u64 ra.sq) := ha.cell 0
  have b3 : w.cell? ⟨b, 0, none⟩ = some (.int .u64 rb.sq) := hb.cell 0
  clear ha hb
  go_enter Yba.func14, Yba.ntmps14
  go_wp2
  go_quiet (fail)
  go_wp2
  go_ret
  exact ⟨rfl, _, rfl⟩

theorem drewN_add (w : World) (a b : Nat) : (w.drewN a).drewN b = w.drewN (a + b) := by simp [World.drewN, Nat.add_assoc]

set_option maxHeartbeats 1000000 in
theorem less15 (w : World) (a b : Nat) (ra rb : Rec) (ha : Blk w a 61 ra.cells) (hb : Blk w b 61 rb.cells) :
    Calls Yba.prog 15 #[.pointer (some ⟨a, 0, none⟩), .pointer (some ⟨b, 0, none⟩)] w fun e w' => e = .returned (.bool (if ra.hd ≠ rb.hd then decide (ra.hd < rb.hd) else decide (ra.sq < rb.sq))) ∧ ∃ n, w' = w.drewN n := by
  have a3 : w.cell? ⟨a, 0, none⟩ = some (.int .u64 ra.sq) := ha.cell 0
  have b3 : w.cell? ⟨b, 0, none⟩ = some (.int .u64 rb.sq) := hb.cell 0
  have a4 : w.cell? ⟨a, 35, none⟩ = some (.int .i64 ra.hd) := ha.cell 35
  have b4 : w.cell? ⟨b, 35, none⟩ = some (.int .i64 rb.hd) := hb.cell 35
  clear ha hb
  by_cases hd : ra.hd = rb.hd
  · rw [hd] at a4 ⊢
    simp only [ne_eq, not_true_eq_false, if_false]
    go_enter Yba.func15, Yba.ntmps15
    go_wp2
    go_quiet (fail)
    go_wp2
    go_quiet (fail)
    go_wp2
    go_ret
    exact ⟨rfl, _, drewN_add _ _ _⟩
  · rw [if_pos hd]
    have hd1 : (ra.hd == rb.hd) = false := by simpa using hd
    go_enter Yba.func15, Yba.ntmps15
    go_wp2
    go_quiet (fail)
    go_wp2
    go_quiet (fail)
    go_wp2
    go_ret
    exact ⟨rfl, _, drewN_add _ _ _⟩

/-- A heap of messages: number c of its queue (0 ready, 1 hidden, 2 delayed, 3 aged): the object H, its row v, the messages xs, each at its own place. -/
structure MHeap (w : World) (D : Nat → Rec) (c base H : Nat) (v : Value) (xs : List Nat) : Prop where
  obj : Blk w H 89 #[v, .func (.func (le c)) #[] #[], .func (.func (sl (c == 3))) #[] #[]]
  own : w.ownsRow base 53 1 v xs.length (xs.map pt)
  msg : ∀ g, g ∈ xs → Blk w g 61 (D g).cells
  pos : ∀ (i g : Nat), xs[i]? = some g → (D g).pos (c == 3) = i
  few : xs.length < 1000

theorem MHeap.row {w : World} {D : Nat → Rec} {c base H : Nat} {v : Value} {xs : List Nat} (h : MHeap w D c base H v xs) (hp : 0 < xs.length) :
    ∃ r cap, v = .slice (some ⟨r, 0, none⟩) xs.length cap ∧ xs.length ≤ cap ∧ base ≤ r ∧ (∀ i, w.frozen? ⟨r, i, none⟩ = false) ∧ ∀ (i g : Nat), xs[i]? = some g → w.cell? ⟨r, i, none⟩ = some (.pointer (some ⟨g, 0, none⟩)) := by
  have ho := h.own
  rcases ho.2 with ⟨_, h0⟩ | ⟨r, cap, cur, rfl, hb, _, hc, _⟩
  · omega
  · refine ⟨r, cap, rfl, hc, hb, fun i => ho.frozenAt i, fun i g hg => ?_⟩
    have hi : i < xs.length := (List.getElem?_eq_some_iff.1 hg).1
    rw [ho.cellAt i (by omega)]
    simp [hg, pt]

theorem MHeap.inj {w : World} {D : Nat → Rec} {c base H : Nat} {v : Value} {xs : List Nat} (h : MHeap w D c base H v xs) {i j g : Nat} (hi : xs[i]? = some g) (hj : xs[j]? = some g) : i = j := by
  have h1 := h.pos i g hi
  rw [h.pos j g hj] at h1
  omega

set_option maxHeartbeats 400000 in
theorem len89 (w : World) (H n cap : Nat) (ao : Option Addr) (h : w.cell? ⟨H, 0, none⟩ = some (.slice ao n cap)) :
    Calls Yba.prog 89 #[.pointer (some ⟨H, 0, none⟩)] w fun e w' => e = .returned (.int .i64 n) ∧ w' = w := by
  go_enter Yba.func89, Yba.ntmps89
  go_wp2
  go_ret
  exact ⟨rfl, rfl⟩

set_option maxHeartbeats 400000 in
theorem less90 (w : World) (D : Nat → Rec) (c base H : Nat) (v : Value) (xs : List Nat) (h : MHeap w D c base H v xs) (i j a b : Nat) (hi : xs[i]? = some a) (hj : xs[j]? = some b) :
    Calls Yba.prog 90 #[.pointer (some ⟨H, 0, none⟩), .int .i64 i, .int .i64 j] w fun e w' => e = .returned (.bool (ltM c (D a) (D b))) ∧ ∃ n, w' = w.drewN n := by
  have hli : i < xs.length := (List.getElem?_eq_some_iff.1 hi).1
  have hlj : j < xs.length := (List.getElem?_eq_some_iff.1 hj).1
  have hfew := h.few
  obtain ⟨r, cap, rfl, hc, hb, hf, hcell⟩ := h.row (by omega)
  have c0 : w.cell? ⟨H, 0, none⟩ = some _ := h.obj.cell 0
  have c1 : w.cell? ⟨H, 1, none⟩ = some (.func (.func (le c)) #[] #[]) := h.obj.cell 1
  have ci := hcell i a hi
  have cj := hcell j b hj
  have i1 : (i : Int) < (xs.length : Int) := by omega
  have j1 : (j : Int) < (xs.length : Int) := by omega
  have ga := h.msg a (List.mem_iff_getElem?.2 ⟨_, hi⟩)
  have gb := h.msg b (List.mem_iff_getElem?.2 ⟨_, hj⟩)
  clear hcell hi hj h
  by_cases hcc : c = 0 ∨ c = 3
  · have hl := fun n => less14 (w.drewN n) a b (D a) (D b) ga gb
    simp only [ltM, if_pos hcc]
    rw [show le c = 14 from by simp [le, hcc]] at c1
    go_enter Yba.func90, Yba.ntmps90
    go_wp2
    go_quiet ((go_at_call 14; exact Calls.quiet_of (hl _)))
    go_wp2
    go_ret
    exact ⟨rfl, _, rfl⟩
  · have hl := fun n => less15 (w.drewN n) a b (D a) (D b) ga gb
    simp only [ltM, if_neg hcc]
    rw [show le c = 15 from by simp [le, hcc]] at c1
    obtain ⟨bb, hbb⟩ : ∃ bb : Bool, bb = (if (D a).hd ≠ (D b).hd then decide ((D a).hd < (D b).hd) else decide ((D a).sq < (D b).sq)) := ⟨_, rfl⟩
    rw [← hbb] at hl ⊢
    clear hbb
    go_enter Yba.func90, Yba.ntmps90
    go_wp2
    go_quiet ((go_at_call 15; exact Calls.quiet_of (hl _)))
    go_wp2
    go_ret
    exact ⟨rfl, _, rfl⟩
end Go.Proofs.Ybulkbrrw
