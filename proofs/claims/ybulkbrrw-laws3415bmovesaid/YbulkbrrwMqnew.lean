import Derived.Test.YbulkbrrwMmoveParts
import Derived.LaidEqlPtr
namespace Go.Proofs.Ybulkbrrw
open Go.RowKit Go.Deep Go.Maps
set_option linter.unusedVariables false
set_option linter.unusedSimpArgs false
attribute [local go_sem ↓] Go.wp_at_zero Go.wp_at_succ

/-- The world behind the making of a queue. -/
def qworld (w : World) (id : Int) (s : Nat) : World :=
  (((((w.alloc (.map #[] 0)).alloc (.cells (qcells id s) 85)).alloc (.cells #[.slice none 0 0, .func (.func 14) #[] #[], .func (.func 16) #[] #[]] 89)).alloc (.cells #[.slice none 0 0, .func (.func 15) #[] #[], .func (.func 16) #[] #[]] 89)).alloc (.cells #[.slice none 0 0, .func (.func 15) #[] #[], .func (.func 16) #[] #[]] 89)).alloc (.cells #[.slice none 0 0, .func (.func 14) #[] #[], .func (.func 17) #[] #[]] 89)

set_option maxRecDepth 100000 in
set_option maxHeartbeats 2000000 in
theorem queue6_run (w : World) (id : Int) :
    Calls Yba.prog 6 #[.int .u64 id] w fun e w' => e = .returned (.pointer (some ⟨w.heap.size + 1, 0, none⟩)) ∧ w' = qworld w id w.heap.size := by
  have hmm := @run_makeMap Yba.prog
  go_enter Yba.func6, Yba.ntmps6
  go_wp2
  go_ret
  exact ⟨rfl, rfl⟩

theorem new_at (w : World) (t : TypeId) (cs : Array Value) (N : Nat) (h : N = w.heap.size) : Blk (w.alloc (.cells cs t)) N t cs := by subst h; exact Blk.new _ _ _

theorem queue6 (w : World) (id : Int) :
    Calls Yba.prog 6 #[.int .u64 id] w fun e w' => e = .returned (.pointer (some ⟨w.heap.size + 1, 0, none⟩)) ∧ MapAt w' w.heap.size 0 (.map []) ∧ (∀ D base, w.heap.size + 6 ≤ base → QH w' D base w.heap.size id nilV nilX) ∧ Keeps (fun _ => False) w w' ∧ w'.heap.size = w.heap.size + 6 := by
  refine (queue6_run w id).mono ?_
  rintro e w' ⟨rfl, rfl⟩
  refine ⟨rfl, ?_, ?_, ?_, by simp [qworld]⟩
  · exact World.ownsMap.alloc (World.ownsMap.alloc (World.ownsMap.alloc (World.ownsMap.alloc (World.ownsMap.alloc (World.ownsMap_made w Yba.prog 24 ptrElem) _) _) _) _) _
  · intro D base hb
    have hq : Blk (qworld w id w.heap.size) (w.heap.size + 1) 85 (qcells id w.heap.size) := ((((new_at _ _ _ _ (by simp)).alloc _).alloc _).alloc _).alloc _
    have h0 : Blk (qworld w id w.heap.size) (w.heap.size + 2) 89 #[.slice none 0 0, .func (.func 14) #[] #[], .func (.func 16) #[] #[]] := (((new_at _ _ _ _ (by simp)).alloc _).alloc _).alloc _
    have h1 : Blk (qworld w id w.heap.size) (w.heap.size + 3) 89 #[.slice none 0 0, .func (.func 15) #[] #[], .func (.func 16) #[] #[]] := ((new_at _ _ _ _ (by simp)).alloc _).alloc _
    have h2 : Blk (qworld w id w.heap.size) (w.heap.size + 4) 89 #[.slice none 0 0, .func (.func 15) #[] #[], .func (.func 16) #[] #[]] := (new_at _ _ _ _ (by simp)).alloc _
    have h3 : Blk (qworld w id w.heap.size) (w.heap.size + 5) 89 #[.slice none 0 0, .func (.func 14) #[] #[], .func (.func 17) #[] #[]] := new_at _ _ _ _ (by simp)
    refine ⟨hq, ?_, ?_, hb, ?_⟩
    · intro c hc
      have ho : (qworld w id w.heap.size).ownsRow base 53 1 (.slice none 0 0) 0 [] := World.ownsRow_nil _ _ _ _
      obtain rfl | rfl | rfl | rfl : c = 0 ∨ c = 1 ∨ c = 2 ∨ c = 3 := by omega
      · exact ⟨h0, ho, by simp [nilX], by simp [nilX], by simp [nilX]⟩
      · exact ⟨h1, ho, by simp [nilX], by simp [nilX], by simp [nilX]⟩
      · exact ⟨h2, ho, by simp [nilX], by simp [nilX], by simp [nilX]⟩
      · exact ⟨h3, ho, by simp [nilX], by simp [nilX], by simp [nilX]⟩
    · intro c c' _ _ _ b hb
      simp [nilV, Value.ownBlock] at hb
    · intro c _ g hg
      simp [nilX] at hg
  · exact ((((((Keeps.refl _ w).alloc _).alloc _).alloc _).alloc _).alloc _).alloc _

theorem info61 : ∃ j, Yba.prog.info? 61 = some j ∧ j.size ≠ 0 := by
  have h : (Yba.prog.info? 61).map (·.size) = some 51 := by kernel_rfl
  cases hi : Yba.prog.info? 61 with
  | none => rw [hi] at h; simp at h
  | some j => rw [hi] at h; simp at h; exact ⟨j, rfl, by omega⟩

theorem ptr_ne {w : World} {x g : Nat} {cs cs' : Array Value} (hne : x ≠ g) (hx : Blk w x 61 cs) (hg : Blk w g 61 cs') : (binOp .eql 53 (.pointer (some ⟨x, 0, none⟩)) (.pointer (some ⟨g, 0, none⟩))).run Yba.prog w = .ok (.bool false) w := by
  obtain ⟨j, h1, h2⟩ := info61
  exact run_eql_ptr_other w Yba.underlying53 h1 h2 (fun e => hne (congrArg Addr.block e)) hx hg

theorem ptr_same (w : World) (a : Addr) : (binOp .eql 53 (.pointer (some a)) (.pointer (some a))).run Yba.prog w = .ok (.bool true) w := by
  obtain ⟨j, h1, h2⟩ := info61
  exact run_eql_ptr_same w a Yba.underlying53 h1

theorem neq_same {P : Program} {tp te : TypeId} {j : TypeInfo} (w : World) (a : Addr) (hp : P.underlying tp = some (.pointer te)) (hte : P.info? te = some j) :
    (binOp .neq tp (.pointer (some a)) (.pointer (some a))).run P w = .ok (.bool false) w := by
  have h : ∀ d : Nat, (Op.equalIn (d + 1) tp (.pointer (some a)) (.pointer (some a))).run P w = .ok true w := fun d => by
    simp [Op.equalIn, run_underlying hp, sizeOf, typeInfo, hte, run_sameAddr_same]
  simp only [binOp]
  simp [Op.equal, Op.maxDepth, h 9999]

theorem neq53_same (w : World) (a : Addr) : (binOp .neq 53 (.pointer (some a)) (.pointer (some a))).run Yba.prog w = .ok (.bool false) w := by
  obtain ⟨j, h1, h2⟩ := info61
  exact neq_same w a Yba.underlying53 h1

theorem info85 : ∃ j, Yba.prog.info? 85 = some j := by
  have h : (Yba.prog.info? 85).map (·.size) = some 27 := by kernel_rfl
  cases hi : Yba.prog.info? 85 with
  | none => rw [hi] at h; simp at h
  | some j => exact ⟨j, rfl⟩

theorem neq50_same (w : World) (a : Addr) : (binOp .neq 50 (.pointer (some a)) (.pointer (some a))).run Yba.prog w = .ok (.bool false) w := by
  obtain ⟨j, h1⟩ := info85
  exact neq_same w a Yba.underlying50 h1

set_option maxHeartbeats 1000000 in
theorem notin9 (w : World) (v : Value) (base : Nat) (xs : List Nat) (g : Nat) (ho : w.ownsRow base 53 1 v xs.length (xs.map pt)) (hg : g ∉ xs) (hn : xs.length < 1000) (hx : ∀ x, x ∈ xs → ∃ cs, Blk w x 61 cs) (hgb : ∃ cs, Blk w g 61 cs) :
    Calls Yba.prog 9 #[v, .pointer (some ⟨g, 0, none⟩)] w fun e w' => e = .returned (.bool true) ∧ w' = w := by
  obtain ⟨ao, cap, rfl⟩ := own_slice ho
  have hcell : ∀ i (hi : i < xs.length), ∃ r, ao = some ⟨r, 0, none⟩ ∧ w.cell? ⟨r, i, none⟩ = some (.pointer (some ⟨xs[i], 0, none⟩)) := by
    intro i hi
    rcases ho.2 with ⟨_, h0⟩ | ⟨r, cap', cur, e1, hb, _, hc, _⟩
    · omega
    · simp at e1
      obtain ⟨rfl, rfl⟩ := e1
      refine ⟨r, rfl, ?_⟩
      rw [ho.cellAt i (by omega)]
      simp [hi, pt]
  clear ho
  go_enter Yba.func9, Yba.ntmps9
  go_wp2
  go_loopw [5] (fun q wr => ∃ i : Nat, i ≤ xs.length ∧ q = .int .i64 i ∧ wr = w) (fun q _ => xs.length - (intOf q).toNat)
  case atStart => exact ⟨0, by omega, rfl, rfl⟩
  case round =>
    obtain ⟨i, hi, rfl, rfl⟩ := hrel
    by_cases h4 : i = xs.length
    · subst h4
      go_wp2
      go_ret
      exact ⟨rfl, rfl⟩
    have hi1 : i < xs.length := by omega
    obtain ⟨r, rfl, hc⟩ := hcell i hi1
    have hne : xs[i] ≠ g := fun e => hg (e ▸ List.getElem_mem hi1)
    have i1 : (i : Int) < (xs.length : Int) := by omega
    obtain ⟨cs, hxb⟩ := hx xs[i] (List.getElem_mem hi1)
    obtain ⟨cs', hgb⟩ := hgb
    have hcmp := ptr_ne hne hxb hgb
    obtain ⟨x, hxe⟩ : ∃ x, x = xs[i] := ⟨_, rfl⟩
    rw [← hxe] at hc hcmp
    clear hxe hcell hne hxb hgb hx
    go_wp2
    go_roundw
    case rel => exact ⟨i + 1, by omega, by go_num, by simp⟩
    case measure => simp [intOf]; omega
end Go.Proofs.Ybulkbrrw
