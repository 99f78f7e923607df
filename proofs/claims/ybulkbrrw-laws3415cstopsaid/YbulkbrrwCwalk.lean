import Derived.Test.YbulkbrrwRecv
namespace Go.Proofs.Ybulkbrrw
open Go.RowKit Go.Deep
set_option linter.unusedVariables false
set_option linter.unusedSimpArgs false
variable {ms : Nat → List Nat} {sq hd : Nat → Int}

/-- The queue: its object Q, the heap H of the groups that can be received from, whose groups in the order of their keys are S. -/
structure Queue (w : World) (ms : Nat → List Nat) (sq hd : Nat → Int) (lo base Q H : Nat) (S : List Nat) : Prop where
  obj : ∃ cs, Blk w Q 85 cs ∧ cs[24]? = some (.pointer (some ⟨H, 0, none⟩))
  heap : ∃ v xs, GHeap w ms sq hd base H v xs ∧ xs.Perm S ∧ HeapN (key ms sq) xs xs.length
  stage : Stage ms sq lo H S
  many : ∀ g, g ∈ S → (ms g).length ≤ 5
  bs : base ≤ w.heap.size
  los : lo ≤ w.heap.size

set_option maxHeartbeats 1000000 in
theorem cwalk11 (w : World) (lo base Q H : Nat) (S : List Nat) (limit : Int) (h : Queue w ms sq hd lo base Q H S) (hlim : limit < 100000) (hop : open38 limit []) :
    Calls Yba.prog 11 #[.pointer (some ⟨Q, 0, none⟩), .int .i64 limit] w fun e w' => ∃ lv, e = .returned lv ∧ w'.ownsRow w.heap.size 24 1 lv (takeI limit (S.flatMap (vis ms sq hd))).length (u64s (takeI limit (S.flatMap (vis ms sq hd)))) ∧
      KeepI lo w w' ∧ Queue w' ms sq hd lo base Q H S := by
  obtain ⟨v, xs, h1, h2, h3⟩ := h.heap
  obtain ⟨cs, bQ, hcs⟩ := h.obj
  have hmf : ∀ (fn : Fn) (first cap : Array Value) (w : World), (Instr.makeFunc fn first cap).run Yba.prog w = .ok (.func fn first cap) w := fun _ _ _ _ => rfl
  have hlos := h.los
  have hbs := h.bs
  go_enter Yba.func11, Yba.ntmps11
  go_wp2_with fail
  refine (recv27 _ Q).mono ?_
  rintro e w1 ⟨rfl, hw1⟩
  have hk1 : KeepI lo w w1 := by rw [hw1]; exact ((KeepI.alloc w _).trans (.alloc _ _)).trans (.alloc _ _)
  have hkb1 : KeepB w w1 := by rw [hw1]; exact ⟨by simp; omega, fun b t cs _ _ hb => ((hb.alloc _).alloc _).alloc _⟩
  have hlg : Log w1 (w.heap.size + 2) (w.heap.size + 1) w.heap.size limit (.slice none 0 0) [] := by
    rw [hw1]
    refine ⟨?_, ((Blk.new w _ _).alloc _).alloc _, World.ownsRow_nil _ _ _ _, by omega, by omega, by simp⟩
    have := Blk.new (w.alloc (.cells #[.int .i64 limit] 3)) 94 #[.slice none 0 0]
    rw [World.size_alloc] at this
    exact this.alloc _
  have bq : Blk w1 (w.heap.size + 2) 50 #[.pointer (some ⟨Q, 0, none⟩)] := by
    rw [hw1]
    have := Blk.new ((w.alloc (.cells #[.int .i64 limit] 3)).alloc (.cells #[.slice none 0 0] 94)) 50 #[.pointer (some ⟨Q, 0, none⟩)]
    simpa using this
  have hW := walk38 w w1 lo (w.heap.size + 2) (w.heap.size + 1) w.heap.size (w.heap.size + 2) Q H base limit S v xs h.stage hlg hk1 (by omega) (by omega) h.los hlim hop h.many (h1.keepB hkb1) h3 h2 h.bs bq ⟨cs, hkb1.blk _ _ _ (by decide) (by decide) bQ, hcs⟩
  clear hw1 bq hlg
  go_wp2_with fail
  refine hW.mono ?_
  rintro e w2 ⟨rfl, ⟨lv, hl2⟩, hk2, v', xs', q1, q2, q3, q4⟩
  have hcell : w2.cell? ⟨w.heap.size + 1, 0, none⟩ = some lv := hl2.box.cell 0
  obtain ⟨ao, cap, rfl⟩ := own_slice hl2.own
  go_wp2
  go_ret
  refine ⟨_, rfl, ?_, hk2, ⟨⟨cs, hk2.blk bQ (fun _ => by decide), hcs⟩, ⟨v', xs', q1, q2, q3⟩, h.stage, h.many, q4, by have := hk2.size; omega⟩⟩
  have ho := hl2.own
  refine ⟨ho.1, ?_⟩
  rcases ho.2 with e | ⟨g, c2, cur, e1, e2, e3⟩
  · exact .inl e
  · exact .inr ⟨g, c2, cur, e1, by omega, e3⟩
end Go.Proofs.Ybulkbrrw
