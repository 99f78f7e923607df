import Derived.Test.YbulkbrrwGops
namespace Go.Proofs.Ybulkbrrw
open Go.RowKit Go.Deep
set_option linter.unusedVariables false
set_option linter.unusedSimpArgs false

variable {ms : Nat → List Nat} {sq hd : Nat → Int}

theorem mPush (h : Addr) (w : World) : (method 338 135 (.pointer (some h)) "Push").run Yba.prog w = .ok (100, .pointer (some h)) w := by kernel_rfl
theorem mPop (h : Addr) (w : World) : (method 338 135 (.pointer (some h)) "Pop").run Yba.prog w = .ok (99, .pointer (some h)) w := by kernel_rfl
theorem mLen (h : Addr) (w : World) : (method 338 135 (.pointer (some h)) "Len").run Yba.prog w = .ok (97, .pointer (some h)) w := by kernel_rfl
theorem mSwap (h : Addr) (w : World) : (method 338 135 (.pointer (some h)) "Swap").run Yba.prog w = .ok (101, .pointer (some h)) w := by kernel_rfl

/-- Behind the method Push: the heap with the group at its end. -/
theorem GHeap.pushed {w w' : World} {base H r cap g : Nat} {v : Value} {xs : List Nat} {gs : Array Value} {idx : Int} (h : GHeap w ms sq hd base H v xs) (hg : Grp w ms sq hd g idx) (hgx : g ∉ xs) (hfew : xs.length + 1 < 1000) (hgs : Blk w g 108 gs)
    (h1 : Blk w' H 120 #[.slice (some ⟨r, 0, none⟩) (xs.length + 1) cap, .func (.func 36) #[] #[], .func (.func 37) #[] #[]])
    (h2 : w'.ownsRow base 100 1 (.slice (some ⟨r, 0, none⟩) (xs.length + 1) cap) (xs.length + 1) (xs.map pt ++ [pt g])) (h3 : Blk w' g 108 (gs.setIfInBounds 3 (.int .i64 xs.length)))
    (h4 : Keeps (fun b => b = H ∨ b = g ∨ some b = v.ownBlock) w w') :
    GHeap w' ms sq hd base H (.slice (some ⟨r, 0, none⟩) (xs.length + 1) cap) (xs ++ [g]) := by
  have hno : ∀ b t cs, Blk w b t cs → t = 53 ∨ t = 61 → ¬ (b = H ∨ b = g ∨ some b = v.ownBlock) := by
    intro b t cs hb ht hh
    rcases hh with rfl | rfl | hh
    · have := (blk_inj hb h.obj).1; rcases ht with rfl | rfl <;> exact absurd this (by decide)
    · have := (blk_inj hb hgs).1; rcases ht with rfl | rfl <;> exact absurd this (by decide)
    · exact own_ne h.own hb (by rcases ht with rfl | rfl <;> decide) hh
  refine ⟨h1, by simpa using h2, ?_, h.lt, by simpa using hfew⟩
  intro i c hc
  by_cases hi : i < xs.length
  · rw [List.getElem?_append_left hi] at hc
    have hcx : c ∈ xs := List.mem_iff_getElem?.2 ⟨_, hc⟩
    refine (h.grp i c hc).keeps h4 ?_
    rintro b t cs hb (⟨rfl, rfl⟩ | ht | ht)
    · rintro (rfl | rfl | hh)
      · exact absurd (blk_inj hb h.obj).1 (by decide)
      · exact hgx hcx
      · exact own_ne h.own hb (by decide) hh
    · exact hno b t cs hb (.inl ht)
    · exact hno b t cs hb (.inr ht)
  · rw [List.getElem?_append_right (by omega)] at hc
    have hi2 : i - xs.length = 0 := by
      have := (List.getElem?_eq_some_iff.1 hc).1
      simp at this; omega
    rw [hi2] at hc
    simp at hc
    subst hc
    have hi3 : i = xs.length := by omega
    subst hi3
    obtain ⟨⟨r2, cap2, rs, g1, g2, g3, g4⟩, g5, g6⟩ := hg
    have := (blk_inj hgs g1).2
    subst this
    refine ⟨⟨r2, cap2, rs, h3, g2, g3.keeps h4 (hno _ _ _ g3 (.inl rfl)), g4⟩, fun m hm => (g5 m hm).keeps h4 (fun cs hc => hno _ _ _ hc (.inr rfl)), g6⟩

theorem Keeps.trans' {S T : Nat → Prop} {w w1 w2 : World} (h : Keeps S w w1) (k : Keeps T w1 w2) (hst : ∀ b, b < w.heap.size → T b → S b) : Keeps S w w2 :=
  ⟨k.os.trans h.os, k.tape.trans h.tape, k.output.trans h.output, Nat.le_trans h.size k.size, fun b hb hs => (k.block b (Nat.lt_of_lt_of_le hb h.size) (fun x => hs (hst b hb x))).trans (h.block b hb hs)⟩

def pushL (ms : Nat → List Nat) (sq : Nat → Int) (xs : List Nat) (g : Nat) : List Nat := upF (ltK ms sq) (xs.length + 1) (xs ++ [g]) xs.length

set_option maxHeartbeats 1000000 in
theorem push31 (w : World) (base H g : Nat) (v : Value) (xs : List Nat) (idx : Int) (h : GHeap w ms sq hd base H v xs) (hg : Grp w ms sq hd g idx) (hgx : g ∉ xs) (hfew : xs.length + 1 < 1000) (hbs : base ≤ w.heap.size) :
    Calls Yba.prog 31 #[.iface 135 (.pointer (some ⟨H, 0, none⟩)), .iface 100 (.pointer (some ⟨g, 0, none⟩))] w fun e w' => e = .returned (.tuple #[]) ∧ ∃ v', GHeap w' ms sq hd base H v' (pushL ms sq xs g) ∧
      Keeps (fun b => b = H ∨ b = g ∨ b ∈ xs ∨ some b = v.ownBlock) w w' ∧ (v'.ownBlock = v.ownBlock ∨ ∃ r, v'.ownBlock = some r ∧ w.heap.size ≤ r) := by
  obtain ⟨gs, bg, sg, _⟩ := hg.blk
  have m1 := mPush
  have m2 := mLen
  have hHg : H ≠ g := blk_ne h.obj bg (by decide)
  have hP := push100 w H xs.length base g v gs (xs.map pt) (by have := h.few; omega) hHg h.lt hbs h.obj h.own bg (by omega)
  have HP := hP
  clear hP
  go_enter Yba.func31, Yba.ntmps31
  go_wp2_with fail
  refine HP.mono ?_
  rintro e w1 ⟨rfl, r, cap, h1, h2, h3, h4, h5⟩
  have hh := h.pushed hg hgx hfew bg h1 h2 h3 h4
  have c0 : w1.cell? ⟨H, 0, none⟩ = some (.slice (some ⟨r, 0, none⟩) (xs.length + 1) cap) := h1.cell 0
  have hU := up41 (gops ms sq hd base H (.slice (some ⟨r, 0, none⟩) (xs.length + 1) cap) (fun b => b ∈ xs ++ [g])) w1 (xs ++ [g]) xs.length ⟨hh, fun _ h => h⟩ (by simp)
  clear h1 h2 h3 HP
  go_wp2_with fail
  refine (len97 w1 H (xs.length + 1) cap _ c0).mono ?_
  rintro e w2 ⟨rfl, rfl⟩
  go_wp2_with fail
  refine hU.mono ?_
  rintro e w3 ⟨rfl, ⟨hh3, _⟩, hk3⟩
  go_wp2
  go_end0
  refine ⟨rfl, _, hh3, ?_, ?_⟩
  · refine (h4.mono ?_).trans' hk3 ?_
    · rintro b _ (rfl | rfl | hb)
      · exact .inl rfl
      · exact .inr (.inl rfl)
      · exact .inr (.inr (.inr hb))
    · rintro b hb (hx | hx)
      · rcases List.mem_append.1 hx with hx | hx
        · exact .inr (.inr (.inl hx))
        · exact .inr (.inl (by simpa using hx))
      · simp only [Value.ownBlock, Option.some.injEq] at hx
        subst hx
        rcases h5 with h5 | h5
        · exact .inr (.inr (.inr h5))
        · omega
  · rcases h5 with h5 | h5
    · exact .inl h5
    · exact .inr ⟨r, rfl, h5⟩

set_option maxHeartbeats 1000000 in
theorem push26 (w : World) (base H g : Nat) (v : Value) (xs : List Nat) (idx : Int) (h : GHeap w ms sq hd base H v xs) (hg : Grp w ms sq hd g idx) (hgx : g ∉ xs) (hfew : xs.length + 1 < 1000) (hbs : base ≤ w.heap.size) :
    Calls Yba.prog 26 #[.pointer (some ⟨H, 0, none⟩), .pointer (some ⟨g, 0, none⟩)] w fun e w' => e = .returned (.tuple #[]) ∧ ∃ v', GHeap w' ms sq hd base H v' (pushL ms sq xs g) ∧
      Keeps (fun b => b = H ∨ b = g ∨ b ∈ xs ∨ some b = v.ownBlock) w w' ∧ (v'.ownBlock = v.ownBlock ∨ ∃ r, v'.ownBlock = some r ∧ w.heap.size ≤ r) := by
  have hP := push31 w base H g v xs idx h hg hgx hfew hbs
  go_enter Yba.func26, Yba.ntmps26
  go_wp2_with fail
  refine hP.mono ?_
  rintro e w1 ⟨rfl, hh⟩
  go_wp2
  go_end0
  exact ⟨rfl, hh⟩
end Go.Proofs.Ybulkbrrw
