import Derived.Test.YbulkbrrwMops
import Derived.Test.YbulkbrrwHeapLaws
namespace Go.Proofs.Ybulkbrrw
open Go.RowKit Go.Deep
set_option linter.unusedVariables false
set_option linter.unusedSimpArgs false

theorem nPush (h : Addr) (w : World) : (method 338 124 (.pointer (some h)) "Push").run Yba.prog w = .ok (92, .pointer (some h)) w := by kernel_rfl
theorem nPop (h : Addr) (w : World) : (method 338 124 (.pointer (some h)) "Pop").run Yba.prog w = .ok (91, .pointer (some h)) w := by kernel_rfl
theorem nLen (h : Addr) (w : World) : (method 338 124 (.pointer (some h)) "Len").run Yba.prog w = .ok (89, .pointer (some h)) w := by kernel_rfl
theorem nSwap (h : Addr) (w : World) : (method 338 124 (.pointer (some h)) "Swap").run Yba.prog w = .ok (93, .pointer (some h)) w := by kernel_rfl

theorem mpush92 (w : World) (D : Nat → Rec) (c H n base g : Nat) (v : Value) (xs : List Value) (hn : n < 1000) (hHg : H ≠ g) (hHb : H < base) (hbs : base ≤ w.heap.size)
    (hobj : Blk w H 89 #[v, .func (.func (le c)) #[] #[], .func (.func (sl (c == 3))) #[] #[]])
    (hown : w.ownsRow base 53 1 v n xs) (hg : Blk w g 61 (D g).cells) :
    Calls Yba.prog 92 #[.pointer (some ⟨H, 0, none⟩), .iface 53 (.pointer (some ⟨g, 0, none⟩))] w fun e w' => e = .returned (.tuple #[]) ∧ ∃ r cap,
      Blk w' H 89 #[.slice (some ⟨r, 0, none⟩) (n + 1) cap, .func (.func (le c)) #[] #[], .func (.func (sl (c == 3))) #[] #[]] ∧
      w'.ownsRow base 53 1 (.slice (some ⟨r, 0, none⟩) (n + 1) cap) (n + 1) (xs ++ [pt g]) ∧ Blk w' g 61 ((D g).put (c == 3) n).cells ∧
      Keeps (fun b => b = H ∨ b = g ∨ some b = v.ownBlock) w w' ∧ (some r = v.ownBlock ∨ w.heap.size ≤ r) := by
  generalize (c == 3) = k at hobj ⊢
  cases k with
  | false => exact mpush16 w (le c) H n base g v (D g).cells xs hn hHg hHb hbs hobj hown hg (by rw [size_cells]; decide)
  | true => exact mpush17 w (le c) H n base g v (D g).cells xs hn hHg hHb hbs hobj hown hg (by rw [size_cells]; decide)

section
variable {w w' : World} {D : Nat → Rec} {c base H : Nat} {v : Value} {xs : List Nat}

theorem MHeap.pushed {r cap g : Nat} (h : MHeap w D c base H v xs) (hg : Blk w g 61 (D g).cells) (hgx : g ∉ xs) (hfew : xs.length + 1 < 1000)
    (h1 : Blk w' H 89 #[.slice (some ⟨r, 0, none⟩) (xs.length + 1) cap, .func (.func (le c)) #[] #[], .func (.func (sl (c == 3))) #[] #[]])
    (h2 : w'.ownsRow base 53 1 (.slice (some ⟨r, 0, none⟩) (xs.length + 1) cap) (xs.length + 1) (xs.map pt ++ [pt g])) (h3 : Blk w' g 61 ((D g).put (c == 3) xs.length).cells)
    (h4 : Keeps (fun b => b = H ∨ b = g ∨ some b = v.ownBlock) w w') :
    MHeap w' (setD D g (c == 3) xs.length) c base H (.slice (some ⟨r, 0, none⟩) (xs.length + 1) cap) (xs ++ [g]) := by
  refine ⟨h1, by simpa using h2, ?_, ?_, by simpa using hfew⟩
  · intro x hx
    by_cases e : x = g
    · subst e; rw [setD_same]; exact h3
    · rw [setD_other _ _ _ _ e]
      have hx' : x ∈ xs := by simpa [e] using hx
      refine (h.msg x hx').keeps h4 ?_
      rintro (hh | hh | hh)
      · exact blk_ne (h.msg x hx') h.obj (by decide) hh
      · exact e hh
      · exact own_ne h.own (h.msg x hx') (by decide) hh
  · intro i x hx
    by_cases hi : i < xs.length
    · rw [List.getElem?_append_left hi] at hx
      have e : x ≠ g := fun e => hgx (e ▸ List.mem_iff_getElem?.2 ⟨_, hx⟩)
      rw [setD_other _ _ _ _ e]
      exact h.pos i x hx
    · rw [List.getElem?_append_right (by omega)] at hx
      have hi2 : i - xs.length = 0 := by
        have := (List.getElem?_eq_some_iff.1 hx).1
        simp at this; omega
      rw [hi2] at hx
      simp at hx
      subst hx
      rw [setD_same, Rec.pos_put]
      omega

/-- What a heap's push leaves. -/
structure Pushed (w : World) (D : Nat → Rec) (c base H : Nat) (v : Value) (xs : List Nat) (g : Nat) (w' : World) (D' : Nat → Rec) (v' : Value) (ys : List Nat) : Prop where
  heap : MHeap w' D' c base H v' ys
  perm : ys.Perm (xs ++ [g])
  like : Like (c == 3) D D'
  same : ∀ x, x ∉ xs → x ≠ g → D' x = D x
  keeps : Keeps (fun b => b = H ∨ b = g ∨ b ∈ xs ∨ some b = v.ownBlock) w w'
  row : v'.ownBlock = v.ownBlock ∨ ∃ r, v'.ownBlock = some r ∧ w.heap.size ≤ r

set_option maxHeartbeats 1000000 in
theorem mpush31 (w : World) (D : Nat → Rec) (c base H g : Nat) (v : Value) (xs : List Nat) (h : MHeap w D c base H v xs) (hg : Blk w g 61 (D g).cells) (hgx : g ∉ xs) (hfew : xs.length + 1 < 1000) (hHb : H < base) (hbs : base ≤ w.heap.size) :
    Calls Yba.prog 31 #[.iface 124 (.pointer (some ⟨H, 0, none⟩)), .iface 53 (.pointer (some ⟨g, 0, none⟩))] w fun e w' => e = .returned (.tuple #[]) ∧ ∃ D' v' ys, Pushed w D c base H v xs g w' D' v' ys := by
  have m1 := nPush
  have m2 := nLen
  have hHg : H ≠ g := blk_ne h.obj hg (by decide)
  have HP := mpush92 w D c H xs.length base g v (xs.map pt) (by have := h.few; omega) hHg hHb hbs h.obj h.own hg
  go_enter Yba.func31, Yba.ntmps31
  go_wp2_with fail
  refine HP.mono ?_
  rintro e w1 ⟨rfl, r, cap, h1, h2, h3, h4, h5⟩
  have hh := h.pushed hg hgx hfew h1 h2 h3 h4
  have c0 : w1.cell? ⟨H, 0, none⟩ = some (.slice (some ⟨r, 0, none⟩) (xs.length + 1) cap) := h1.cell 0
  have hU := up41 (mops (setD D g (c == 3) xs.length) c base H (.slice (some ⟨r, 0, none⟩) (xs.length + 1) cap) (fun b => b ∈ xs ++ [g])) w1 (xs ++ [g]) xs.length ⟨_, Like.refl _ _, hh, fun _ h => h, fun _ _ => rfl⟩ (by simp)
  clear h1 h2 h3 HP
  go_wp2_with fail
  refine (len89 w1 H (xs.length + 1) cap _ c0).mono ?_
  rintro e w2 ⟨rfl, rfl⟩
  go_wp2_with fail
  refine hU.mono ?_
  rintro e w3 ⟨rfl, ⟨D3, hl3, hh3, _, hs3⟩, hk3⟩
  go_wp2
  go_end0
  refine ⟨rfl, D3, _, _, hh3, upF_perm _ _ _ _ (by simp), ((Like.refl _ D).set g _).trans hl3, ?_, ?_, ?_⟩
  · intro x hx hxg
    rw [hs3 x (by simp [hx, hxg]), setD_other _ _ _ _ hxg]
  · refine (h4.mono ?_).trans' hk3 ?_
    · rintro b _ (rfl | rfl | hb)
      · exact .inl rfl
      · exact .inr (.inl rfl)
      · exact .inr (.inr (.inr hb))
    · rintro b hb (hx | hx)
      · rcases List.mem_append.1 hx with hx | hx
        · exact .inr (.inr (.inl hx))
        · exact .inr (.inl (by simpa using hx))
      · simp only [Value.ownBlock, Option.some.injEq] at hx
        subst hx
        rcases h5 with h5 | h5
        · exact .inr (.inr (.inr h5))
        · omega
  · rcases h5 with h5 | h5
    · exact .inl h5
    · exact .inr ⟨r, rfl, h5⟩

set_option maxHeartbeats 1000000 in
theorem mpush20 (w : World) (D : Nat → Rec) (c base H g : Nat) (v : Value) (xs : List Nat) (h : MHeap w D c base H v xs) (hg : Blk w g 61 (D g).cells) (hgx : g ∉ xs) (hfew : xs.length + 1 < 1000) (hHb : H < base) (hbs : base ≤ w.heap.size) :
    Calls Yba.prog 20 #[.pointer (some ⟨H, 0, none⟩), .pointer (some ⟨g, 0, none⟩)] w fun e w' => e = .returned (.tuple #[]) ∧ ∃ D' v' ys, Pushed w D c base H v xs g w' D' v' ys := by
  have hP := mpush31 w D c base H g v xs h hg hgx hfew hHb hbs
  go_enter Yba.func20, Yba.ntmps20
  go_wp2_with fail
  refine hP.mono ?_
  rintro e w1 ⟨rfl, hh⟩
  go_wp2
  go_end0
  exact ⟨rfl, hh⟩

theorem mpop91 (w : World) (D : Nat → Rec) (c H n base r cap g : Nat) (xs : List Value) (hn : n < 1000) (hHg : H ≠ g) (hHb : H < base) (hncap : n + 1 ≤ cap)
    (hobj : Blk w H 89 #[.slice (some ⟨r, 0, none⟩) (n + 1) cap, .func (.func (le c)) #[] #[], .func (.func (sl (c == 3))) #[] #[]]) (hrH : H ≠ r)
    (hown : w.ownsRow base 53 1 (.slice (some ⟨r, 0, none⟩) (n + 1) cap) (n + 1) (xs ++ [pt g])) (hxs : xs.length = n) (hg : Blk w g 61 (D g).cells) :
    Calls Yba.prog 91 #[.pointer (some ⟨H, 0, none⟩)] w fun e w' => e = .returned (.iface 53 (.pointer (some ⟨g, 0, none⟩))) ∧ ∃ m, 
      w' = (((w.setCell ⟨g, so (c == 3), none⟩ (.int .i64 (-1))).setCell ⟨r, n, none⟩ (.pointer none)).setCell ⟨H, 0, none⟩ (.slice (some ⟨r, 0, none⟩) n cap)).drewN m := by
  generalize (c == 3) = k at hobj ⊢
  cases k with
  | false => exact mpop16 w (le c) H n base r cap g (D g).cells xs hn hHg hHb hncap hobj hrH hown hxs hg (by rw [size_cells]; decide)
  | true => exact mpop17 w (le c) H n base r cap g (D g).cells xs hn hHg hHb hncap hobj hrH hown hxs hg (by rw [size_cells]; decide)

theorem MHeap.popped {r cap g : Nat} {ys : List Nat} (h : MHeap w D c base H (.slice (some ⟨r, 0, none⟩) (ys.length + 1) cap) (ys ++ [g])) (hHb : H < base) :
    MHeap (((w.setCell ⟨g, so (c == 3), none⟩ (.int .i64 (-1))).setCell ⟨r, ys.length, none⟩ (.pointer none)).setCell ⟨H, 0, none⟩ (.slice (some ⟨r, 0, none⟩) ys.length cap)) (setD D g (c == 3) (-1)) c base H (.slice (some ⟨r, 0, none⟩) ys.length cap) ys ∧
    Blk (((w.setCell ⟨g, so (c == 3), none⟩ (.int .i64 (-1))).setCell ⟨r, ys.length, none⟩ (.pointer none)).setCell ⟨H, 0, none⟩ (.slice (some ⟨r, 0, none⟩) ys.length cap)) g 61 (setD D g (c == 3) (-1) g).cells ∧
    Keeps (fun b => b = H ∨ b = g ∨ b = r) w (((w.setCell ⟨g, so (c == 3), none⟩ (.int .i64 (-1))).setCell ⟨r, ys.length, none⟩ (.pointer none)).setCell ⟨H, 0, none⟩ (.slice (some ⟨r, 0, none⟩) ys.length cap)) := by
  have bg := h.msg g (by simp)
  have ho : w.ownsRow base 53 1 (.slice (some ⟨r, 0, none⟩) (ys.length + 1) cap) (ys.length + 1) (ys.map pt ++ [pt g]) := by simpa using h.own
  obtain ⟨rs, br⟩ := own_blk ho
  have nrg : r ≠ g := blk_ne br bg (by decide)
  have nHr : H ≠ r := blk_ne h.obj br (by decide)
  have nHg : H ≠ g := blk_ne h.obj bg (by decide)
  have hm : ∀ x, x ∈ ys ++ [g] → Blk (((w.setCell ⟨g, so (c == 3), none⟩ (.int .i64 (-1))).setCell ⟨r, ys.length, none⟩ (.pointer none)).setCell ⟨H, 0, none⟩ (.slice (some ⟨r, 0, none⟩) ys.length cap)) x 61 (setD D g (c == 3) (-1) x).cells := by
    intro x hx
    have h1 := msgs_set (L := fun x => x ∈ ys ++ [g]) h.msg g (c == 3) (-1) x hx
    exact (h1.setOther (a := ⟨r, ys.length, none⟩) (blk_ne (h.msg x hx) br (by decide)) _).setOther (a := ⟨H, 0, none⟩) (blk_ne (h.msg x hx) h.obj (by decide)) _
  refine ⟨⟨?_, ?_, fun x hx => hm x (by simp [hx]), ?_, ?_⟩, hm g (by simp), ?_⟩
  · exact ((h.obj.setOther (a := ⟨g, so (c == 3), none⟩) nHg _).setOther (a := ⟨r, ys.length, none⟩) nHr _).set 0 _
  · have o2 := own_shrink ho
    have o3 : (w.setCell ⟨g, so (c == 3), none⟩ (.int .i64 (-1))).ownsRow base 53 1 (.slice (some ⟨r, 0, none⟩) ys.length cap) ys.length (ys.map pt) := ownsRow_store o2 (by simpa [Value.ownBlock] using Ne.symm nrg) _ _
    have o4 := (o3.stored ys.length (.pointer none)).1
    rw [List.set_eq_of_length_le (by simp)] at o4
    exact ownsRow_setCell_below o4 hHb _
  · intro i x hx
    have hi : i < ys.length := (List.getElem?_eq_some_iff.1 hx).1
    have hx' : (ys ++ [g])[i]? = some x := by rw [List.getElem?_append_left hi]; exact hx
    have hne : x ≠ g := by
      intro e
      have := h.inj (j := ys.length) hx' (by simp [e])
      omega
    rw [setD_other _ _ _ _ hne]
    exact h.pos i x hx'
  · have := h.few; simp at this; omega
  · exact (((Keeps.refl _ w).setCell (a := ⟨g, so (c == 3), none⟩) (.inr (.inl rfl)) _).setCell (a := ⟨r, ys.length, none⟩) (.inr (.inr rfl)) _).setCell (a := ⟨H, 0, none⟩) (.inl rfl) _
end
end Go.Proofs.Ybulkbrrw
