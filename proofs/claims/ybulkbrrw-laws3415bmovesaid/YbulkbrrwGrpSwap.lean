import Derived.Test.YbulkbrrwGrp
import Derived.Test.YbulkbrrwHeapDefs
namespace Go.Proofs.Ybulkbrrw
open Go.RowKit Go.Deep
set_option linter.unusedVariables false
set_option linter.unusedSimpArgs false

variable {w w' : World} {ms : Nat → List Nat} {sq hd : Nat → Int} {base H r cap : Nat} {v : Value} {xs : List Nat}

theorem Grp.blk {g : Nat} {idx : Int} (h : Grp w ms sq hd g idx) : ∃ gs, Blk w g 108 gs ∧ gs.size = 4 ∧ gs[3]? = some (.int .i64 idx) := by
  obtain ⟨⟨r, cap, rs, h1, _⟩, _⟩ := h
  exact ⟨_, h1, rfl, rfl⟩

theorem Grp.inj {g : Nat} {i j : Nat} (h : Grp w ms sq hd g i) (h' : Grp w ms sq hd g j) : i = j := by
  obtain ⟨gs, h1, _, h2⟩ := h.blk
  obtain ⟨gs', h1', _, h2'⟩ := h'.blk
  have := (blk_inj h1 h1').2
  subst this
  rw [h2] at h2'
  simp at h2'
  omega

/-- A store into a row of groups leaves a group as it is. -/
theorem Grp.setRow {g : Nat} {idx : Int} (h : Grp w ms sq hd g idx) {b i : Nat} {cs : Array Value} {t : TypeId} (hb : Blk w b t cs) (ht : t ≠ 108 ∧ t ≠ 53 ∧ t ≠ 61) (u : Value) : Grp (w.setCell ⟨b, i, none⟩ u) ms sq hd g idx :=
  h.keeps (S := fun c => c = b) ((Keeps.refl (fun c => c = b) w).setCell (a := ⟨b, i, none⟩) rfl _) (by
    intro c t' cs' hc ht' e
    subst e
    have := (blk_inj hc hb).1
    subst this
    rcases ht' with ⟨h, _⟩ | h | h
    · exact ht.1 h
    · exact ht.2.1 h
    · exact ht.2.2 h)

/-- .. and so does a store into another group. -/
theorem Grp.setOther {g : Nat} {idx : Int} (h : Grp w ms sq hd g idx) {b i : Nat} {cs : Array Value} (hb : Blk w b 108 cs) (hne : g ≠ b) (u : Value) : Grp (w.setCell ⟨b, i, none⟩ u) ms sq hd g idx :=
  h.keeps (S := fun c => c = b) ((Keeps.refl (fun c => c = b) w).setCell (a := ⟨b, i, none⟩) rfl _) (by
    intro c t' cs' hc ht' e
    subst e
    have := (blk_inj hc hb).1
    subst this
    rcases ht' with ⟨_, h⟩ | h | h
    · exact hne h.symm
    · exact absurd h (by decide)
    · exact absurd h (by decide))

/-- Its place is turned. -/
theorem Grp.place {g : Nat} {idx : Int} (h : Grp w ms sq hd g idx) (k : Int) : Grp (w.setCell ⟨g, 3, none⟩ (.int .i64 k)) ms sq hd g k := by
  obtain ⟨⟨r, cap, rs, h1, h2, h3, h4⟩, h5, h6⟩ := h
  refine ⟨⟨r, cap, rs, h1.set 3 _, h2, h3.setOther (a := ⟨g, 3, none⟩) (blk_ne h3 h1 (by decide)) _, h4⟩, fun m hm => ?_, h6⟩
  obtain ⟨cs, c1, c2, c3⟩ := h5 m hm
  exact ⟨cs, c1.setOther (a := ⟨g, 3, none⟩) (blk_ne c1 h1 (by decide)) _, c2, c3⟩

theorem Grp.drewN {g : Nat} {idx : Int} (h : Grp w ms sq hd g idx) (n : Nat) : Grp (w.drewN n) ms sq hd g idx := h.keeps (S := fun _ => False) (.ofDraws w n) (by simp)

theorem getElem?_swapL (xs : List Nat) (i j k : Nat) (hi : i < xs.length) (hj : j < xs.length) : (swapL xs i j)[k]? = if k = j then xs[i]? else if k = i then xs[j]? else xs[k]? := by
  unfold swapL
  rw [List.getElem?_set, List.getElem?_set]
  simp only [List.length_set]
  by_cases h1 : j = k
  · subst h1; simp [hj, hi]
  · rw [if_neg h1, if_neg (Ne.symm h1)]
    by_cases h2 : i = k
    · subst h2; simp [hi, hj]
    · rw [if_neg h2, if_neg (Ne.symm h2)]

theorem map_swapL (xs : List Nat) (i j : Nat) (hi : i < xs.length) (hj : j < xs.length) : (swapL xs i j).map pt = ((xs.map pt).set i (pt xs[j])).set j (pt xs[i]) := by
  simp [swapL, List.map_set, hi, hj]

/-- The row's block. -/
theorem own_blk {w : World} {base : Nat} {e : TypeId} {size n cap r : Nat} {xs : List Value} (h : w.ownsRow base e size (.slice (some ⟨r, 0, none⟩) n cap) n xs) : ∃ cs, Blk w r e cs := by
  rcases h.2 with ⟨h0, _⟩ | ⟨g, cap', cur, e1, _, hh, _⟩
  · simp at h0
  · simp at e1
    obtain ⟨rfl, _⟩ := e1
    exact ⟨cur, hh⟩

theorem GHeap.swapped (h : GHeap w ms sq hd base H (.slice (some ⟨r, 0, none⟩) xs.length cap) xs) (i j : Nat) (hi : i < xs.length) (hj : j < xs.length) :
    GHeap ((((w.setCell ⟨r, i, none⟩ (pt xs[j])).setCell ⟨r, j, none⟩ (pt xs[i])).setCell ⟨xs[j], 3, none⟩ (.int .i64 i)).setCell ⟨xs[i], 3, none⟩ (.int .i64 j)) ms sq hd base H (.slice (some ⟨r, 0, none⟩) xs.length cap) (swapL xs i j) ∧
    Keeps (fun b => b ∈ xs ∨ b = r) w ((((w.setCell ⟨r, i, none⟩ (pt xs[j])).setCell ⟨r, j, none⟩ (pt xs[i])).setCell ⟨xs[j], 3, none⟩ (.int .i64 i)).setCell ⟨xs[i], 3, none⟩ (.int .i64 j)) := by
  have gi := h.grp i xs[i] (by simp [hi])
  have gj := h.grp j xs[j] (by simp [hj])
  obtain ⟨gsi, bi, _, _⟩ := gi.blk
  obtain ⟨gsj, bj, _, _⟩ := gj.blk
  obtain ⟨rs, br⟩ := own_blk h.own
  have nri : xs[i] ≠ r := blk_ne bi br (by decide)
  have nrj : xs[j] ≠ r := blk_ne bj br (by decide)
  have nHr : H ≠ r := blk_ne h.obj br (by decide)
  have nHi : H ≠ xs[i] := blk_ne h.obj bi (by decide)
  have nHj : H ≠ xs[j] := blk_ne h.obj bj (by decide)
  obtain ⟨W1, e1⟩ : ∃ W1, W1 = w.setCell ⟨r, i, none⟩ (pt xs[j]) := ⟨_, rfl⟩
  obtain ⟨W2, e2⟩ : ∃ W2, W2 = W1.setCell ⟨r, j, none⟩ (pt xs[i]) := ⟨_, rfl⟩
  obtain ⟨W3, e3⟩ : ∃ W3, W3 = W2.setCell ⟨xs[j], 3, none⟩ (.int .i64 i) := ⟨_, rfl⟩
  have hW2 : Grp W2 ms sq hd xs[i] i ∧ Grp W2 ms sq hd xs[j] j ∧ (∀ (k g : Nat), xs[k]? = some g → Grp W2 ms sq hd g k) := by
    have hb1 : Blk W1 r 100 (rs.setIfInBounds i (pt xs[j])) := by rw [e1]; exact br.set _ _
    have all : ∀ (k g : Nat), xs[k]? = some g → Grp W2 ms sq hd g k := by
      intro k g hk
      have := h.grp k g hk
      rw [e2]
      refine Grp.setRow (w := W1) ?_ hb1 (by decide) _
      rw [e1]
      exact this.setRow br (by decide) _
    exact ⟨all i _ (by simp [hi]), all j _ (by simp [hj]), all⟩
  have b2 : ∃ cs, Blk W2 xs[i] 108 cs := ⟨_, hW2.1.blk.choose_spec.1⟩
  have b2j : ∃ cs, Blk W2 xs[j] 108 cs := ⟨_, hW2.2.1.blk.choose_spec.1⟩
  obtain ⟨c2, hc2⟩ := b2
  obtain ⟨c2j, hc2j⟩ := b2j
  have all3 : ∀ (k g : Nat), xs[k]? = some g → g ≠ xs[j] → Grp W3 ms sq hd g k := by
    intro k g hk hne
    rw [e3]
    exact (hW2.2.2 k g hk).setOther hc2j hne _
  have gj3 : Grp W3 ms sq hd xs[j] i := by rw [e3]; exact hW2.2.1.place i
  rw [← e1, ← e2, ← e3]
  refine ⟨⟨?_, ?_, ?_, h.lt, by rw [length_swapL]; exact h.few⟩, ?_⟩
  · rw [e3, e2, e1]
    exact (((h.obj.setOther (a := ⟨r, i, none⟩) nHr _).setOther (a := ⟨r, j, none⟩) nHr _).setOther (a := ⟨xs[j], 3, none⟩) nHj _).setOther (a := ⟨xs[i], 3, none⟩) nHi _
  · rw [length_swapL, map_swapL xs i j hi hj, e3, e2, e1]
    have o1 := ((h.own.stored i (pt xs[j])).1.stored j (pt xs[i])).1
    refine ownsRow_store (ownsRow_store ?_ ?_ 3 _) ?_ 3 _
    · simpa [hi, hj] using o1
    · simpa [Value.ownBlock] using nrj
    · simpa [Value.ownBlock] using nri
  · intro k g hk
    rw [getElem?_swapL xs i j k hi hj] at hk
    by_cases hkj : k = j
    · subst hkj
      simp [hi] at hk
      subst hk
      by_cases hij : i = k
      · subst hij
        exact gj3.place i
      · have hne : xs[i] ≠ xs[k] := fun e => hij (Grp.inj gi (e ▸ gj))
        exact (all3 i _ (by simp [hi]) hne).place k
    · rw [if_neg hkj] at hk
      by_cases hki : k = i
      · subst hki
        simp [hj] at hk
        subst hk
        have hne : xs[j] ≠ xs[k] := fun e => hkj (Grp.inj gi (e ▸ gj))
        have : ∃ cs, Blk W3 xs[k] 108 cs := ⟨_, (all3 k _ (by simp [hi]) (Ne.symm hne)).blk.choose_spec.1⟩
        obtain ⟨c3, hc3⟩ := this
        exact gj3.setOther hc3 hne _
      · rw [if_neg hki] at hk
        have gk := h.grp k g hk
        have n1 : g ≠ xs[i] := fun e => hki (Grp.inj gk (e ▸ gi))
        have n2 : g ≠ xs[j] := fun e => hkj (Grp.inj gk (e ▸ gj))
        have hx : ∃ cs, Blk W3 xs[i] 108 cs := by
          by_cases e : xs[i] = xs[j]
          · exact ⟨_, (e ▸ gj3).blk.choose_spec.1⟩
          · exact ⟨_, (all3 i _ (by simp [hi]) e).blk.choose_spec.1⟩
        obtain ⟨c3, hc3⟩ := hx
        exact (all3 k g hk n2).setOther hc3 n1 _
  · rw [e3, e2, e1]
    exact ((((Keeps.refl _ w).setCell (a := ⟨r, i, none⟩) (.inr rfl) _).setCell (a := ⟨r, j, none⟩) (.inr rfl) _).setCell (a := ⟨xs[j], 3, none⟩) (.inl (by simp)) _).setCell (a := ⟨xs[i], 3, none⟩) (.inl (by simp)) _
end Go.Proofs.Ybulkbrrw
