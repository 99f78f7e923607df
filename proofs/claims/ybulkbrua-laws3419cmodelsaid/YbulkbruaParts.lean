import Derived.Test.YbulkbruaFind
namespace Go.Proofs.Ybulkbrua
open Go.RowKit Go.Deep
set_option linter.unusedVariables false
set_option linter.unusedSimpArgs false
attribute [local go_sem ↓] Go.wp_at_zero Go.wp_at_succ

theorem Keeps.cell {S : Nat → Prop} {w w' : World} (k : Keeps S w w') {a : Addr} {u : Value} (h : w.cell? a = some u) (hs : ¬ S a.block) : w'.cell? a = some u := by
  rw [← h]; exact World.cell?_of_block (k.block _ (block_lt_of_cell h) hs)

theorem own_keeps {S : Nat → Prop} {w w' : World} {base : Nat} {e : TypeId} {s : Nat} {v : Value} {n : Nat} {xs : List Value} (h : w.ownsRow base e s v n xs) (k : Keeps S w w') (hs : ∀ b, v.ownBlock = some b → ¬ S b) : w'.ownsRow base e s v n xs := by
  refine ⟨h.1, ?_⟩
  rcases h.2 with h2 | ⟨g, cap, cur, rfl, hb, hg, rest⟩
  · exact .inl h2
  · refine .inr ⟨g, cap, cur, rfl, hb, ?_, rest⟩
    rw [k.block g (Array.getElem?_eq_some_iff.1 hg).1 (hs g rfl)]
    exact hg

/-- The clone, its value written out. -/
theorem clone4s (w : World) (v : Value) (L : List El) (hv : RejAt w v L) (hl : L.length ≤ 1024) :
    Calls Yba.prog 4 #[v] w fun e w' => ∃ co cn cc, e = .returned (.slice co cn cc) ∧ CopyAt w' w.heap.size v (.slice co cn cc) L ∧ Keeps (fun _ => False) w w' := by
  refine (clone4 w v L hv hl).mono ?_
  rintro e w' ⟨v', rfl, cp, k⟩
  rcases cp with ⟨h1, rfl, h3⟩ | ⟨a, cap, c, h1, rfl, h2⟩
  · exact ⟨none, 0, 0, rfl, .inl ⟨h1, rfl, h3⟩, k⟩
  · exact ⟨_, _, _, rfl, .inr ⟨a, cap, c, h1, rfl, h2⟩, k⟩

/-- A list as a slice value, nil or not. -/
theorem RejAt.slice {w : World} {v : Value} {L : List El} (h : RejAt w v L) : ∃ vo vc, v = .slice vo L.length vc ∧ (vo = none ↔ v = .slice none 0 0) := by
  rcases h with ⟨rfl, rfl⟩ | ⟨a, cap, rfl, _⟩
  · exact ⟨none, 0, rfl, by simp⟩
  · exact ⟨some a, cap, rfl, by simp⟩

/-- The t-th S-NSSAI's cells. -/
theorem RejAt.el {w : World} {v : Value} {L : List El} (h : RejAt w v L) {t : Nat} {e : El} (ht : L[t]? = some e) :
    ∃ b o cap, v = .slice (some ⟨b, o, none⟩) L.length cap ∧ L.length ≤ cap ∧ b < w.heap.size ∧ ∀ k, k < 11 → w.cell? ⟨b, o + t * 11 + k, none⟩ = e.cells[k]? := by
  have htl := (List.getElem?_eq_some_iff.1 ht).1
  rcases h with ⟨_, rfl⟩ | ⟨a, cap, rfl, hcap, hh⟩
  · simp at htl
  · have hk : ∀ k, k < 11 → ∃ u, e.cells[k]? = some u ∧ w.cell? (a.add (t * 11 + k)) = some u := by
      intro k hk
      have h1 := cellsL_at L t e ht k hk
      have hl : e.cells.length = 11 := rfl
      obtain ⟨u, hu⟩ : ∃ u, e.cells[k]? = some u := ⟨_, List.getElem?_eq_getElem (by omega)⟩
      rw [hu] at h1
      exact ⟨u, hu, hh _ _ h1⟩
    have hsp : a.spot = none := by
      have h0 := cellsL_at L 0 (L[0]'(by omega)) (by simp) 0 (by omega)
      have h1 : (cellsL L)[0]? = some (.int .u8 (L[0]'(by omega)).x0) := by simpa [El.cells] using h0
      have := World.cell?_spot (hh _ _ h1)
      simpa [Addr.add] using this
    obtain ⟨b, o, sp⟩ := a
    simp at hsp
    subst hsp
    obtain ⟨u0, _, h0⟩ := hk 0 (by omega)
    have hadd : ∀ j, (⟨b, o, none⟩ : Addr).add j = ⟨b, o + j, none⟩ := by intro j; unfold Addr.add; split <;> simp_all
    refine ⟨b, o, cap, rfl, hcap, by have := block_lt_of_cell h0; rw [hadd] at this; exact this, fun k hk' => ?_⟩
    obtain ⟨u, h1, h2⟩ := hk k hk'
    rw [hadd] at h2
    rw [Nat.add_assoc, h2, h1]

theorem CopyAt.rej {w : World} {B : Nat} {v v' : Value} {L : List El} (h : CopyAt w B v v' L) : RejAt w v' L := by
  rcases h with ⟨_, rfl, rfl⟩ | ⟨a, cap, c, rfl, rfl, hb, _⟩
  · exact .inl ⟨rfl, rfl⟩
  · refine .inr ⟨_, _, rfl, Nat.le_refl _, fun j u hj => ?_⟩
    have e : (⟨c, 0, none⟩ : Addr).add j = ⟨c, j, none⟩ := by unfold Addr.add; split <;> simp_all
    rw [e, hb.cell j, ← hj]
    simp

theorem CopyAt.nil {w : World} {B : Nat} {v v' : Value} {L : List El} (h : CopyAt w B v v' L) : v' = .slice none 0 0 ↔ v = .slice none 0 0 := by
  rcases h with ⟨rfl, rfl, rfl⟩ | ⟨a, cap, c, rfl, rfl, hb, _⟩ <;> simp

theorem CopyAt.keeps {S : Nat → Prop} {w w' : World} {B : Nat} {v v' : Value} {L : List El} (h : CopyAt w B v v' L) (k : Keeps S w w') (hs : ∀ (c : Nat) (cs : Array Value), B ≤ c → Blk w c 41 cs → ¬ S c) : CopyAt w' B v v' L := by
  rcases h with h | ⟨a, cap, c, h1, h2, hb, hc⟩
  · exact .inl h
  · exact .inr ⟨a, cap, c, h1, h2, hb.keeps k (hs c _ hc hb), hc⟩

theorem CopyAt.lower {w : World} {B B' : Nat} {v v' : Value} {L : List El} (h : CopyAt w B v v' L) (hB : B' ≤ B) : CopyAt w B' v v' L := by
  rcases h with h | ⟨a, cap, c, h1, h2, hb, hc⟩
  · exact .inl h
  · exact .inr ⟨a, cap, c, h1, h2, hb, Nat.le_trans hB hc⟩

theorem GotAt.rej {w : World} {B : Nat} {v : Value} {L : List El} (h : GotAt w B v L) : RejAt w v L := by
  rcases h with ⟨rfl, rfl⟩ | ⟨g, cap, cur, rfl, hc, _, hb, ht⟩
  · exact .inl ⟨rfl, rfl⟩
  · refine .inr ⟨_, _, rfl, hc, fun j u hj => ?_⟩
    have e : (⟨g, 0, none⟩ : Addr).add j = ⟨g, j, none⟩ := by unfold Addr.add; split <;> simp_all
    have hjl : j < L.length * 11 := by
      have := (List.getElem?_eq_some_iff.1 hj).1
      rwa [cellsL_len] at this
    rw [e, hb.cell j, ← hj, ← ht, List.getElem?_take_of_lt hjl]
    simp

/-- The source's entries' cells. -/
def plCells (E : Nat → En) (C : Nat → Value) (n : Nat) : List Value := (List.range n).flatMap fun j => enCells (E j) (C j)

theorem plCells_succ (E : Nat → En) (C : Nat → Value) (n : Nat) : plCells E C (n + 1) = plCells E C n ++ enCells (E n) (C n) := by
  simp [plCells, List.range_succ]

theorem plCells_len (E : Nat → En) (C : Nat → Value) (n : Nat) : (plCells E C n).length = n * 6 := by
  induction n with
  | zero => rfl
  | succ n ih => rw [plCells_succ, List.length_append, ih]; simp [enCells]; omega

theorem plCells_at (E : Nat → En) (C : Nat → Value) (n j k : Nat) (hj : j < n) (hk : k < 6) : (plCells E C n)[j * 6 + k]? = (enCells (E j) (C j))[k]? := by
  induction n with
  | zero => omega
  | succ n ih =>
    rw [plCells_succ]
    by_cases h : j < n
    · rw [List.getElem?_append_left (by rw [plCells_len]; omega)]
      exact ih h
    · obtain rfl : j = n := by omega
      rw [List.getElem?_append_right (by rw [plCells_len]; omega), plCells_len, show j * 6 + k - j * 6 = k from by omega]


theorem plCells_congr (E : Nat → En) (C C' : Nat → Value) : ∀ n : Nat, (∀ j, j < n → C j = C' j) → plCells E C n = plCells E C' n
  | 0, _ => rfl
  | n + 1, h => by rw [plCells_succ, plCells_succ, plCells_congr E C C' n (fun j hj => h j (by omega)), h n (by omega)]

/-- The row that holds the entries, as it is read. -/
theorem pl_read {w : World} {B n : Nat} {v : Value} {E : Nat → En} {C : Nat → Value} (h : w.ownsRow B 37 6 v n (plCells E C n)) :
    ∃ ao cap, v = .slice ao n cap ∧ (n = 0 ∨ ∃ g, ao = some ⟨g, 0, none⟩ ∧ n ≤ cap ∧ g < w.heap.size ∧ ∀ j, j < n → w.cell? ⟨g, j * 6, none⟩ = some (.string (E j).mcc) ∧ w.cell? ⟨g, j * 6 + 1, none⟩ = some (.string (E j).mnc) ∧ w.cell? ⟨g, j * 6 + 4, none⟩ = some (C j)) := by
  rcases h.2 with ⟨rfl, rfl⟩ | ⟨g, cap, cur, rfl, hb, hg, hc, hm, hs, ht⟩
  · exact ⟨none, 0, rfl, .inl rfl⟩
  · refine ⟨_, cap, rfl, .inr ⟨g, rfl, hc, (Array.getElem?_eq_some_iff.1 hg).1, fun j hj => ?_⟩⟩
    have hbk : Blk w g 37 cur := hg
    have rd : ∀ k, k < 6 → w.cell? ⟨g, j * 6 + k, none⟩ = (enCells (E j) (C j))[k]? := by
      intro k hk
      rw [hbk.cell, ← plCells_at E C n j k hj hk, ← ht, List.getElem?_take_of_lt (by omega)]
      simp
    exact ⟨rd 0 (by omega), rd 1 (by omega), rd 4 (by omega)⟩
end Go.Proofs.Ybulkbrua
