import Derived.Test.YbulkbrrwMswapI
import Derived.Test.YbulkbrrwMswapA
import Derived.Test.YbulkbrrwMpushI
import Derived.Test.YbulkbrrwMpushA
import Derived.Test.YbulkbrrwMpopI
import Derived.Test.YbulkbrrwMpopA
import Derived.Test.YbulkbrrwGpop
namespace Go.Proofs.Ybulkbrrw
open Go.RowKit Go.Deep
set_option linter.unusedVariables false
set_option linter.unusedSimpArgs false

def setD (D : Nat → Rec) (a : Nat) (k : Bool) (i : Int) : Nat → Rec := fun g => if g = a then (D g).put k i else D g
theorem setD_same (D : Nat → Rec) (a : Nat) (k : Bool) (i : Int) : setD D a k i a = (D a).put k i := by simp [setD]
theorem setD_other (D : Nat → Rec) (a : Nat) (k : Bool) (i : Int) {g : Nat} (h : g ≠ a) : setD D a k i g = D g := by simp [setD, h]

/-- The same messages but for the places of one kind. -/
def Like (k : Bool) (D D' : Nat → Rec) : Prop := ∀ g, ∃ i, D' g = (D g).put k i
theorem Like.refl (k : Bool) (D : Nat → Rec) : Like k D D := fun g => ⟨(D g).pos k, ((D g).put_pos k).symm⟩
theorem Like.set {k : Bool} {D D' : Nat → Rec} (h : Like k D D') (a : Nat) (i : Int) : Like k D (setD D' a k i) := fun g => by
  obtain ⟨j, hj⟩ := h g
  by_cases e : g = a
  · subst e; exact ⟨i, by rw [setD_same, hj, Rec.put_put]⟩
  · exact ⟨j, by rw [setD_other _ _ _ _ e]; exact hj⟩
theorem Like.trans {k : Bool} {D D' D'' : Nat → Rec} (h : Like k D D') (h' : Like k D' D'') : Like k D D'' := fun g => by
  obtain ⟨i, hi⟩ := h g
  obtain ⟨j, hj⟩ := h' g
  exact ⟨j, by rw [hj, hi, Rec.put_put]⟩

theorem ltM_put (c : Nat) (k : Bool) (r s : Rec) (i j : Int) : ltM c (r.put k i) (s.put k j) = ltM c r s := by cases k <;> rfl
theorem Like.lt {k : Bool} {D D' : Nat → Rec} (h : Like k D D') (c a b : Nat) : ltM c (D' a) (D' b) = ltM c (D a) (D b) := by
  obtain ⟨i, hi⟩ := h a
  obtain ⟨j, hj⟩ := h b
  rw [hi, hj, ltM_put]

theorem msgs_set {w : World} {D : Nat → Rec} {L : Nat → Prop} (h : ∀ g, L g → Blk w g 61 (D g).cells) (a : Nat) (k : Bool) (i : Int) : ∀ g, L g → Blk (w.setCell ⟨a, so k, none⟩ (.int .i64 i)) g 61 (setD D a k i g).cells := by
  intro g hg
  by_cases e : g = a
  · subst e
    rw [setD_same, ← Rec.set]
    exact (h g hg).set _ _
  · rw [setD_other _ _ _ _ e]
    exact (h g hg).setOther (a := ⟨a, so k, none⟩) e _

theorem size_cells (r : Rec) : r.cells.size = 51 := rfl

section
variable {w w' : World} {D : Nat → Rec} {c base H r cap : Nat} {v : Value} {xs : List Nat}

theorem MHeap.drewN (h : MHeap w D c base H v xs) (n : Nat) : MHeap (w.drewN n) D c base H v xs := ⟨h.obj, h.own, h.msg, h.pos, h.few⟩

theorem MHeap.swapped (h : MHeap w D c base H (.slice (some ⟨r, 0, none⟩) xs.length cap) xs) (i j : Nat) (hi : i < xs.length) (hj : j < xs.length) :
    MHeap ((((w.setCell ⟨r, i, none⟩ (pt xs[j])).setCell ⟨r, j, none⟩ (pt xs[i])).setCell ⟨xs[j], so (c == 3), none⟩ (.int .i64 i)).setCell ⟨xs[i], so (c == 3), none⟩ (.int .i64 j)) (setD (setD D xs[j] (c == 3) i) xs[i] (c == 3) j) c base H (.slice (some ⟨r, 0, none⟩) xs.length cap) (swapL xs i j) ∧
    Keeps (fun b => b ∈ xs ∨ b = r) w ((((w.setCell ⟨r, i, none⟩ (pt xs[j])).setCell ⟨r, j, none⟩ (pt xs[i])).setCell ⟨xs[j], so (c == 3), none⟩ (.int .i64 i)).setCell ⟨xs[i], so (c == 3), none⟩ (.int .i64 j)) := by
  obtain ⟨k, hk⟩ : ∃ k : Bool, k = (c == 3) := ⟨_, rfl⟩
  have hpos := h.pos
  rw [← hk] at hpos ⊢
  have bi := h.msg xs[i] (by simp)
  have bj := h.msg xs[j] (by simp)
  obtain ⟨rs, br⟩ := own_blk h.own
  have nri : xs[i] ≠ r := blk_ne bi br (by decide)
  have nrj : xs[j] ≠ r := blk_ne bj br (by decide)
  have nHr : H ≠ r := blk_ne h.obj br (by decide)
  have nHi : H ≠ xs[i] := blk_ne h.obj bi (by decide)
  have nHj : H ≠ xs[j] := blk_ne h.obj bj (by decide)
  have all2 : ∀ g, g ∈ xs → Blk ((w.setCell ⟨r, i, none⟩ (pt xs[j])).setCell ⟨r, j, none⟩ (pt xs[i])) g 61 (D g).cells := by
    intro g hg
    have ng : g ≠ r := blk_ne (h.msg g hg) br (by decide)
    exact ((h.msg g hg).setOther (a := ⟨r, i, none⟩) ng _).setOther (a := ⟨r, j, none⟩) ng _
  refine ⟨⟨?_, ?_, ?_, ?_, by rw [length_swapL]; exact h.few⟩, ?_⟩
  · exact (((h.obj.setOther (a := ⟨r, i, none⟩) nHr _).setOther (a := ⟨r, j, none⟩) nHr _).setOther (a := ⟨xs[j], so k, none⟩) nHj _).setOther (a := ⟨xs[i], so k, none⟩) nHi _
  · rw [length_swapL, map_swapL xs i j hi hj]
    have o1 := ((h.own.stored i (pt xs[j])).1.stored j (pt xs[i])).1
    refine ownsRow_store (ownsRow_store ?_ ?_ _ _) ?_ _ _
    · simpa [hi, hj] using o1
    · simpa [Value.ownBlock] using nrj
    · simpa [Value.ownBlock] using nri
  · intro g hg
    exact msgs_set (msgs_set all2 xs[j] k i) xs[i] k j g (mem_swapL hi hj hg)
  · rw [← hk]
    intro p g hp
    rw [getElem?_swapL xs i j p hi hj] at hp
    by_cases hpj : p = j
    · subst hpj
      simp [hi] at hp
      subst hp
      rw [setD_same, Rec.pos_put]
    · rw [if_neg hpj] at hp
      by_cases hpi : p = i
      · subst hpi
        simp [hj] at hp
        subst hp
        have hne : xs[j] ≠ xs[p] := fun e => hpj (h.inj (i := p) (j := j) (g := xs[j]) (by rw [e]; simp [hi]) (by simp [hj]))
        rw [setD_other _ _ _ _ hne, setD_same, Rec.pos_put]
      · rw [if_neg hpi] at hp
        have n1 : g ≠ xs[i] := fun e => hpi (h.inj hp (by rw [e]; simp [hi]))
        have n2 : g ≠ xs[j] := fun e => hpj (h.inj hp (by rw [e]; simp [hj]))
        rw [setD_other _ _ _ _ n1, setD_other _ _ _ _ n2]
        exact hpos p g hp
  · exact ((((Keeps.refl _ w).setCell (a := ⟨r, i, none⟩) (.inr rfl) _).setCell (a := ⟨r, j, none⟩) (.inr rfl) _).setCell (a := ⟨xs[j], so k, none⟩) (.inl (by simp)) _).setCell (a := ⟨xs[i], so k, none⟩) (.inl (by simp)) _

theorem mswap93 (h : MHeap w D c base H (.slice (some ⟨r, 0, none⟩) xs.length cap) xs) (hc : xs.length ≤ cap) (hf : ∀ i, w.frozen? ⟨r, i, none⟩ = false) (hcell : ∀ (i g : Nat), xs[i]? = some g → w.cell? ⟨r, i, none⟩ = some (.pointer (some ⟨g, 0, none⟩))) (i j : Nat) (hi : i < xs.length) (hj : j < xs.length) :
    Calls Yba.prog 93 #[.pointer (some ⟨H, 0, none⟩), .int .i64 i, .int .i64 j] w fun e w' => e = .returned (.tuple #[]) ∧ ∃ m, w' = World.drewN ((((w.setCell ⟨r, i, none⟩ (pt xs[j])).setCell ⟨r, j, none⟩ (pt xs[i])).setCell ⟨xs[j], so (c == 3), none⟩ (.int .i64 i)).setCell ⟨xs[i], so (c == 3), none⟩ (.int .i64 j)) m := by
  have bi := h.msg xs[i] (by simp)
  have bj := h.msg xs[j] (by simp)
  obtain ⟨rs, br⟩ := own_blk h.own
  have nri : r ≠ xs[i] := blk_ne br bi (by decide)
  have nrj : r ≠ xs[j] := blk_ne br bj (by decide)
  have nHr : H ≠ r := blk_ne h.obj br (by decide)
  have nHi : H ≠ xs[i] := blk_ne h.obj bi (by decide)
  have nHj : H ≠ xs[j] := blk_ne h.obj bj (by decide)
  have hci := hcell i xs[i] (by simp [hi])
  have hcj := hcell j xs[j] (by simp [hj])
  have ho := h.obj
  have hfew := h.few
  have ai : w.cell? ⟨xs[i], so (c == 3), none⟩ = some (.int .i64 ((D xs[i]).pos (c == 3))) := by rw [bi.cell]; exact Rec.at_pos _ _
  have aj : w.cell? ⟨xs[j], so (c == 3), none⟩ = some (.int .i64 ((D xs[j]).pos (c == 3))) := by rw [bj.cell]; exact Rec.at_pos _ _
  have fi := bi.frozen (so (c == 3))
  have fj := bj.frozen (so (c == 3))
  have hinj := fun e : xs[i] = xs[j] => h.inj (i := i) (j := j) (g := xs[i]) (by simp [hi]) (by rw [e]; simp [hj])
  clear h
  generalize (c == 3) = k at ho ai aj fi fj ⊢
  by_cases hij : i = j
  · subst hij
    cases k with
    | false => exact mswap_eq16 w H r xs.length cap i xs[i] _ hfew hi nri nHr nHi hc (ho.cell 0) (ho.cell 2) hci (hf i) ai fi
    | true => exact mswap_eq17 w H r xs.length cap i xs[i] _ hfew hi nri nHr nHi hc (ho.cell 0) (ho.cell 2) hci (hf i) ai fi
  · have hab : xs[i] ≠ xs[j] := fun e => hij (hinj e)
    cases k with
    | false => exact mswap_ne16 w H r xs.length cap i j xs[i] xs[j] _ _ hfew hi hj hij hab nri nrj nHr nHi nHj hc (ho.cell 0) (ho.cell 2) hci hcj (hf i) (hf j) ai aj fi fj
    | true => exact mswap_ne17 w H r xs.length cap i j xs[i] xs[j] _ _ hfew hi hj hij hab nri nrj nHr nHi nHj hc (ho.cell 0) (ho.cell 2) hci hcj (hf i) (hf j) ai aj fi fj
end

/-- What container/heap keeps while it works: the messages of U turned in their places alone. -/
def MI (D0 : Nat → Rec) (c base H : Nat) (v : Value) (U : Nat → Prop) (w : World) (xs : List Nat) : Prop :=
  ∃ D, Like (c == 3) D0 D ∧ MHeap w D c base H v xs ∧ (∀ g, g ∈ xs → U g) ∧ ∀ g, ¬ U g → D g = D0 g

theorem mops (D0 : Nat → Rec) (c base H : Nat) (v : Value) (U : Nat → Prop) :
    Ops 124 ⟨H, 0, none⟩ 90 93 (fun a b => ltM c (D0 a) (D0 b)) (MI D0 c base H v U) (Keeps fun b => U b ∨ some b = v.ownBlock) where
  mless := fun w => by kernel_rfl
  mswap := fun w => by kernel_rfl
  eless := enters_of Yba.func90 (by kernel_rfl) rfl
  eswap := enters_of Yba.func93 (by kernel_rfl) rfl
  less := by
    rintro w xs i j ⟨D, hl, h, _⟩ hi hj
    have := less90 w D c base H v xs h i j xs[i] xs[j] (by simp [hi]) (by simp [hj])
    rw [hl.lt] at this
    simpa [hi, hj] using this
  swap := by
    rintro w xs i j ⟨D, hl, h, hU, hD⟩ hi hj
    obtain ⟨r, cap, rfl, hc, hb, hf, hcell⟩ := h.row (by omega)
    have hsw := h.swapped i j hi hj
    refine (mswap93 h hc hf hcell i j hi hj).mono ?_
    rintro e w' ⟨rfl, m, rfl⟩
    refine ⟨rfl, ⟨_, (hl.set _ _).set _ _, hsw.1.drewN m, fun g hg => hU g (mem_swapL hi hj hg), ?_⟩, (hsw.2.drewN m).mono ?_⟩
    · intro g hg
      have n1 : g ≠ xs[i] := fun e => hg (e ▸ hU _ (by simp))
      have n2 : g ≠ xs[j] := fun e => hg (e ▸ hU _ (by simp))
      rw [setD_other _ _ _ _ n1, setD_other _ _ _ _ n2]
      exact hD g hg
    · rintro b _ (hb | rfl)
      · exact .inl (hU b hb)
      · exact .inr rfl
  draws := by
    rintro w xs n ⟨D, hl, h, hU, hD⟩
    exact ⟨D, hl, h.drewN n, hU, hD⟩
  kdraws := fun w n => (Keeps.refl _ w).drewN n
  ktrans := fun a b c h k => h.trans k
  few := by
    rintro w xs ⟨D, hl, h, _⟩
    exact h.few
end Go.Proofs.Ybulkbrrw
