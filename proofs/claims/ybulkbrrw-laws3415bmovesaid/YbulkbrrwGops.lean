import Derived.Test.YbulkbrrwGrpSwap
import Derived.Test.YbulkbrrwSwap
import Derived.Test.YbulkbrrwPush
import Derived.Test.YbulkbrrwPop
import Derived.Test.YbulkbrrwDown
import Derived.Shelf.Abstract
namespace Go.Proofs.Ybulkbrrw
open Go.RowKit Go.Deep
set_option linter.unusedVariables false
set_option linter.unusedSimpArgs false

def ltK (ms : Nat → List Nat) (sq : Nat → Int) (a b : Nat) : Bool := decide (key ms sq a < key ms sq b)

theorem mem_swapL {xs : List Nat} {i j g : Nat} (hi : i < xs.length) (hj : j < xs.length) (h : g ∈ swapL xs i j) : g ∈ xs := by
  obtain ⟨k, hk⟩ := List.mem_iff_getElem?.1 h
  rw [getElem?_swapL xs i j k hi hj] at hk
  split at hk
  · exact List.mem_iff_getElem?.2 ⟨_, hk⟩
  · split at hk
    · exact List.mem_iff_getElem?.2 ⟨_, hk⟩
    · exact List.mem_iff_getElem?.2 ⟨_, hk⟩

theorem GHeap.drewN {w : World} {ms : Nat → List Nat} {sq hd : Nat → Int} {base H : Nat} {v : Value} {xs : List Nat} (h : GHeap w ms sq hd base H v xs) (n : Nat) : GHeap (w.drewN n) ms sq hd base H v xs :=
  ⟨h.obj, h.own, fun i g hg => (h.grp i g hg).drewN n, h.lt, h.few⟩

theorem gops (ms : Nat → List Nat) (sq hd : Nat → Int) (base H : Nat) (v : Value) (U : Nat → Prop) :
    Ops 135 ⟨H, 0, none⟩ 98 101 (ltK ms sq) (fun w xs => GHeap w ms sq hd base H v xs ∧ ∀ g, g ∈ xs → U g) (Keeps fun b => U b ∨ some b = v.ownBlock) where
  mless := fun w => by kernel_rfl
  mswap := fun w => by kernel_rfl
  eless := enters_of Yba.func98 (by kernel_rfl) rfl
  eswap := enters_of Yba.func101 (by kernel_rfl) rfl
  less := by
    rintro w xs i j ⟨h, _⟩ hi hj
    have := less98 w ms sq hd base H v xs h i j xs[i] xs[j] (by simp [hi]) (by simp [hj])
    simpa [ltK, hi, hj] using this
  swap := by
    rintro w xs i j ⟨h, hU⟩ hi hj
    obtain ⟨r, cap, rfl, hc, hb, hf, hcell⟩ := h.row (by omega)
    have hsw := h.swapped i j hi hj
    have gi := h.grp i xs[i] (by simp [hi])
    have gj := h.grp j xs[j] (by simp [hj])
    obtain ⟨gsi, bi, si, vi⟩ := gi.blk
    obtain ⟨gsj, bj, sj, vj⟩ := gj.blk
    obtain ⟨rs, br⟩ := own_blk h.own
    have nri : r ≠ xs[i] := blk_ne br bi (by decide)
    have nrj : r ≠ xs[j] := blk_ne br bj (by decide)
    have nHr : H ≠ r := blk_ne h.obj br (by decide)
    have nHi : H ≠ xs[i] := blk_ne h.obj bi (by decide)
    have nHj : H ≠ xs[j] := blk_ne h.obj bj (by decide)
    have fin : ∀ W m, W = World.drewN ((((w.setCell ⟨r, i, none⟩ (pt xs[j])).setCell ⟨r, j, none⟩ (pt xs[i])).setCell ⟨xs[j], 3, none⟩ (.int .i64 i)).setCell ⟨xs[i], 3, none⟩ (.int .i64 j)) m →
        (GHeap W ms sq hd base H (.slice (some ⟨r, 0, none⟩) xs.length cap) (swapL xs i j) ∧ ∀ g, g ∈ swapL xs i j → U g) ∧ Keeps (fun b => U b ∨ some b = (Value.slice (some ⟨r, 0, none⟩) xs.length cap).ownBlock) w W := by
      intro W m hW
      subst hW
      refine ⟨⟨hsw.1.drewN m, fun g hg => hU g (mem_swapL hi hj hg)⟩, (hsw.2.drewN m).mono ?_⟩
      rintro b _ (hb | rfl)
      · exact .inl (hU b hb)
      · exact .inr rfl
    have hci := hcell i xs[i] (by simp [hi])
    have hcj := hcell j xs[j] (by simp [hj])
    by_cases hij : i = j
    · subst hij
      refine (swap_eq w H r xs.length cap i xs[i] (.int .i64 i) h.few hi nri nHr nHi hc (h.obj.cell 0) (h.obj.cell 2) hci (hf i) (by rw [bi.cell 3]; exact vi) (bi.frozen 3)).mono ?_
      rintro e w' ⟨rfl, m, hw'⟩
      exact ⟨rfl, fin w' m hw'⟩
    · have hab : xs[i] ≠ xs[j] := fun e => hij (Grp.inj gi (e ▸ gj))
      refine (swap_ne w H r xs.length cap i j xs[i] xs[j] (.int .i64 i) (.int .i64 j) h.few hi hj hij hab nri nrj nHr nHi nHj hc (h.obj.cell 0) (h.obj.cell 2) hci hcj (hf i) (hf j) (by rw [bi.cell 3]; exact vi) (by rw [bj.cell 3]; exact vj) (bi.frozen 3) (bj.frozen 3)).mono ?_
      rintro e w' ⟨rfl, m, hw'⟩
      exact ⟨rfl, fin w' m hw'⟩
  draws := by
    rintro w xs n ⟨h, hU⟩
    exact ⟨h.drewN n, hU⟩
  kdraws := fun w n => .ofDraws w n
  ktrans := fun a b c h k => h.trans k
  few := fun w xs h => h.1.few
end Go.Proofs.Ybulkbrrw
