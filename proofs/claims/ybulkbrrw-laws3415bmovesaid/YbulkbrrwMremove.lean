import Derived.Test.YbulkbrrwMheap
namespace Go.Proofs.Ybulkbrrw
open Go.RowKit Go.Deep
set_option linter.unusedVariables false
set_option linter.unusedSimpArgs false

theorem upF_keep (lt : Nat → Nat → Bool) : ∀ (f : Nat) (xs : List Nat) (j : Nat), j < xs.length → ∀ k, j < k → (upF lt f xs j)[k]? = xs[k]? := by
  intro f
  induction f with
  | zero => intro xs j _ k _; rfl
  | succ f ih =>
    intro xs j hj k hk
    rw [upF]
    split
    · rfl
    · rw [ih _ _ (by rw [length_swapL]; omega) k (by omega), getElem?_swapL xs _ _ k (by omega) hj, if_neg (by omega), if_neg (by omega)]

/-- What a heap's remove leaves. -/
structure Removed (w : World) (D : Nat → Rec) (c base H : Nat) (v : Value) (xs : List Nat) (g : Nat) (w' : World) (D' : Nat → Rec) (v' : Value) (ys : List Nat) : Prop where
  heap : MHeap w' D' c base H v' ys
  out : Blk w' g 61 (D' g).cells
  perm : (ys ++ [g]).Perm xs
  like : Like (c == 3) D D'
  same : ∀ x, x ∉ xs → D' x = D x
  keeps : Keeps (fun b => b = H ∨ b ∈ xs ∨ some b = v.ownBlock) w w'
  row : v'.ownBlock = v.ownBlock

theorem pop_tail (w w1 : World) (D : Nat → Rec) (c base H : Nat) (v : Value) (xs zs : List Nat) (g : Nat) (hI : MI D c base H v (fun b => b ∈ xs) w1 zs) (hp : zs.Perm xs) (hg : zs[xs.length - 1]? = some g) (hne : 0 < xs.length)
    (hk : Keeps (fun b => b ∈ xs ∨ some b = v.ownBlock) w w1) (hHb : H < base) :
    Calls Yba.prog 91 #[.pointer (some ⟨H, 0, none⟩)] w1 fun e w' => e = .returned (.iface 53 (.pointer (some ⟨g, 0, none⟩))) ∧ ∃ D' v' ys, Removed w D c base H v xs g w' D' v' ys := by
  obtain ⟨D1, hl, h, hU, hs⟩ := hI
  obtain ⟨n, hn⟩ : ∃ n, xs.length = n + 1 := ⟨xs.length - 1, by omega⟩
  have hlen : zs.length = n + 1 := by rw [hp.length_eq, hn]
  obtain ⟨ys, rfl⟩ : ∃ ys, zs = ys ++ [g] := by
    refine ⟨zs.take n, ?_⟩
    rw [hn] at hg
    have hg' : zs[n]? = some g := hg
    apply List.ext_getElem?
    intro k
    by_cases hk : k < n
    · rw [List.getElem?_append_left (by simp; omega)]; simp [List.getElem?_take, hk]
    · rw [List.getElem?_append_right (by simp; omega)]
      by_cases hkn : k = n
      · subst hkn; rw [hg', show k - (zs.take k).length = 0 from by simp; omega]; rfl
      · rw [List.getElem?_eq_none (by omega), List.getElem?_eq_none (by simp; omega)]
  have hyl : ys.length = n := by simpa using hlen
  obtain ⟨r, cap, rfl, hc, hb, hf, hcell⟩ := h.row (by omega)
  rw [hlen] at h hc
  have ho : w1.ownsRow base 53 1 (.slice (some ⟨r, 0, none⟩) (n + 1) cap) (n + 1) (ys.map pt ++ [pt g]) := by simpa [hyl] using h.own
  obtain ⟨rs, br⟩ := own_blk ho
  have bg := h.msg g (by simp)
  have hP := mpop91 w1 D1 c H n base r cap g (ys.map pt) (by have := h.few; omega) (blk_ne h.obj bg (by decide)) hHb hc h.obj (blk_ne h.obj br (by decide)) ho (by simp [hyl]) bg
  subst hyl
  have hq := h.popped hHb
  refine hP.mono ?_
  rintro e w' ⟨rfl, m, rfl⟩
  refine ⟨rfl, _, _, ys, hq.1.drewN m, hq.2.1.drewN m, hp, hl.set _ _, ?_, ?_, rfl⟩
  · intro x hx
    have : x ≠ g := fun e => hx (e ▸ hU g (by simp))
    rw [setD_other _ _ _ _ this]
    exact hs x hx
  · refine (hk.mono ?_).trans ((hq.2.2.drewN m).mono ?_)
    · rintro b _ (hb | hb)
      · exact .inr (.inl hb)
      · exact .inr (.inr hb)
    · rintro b _ (rfl | rfl | rfl)
      · exact .inl rfl
      · exact .inr (.inl (hU _ (by simp)))
      · exact .inr (.inr rfl)

set_option maxHeartbeats 1000000 in
theorem remove46 (w : World) (D : Nat → Rec) (c base H : Nat) (v : Value) (xs : List Nat) (g i : Nat) (h : MHeap w D c base H v xs) (hi : xs[i]? = some g) (hHb : H < base) :
    Calls Yba.prog 46 #[.iface 124 (.pointer (some ⟨H, 0, none⟩)), .int .i64 i] w fun e w' => e = .returned (.iface 53 (.pointer (some ⟨g, 0, none⟩))) ∧ ∃ D' v' ys, Removed w D c base H v xs g w' D' v' ys := by
  have m1 := nPop
  have m2 := nLen
  have m3 := nSwap
  have hil : i < xs.length := (List.getElem?_eq_some_iff.1 hi).1
  have hfew := h.few
  obtain ⟨ao, cap, hv⟩ := own_slice h.own
  obtain ⟨n, hn⟩ : ∃ n, xs.length = n + 1 := ⟨xs.length - 1, by omega⟩
  have c0 : w.cell? ⟨H, 0, none⟩ = some (.slice ao (n + 1) cap) := by rw [h.obj.cell 0]; simp [hv, hn]
  have hI0 : MI D c base H v (fun b => b ∈ xs) w xs := ⟨D, Like.refl _ _, h, fun _ h => h, fun _ _ => rfl⟩
  have O := mops D c base H v (fun b => b ∈ xs)
  by_cases hin : i = n
  · subst hin
    have hT := pop_tail w w D c base H v xs xs g hI0 (List.Perm.refl _) (by rw [hn]; exact hi) (by omega) (Keeps.refl _ _) hHb
    have hi2 : i < 1000 := by omega
    clear hn hi hil O hI0
    clear hfew h hv
    go_enter Yba.func46, Yba.ntmps46
    go_wp2_with fail
    refine (len89 w H (i + 1) cap _ c0).mono ?_
    rintro e w2 ⟨rfl, rfl⟩
    go_wp2_with fail
    refine hT.mono ?_
    rintro e w4 ⟨rfl, hh⟩
    go_wp2
    go_ret
    exact ⟨rfl, hh⟩
  · have hS := O.swap w xs i n hI0 hil (by omega)
    have hzs : (swapL xs i n)[n]? = some g := by rw [getElem?_swapL xs i n n hil (by omega)]; simpa using hi
    have hzl : (swapL xs i n).length = n + 1 := by rw [length_swapL, hn]
    have hzp : (swapL xs i n).Perm xs := swapL_perm xs i n hil (by omega)
    have hnx : 0 < xs.length := by omega
    have hne : ((n : Int) == (i : Int)) = false := by simp; omega
    have hne' : ¬ ((n : Int) = (i : Int)) := by omega
    have hn1 : n < 1000 := by omega
    have hi1 : i < n := by omega
    have HN : Hid (xs.length = n + 1) := hn
    clear hn hil hfew hv
    go_enter Yba.func46, Yba.ntmps46
    go_wp2_with fail
    refine (len89 w H (n + 1) cap _ c0).mono ?_
    rintro e w2 ⟨rfl, hw2⟩
    have hw2' := hw2.symm
    subst hw2'
    go_wp2_with fail
    refine hS.mono ?_
    rintro e w1 ⟨rfl, hI1, hk1⟩
    have hD := down54 O w1 _ i n hI1 (by omega) (by omega)
    have hdp := downF_perm (fun a b => ltM c (D a) (D b)) n n (swapL xs i n) i (by omega)
    generalize (downF (fun a b => ltM c (D a) (D b)) n (swapL xs i n) i n) = dd at hD hdp
    obtain ⟨ds, di⟩ := dd
    obtain ⟨bb, hbb⟩ : ∃ bb, bb = decide (i < (ds, di).2) := ⟨_, rfl⟩
    rw [← hbb] at hD
    clear hbb hS
    simp only at hD hdp
    go_wp2_with fail
    refine hD.mono ?_
    rintro e w3 ⟨rfl, hI3, hk3⟩
    have hdl : ds.length = n + 1 := by rw [hdp.1.length_eq, hzl]
    have hT : ∀ w4 zs, MI D c base H v (fun b => b ∈ xs) w4 zs → zs.Perm ds → zs[n]? = ds[n]? → Keeps (fun b => b ∈ xs ∨ some b = v.ownBlock) w3 w4 → Calls Yba.prog 91 #[.pointer (some ⟨H, 0, none⟩)] w4 fun e w' => e = .returned (.iface 53 (.pointer (some ⟨g, 0, none⟩))) ∧ ∃ D' v' ys, Removed w D c base H v xs g w' D' v' ys := by
      intro w4 zs hI4 hp4 hz4 hk4
      refine pop_tail w w4 D c base H v xs zs g hI4 (hp4.trans (hdp.1.trans hzp)) ?_ hnx ((hk1.trans hk3).trans hk4) hHb
      rw [HN.out, show n + 1 - 1 = n from rfl, hz4, hdp.2 n (Nat.le_refl _)]
      exact hzs
    have hUp := up41 O w3 ds i hI3 (by omega)
    clear hD
    cases bb with
    | true =>
      have hT' := hT w3 ds hI3 (List.Perm.refl _) rfl (Keeps.refl _ _)
      go_wp2_with fail
      refine hT'.mono ?_
      rintro e w4 ⟨rfl, hh⟩
      go_wp2
      go_ret
      exact ⟨rfl, hh⟩
    | false =>
      go_wp2_with fail
      refine hUp.mono ?_
      rintro e w5 ⟨rfl, hI5, hk5⟩
      have hT' := hT w5 _ hI5 (upF_perm _ _ _ _ (by omega)) (upF_keep _ _ _ _ (by omega) n hi1) hk5
      clear hUp
      go_wp2_with fail
      refine hT'.mono ?_
      rintro e w4 ⟨rfl, hh⟩
      go_wp2
      go_ret
      exact ⟨rfl, hh⟩

set_option maxHeartbeats 1000000 in
theorem remove35 (w : World) (D : Nat → Rec) (c base H : Nat) (v : Value) (xs : List Nat) (g : Nat) (h : MHeap w D c base H v xs) (hg : g ∈ xs) (hHb : H < base) :
    Calls Yba.prog 35 #[.pointer (some ⟨H, 0, none⟩), .pointer (some ⟨g, 0, none⟩)] w fun e w' => e = .returned (.tuple #[]) ∧ ∃ D' v' ys, Removed w D c base H v xs g w' D' v' ys := by
  obtain ⟨i, hi⟩ := List.mem_iff_getElem?.1 hg
  have hR := remove46 w D c base H v xs g i h hi hHb
  have c2 : w.cell? ⟨H, 2, none⟩ = some (.func (.func (sl (c == 3))) #[] #[]) := h.obj.cell 2
  have cg : w.cell? ⟨g, so (c == 3), none⟩ = some (.int .i64 i) := by rw [(h.msg g hg).cell, Rec.at_pos, h.pos i g hi]
  clear h hi hg
  obtain ⟨k, hk⟩ : ∃ k, k = (c == 3) := ⟨_, rfl⟩
  rw [← hk] at c2 cg
  clear hk
  cases k with
  | false =>
    rw [show so false = 47 from rfl] at cg
    rw [show sl false = 16 from rfl] at c2
    go_enter Yba.func35, Yba.ntmps35
    go_wp2_with fail
    refine (slot16 w g).mono ?_
    rintro e w2 ⟨rfl, hw2⟩
    have hw2' := hw2.symm
    subst hw2'
    go_wp2_with fail
    refine hR.mono ?_
    rintro e w1 ⟨rfl, hh⟩
    go_wp2
    go_end0
    exact ⟨rfl, hh⟩
  | true =>
    rw [show so true = 48 from rfl] at cg
    rw [show sl true = 17 from rfl] at c2
    go_enter Yba.func35, Yba.ntmps35
    go_wp2_with fail
    refine (slot17 w g).mono ?_
    rintro e w2 ⟨rfl, hw2⟩
    have hw2' := hw2.symm
    subst hw2'
    go_wp2_with fail
    refine hR.mono ?_
    rintro e w1 ⟨rfl, hh⟩
    go_wp2
    go_end0
    exact ⟨rfl, hh⟩
end Go.Proofs.Ybulkbrrw
