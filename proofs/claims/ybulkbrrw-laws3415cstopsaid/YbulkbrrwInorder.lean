import Derived.Test.YbulkbrrwIter
import Derived.Deep.LoopGhost
namespace Go.Proofs.Ybulkbrrw
open Go.RowKit Go.Deep
set_option linter.unusedVariables false
set_option linter.unusedSimpArgs false
variable {ms : Nat → List Nat} {sq hd : Nat → Int}

/-- At the door: those that were walked go back. -/
theorem leave47 (lo base H bx wk wb : Nat) (S : List Nat) (O Ox : List Nat → World → Prop) (st : Stage ms sq lo H S) (hlo : lo ≤ wk)
    (hO : ∀ pre W W', O pre W → KeepI lo W W' → O pre W') (hOx : ∀ pre W W', Ox pre W → KeepI lo W W' → Ox pre W')
    (w : World) (v wv : Value) (ys : List Nat) (k : Nat) (h : Iter w ms sq hd base H v ys wk bx wb wv S k k) (hend : (O (S.take k) w ∧ k = S.length) ∨ (Ox (S.take k) w ∧ 0 < k)) (tmps : Array Value) (hbs : base ≤ w.heap.size) :
    LeavesIn Fence.wide 8 Yba.prog Yba.f47 tmps (fun e w' => e = .returned (.tuple #[]) ∧ ∃ v' xs', GHeap w' ms sq hd base H v' xs' ∧ xs'.Perm S ∧ HeapN (key ms sq) xs' xs'.length ∧
      (O S w' ∨ ∃ k, 0 < k ∧ k ≤ S.length ∧ Ox (S.take k) w')) [{ target := .fn (.func 48) #[.pointer (some ⟨wk, 0, none⟩), .pointer (some ⟨bx, 0, none⟩)], args := #[] }] .returning w := by
  have fin : ∀ (w' : World), KeepI lo w w' → (O S w' ∨ ∃ k, 0 < k ∧ k ≤ S.length ∧ Ox (S.take k) w') := by
    intro w' hk
    rcases hend with ⟨h1, rfl⟩ | ⟨h1, h2⟩
    · rw [List.take_length] at h1
      exact .inl (hO _ _ _ h1 hk)
    · exact .inr ⟨k, h2, h.kle, hOx _ _ _ h1 hk⟩
  have e48 : ∀ (args : Array Value) (w : World), (callFunc 48 args).run Yba.prog w = .ok (.enter 48 args) w := enters_of Yba.func48 (by kernel_rfl) rfl
  refine leavesIn_cons (f := 48) (args := #[.pointer (some ⟨wk, 0, none⟩), .pointer (some ⟨bx, 0, none⟩)]) (by simp) (by simp [Fence.wide]) (by simp [invoke, go_sem, e48]) (fun _ _ => trivial) ?_
  rcases h.wown.2 with ⟨hnil, hk0⟩ | ⟨r2, cap2, cur, hv, hr1, hr2, hr3, hr4, hr5, hr6⟩
  · subst hnil hk0
    refine (defer48_nil _ _ w wk bx h.wbox).mono ?_
    rintro e u' w' ⟨rfl, rfl, rfl⟩
    refine ⟨.tuple #[], results_none rfl _ _ _, rfl, v, ys, h.heap, by simpa using h.perm, h.ord, fin _ (.refl _ _)⟩
  · subst hv
    have hlen : (S.take k).length = k := by rw [List.length_take]; have := h.kle; omega
    have hB : Back w ms sq hd lo base H v ys wk bx r2 cap2 (S.take k) 0 := by
      refine ⟨h.heap, h.ord, st.hlo, ?_, h.box, by rw [hlen]; exact h.wbox, ⟨cur, hr2, ?_⟩, ?_, ?_, ?_, ?_, hbs⟩
      · rintro g (hg | hg)
        · exact st.los g (List.mem_of_mem_drop (h.perm.mem_iff.1 hg))
        · exact st.los g (List.mem_of_mem_take hg)
      · intro i p hp
        have hi : i < k := by have := (List.getElem?_eq_some_iff.1 hp).1; omega
        have h1 : (cur.toList.take (k * 1))[i]? = some (pt p) := by rw [hr6, List.getElem?_map, hp]; rfl
        rw [Nat.mul_one, List.getElem?_take_of_lt hi] at h1
        simpa [pt] using h1
      · intro e
        have := h.apart r2 e
        omega
      · intro i p _ hp
        have hm : p ∈ S.take k := List.mem_iff_getElem?.2 ⟨i, hp⟩
        refine ⟨h.grp p hm, ?_⟩
        intro hx
        have h5 : p ∈ S.drop k := h.perm.mem_iff.1 hx
        have hnd := st.nodup
        rw [← List.take_append_drop k S, List.nodup_append] at hnd
        exact hnd.2.2 p hm p h5 rfl
      · have hnd := st.nodup
        rw [← List.take_append_drop k S, List.nodup_append] at hnd
        exact hnd.1
      · have := h.perm.length_eq
        rw [List.length_drop] at this
        have := st.few
        have := h.kle
        omega
    refine (defer48 _ _ w lo base H v ys wk bx r2 cap2 (S.take k) (by omega) hB).mono ?_
    rintro e u' w' ⟨rfl, rfl, v', xs', g1, g2, g3, g4⟩
    refine ⟨.tuple #[], results_none rfl _ _ _, rfl, v', xs', g1, ?_, g3, fin _ g4⟩
    have : (ys ++ S.take k).Perm S := by
      have h1 : (ys ++ S.take k).Perm (S.drop k ++ S.take k) := h.perm.append_right _
      refine h1.trans (List.perm_append_comm.trans ?_)
      rw [List.take_append_drop]
    exact g2.trans this

set_option maxHeartbeats 2000000 in
theorem inorder47 (l lo base H bx : Nat) (S : List Nat) (O Ox : List Nat → World → Prop) (st : Stage ms sq lo H S)
    (hO : ∀ pre W W', O pre W → KeepI lo W W' → O pre W') (hOx : ∀ pre W W', Ox pre W → KeepI lo W W' → Ox pre W')
    (hY : ∀ (k g : Nat) (W : World), S[k]? = some g → O (S.take k) W → Grp W ms sq hd g (-1) → YieldAt Fence.wide 7 Yba.prog l #[.pointer (some ⟨g, 0, none⟩)] W fun e W' => ((e = .returned (.bool true) ∧ O (S.take k ++ [g]) W') ∨ (e = .returned (.bool false) ∧ Ox (S.take k ++ [g]) W')) ∧ KeepB W W')
    (w : World) (v : Value) (xs : List Nat) (h : GHeap w ms sq hd base H v xs) (ho : HeapN (key ms sq) xs xs.length) (hp : xs.Perm S) (hb : Blk w bx 81 #[.pointer (some ⟨H, 0, none⟩)]) (h0 : O [] w) (hlo : lo ≤ w.heap.size) (hbs : base ≤ w.heap.size) :
    CallsIn Fence.wide 8 Yba.prog 47 #[.func (.yield l) #[] #[], .pointer (some ⟨bx, 0, none⟩)] w fun e w' => e = .returned (.tuple #[]) ∧ ∃ v' xs', GHeap w' ms sq hd base H v' xs' ∧ xs'.Perm S ∧ HeapN (key ms sq) xs' xs'.length ∧
      (O S w' ∨ ∃ k, 0 < k ∧ k ≤ S.length ∧ Ox (S.take k) w') := by
  refine callsIn_of_wp_defers Yba.func47 rfl trivial ?_
  refine wpIn_wide.2 ?_
  simp only [Yba.ntmps47, List.size_toArray, List.length_cons, List.length_nil, Nat.reduceAdd, Nat.reduceSub, Array.replicate_succ, Array.replicate_zero, List.push_toArray, List.append_toArray, List.nil_append, List.cons_append]
  have hmf : ∀ (fn : Fn) (first cap : Array Value) (w : World), (Instr.makeFunc fn first cap).run Yba.prog w = .ok (.func fn first cap) w := fun _ _ _ _ => rfl
  go_wp2
  obtain ⟨i0, hi, hz0, hz1, hz2⟩ := info_parts Yba.info100
  have start : Iter (w.alloc (.cells #[.slice none 0 0] 116)) ms sq hd base H v xs w.heap.size bx (w.heap.size + 1) (.slice none 0 0) S 0 0 := by
    refine ⟨⟨h.obj.alloc _, h.own.alloc _, fun i g hg => (h.grp i g hg).keeps (S := fun _ => False) ((Keeps.refl _ w).alloc _) (by simp), h.lt, h.few⟩, ho, by simpa using hp, hb.alloc _, Blk.new _ _ _, by simpa using World.ownsRow_nil _ _ _ _, ?_, by simp, Nat.zero_le _, by omega, by simp⟩
    intro b hb
    obtain ⟨_, cs, h1⟩ := own_tag h.own hb
    have := h1.lt
    omega
  have HS : Hid (Iter (w.alloc (.cells #[.slice none 0 0] 116)) ms sq hd base H v xs w.heap.size bx (w.heap.size + 1) (.slice none 0 0) S 0 0) := start
  have HO0 : Hid (O [] (w.alloc (.cells #[.slice none 0 0] 116))) := hO _ _ _ h0 (.alloc w _)
  have HOO : Hid (∀ pre W W', O pre W → KeepI lo W W' → O pre W') := hO
  have HOX : Hid (∀ pre W W', Ox pre W → KeepI lo W W' → Ox pre W') := hOx
  have HY : Hid (∀ (k g : Nat) (W : World), S[k]? = some g → O (S.take k) W → Grp W ms sq hd g (-1) → YieldAt Fence.wide 7 Yba.prog l #[.pointer (some ⟨g, 0, none⟩)] W fun e W' => ((e = .returned (.bool true) ∧ O (S.take k ++ [g]) W') ∨ (e = .returned (.bool false) ∧ Ox (S.take k ++ [g]) W')) ∧ KeepB W W') := hY
  clear start hp ho h hb h0 hO hOx hY
  go_loopg [4] S.length (fun gk _ wr => ∃ (k : Nat) (v' : Value) (ys : List Nat) (wv : Value), gk = S.length - k ∧ Iter wr ms sq hd base H v' ys w.heap.size bx (w.heap.size + 1) wv S k k ∧ O (S.take k) wr)
  case atStart => exact ⟨0, v, xs, _, rfl, HS.out, HO0.out⟩
  case round =>
    obtain ⟨k, v', ys, wv, hgk, hI, hOk⟩ := hrel
    have HGK : Hid (gk = S.length - k) := hgk
    clear hgk
    have hlen : ys.length = S.length - k := by rw [hI.perm.length_eq, List.length_drop]
    have hSf := st.few
    have cb : wr.cell? ⟨bx, 0, none⟩ = some (.pointer (some ⟨H, 0, none⟩)) := hI.box.cell 0
    have hL := len13 wr base H v' ys hI.heap
    by_cases hk : k < S.length
    · obtain ⟨q, hq⟩ : ∃ q, ys.length = q + 1 := ⟨ys.length - 1, by omega⟩
      rw [hq] at hL
      have HQ : Hid (ys.length = q + 1) := hq
      have hq9 : q < 1000 := by omega
      have HLn : Hid (ys.length = S.length - k) := hlen
      obtain ⟨zs, g, hpop, hperm, hord, hmin⟩ := popL_law (ms := ms) (sq := sq) ys (S.length - k - 1) (by omega) hI.ord
      have hP := pop49 wr base H v' ys zs g hI.heap hpop
      have HM : Hid ((zs ++ [g]).Perm ys ∧ HeapN (key ms sq) zs zs.length ∧ ∀ y, y ∈ zs → key ms sq g ≤ key ms sq y) := ⟨hperm, hord, hmin⟩
      clear hlen hpop hq hperm hord hmin
      refine (wpIn_wide (n := 8)).1 ?_
      gi_wp2_with fail
      refine ⟨trivial, (callsIn_wide.2 hL).mono ?_⟩
      rintro e w' ⟨rfl, hw⟩
      subst hw
      gi_wp2_with fail
      refine ⟨trivial, (callsIn_wide.2 hP).mono ?_⟩
      rintro e w1 ⟨rfl, v1, p1, p2, p3, p4⟩
      obtain ⟨hSk, hI1, hK1⟩ := hI.popped st hk HM.out.1 HM.out.2.1 HM.out.2.2 p1 p2 p3 p4
      have hO1 := HOO.out _ _ _ hOk hK1
      obtain ⟨ao, cap, rfl⟩ := own_slice hI1.wown
      have cw : w1.cell? ⟨w.heap.size, 0, none⟩ = some (.slice ao k cap) := hI1.wbox.cell 0
      have fw := hI1.wbox.frozen 0
      have lw := hI1.wbox.lt
      have HSk : Hid (S[k]? = some g) := hSk
      have HO1 : Hid (O (S.take k) w1) := hO1
      clear hSk hO1
      clear p1 p2 p3 p4 hL hP hI hOk cb
      have hSk1 : k < 1000 := by omega
      have hbs1 := hI1.bs
      have hwo := hI1.wown
      gi_wp2_with (gi_at_builtin; refine wpListIn_append_own _ rfl _ _ 116 rfl (w.heap.size + 1) 100 i0 (.pointer none) 1 8 Yba.underlying116 hi hz0 hz1 hz2 rfl (by decide) _ _ _ rfl (hwo.alloc _) ⟨w1.heap.size, 0, none⟩ 1 1 [pt g] rfl rfl ?c1 ?c2 ?c3 ?c4 ?c5 ?_)
      case c1 => exact cell_one_new' _ _ _ _ rfl
      case c2 => intro u hu; simp at hu; subst hu; rfl
      case c3 => unfold maxLen; omega
      case c4 => omega
      case c5 => simp; omega
      intro v2 w2 hown2 hgrow2 _
      obtain ⟨r2, cap2, rfl⟩ := ownsRow_succ hown2
      rw [← List.map_take] at hown2
      have hB2 : Blk w2 w.heap.size 116 #[.slice ao k cap] := (hI1.wbox.alloc _).grown hgrow2 (own_ne hwo hI1.wbox (by decide))
      have cw2 : w2.cell? ⟨w.heap.size, 0, none⟩ = some (.slice ao k cap) := hB2.cell 0
      have fw2 := hB2.frozen 0
      obtain ⟨hI2, hK2⟩ := hI1.appended st HSk.out (by omega) hlo hown2 hgrow2
      have hO2 := HOO.out _ _ _ HO1.out hK2
      obtain ⟨W2, hW2⟩ : ∃ W2, W2 = w2.setCell ⟨w.heap.size, 0, none⟩ (.slice (some ⟨r2, 0, none⟩) (k + 1) cap2) := ⟨_, rfl⟩
      clear hgrow2 hown2 hwo cw fw lw hI1
      obtain ⟨fy, ty, ay, by_, hyr, hyR⟩ := HY.out k g _ HSk.out hO2 (hI2.grp g (by rw [List.take_add_one, HSk.out]; simp))
      rw [← hW2] at hyr hyR hI2 hO2
      have HyR : Hid (RoundIn Fence.wide 7 Yba.prog l fy ty ay by_ W2 fun e W' => ((e = .returned (.bool true) ∧ O (S.take k ++ [g]) W') ∨ (e = .returned (.bool false) ∧ Ox (S.take k ++ [g]) W')) ∧ KeepB W2 W') := hyR
      have hW2' := hW2.symm
      clear hyR hW2 hO2
      have htk : S.take (k + 1) = S.take k ++ [g] := by rw [List.take_add_one, HSk.out]; rfl
      have HTK : Hid (S.take (k + 1) = S.take k ++ [g]) := htk
      clear htk
      gi_wp2_with fail
      refine HyR.out.mono ?_
      rintro e w3 ⟨⟨rfl, hO3⟩ | ⟨rfl, hx3⟩, hkb⟩
      · have hI3 := hI2.keepB hkb
        clear hI2 hyr HyR hW2' hB2 cw2 fw2
        gi_wp2_with fail
        go_roundg (S.length - (k + 1))
        case measure => have := HGK.out; omega
        case rel => exact ⟨k + 1, _, _, _, rfl, hI3, by rw [HTK.out]; exact hO3⟩
      · have hI3 := hI2.keepB hkb
        clear hI2 hyr HyR hW2' hB2 cw2 fw2
        gi_wp2_with fail
        exact leave47 lo base H bx w.heap.size (w.heap.size + 1) S O Ox st hlo HOO.out HOX.out w3 _ _ _ (k + 1) hI3 (.inr ⟨by rw [HTK.out]; exact hx3, by omega⟩) _ (by have := hI3.bs; omega)
    · obtain rfl : k = S.length := by have := hI.kle; omega
      have hz : ys.length = 0 := by omega
      rw [hz] at hL
      clear hlen hz
      go_wp2_with fail
      refine hL.mono ?_
      rintro e w' ⟨rfl, hw⟩
      subst hw
      go_wp2_with fail
      exact leave47 lo base H bx w.heap.size (w.heap.size + 1) S O Ox st hlo HOO.out HOX.out _ _ _ _ _ hI (.inl ⟨hOk, rfl⟩) _ (by have := hI.bs; omega)
end Go.Proofs.Ybulkbrrw
