import Derived.Test.YbulkbrrwBuild
namespace Go.Proofs.Ybulkbrrw
open Go.RowKit Go.Deep
set_option linter.unusedVariables false
set_option linter.unusedSimpArgs false
variable {ms : Nat → List Nat} {sq hd : Nat → Int}

theorem KeepI.toBelow {lo : Nat} {w w' : World} (h : KeepI lo w w') (hl : lo ≤ w.heap.size) : Below lo w w' :=
  ⟨h.os, h.tape, h.output, h.size, fun k hk => by
    have h1 : w.heap[k]? = some w.heap[k] := Array.getElem?_eq_getElem (by omega)
    rw [h1]
    exact h.same k _ h1 (fun e => by omega)⟩

theorem own_keepI {lo : Nat} {w w' : World} {base : Nat} {v : Value} {n : Nat} {xs : List Value} (h : w.ownsRow base 24 1 v n xs) (k : KeepI lo w w') : w'.ownsRow base 24 1 v n xs := by
  refine ⟨h.1, ?_⟩
  rcases h.2 with h2 | ⟨g, cap, cur, h1, h2, hh, h3⟩
  · exact .inl h2
  · exact .inr ⟨g, cap, cur, h1, h2, k.blk (t := 24) (cs := cur) hh (fun _ => by decide), h3⟩

theorem Queue.drewN {w : World} {lo base Q H : Nat} {S : List Nat} (h : Queue w ms sq hd lo base Q H S) (n : Nat) : Queue (w.drewN n) ms sq hd lo base Q H S := by
  obtain ⟨v, xs, h1, h2, h3⟩ := h.heap
  obtain ⟨cs, c1, c2⟩ := h.obj
  exact ⟨⟨cs, c1, c2⟩, ⟨v, xs, h1.drewN n, h2, h3⟩, h.stage, h.many, h.bs, h.los⟩

set_option maxHeartbeats 1000000 in
theorem qlen {w : World} {lo base Q H : Nat} {S : List Nat} (h : Queue w ms sq hd lo base Q H S) :
    w.cell? ⟨Q, 24, none⟩ = some (.pointer (some ⟨H, 0, none⟩)) ∧ Calls Yba.prog 13 #[.pointer (some ⟨H, 0, none⟩)] w fun e w' => e = .returned (.int .i64 S.length) ∧ w' = w := by
  obtain ⟨v, xs, h1, h2, h3⟩ := h.heap
  obtain ⟨cs, c1, c2⟩ := h.obj
  refine ⟨by rw [c1.cell 24]; exact c2, ?_⟩
  rw [← h2.length_eq]
  exact len13 w base H v xs h1

theorem all_len {w : World} {lo base Q H : Nat} {S : List Nat} (h : Queue w ms sq hd lo base Q H S) : (S.flatMap (vis ms sq hd)).length < 5000 := by
  have h1 := length_flatMap_le (vis ms sq hd) 5 S (fun g hg => Nat.le_trans (vis_len g) (h.many g hg))
  have := h.stage.few
  omega

set_option maxRecDepth 100000 in
set_option maxHeartbeats 1000000 in
theorem law4_big (w : World) (ko ho : Option Addr) (n m kc hc : Nat) (h : 256 < n ∨ 4096 < m) (hn : n ≤ 140737488351232) (hm : m ≤ 140737488351232) :
    Calls Yba.prog 4 #[.slice ko n kc, .slice ho m hc] w fun e w' => e = .returned (.bool true) ∧ Below w.heap.size w w' := by
  by_cases h1 : 256 < n
  · go_enter Yba.func4, Yba.ntmps4
    go_wp2
    go_ret
    exact ⟨rfl, Below.refl _ _⟩
  · have h2 : 4096 < m := by omega
    have hd : decide ((256 : Int) < (n : Int)) = false := by simp; omega
    go_enter Yba.func4, Yba.ntmps4
    go_wp2
    go_ret
    exact ⟨rfl, Below.refl _ _⟩

set_option maxRecDepth 100000 in
set_option maxHeartbeats 2000000 in
theorem law4 (w : World) (kv hv : Value) (n : Nat) (K : Nat → Nat) (hs : List Bool) (hk : SlAt w w.heap.size kv n (fun t => .int .u16 (K t))) (hK : ∀ t, K t ≤ 65535) (hh : SlAt w w.heap.size hv hs.length (fun t => .bool (hs.getD t false))) (hn : n ≤ 140737488351232) (hl : hs.length ≤ 140737488351232) :
    Calls Yba.prog 4 #[kv, hv] w fun e w' => e = .returned (.bool true) ∧ Below w.heap.size w w' := by
  by_cases hbig : 256 < n ∨ 4096 < hs.length
  · obtain ⟨ko, kc, rfl, _⟩ := hk
    obtain ⟨ho, hc, rfl, _⟩ := hh
    exact law4_big w ko ho n hs.length kc hc hbig hn hl
  have hB := build10 w kv hv n K hs hk hK hh (by omega) (by omega)
  obtain ⟨ko, kc, rfl, _⟩ := hk
  obtain ⟨ho, hc, rfl, _⟩ := hh
  obtain ⟨m, hm⟩ : ∃ m, m = hs.length := ⟨_, rfl⟩
  rw [← hm] at hB hbig hl ⊢
  have hd1 : decide ((256 : Int) < (n : Int)) = false := by simp; omega
  have hd2 : ¬ (4096 : Int) < (m : Int) := by omega
  have hn1 : n ≤ 256 := by omega
  clear hm hbig
  go_enter Yba.func4, Yba.ntmps4
  go_wp2_with fail
  refine hB.mono ?_
  rintro e w1 ⟨ev, ms, sq, hd, base, Q, H, S, eb, rfl, hown1, heb, hQ1, hSl, hb1⟩
  clear hB
  have hall := all_len hQ1
  have hC1 := cwalk11 w1 w.heap.size base Q H S (-1) hQ1 (by omega) (.inl (by omega))
  rw [show takeI (-1) (S.flatMap (vis ms sq hd)) = S.flatMap (vis ms sq hd) from by simp [takeI]] at hC1
  obtain ⟨E, hE⟩ : ∃ E, E = S.flatMap (vis ms sq hd) := ⟨_, rfl⟩
  rw [← hE] at hC1 hown1 hall
  obtain ⟨ao, cap, rfl⟩ := own_slice hown1
  have HSl : Hid (S.length = n) := hSl
  have HE : Hid (E = S.flatMap (vis ms sq hd)) := hE
  have HQ1 : Hid (w.heap.size ≤ eb ∧ Below w.heap.size w w1) := ⟨heb, hb1⟩
  clear hE hSl heb hb1 hQ1
  go_wp2_with fail
  refine hC1.mono ?_
  rintro e w2 ⟨lv, rfl, hown2, hk2, hQ2⟩
  obtain ⟨ao2, cap2, rfl⟩ := own_slice hown2
  have hown1' := own_keepI hown1 hk2
  have hEq1 := ceq12 w2 _ _ _ _ E hown2 hown1' (by omega)
  clear hC1
  go_wp2_with fail
  refine hEq1.mono ?_
  rintro e w3 ⟨rfl, d3, rfl⟩
  have hQ3 := hQ2.drewN d3
  obtain ⟨hq3, hL3⟩ := qlen hQ3
  rw [HSl.out] at hL3
  have hC2 := cwalk11 (w2.drewN d3) w.heap.size base Q H S (-1) hQ3 (by omega) (.inl (by omega))
  rw [show takeI (-1) (S.flatMap (vis ms sq hd)) = S.flatMap (vis ms sq hd) from by simp [takeI], ← HE.out] at hC2
  clear hEq1 hQ2
  go_wp2_with fail
  refine hL3.mono ?_
  rintro e w4 ⟨rfl, hw4⟩
  subst hw4
  have hownB : (w2.drewN d3).ownsRow eb 24 1 (.slice ao E.length cap) E.length (u64s E) := hown1'
  have HB1 : Hid (Below w.heap.size w (w2.drewN d3)) := by
    have h1 : Below w.heap.size w w2 := HQ1.out.2.trans (hk2.toBelow (Nat.le_trans HQ1.out.2.size (Nat.le_refl _)))
    exact ⟨h1.os, h1.tape, h1.output, h1.size, h1.block⟩
  clear hL3 hown1 hown2 hown1' hk2 hQ3
  go_wp2_with fail
  refine hC2.mono ?_
  rintro e w5 ⟨lv2, rfl, hown5, hk5, hQ5⟩
  obtain ⟨ao5, cap5, rfl⟩ := own_slice hown5
  have hownB5 := own_keepI hownB hk5
  have hEq2 := ceq12 w5 _ _ _ _ E hown5 hownB5 (by omega)
  clear hC2 hq3
  go_wp2_with fail
  refine hEq2.mono ?_
  rintro e w6 ⟨rfl, d6, rfl⟩
  have hQ6 := hQ5.drewN d6
  obtain ⟨hq6, hL6⟩ := qlen hQ6
  rw [HSl.out] at hL6
  have HB2 : Hid (Below w.heap.size w (w5.drewN d6)) := by
    have h1 : Below w.heap.size w w5 := HB1.out.trans (hk5.toBelow HB1.out.size)
    exact ⟨h1.os, h1.tape, h1.output, h1.size, h1.block⟩
  clear hEq2 hown5 hownB5 hk5 hQ5 hQ6
  go_wp2_with fail
  refine hL6.mono ?_
  rintro e w7 ⟨rfl, hw7⟩
  subst hw7
  clear hL6
  go_wp2
  go_ret
  exact ⟨by simp, HB2.out⟩
end Go.Proofs.Ybulkbrrw
