import Derived.Test.YbulkbrrwLaw4
namespace Go.Proofs.Ybulkbrrw
open Go.RowKit Go.Deep
set_option linter.unusedVariables false
set_option linter.unusedSimpArgs false
variable {ms : Nat → List Nat} {sq hd : Nat → Int}

set_option maxRecDepth 100000 in
set_option maxHeartbeats 1000000 in
theorem law5_big (w : World) (ko ho : Option Addr) (n m kc hc : Nat) (s : Int) (h : 256 < n ∨ 4096 < m) (hn : n ≤ 140737488351232) (hm : m ≤ 140737488351232) :
    Calls Yba.prog 5 #[.slice ko n kc, .slice ho m hc, .int .u8 s] w fun e w' => e = .returned (.bool true) ∧ Below w.heap.size w w' := by
  by_cases h1 : 256 < n
  · go_enter Yba.func5, Yba.ntmps5
    go_wp2
    go_ret
    exact ⟨rfl, Below.refl _ _⟩
  · have h2 : 4096 < m := by omega
    have hd : decide ((256 : Int) < (n : Int)) = false := by simp; omega
    go_enter Yba.func5, Yba.ntmps5
    go_wp2
    go_ret
    exact ⟨rfl, Below.refl _ _⟩

/-- The first k of a row. -/
theorem own_take {w : World} {base : Nat} {ao : Option Addr} {cap : Nat} {E : List Int} {k : Nat} (h : w.ownsRow base 24 1 (.slice ao E.length cap) E.length (u64s E)) (hk : k < E.length) : k ≤ cap ∧ w.ownsRow base 24 1 (.slice ao k cap) (E.take k).length (u64s (E.take k)) := by
  rcases h.2 with ⟨h1, h2⟩ | ⟨g, cap', cur, h1, h2, hh, h3, h4, h5, h6⟩
  · omega
  · obtain ⟨rfl, rfl⟩ : ao = some ⟨g, 0, none⟩ ∧ cap = cap' := by simpa using h1
    refine ⟨by omega, by simp [u64s], .inr ⟨g, cap, cur, by simp; omega, h2, hh, ?_, h4, h5, ?_⟩⟩
    · simp; omega
    · rw [Nat.mul_one] at h6 ⊢
      rw [List.length_take, Nat.min_eq_left (by omega), u64s, List.map_take]
      rw [show E.map (Value.int .u64) = u64s E from rfl, ← h6, List.take_take, Nat.min_eq_left (by omega)]

theorem own_ne' {w : World} {base : Nat} {ao : Option Addr} {cap n : Nat} {E : List Value} (h : w.ownsRow base 24 1 (.slice ao n cap) n E) (hk : 0 < n) : ∃ g, ao = some ⟨g, 0, none⟩ := by
  rcases h.2 with ⟨h1, h2⟩ | ⟨g, cap', cur, h1, h2, hh, h3, h4, h5, h6⟩
  · omega
  · obtain ⟨rfl, rfl⟩ : ao = some ⟨g, 0, none⟩ ∧ cap = cap' := by simpa using h1
    exact ⟨_, rfl⟩

set_option maxRecDepth 100000 in
set_option maxHeartbeats 2000000 in
theorem law5 (w : World) (kv hv : Value) (n : Nat) (K : Nat → Nat) (hs : List Bool) (s : Int) (hs0 : 0 ≤ s) (hs1 : s ≤ 255) (hk : SlAt w w.heap.size kv n (fun t => .int .u16 (K t))) (hK : ∀ t, K t ≤ 65535) (hh : SlAt w w.heap.size hv hs.length (fun t => .bool (hs.getD t false))) (hn : n ≤ 140737488351232) (hl : hs.length ≤ 140737488351232) :
    Calls Yba.prog 5 #[kv, hv, .int .u8 s] w fun e w' => e = .returned (.bool true) ∧ Below w.heap.size w w' := by
  by_cases hbig : 256 < n ∨ 4096 < hs.length
  · obtain ⟨ko, kc, rfl, _⟩ := hk
    obtain ⟨ho, hc, rfl, _⟩ := hh
    exact law5_big w ko ho n hs.length kc hc s hbig hn hl
  have hB := build10 w kv hv n K hs hk hK hh (by omega) (by omega)
  obtain ⟨ko, kc, rfl, _⟩ := hk
  obtain ⟨ho, hc, rfl, _⟩ := hh
  obtain ⟨m, hm⟩ : ∃ m, m = hs.length := ⟨_, rfl⟩
  rw [← hm] at hB hbig hl ⊢
  have hd1 : decide ((256 : Int) < (n : Int)) = false := by simp; omega
  have hd2 : ¬ (4096 : Int) < (m : Int) := by omega
  have hn1 : n ≤ 256 := by omega
  clear hm hbig
  go_enter Yba.func5, Yba.ntmps5
  go_wp2_with fail
  refine hB.mono ?_
  rintro e w1 ⟨ev, ms, sq, hd, base, Q, H, S, eb, rfl, hown1, heb, hQ1, hSl, hb1⟩
  clear hB
  have hall := all_len hQ1
  obtain ⟨E, hE⟩ : ∃ E, E = S.flatMap (vis ms sq hd) := ⟨_, rfl⟩
  obtain ⟨k, hkd⟩ : ∃ k : Nat, (k : Int) = 1 + s % ((E.length : Int) + 1) := ⟨(1 + s % ((E.length : Int) + 1)).toNat, by
    have := Int.emod_nonneg s (show ((E.length : Int) + 1) ≠ 0 by omega)
    omega⟩
  have hk1 : 1 ≤ k := by
    have := Int.emod_nonneg s (show ((E.length : Int) + 1) ≠ 0 by omega)
    omega
  rw [← hE] at hown1 hall
  have hk2 : k ≤ 5000 := by
    have := Int.emod_lt_of_pos s (show 0 < ((E.length : Int) + 1) by omega)
    omega
  obtain ⟨ao, cap, rfl⟩ := own_slice hown1
  have HSl : Hid (S.length = n) := hSl
  have HE : Hid (E = S.flatMap (vis ms sq hd)) := hE
  have HQ1 : Hid (w.heap.size ≤ eb ∧ Below w.heap.size w w1) := ⟨heb, hb1⟩
  have HQ : Hid (Queue w1 ms sq hd w.heap.size base Q H S) := hQ1
  have HK : Hid ((k : Int) = 1 + s % ((E.length : Int) + 1)) := hkd
  clear hE hSl heb hb1 hQ1 hkd
  go_wp2_with fail
  have hC1 := cwalk11 w1 w.heap.size base Q H S (k : Int) HQ.out (by omega) (.inr (by simp; omega))
  rw [show takeI (k : Int) (S.flatMap (vis ms sq hd)) = E.take k from by rw [← HE.out]; simp [takeI]; omega] at hC1
  rw [show wrap64 (1 + s % (↑E.length + 1)) = (k : Int) from by rw [← HK.out]; unfold wrap64; omega]
  refine hC1.mono ?_
  rintro e w2 ⟨lv, rfl, hown2, hkk2, hQ2⟩
  obtain ⟨ao2, cap2, rfl⟩ := own_slice hown2
  have hown1' := own_keepI hown1 hkk2
  have HB1 : Hid (Below w.heap.size w w2) := HQ1.out.2.trans (hkk2.toBelow (Nat.le_trans HQ1.out.2.size (Nat.le_refl _)))
  have HQ2 : Hid (Queue w2 ms sq hd w.heap.size base Q H S) := hQ2
  clear hC1 hown1 hkk2 hQ2 HQ1 HQ
  have rest : ∀ (d3 : Nat), Calls Yba.prog 13 #[.pointer (some ⟨H, 0, none⟩)] (w2.drewN d3) (fun e w' => e = .returned (.int .i64 n) ∧ w' = w2.drewN d3) ∧ (w2.drewN d3).cell? ⟨Q, 24, none⟩ = some (.pointer (some ⟨H, 0, none⟩)) ∧
      Calls Yba.prog 11 #[.pointer (some ⟨Q, 0, none⟩), .int .i64 (-1)] (w2.drewN d3) (fun e w' => ∃ ao cap, e = .returned (.slice ao E.length cap) ∧ w'.ownsRow (w2.drewN d3).heap.size 24 1 (.slice ao E.length cap) E.length (u64s E) ∧ KeepI w.heap.size (w2.drewN d3) w') := by
    intro d3
    have hQ3 := HQ2.out.drewN d3
    obtain ⟨hq3, hL3⟩ := qlen hQ3
    rw [HSl.out] at hL3
    refine ⟨hL3, hq3, ?_⟩
    have hC2 := cwalk11 (w2.drewN d3) w.heap.size base Q H S (-1) hQ3 (by omega) (.inl (by omega))
    rw [show takeI (-1) (S.flatMap (vis ms sq hd)) = S.flatMap (vis ms sq hd) from by simp [takeI], ← HE.out] at hC2
    refine hC2.mono ?_
    rintro e w5 ⟨lv2, rfl, hown5, hk5, hQ5⟩
    obtain ⟨ao5, cap5, rfl⟩ := own_slice hown5
    exact ⟨_, _, rfl, hown5, hk5⟩
  have HR : Hid _ := rest
  clear rest
  by_cases hlt : k < E.length
  · obtain ⟨hkc, hownT⟩ := own_take hown1' hlt
    obtain ⟨g, rfl⟩ := own_ne' hown1' (by omega)
    have hEq1 := ceq12 w2 _ _ _ _ (E.take k) hown2 hownT (by simp; omega)
    rw [List.length_take, Nat.min_eq_left (by omega)] at hEq1 ⊢
    clear hown2 hownT
    have hlt' : (k : Int) < (E.length : Int) := by omega
    have hkc' : (k : Int) ≤ (cap : Int) := by omega
    go_wp2_with fail
    refine hEq1.mono ?_
    rintro e w3 ⟨rfl, d3, rfl⟩
    obtain ⟨hL3, hq3, hC2⟩ := HR.out d3
    clear hEq1
    go_wp2_with fail
    refine hL3.mono ?_
    rintro e w4 ⟨rfl, hw4⟩
    subst hw4
    clear hL3
    go_wp2_with fail
    refine hC2.mono ?_
    rintro e w5 ⟨ao5, cap5, rfl, hown5, hk5⟩
    have hownB5 := own_keepI (ownsRow_drewN hown1' d3) hk5
    have hEq2 := ceq12 w5 _ _ _ _ E hown5 hownB5 (by omega)
    have HB2 : Hid (Below w.heap.size w w5) := by
      have h0 : Below w.heap.size w (w2.drewN d3) := ⟨HB1.out.os, HB1.out.tape, HB1.out.output, HB1.out.size, HB1.out.block⟩
      exact h0.trans (hk5.toBelow h0.size)
    clear hC2 hq3 hown5 hownB5 hk5
    go_wp2_with fail
    refine hEq2.mono ?_
    rintro e w6 ⟨rfl, d6, rfl⟩
    go_wp2
    go_ret
    exact ⟨by simp, ⟨HB2.out.os, HB2.out.tape, HB2.out.output, HB2.out.size, HB2.out.block⟩⟩
  · rw [List.take_of_length_le (by omega)] at hown2 ⊢
    have hEq1 := ceq12 w2 _ _ _ _ E hown2 hown1' (by omega)
    clear hown2
    have hlt' : ¬ (k : Int) < (E.length : Int) := by omega
    go_wp2_with fail
    refine hEq1.mono ?_
    rintro e w3 ⟨rfl, d3, rfl⟩
    obtain ⟨hL3, hq3, hC2⟩ := HR.out d3
    clear hEq1
    go_wp2_with fail
    refine hL3.mono ?_
    rintro e w4 ⟨rfl, hw4⟩
    subst hw4
    clear hL3
    go_wp2_with fail
    refine hC2.mono ?_
    rintro e w5 ⟨ao5, cap5, rfl, hown5, hk5⟩
    have hownB5 := own_keepI (ownsRow_drewN hown1' d3) hk5
    have hEq2 := ceq12 w5 _ _ _ _ E hown5 hownB5 (by omega)
    have HB2 : Hid (Below w.heap.size w w5) := by
      have h0 : Below w.heap.size w (w2.drewN d3) := ⟨HB1.out.os, HB1.out.tape, HB1.out.output, HB1.out.size, HB1.out.block⟩
      exact h0.trans (hk5.toBelow h0.size)
    clear hC2 hq3 hown5 hownB5 hk5
    go_wp2_with fail
    refine hEq2.mono ?_
    rintro e w6 ⟨rfl, d6, rfl⟩
    go_wp2
    go_ret
    exact ⟨by simp, ⟨HB2.out.os, HB2.out.tape, HB2.out.output, HB2.out.size, HB2.out.block⟩⟩
end Go.Proofs.Ybulkbrrw
