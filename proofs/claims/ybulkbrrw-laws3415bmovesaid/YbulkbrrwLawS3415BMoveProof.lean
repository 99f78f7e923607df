import Derived.Test.YbulkbrrwMrow
import Derived.Test.YbulkbrrwLaw3
namespace Go.Proofs.Ybulkbrrw.lawS3415BMove
open Go.ChangeShapes Go.WideShapes Go.ChangeAt Go.RowKit
set_option linter.unusedVariables false

set_option maxRecDepth 100000 in
theorem lifted (os : Os) (started : os.Started) (H : Type) (enc : TypeId × Value → H) :
    ReturnsInHanded {} Yba.checked os 3 .any (Rows.lawS3415BMoveSpec.pre6 enc Yba.prog Yba.f3 Rows.lawS3415BMoveRow.domain false) (Rows.lawS3415BMoveSpec.post enc Yba.prog Yba.f3 false true false false) := by
  refine returnsInHanded_of_change_sized (C := Yba.checked) own started (by kernel_rfl) Yba.func3
    (ChangeSpec.witness6 (enc := enc) (C := Yba.checked) false ⟨#[], #[.slice none 0 0, .int .u64 0, .int .u64 0, .int .i64 0, .int .u8 0, .bool false, .int .i64 0, .int .u64 0], []⟩ 8 (by kernel_rfl) (by kernel_rfl) (by kernel_rfl) (by kernel_rfl)) ?_
  intro W base args ds gs before hval0 hW hcnd hsz0 _
  have hval : ∀ (j : Nat) t v, Yba.f3.params[j]? = some t → args[j]? = some v → Value.okWide Yba.prog W .any base t v := hval0
  have hsz : (DataW.weightsEach Yba.prog (Yba.f3.params.toList ++ Rows.lawS3415BMoveSpec.plain.varTypes Yba.prog) (ds ++ gs)).all (· ≤ reachBytes) = true := hsz0
  have hW' := hW
  obtain ⟨p, q, hA0, hV, rfl, hfz, hnd⟩ := hW
  have hA : DataW.TrodAll enc Yba.prog W 0 (fun _ => true) true Yba.f3.params.toList args.toList ds p := hA0
  rw [Yba.params3] at hA hval hsz
  obtain ⟨v0, vs0, d0, ds0, p0, q0, hargs, rfl, rfl, h0, r0⟩ := trodAll_cons hA
  obtain ⟨v1, vs1, d1, ds1, p1, q1, rfl, rfl, rfl, h1, r1⟩ := trodAll_cons r0
  obtain ⟨v2, vs2, d2, ds2, p2, q2, rfl, rfl, rfl, h2, r2⟩ := trodAll_cons r1
  obtain ⟨v3, vs3, d3, ds3, p3, q3, rfl, rfl, rfl, h3, r3⟩ := trodAll_cons r2
  obtain ⟨v4, vs4, d4, ds4, p4, q4, rfl, rfl, rfl, h4, r4⟩ := trodAll_cons r3
  obtain ⟨v5, vs5, d5, ds5, p5, q5, rfl, rfl, rfl, h5, r5⟩ := trodAll_cons r4
  obtain ⟨v6, vs6, d6, ds6, p6, q6, rfl, rfl, rfl, h6, r6⟩ := trodAll_cons r5
  obtain ⟨v7, vs7, d7, ds7, p7, q7, rfl, rfl, rfl, h7, r7⟩ := trodAll_cons r6
  obtain ⟨rfl, rfl, rfl⟩ := trodAll_nil r7
  obtain rfl : args = #[v0, v1, v2, v3, v4, v5, v6, v7] := by cases args; simp_all
  obtain ⟨rfl, rfl⟩ := trodVars_none hV
  have lt0 : ∀ x ∈ p0, x.block < W.heap.size := by obtain ⟨m, hm⟩ := h0; exact DataW.trod_lt m _ _ _ hm
  obtain ⟨ao, n, cap, rfl, hin, hn⟩ := at_msgs h0 (okWide_slice Yba.underlying22 (hval 0 22 v0 rfl rfl))
  obtain ⟨a1, rfl, rfl, rfl, w1⟩ := open_int (k := .u64) (by kernel_rfl) (hval 1 23 v1 rfl rfl) h1
  obtain ⟨a2, rfl, rfl, rfl, w2⟩ := open_int (k := .u64) (by kernel_rfl) (hval 2 24 v2 rfl rfl) h2
  obtain ⟨a3, rfl, rfl, rfl, w3⟩ := open_int (k := .i64) (by kernel_rfl) (hval 3 3 v3 rfl rfl) h3
  obtain ⟨a4, rfl, rfl, rfl, w4⟩ := open_int (k := .u8) (by kernel_rfl) (hval 4 5 v4 rfl rfl) h4
  obtain ⟨a5, rfl, rfl, rfl⟩ := open_bool (by kernel_rfl) (hval 5 4 v5 rfl rfl) h5
  obtain ⟨a6, rfl, rfl, rfl, w6⟩ := open_int (k := .i64) (by kernel_rfl) (hval 6 3 v6 rfl rfl) h6
  obtain ⟨a7, rfl, rfl, rfl, w7⟩ := open_int (k := .u64) (by kernel_rfl) (hval 7 24 v7 rfl rfl) h7
  have hn' : n ≤ 140737488351232 := by
    rcases hn with ⟨es, sp, rfl, rfl⟩ | rfl
    · have := sized_slice hsz (j := 0) (t := 22) (e := 27) rfl rfl Yba.underlying22
      rw [bytes27] at this
      simp only [reachBytes] at this
      omega
    · omega
  clear hA0 hval0 hsz0
  have hlaw : Calls Yba.prog 3 #[.slice ao n cap, .int .u64 a1, .int .u64 a2, .int .i64 a3, .int .u8 a4, .bool a5, .int .i64 a6, .int .u64 a7] W fun e w' => e = .returned (.bool true) ∧ Below W.heap.size W w' := by
    by_cases hb : 300 < n
    · exact law3_big W ao n cap a1 a2 a3 a4 a6 a7 a5 hb hn'
    · exact law3 W ao n cap a1 a2 a3 a4 a6 a7 a5 (by omega) w1 w2 w4 hin
  refine hlaw.mono fun e W' ⟨he, bel⟩ => ?_
  subst he
  exact ⟨_, rfl, _, _, _, [], _, [], hW', trodAll_mk1 (shut_bool Yba.underlying4 _),
    (trodAll_cons_mk (Below.trod laidOut (by kernel_rfl) (of_decide_eq_true (by kernel_rfl)) h0 bel lt0)
      (trodAll_cons_mk (shut_int (by kernel_rfl) w1) (trodAll_cons_mk (shut_int (by kernel_rfl) w2) (trodAll_cons_mk (shut_int (by kernel_rfl) w3) (trodAll_cons_mk (shut_int (by kernel_rfl) w4)
        (trodAll_cons_mk (shut_bool (by kernel_rfl) a5) (trodAll_cons_mk (shut_int (by kernel_rfl) w6) (trodAll_cons_mk (shut_int (by kernel_rfl) w7) trodAll_mk0)))))))), rfl, bel.frame _, fun h => by cases h⟩

theorem over : Rows.lawS3415BMoveRow.holds Yba.pinned (OpenSpec.ofChange Rows.lawS3415BMoveSpec) :=
  OpenClaim.holds_of_wide 3 Yba.f3 rfl rfl rfl rfl rfl rfl rfl ⟨rfl, rfl, rfl, rfl, rfl⟩ rfl rfl rfl rfl rfl (by kernel_rfl) Yba.func3 (by kernel_rfl)
    (of_decide_eq_true (by kernel_rfl)) (by unfold Func.isWrapper; first | (rw [if_pos (by decide +kernel)]; kernel_rfl) | (rw [if_neg (by decide +kernel)]; exact ⟨rfl, rfl⟩))
    (fun os started H enc _ => lifted os started H enc)

theorem proved : Rows.LawS3415BMoveSaid := over
#print axioms proved
end Go.Proofs.Ybulkbrrw.lawS3415BMove
