import Derived.Test.YbulkbrtmDoorRows
import Derived.Test.YbulkbrtmDoorTie
import Derived.Test.YbulkbrtmDoorCards
import Derived.Test.YbulkbrtmDoorLaw3
import Derived.WalkKit
import Derived.ProofKit
import Derived.OpenShut
import Derived.ShutString
import Derived.ChangeMaps5
import Derived.ChangeOld
import Derived.Below
import Derived.SizedLaws
import Derived.Lay
import Derived.Stop.LaidErr
import Derived.Lib.LaidTab
import Derived.SevenTiedAt
namespace Go.Proofs.YbulkbrtmDoor.lawS3418CLine
open Go.ChangeShapes Go.WideShapes Go.ChangeAt Go.RowKit
set_option linter.unusedVariables false

theorem own : ownKnob Ybad.prog.godebug = none := by kernel_rfl
def laid : List (String × DataW Unit) := Rows.lawS3418CLineRow.laid
theorem data_eq : (Rows.laid_internal_strconv_uint64pow10 : DataW Unit) = Lib.tabData .u64 Lib.pow10Tab := by kernel_rfl
theorem gPow : Ybad.prog.globalNamed tabName = some 0 := by kernel_rfl
theorem gPowType : (Ybad.prog.globals[0]?).map (·.type) = some 69 := by kernel_rfl
theorem cells22 : Ybad.prog.cellsOf 22 = 1 := by kernel_rfl
theorem cells69 : Ybad.prog.cellsOf 69 = 20 := by kernel_rfl

theorem tab_of {W : World} (hL : laidMet Ybad.prog laid W) : Lib.TabIs Ybad.prog W tabName .u64 Lib.pow10Tab := by
  have h3 := (laidMet.tail hL).tail
  rw [data_eq] at h3
  exact Lib.tabIs_of_head gPow gPowType Ybad.underlying69 Ybad.underlying22 cells22 cells69 h3

set_option maxRecDepth 100000 in
theorem lifted (os : Os) (started : os.Started) (H : Type) (enc : TypeId × Value → H) :
    ReturnsInHanded {} Ybad.checked os 3 .any (fun w args => (Rows.lawS3418CLineSpec.pre enc Ybad.prog Ybad.f3 [] false w args ∧ laidMetH Ybad.prog laid w) ∧ sizedMet enc Ybad.prog Ybad.f3 (OpenSpec.ofChange Rows.lawS3418CLineSpec) false w args)
      (Rows.lawS3418CLineSpec.post enc Ybad.prog Ybad.f3 false true false false) := by
  refine returnsInHanded_of_change_and (C := Ybad.checked) (X := fun w _ => laidMetH Ybad.prog laid w) (fun _ _ _ hh h => h.of_heap hh) own started (by kernel_rfl) Ybad.func3
    (ChangeSpec.witness_shaped (enc := enc) (C := Ybad.checked) (os := os) (X := fun w _ => laidMetH Ybad.prog laid w) false (World.laidAll Ybad.prog os laid) #[.int .u8 0, .string ⟨#[]⟩, .int .i64 0, .int .u64 0] 8 (World.laidAll_os _ _ _)
      (World.shaped_of_ZipB (by kernel_rfl) (by kernel_rfl)) (by kernel_rfl) (by kernel_rfl) (by kernel_rfl)
      (by rw [MakeChecks.laidMetH_plain _ _ _ (by kernel_rfl)]; exact laidMet_laidAll _ (by kernel_rfl) (by kernel_rfl))) ?_
  intro W base args ds gs before hval0 hW _ _ hL _
  have hval : ∀ (j : Nat) t v, Ybad.f3.params[j]? = some t → args[j]? = some v → Value.okWide Ybad.prog W .any base t v := hval0
  have hW' := hW
  obtain ⟨p, q, hA0, hV, rfl, _, _⟩ := hW
  have hA : DataW.TrodAll enc Ybad.prog W 0 (fun _ => true) true Ybad.f3.params.toList args.toList ds p := hA0
  rw [Ybad.params3] at hA hval
  obtain ⟨v0, vs0, d0, ds0, p0, q0, hargs, rfl, rfl, h0, r0⟩ := trodAll_cons hA
  obtain ⟨v1, vs1, d1, ds1, p1, q1, rfl, rfl, rfl, h1, r1⟩ := trodAll_cons r0
  obtain ⟨v2, vs2, d2, ds2, p2, q2, rfl, rfl, rfl, h2, r2⟩ := trodAll_cons r1
  obtain ⟨v3, vs3, d3, ds3, p3, q3, rfl, rfl, rfl, h3, r3⟩ := trodAll_cons r2
  obtain ⟨rfl, rfl, rfl⟩ := trodAll_nil r3
  obtain rfl : args = #[v0, v1, v2, v3] := by cases args; simp_all
  obtain ⟨rfl, rfl⟩ := trodVars_none hV
  obtain ⟨mode, rfl, rfl, rfl, w0⟩ := open_int (k := .u8) Ybad.underlying5 (hval 0 5 v0 rfl rfl) h0
  obtain ⟨file, rfl, rfl, rfl, w1⟩ := Go.ChangeMaps.open_string Ybad.underlying9 (hval 1 9 v1 rfl rfl) h1
  obtain ⟨line, rfl, rfl, rfl, w2⟩ := open_int (k := .i64) Ybad.underlying3 (hval 2 3 v2 rfl rfl) h2
  obtain ⟨id, rfl, rfl, rfl, w3⟩ := open_int (k := .u64) Ybad.underlying22 (hval 3 22 v3 rfl rfl) h3
  rw [MakeChecks.laidMetH_plain _ _ _ (by kernel_rfl)] at hL
  have htab := Lib.tabBelow_of_tabIs (tab_of hL)
  have hlaw : Calls Ybad.prog 3 #[.int .u8 mode, .string file, .int .i64 line, .int .u64 id] W fun e w' => e = .returned (.bool true) ∧ Below W.heap.size W w' := by
    by_cases hb : 1024 < file.size
    · exact law3_big W mode line id file hb (by simp only [maxLen] at w1; omega)
    · have b2 := bounds_i64 w2
      have b3 := bounds_u64 w3
      obtain ⟨n, rfl⟩ : ∃ n : Nat, id = (n : Int) := ⟨id.toNat, by omega⟩
      exact law3 W mode line n file w0 (by omega) (by omega) b2.1 b2.2 htab
  refine hlaw.mono fun e W' ⟨he, bel⟩ => ?_
  subst he
  exact ⟨_, rfl, _, _, _, [], _, [], hW', trodAll_mk1 (shut_bool Ybad.underlying4 _),
    (trodAll_cons_mk (shut_int Ybad.underlying5 w0) (trodAll_cons_mk (Go.ChangeMaps.shut_string Ybad.underlying9 w1) (trodAll_cons_mk (shut_int Ybad.underlying3 w2) (trodAll_cons_mk (shut_int Ybad.underlying22 w3) trodAll_mk0)))), rfl, bel.frame _, fun h => by cases h⟩

theorem over : Rows.lawS3418CLineRow.holds Ybad.pinned (OpenSpec.ofChange Rows.lawS3418CLineSpec) :=
  OpenClaim.holds_of_wide 3 Ybad.f3 rfl rfl rfl rfl rfl rfl rfl ⟨rfl, rfl, rfl, rfl, rfl⟩ rfl rfl rfl rfl rfl (by kernel_rfl) Ybad.func3 (by kernel_rfl)
    (of_decide_eq_true (by kernel_rfl)) (by unfold Func.isWrapper; first | (rw [if_pos (by decide +kernel)]; kernel_rfl) | (rw [if_neg (by decide +kernel)]; exact ⟨rfl, rfl⟩))
    (fun os started H enc _ => lifted os started H enc)

theorem proved : Rows.LawS3418CLineCardSaid :=
  Claim7.holds_tied_plain_at .later [] [.data, .data, .data] true (true, "b818fa7c1d4db1dbde20a672c156784c6de7d369aaaaf76aa2b2e0de00e772ff") false over (fun _ h => by cases h) (by kernel_rfl) (fun _ h => by cases h) lawS3418CLine_row_tie rfl ⟨rfl, rfl⟩ (by kernel_rfl) rfl
    (fun f fn hf hfn => by
      obtain rfl : f = 3 := Option.some.inj ((show Ybad.prog.funcNamed Rows.lawS3418CLineRow.func = some 3 by kernel_rfl).symm.trans hf) |>.symm
      obtain rfl : fn = Ybad.f3 := (Option.some.inj (Ybad.func3.symm.trans hfn)).symm
      exact ⟨by kernel_rfl, fun j t ht => by
        rw [Ybad.params3] at ht
        have hm : t ∈ [5, 9, 3, 22] := by simpa using Array.mem_of_getElem? ht
        have hall : ([5, 9, 3, 22].all fun u => !Ybad.prog.wantsStandIn u) = true := by kernel_rfl
        exact (show Ybad.prog.wantsStandIn t = false by simpa using List.all_eq_true.1 hall t hm)⟩)
    (by kernel_rfl)
#print axioms proved
end Go.Proofs.YbulkbrtmDoor.lawS3418CLine
