import Derived.Test.YbulkbrtmFmtFacts
import Derived.Test.YbulkbrtmFmtRows
import Derived.Test.YbulkbrtmFmtMem
import Derived.Stop.FmtTextBases
import Derived.Stop.FmtTextKit
import Derived.Stop.JoinedTold
import Derived.Stop.Texts
set_option linter.unusedVariables false
set_option linter.unusedSimpArgs false
set_option maxHeartbeats 2000000
set_option maxRecDepth 100000
namespace Go.Proofs.YbulkbrtmFmt
open Go.RowKit Go.Proofs Go.Kit
open Go.Extern.Stop Go.Stop Go.Extern
attribute [local go_sem] Ybaf.call17 Ybaf.guard Ybaf.fmtX Ybaf.fmtXr Ybaf.op26_120

def readX (x : Int) : List (List UInt8) := [[120, 37, 48, 49, 54, 120], Ybaf.shape26, digits 8 (x % 18446744073709551616).toNat]
theorem whole_any (F : Interp) (x : Int) (w : World) (hF : F.answers w.tape) :
    Calls Ybaf.prog 27 #[.int .u64 x] w fun e w' => e = .returned (.string (FmtStop.textOf (F "fmt.Sprintf" (readX x) 0))) ∧ w' = (w.alloc (.cells #[.iface 26 (.int .u64 x)] 20)).drew := by
  have hF' := answers_open hF
  go_enter Ybaf.func27, Ybaf.ntmps27
  go_wp2
  go_ret
  exact ⟨rfl, rfl⟩

theorem x_parse : (FmtText.parse [120, 37, 48, 49, 54, 120]).map FmtText.glue = some [.lit [120], .verb { widPresent := true, wid := 16, zero := true } 120] := by rfl
theorem h_parse : (FmtText.parse [37, 35, 120]).map FmtText.glue = some [.verb { sharp := true } 120] := by rfl

theorem x_text (x : Int) (hw : (Lit.int .u64 x).wf = true) : FmtText.text "fmt.Sprintf" (readX x) = some (120 :: FmtText.hexZeros false false 16 x) := by
  have hi := FmtText.operand_int_at (sh := Ybaf.shape26) (k := .u64) rfl rfl x hw
  rw [readX, FmtText.text_sprintf_glued x_parse (FmtText.operands_cons hi FmtText.operands_nil)]
  simp [FmtText.render, FmtText.printArg, FmtText.scalarArg, FmtText.fits]
  exact FmtText.fmtInteger_hexZeros hw false false 16 120 (by decide)
def readH (x : Int) : List (List UInt8) := [[37, 35, 120], Ybaf.shape26, digits 8 (x % 18446744073709551616).toNat]
theorem h_text (x : Int) (hw : (Lit.int .u64 x).wf = true) : ∃ s, FmtText.text "fmt.Sprintf" (readH x) = some s ∧ s.length ≤ 100 := by
  have hi := FmtText.operand_int_at (sh := Ybaf.shape26) (k := .u64) rfl rfl x hw
  rw [readH, FmtText.text_sprintf_glued h_parse (FmtText.operands_cons hi FmtText.operands_nil)]
  refine ⟨_, by simp [FmtText.render, FmtText.printArg, FmtText.scalarArg, FmtText.fits]; rfl, ?_⟩
  have := FmtText.numeral_length_le 16 false (x % 18446744073709551616).toNat
  simp [FmtText.fmtInteger, FmtText.pad, IntKind.signed]
  omega

theorem told_size (F : Interp) {name : String} {reading : List (List UInt8)} {s : List UInt8} (h : FmtText.text name reading = some s) (hl : s.length ≤ 100) : (FmtStop.textOf (F.told name reading 0)).size ≤ 100 := by
  have h1 := told_string F h (by omega)
  have h2 := textOf_list F.told name reading
  rw [h1] at h2
  have h3 := congrArg List.length h2
  simp only [Array.length_toList] at h3
  show (FmtStop.textOf (F.told name reading 0)).data.size ≤ 100
  omega

theorem whole_calls (F : Interp) (x : Int) (hw : (Lit.int .u64 x).wf = true) (w : World) (hF : F.told.answers w.tape) :
    Calls Ybaf.prog 27 #[.int .u64 x] w fun e w' => ∃ s : ByteArray, e = .returned (.string s) ∧ s.size ≤ 100 ∧ Keeps (fun _ => False) w w' := by
  refine (whole_any F.told x w hF).mono ?_
  rintro e w' ⟨rfl, rfl⟩
  refine ⟨_, rfl, told_size F (x_text x hw) ?_, ((Keeps.refl _ _).alloc _).drew⟩
  have := FmtText.hexZeros_length_le false false 16 x
  simp
  omega
end Go.Proofs.YbulkbrtmFmt
