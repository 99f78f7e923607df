import Derived.Test.YbulkbrtmFmtErr
set_option linter.unusedVariables false
set_option linter.unusedSimpArgs false
set_option maxHeartbeats 4000000
set_option maxRecDepth 1000000
namespace Go.Proofs.YbulkbrtmFmt
open Go.RowKit Go.Sort Go.Proofs Go.Deep Go.Kit

theorem nil36 (w : World) : (binOp .eql 36 (.slice none 0 0) (.slice none 0 0)).run Ybaf.prog w = .ok (.bool true) w := by kernel_rfl

theorem zero_calls (w : World) : Calls Ybaf.prog 8 #[.agg #[.slice none 0 0, .slice none 0 0, .bool false, .bool false]] w fun e w' => e = .returned (.bool true) ∧ Keeps (fun _ => False) w w' := by
  have h1 := nil_eq
  have h2 := nil36
  go_enter Ybaf.func8, Ybaf.ntmps8
  go_wp2
  go_ret
  exact ⟨rfl, (Keeps.refl _ _).alloc _⟩

/-- Every pattern the same, and it begins with a v. -/
theorem pats_calls (w : World) (tb : Nat) (x0 x1 x2 x3 : Value) (pb m cap : Nat) (r : List UInt8) (hm : 1 ≤ m) (hm3 : m ≤ 100) (hB : Blk w tb 38 #[x0, x1, x2, x3, .slice (some ⟨pb, 0, none⟩) m cap]) (hc : ∀ t, t < m → w.cell? ⟨pb, 0 + t, none⟩ = some (.string ⟨(118 :: r).toArray⟩)) :
    Calls Ybaf.prog 7 #[.pointer (some ⟨tb, 0, none⟩)] w fun e w' => e = .returned (.bool true) ∧ w' = w := by
  have c4 : w.cell? ⟨tb, 4, none⟩ = some (.slice (some ⟨pb, 0, none⟩) m cap) := hB.cell 4
  have c0 : w.cell? ⟨pb, 0, none⟩ = some (.string ⟨(118 :: r).toArray⟩) := hc 0 (by omega)
  have hl : ((r.length : Int) + 1 == 0) = false := by simp; omega
  have hb : ∀ h : 0 < (⟨(118 :: r).toArray⟩ : ByteArray).size, ((⟨(118 :: r).toArray⟩ : ByteArray)[0]'h).toNat = 118 := fun _ => rfl
  go_enter Ybaf.func7, Ybaf.ntmps7
  go_wp2_with fail
  go_loopw [16] (fun vi wr => ∃ (k : Nat), vi = .int .i64 k ∧ k ≤ m ∧ wr = w) (fun vi _ => m - (intOf vi).toNat)
  case atStart => exact ⟨0, rfl, Nat.zero_le _, rfl⟩
  case round =>
    obtain ⟨k, rfl, hk, rfl⟩ := hrel
    by_cases hlt : k < m
    · have ck := hc k hlt
      rw [Nat.zero_add] at ck
      go_wp2_with fail
      go_roundw
      case rel => exact ⟨k + 1, by go_num, by omega, trivial⟩
      case measure => simp [intOf]; omega
    · go_wp2_with fail
      go_ret
      exact ⟨rfl, rfl⟩
end Go.Proofs.YbulkbrtmFmt
