import Derived.Test.YbulkbrtmFmtRun
set_option linter.unusedVariables false
set_option linter.unusedSimpArgs false
set_option maxHeartbeats 4000000
set_option maxRecDepth 1000000
namespace Go.Proofs.YbulkbrtmFmt
open Go.RowKit Go.Sort Go.Proofs Go.Deep Go.Kit
open Go.Extern.Stop Go.Stop Go.Extern
attribute [local go_sem] Ybaf.call32 Ybaf.guard Ybaf.act9_115w Ybaf.op9_115w Ybaf.act73_119w Ybaf.ptr73 Ybaf.elem73 Ybaf.isError73 Ybaf.ptr99 Ybaf.elem99 Ybaf.isError99

theorem nextTurns : Extern.next FmtCalls.turnsRow = some (FmtCalls.begun #[] #[]) := by kernel_rfl

theorem new_calls (s : ByteArray) (w : World) : Calls Ybaf.prog 11 #[.string s] w fun e w' => e = .returned (.iface 73 (.pointer (some ⟨w.heap.size, 0, none⟩))) ∧ w' = w.alloc (.cells #[.string s] 75) := by
  go_enter Ybaf.func11, Ybaf.ntmps11
  go_wp2
  go_ret
  exact ⟨rfl, rfl⟩

theorem errorf_R (F : Interp) (fm : ByteArray) (p1 : FmtStop.printed? fm 2 = some [(0, 115, false), (1, 119, false)]) (p2 : ∀ w : World, (FmtDoors.printed fm 2).run Ybaf.prog w = .ok [(0, 115, false), (1, 119, false)] w)
    (w : World) (hF : F.answers w.tape) (vb eb : Nat) (p s : ByteArray) (h0 : w.cell? ⟨vb, 0, none⟩ = some (.iface 9 (.string p))) (h1 : w.cell? ⟨vb, 1, none⟩ = some (.iface 73 (.pointer (some ⟨eb, 0, none⟩))))
    (hs : w.cell? ⟨eb, 0, none⟩ = some (.string s)) :
    Calls Ybaf.prog 19 #[.string fm, .slice (some ⟨vb, 0, none⟩) 2 2] w fun e w' => ∃ k x, e = .returned (.iface 99 (.pointer (some ⟨k, 0, none⟩))) ∧ Blk w' k 158 #[.string x, .iface 73 (.pointer (some ⟨eb, 0, none⟩))] ∧ Keeps (fun _ => False) w w' := by
  have hF' := answers_open hF
  obtain ⟨sh, hop⟩ := Ybaf.opPlain73_119w "fmt.errorf" ⟨eb, 0, none⟩ s w hs
  go_enter Ybaf.func19, Ybaf.ntmps19
  go_wp2
  apply rows_value nextTurns
  case hr =>
    go_simp
    exact ⟨rfl, rfl⟩
  case h =>
    go_wp2
    go_ret
    exact ⟨w.heap.size, _, rfl, (Blk.new _ _ _).drewN 1, ((Keeps.refl _ _).alloc _).drew⟩

theorem errorf_1 (F : Interp) (fm : ByteArray) (p1 : FmtStop.printed? fm 1 = some [(0, 115, false)]) (p2 : ∀ w : World, (FmtDoors.printed fm 1).run Ybaf.prog w = .ok [(0, 115, false)] w)
    (w : World) (hF : F.answers w.tape) (vb : Nat) (p : ByteArray) (h0 : w.cell? ⟨vb, 0, none⟩ = some (.iface 9 (.string p))) :
    Calls Ybaf.prog 19 #[.string fm, .slice (some ⟨vb, 0, none⟩) 1 1] w fun e w' => ∃ k : Nat, e = .returned (.iface 73 (.pointer (some ⟨k, 0, none⟩))) ∧ Keeps (fun _ => False) w w' := by
  have hF' := answers_open hF
  go_enter Ybaf.func19, Ybaf.ntmps19
  go_wp2
  apply rows_value nextTurns
  case hr =>
    go_simp
    exact ⟨rfl, rfl⟩
  case h =>
    go_wp2
    go_ret
    exact ⟨w.heap.size, rfl, ((Keeps.refl _ _).alloc _).drew⟩

theorem errorf_3 (F : Interp) (fm : ByteArray) (p1 : FmtStop.printed? fm 3 = some [(0, 115, false), (1, 115, false), (2, 115, false)]) (p2 : ∀ w : World, (FmtDoors.printed fm 3).run Ybaf.prog w = .ok [(0, 115, false), (1, 115, false), (2, 115, false)] w)
    (w : World) (hF : F.answers w.tape) (vb : Nat) (p q r : ByteArray) (h0 : w.cell? ⟨vb, 0, none⟩ = some (.iface 9 (.string p))) (h1 : w.cell? ⟨vb, 1, none⟩ = some (.iface 9 (.string q))) (h2 : w.cell? ⟨vb, 2, none⟩ = some (.iface 9 (.string r))) :
    Calls Ybaf.prog 19 #[.string fm, .slice (some ⟨vb, 0, none⟩) 3 3] w fun e w' => ∃ k : Nat, e = .returned (.iface 73 (.pointer (some ⟨k, 0, none⟩))) ∧ Keeps (fun _ => False) w w' := by
  have hF' := answers_open hF
  go_enter Ybaf.func19, Ybaf.ntmps19
  go_wp2
  apply rows_value nextTurns
  case hr =>
    go_simp
    exact ⟨rfl, rfl⟩
  case h =>
    go_wp2
    go_ret
    exact ⟨w.heap.size, rfl, ((Keeps.refl _ _).alloc _).drew⟩
end Go.Proofs.YbulkbrtmFmt
