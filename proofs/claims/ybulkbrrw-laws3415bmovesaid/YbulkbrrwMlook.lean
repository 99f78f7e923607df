import Derived.Test.YbulkbrrwMinv
namespace Go.Proofs.Ybulkbrrw
open Go.RowKit Go.Deep Go.Maps
set_option linter.unusedVariables false
set_option linter.unusedSimpArgs false

theorem ptr_inv {v : Value} {ps : List MemPlace} {b : Nat} (h : ptrElem v = some (.lit (.int .u64 b), ps)) : v = .pointer (some ⟨b, 0, none⟩) := by
  unfold ptrElem at h
  split at h
  · simp at h; obtain ⟨h, _⟩ := h; rw [Int.ofNat_inj.1 h]
  · simp at h
  · simp at h

theorem ptr_inv_nil {v : Value} {ps : List MemPlace} (h : ptrElem v = some (.lit (.int .u64 (-1)), ps)) : v = .pointer none := by
  unfold ptrElem at h
  split at h
  · simp at h
  · rfl
  · simp at h

theorem zero53 (w : World) : (zeroValue 53).run Yba.prog w = .ok (.pointer none) w := by kernel_rfl

/-- 'm[k]' where k is in the map. -/
theorem look_in {w : World} {s n : Nat} {Dm : DataW Unit} (h : MapAt w s n Dm) {k : Int} (hk : (Lit.int .u64 k).wf = true) {b : Nat} (hb : Dm.atKey (kl k) (.lit (.int .u64 (-1))) = .lit (.int .u64 b)) :
    (Instr.lookup 75 (.map (some s)) (.int .u64 k) false).run Yba.prog w = .ok (.pointer (some ⟨b, 0, none⟩)) w := by
  obtain ⟨v, ps, hr, hv⟩ := World.ownsMap.lookup h key24 under75 (zero53 w) (zd := .lit (.int .u64 (-1))) (zp := []) rfl (key := .int .u64 k) (keyOf_int_mk Yba.underlying24 hk)
  rw [show Dm.atKey (Lit.int .u64 k) (.lit (.int .u64 (-1))) = _ from hb] at hv
  rw [hr, ptr_inv hv]

/-- '_, ok := m[k]' where k is not. -/
theorem look_out {w : World} {s n : Nat} {Dm : DataW Unit} (h : MapAt w s n Dm) {k : Int} (hk : (Lit.int .u64 k).wf = true) (hb : has Dm (kl k) = false) :
    (Instr.lookup 75 (.map (some s)) (.int .u64 k) true).run Yba.prog w = .ok (.tuple #[.pointer none, .bool false]) w := by
  obtain ⟨v, ps, hr, hv⟩ := World.ownsMap.look_ok h key24 under75 (zero53 w) (zd := .lit (.int .u64 (-1))) (zp := []) rfl (key := .int .u64 k) (keyOf_int_mk Yba.underlying24 hk)
  rw [show Dm.atKey (Lit.int .u64 k) (.lit (.int .u64 (-1))) = _ from atKey_of_not_has hb _] at hv
  rw [hr, ptr_inv_nil hv, show has Dm (Lit.int .u64 k) = false from hb]
end Go.Proofs.Ybulkbrrw
