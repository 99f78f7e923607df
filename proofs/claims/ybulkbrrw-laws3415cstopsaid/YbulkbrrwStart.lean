import Derived.Test.YbulkbrrwCeq
namespace Go.Proofs.Ybulkbrrw
open Go.RowKit Go.Deep
set_option linter.unusedVariables false
set_option linter.unusedSimpArgs false

/-- The slice value v holds f 0, f 1, .. f (n - 1), in blocks below lo. -/
def SlAt (w : World) (lo : Nat) (v : Value) (n : Nat) (f : Nat → Value) : Prop :=
  ∃ ao cap, v = .slice ao n cap ∧ n ≤ cap ∧ ∀ t, t < n → ∃ b off, ao = some ⟨b, off, none⟩ ∧ b < lo ∧ w.cell? ⟨b, off + t, none⟩ = some (f t)

theorem SlAt.below {w w' : World} {lo : Nat} {v : Value} {n : Nat} {f : Nat → Value} (h : SlAt w lo v n f) (hb : Below lo w w') : SlAt w' lo v n f := by
  obtain ⟨ao, cap, h1, h2, h3⟩ := h
  refine ⟨ao, cap, h1, h2, fun t ht => ?_⟩
  obtain ⟨b, off, e1, e2, e3⟩ := h3 t ht
  exact ⟨b, off, e1, e2, (hb.cell (p := ⟨b, off + t, none⟩) e2).trans e3⟩

def hidF (hs : List Bool) (i j : Nat) : Bool := if hs.length = 0 then false else hs.getD ((i * 8 + j) % hs.length) false

set_option maxHeartbeats 400000 in
theorem hidden25 (w : World) (lo : Nat) (hv : Value) (hs : List Bool) (i j : Nat) (h : SlAt w lo hv hs.length (fun t => .bool (hs.getD t false))) (hi : i < 1000) (hj : j < 1000) (hl : hs.length < 100000) :
    Calls Yba.prog 25 #[hv, .int .i64 i, .int .i64 j] w fun e w' => e = .returned (.bool (hidF hs i j)) ∧ w' = w := by
  obtain ⟨ao, cap, rfl, hc, hcell⟩ := h
  obtain ⟨n, hn⟩ : ∃ n, n = hs.length := ⟨_, rfl⟩
  unfold hidF
  rw [← hn] at hcell hl hc ⊢
  by_cases h0 : n = 0
  · subst h0
    clear hn hcell
    go_enter Yba.func25, Yba.ntmps25
    go_wp2
    go_ret
    exact ⟨rfl, rfl⟩
  · obtain ⟨b, off, rfl, hb, hx⟩ := hcell ((i * 8 + j) % n) (Nat.mod_lt _ (by omega))
    rw [if_neg h0]
    have hbeq : ((n : Int) == 0) = false := by rw [beq_eq_false_iff_ne]; omega
    have hm : ((i : Int) * 8 + (j : Int)) % (n : Int) = (((i * 8 + j) % n : Nat) : Int) := by simp
    have hlt : (i * 8 + j) % n < n := Nat.mod_lt _ (by omega)
    obtain ⟨q, hq⟩ : ∃ q, q = (i * 8 + j) % n := ⟨_, rfl⟩
    rw [← hq] at hx hm hlt ⊢
    dsimp only at hx
    generalize hs.getD q false = bb at hx ⊢
    have hp1 : (1 : Int) ≤ (n : Int) := by omega
    clear hcell hn hq
    go_enter Yba.func25, Yba.ntmps25
    go_wp2
    go_ret
    exact ⟨rfl, rfl⟩

def qcells (a b c d : Value) : Array Value := #[.int .u64 0, .string { data := #[] }, .string { data := #[] }, .int .i64 0, .int .i64 0, .int .i64 0, .int .i64 0, .int .i64 0, .int .i64 0, .string { data := #[] }, .int .i64 0, .bool true, .bool false, a, .pointer none, .pointer none, .pointer none, .pointer none, .slice none 0 0, .int .i64 0, .pointer none, .int .i64 0, .slice none 0 0, b, c, d, .slice none 0 0]

set_option maxHeartbeats 400000 in
theorem start24 (w : World) (Q : Nat) (h : Blk w Q 85 (qcells (.map none) (.map none) (.pointer none) (.map none))) :
    Calls Yba.prog 24 #[.pointer (some ⟨Q, 0, none⟩)] w fun e w' => e = .returned (.tuple #[]) ∧ (∃ cs, Blk w' Q 85 cs ∧ cs[24]? = some (.pointer (some ⟨w.heap.size + 1, 0, none⟩))) ∧
      Blk w' (w.heap.size + 1) 120 #[.slice none 0 0, .func (.func 36) #[] #[], .func (.func 37) #[] #[]] ∧ Keeps (fun b => b = Q) w w' ∧ w'.heap.size = w.heap.size + 3 := by
  have hmm := @run_makeMap Yba.prog
  have c11 : w.cell? ⟨Q, 11, none⟩ = some (.bool true) := h.cell 11
  have f23 := h.frozen 23
  have f24 := h.frozen 24
  have f25 := h.frozen 25
  have c23 : w.cell? ⟨Q, 23, none⟩ = some (.map none) := h.cell 23
  have c24 : w.cell? ⟨Q, 24, none⟩ = some (.pointer none) := h.cell 24
  have c25 : w.cell? ⟨Q, 25, none⟩ = some (.map none) := h.cell 25
  have hl := h.lt
  have hl1 : Q < w.heap.size + 1 := by omega
  have hl2 : Q < w.heap.size + 1 + 1 := by omega
  go_enter Yba.func24, Yba.ntmps24
  go_wp2
  go_end0
  refine ⟨rfl, ⟨_, (((((h.set 23 _).set 24 _).set 25 _).alloc _).alloc _).alloc _, rfl⟩, ?_, ((((((Keeps.refl (fun b => b = Q) w).setCell (a := ⟨Q, 23, none⟩) rfl _).setCell (a := ⟨Q, 24, none⟩) rfl _).setCell (a := ⟨Q, 25, none⟩) rfl _).alloc _).alloc _).alloc _, by simp [World.setCell]⟩
  have := Blk.new ((((w.setCell ⟨Q, 23, none⟩ (.map (some w.heap.size))).setCell ⟨Q, 24, none⟩ (.pointer (some ⟨w.heap.size + 1, 0, none⟩))).setCell ⟨Q, 25, none⟩ (.map (some (w.heap.size + 1 + 1)))).alloc (.map #[] 0)) 120 #[.slice none 0 0, .func (.func 36) #[] #[], .func (.func 37) #[] #[]]
  have e : ((((w.setCell ⟨Q, 23, none⟩ (.map (some w.heap.size))).setCell ⟨Q, 24, none⟩ (.pointer (some ⟨w.heap.size + 1, 0, none⟩))).setCell ⟨Q, 25, none⟩ (.map (some (w.heap.size + 1 + 1)))).alloc (.map #[] 0)).heap.size = w.heap.size + 1 := by simp [World.setCell]
  rw [e] at this
  exact this.alloc _
end Go.Proofs.Ybulkbrrw
