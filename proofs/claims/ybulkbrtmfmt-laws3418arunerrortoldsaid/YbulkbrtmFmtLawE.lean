import Derived.Test.YbulkbrtmFmtConfE
import Derived.Test.YbulkbrtmFmtSmall
import Derived.Test.YbulkbrtmFmtIs
import Derived.Carry
import Derived.MapKept
set_option linter.unusedVariables false
set_option linter.unusedSimpArgs false
set_option maxHeartbeats 8000000
set_option maxRecDepth 1000000
namespace Go.Proofs.YbulkbrtmFmt
open Go.RowKit Go.Sort Go.Proofs Go.Deep Go.Kit
open Go.Extern.Stop Go.Stop Go.Extern

/-- Block b is this map. -/
def Mp (w : World) (b : Nat) (es : Array MapEntry) (c : Nat) : Prop := w.heap[b]? = some (.map es c)
theorem Mp.lt {w : World} {b : Nat} {es : Array MapEntry} {c : Nat} (h : Mp w b es c) : b < w.heap.size := (Array.getElem?_eq_some_iff.1 h).1
theorem Mp.keeps {w w' : World} {b : Nat} {es : Array MapEntry} {c : Nat} {S : Nat → Prop} (h : Mp w b es c) (k : Keeps S w w') (hs : ¬ S b) : Mp w' b es c := (k.block b h.lt hs).trans h
theorem Mp.alloc {w : World} {b : Nat} {es : Array MapEntry} {c : Nat} (h : Mp w b es c) (o : Obj) : Mp (w.alloc o) b es c := (Below.heap_alloc _ _ _ h.lt).trans h
theorem Mp.new (w : World) (es : Array MapEntry) (c : Nat) : Mp (w.alloc (.map es c)) w.heap.size es c := blk_alloc_new _ _
theorem Mp.len0 {w : World} {b : Nat} {c : Nat} (h : Mp w b #[] c) {t k e : TypeId} (ht : Ybaf.prog.underlying t = some (.map k e)) (ty : TypeId) : (Builtin.len_ #[t] ty #[.map (some b)]).run Ybaf.prog w = .ok (.int .i64 0) w := by
  simp [Builtin.len_, run_underlying ht, MapKept.run_getObj_map h, goInt, Result.andThen]

theorem assert99 (v : Value) (w : World) : (Instr.typeAssert (.iface 99 v) 35 52 true).run Ybaf.prog w = .ok (.tuple #[.agg #[.nilIface], .bool false]) w := by kernel_rfl
theorem law4_big (w : World) (ao : Option Addr) (n cap : Nat) (fails inv rs : Bool) (k : Int) (h : 1024 < n) (hn : n ≤ 140737488351232) :
    Calls Ybaf.prog 4 #[.slice ao n cap, .bool fails, .bool inv, .bool rs, .int .u8 k] w fun e w' => e = .returned (.bool true) ∧ Below w.heap.size w w' := by
  go_enter Ybaf.func4, Ybaf.ntmps4
  go_wp2
  go_ret
  exact ⟨rfl, Below.refl _ _⟩

theorem law4 (F : Interp) (w : World) (hF : F.told.answers w.tape) (v : Value) (L : List Int) (hv : Ints w v L) (hl : L.length ≤ 1024) (hwf : ∀ x ∈ L, (Lit.int .u64 x).wf = true) (fails inv rs : Bool) (k : Int) (h0 : 0 ≤ k) (h1 : k ≤ 255) :
    Calls Ybaf.prog 4 #[v, .bool fails, .bool inv, .bool rs, .int .u8 k] w fun e w' => e = .returned (.bool true) ∧ Below w.heap.size w w' := by
  have hcp := copy_calls w v L hv hl
  have hmk := fun t (w : World) => run_makeMap (P := Ybaf.prog) t w
  obtain ⟨ao, cap, rfl⟩ : ∃ ao cap, v = .slice ao L.length cap := by
    rcases hv with ⟨rfl, rfl⟩ | ⟨a, cap, rfl, _⟩
    · exact ⟨_, _, rfl⟩
    · exact ⟨_, _, rfl⟩
  go_enter Ybaf.func4, Ybaf.ntmps4
  go_wp2_with fail
  refine hcp.mono ?_
  rintro e w1 ⟨v1, rfl, hO, k1⟩
  go_wp2_with fail
  refine (new_calls _ _).mono ?_
  rintro e w2 ⟨rfl, rfl⟩
  go_wp2_with fail
  obtain ⟨N, hN⟩ : ∃ N, N = w1.heap.size := ⟨_, rfl⟩
  obtain ⟨c, hc, hc1, hc3⟩ : ∃ c : Nat, 1 + k % 3 = (c : Int) ∧ 1 ≤ c ∧ c ≤ 3 := ⟨(1 + k % 3).toNat, by omega, by omega, by omega⟩
  rw [hc, ← hN]
  generalize hWW : ((((w1.alloc (Obj.cells #[Value.string { data := #[99, 97, 110, 110, 111, 116, 32, 114, 117, 110] }] 75)).alloc
                  (Obj.cells #[Value.bool false, Value.slice none 0 0, Value.iface 73 (Value.pointer (some { block := N, off := 0 })), Value.int IntKind.i64 0, Value.slice none 0 0] 38)).alloc
              (Obj.map #[] 0)).alloc (Obj.map #[] 0)).alloc
      (Obj.cells #[Value.iface 31 (Value.pointer (some { block := N + 1, off := 0 })), Value.int IntKind.i64 1, Value.int IntKind.i64 (c : Int), Value.int IntKind.i64 0, Value.bool rs,
          Value.map (some (N + 1 + 1)), Value.map (some (N + 1 + 1 + 1)), Value.slice none 0 0, Value.bool fails, Value.bool inv] 45) = W
  have kW : Keeps (fun _ => False) w1 W := by rw [← hWW]; exact (((((Keeps.refl _ w1).alloc _).alloc _).alloc _).alloc _).alloc _
  have hsz : W.heap.size = N + 5 := by rw [← hWW, hN]; simp
  have bE : Blk W N 75 #[.string { data := #[99, 97, 110, 110, 111, 116, 32, 114, 117, 110] }] := by
    rw [← hWW, hN]; exact ((((Blk.new _ _ _).alloc _).alloc _).alloc _).alloc _
  have bT : Blk W (N + 1) 38 #[.bool false, .slice none 0 0, .iface 73 (.pointer (some ⟨N, 0, none⟩)), .int .i64 0, .slice none 0 0] := by
    rw [← hWW, hN]
    have := Blk.new (w1.alloc (Obj.cells #[Value.string { data := #[99, 97, 110, 110, 111, 116, 32, 114, 117, 110] }] 75)) 38 #[.bool false, .slice none 0 0, .iface 73 (.pointer (some ⟨w1.heap.size, 0, none⟩)), .int .i64 0, .slice none 0 0]
    rw [World.size_alloc] at this
    exact ((this.alloc _).alloc _).alloc _
  have m2 : Mp W (N + 1 + 1) #[] 0 := by
    rw [← hWW]
    have := Mp.new ((w1.alloc (Obj.cells #[Value.string { data := #[99, 97, 110, 110, 111, 116, 32, 114, 117, 110] }] 75)).alloc (Obj.cells #[Value.bool false, Value.slice none 0 0, Value.iface 73 (Value.pointer (some { block := N, off := 0 })), Value.int IntKind.i64 0, Value.slice none 0 0] 38)) #[] 0
    rw [World.size_alloc, World.size_alloc, ← hN] at this
    exact (this.alloc _).alloc _
  have m3 : Mp W (N + 1 + 1 + 1) #[] 0 := by
    rw [← hWW]
    have := Mp.new (((w1.alloc (Obj.cells #[Value.string { data := #[99, 97, 110, 110, 111, 116, 32, 114, 117, 110] }] 75)).alloc (Obj.cells #[Value.bool false, Value.slice none 0 0, Value.iface 73 (Value.pointer (some { block := N, off := 0 })), Value.int IntKind.i64 0, Value.slice none 0 0] 38)).alloc (.map #[] 0)) #[] 0
    rw [World.size_alloc, World.size_alloc, World.size_alloc, ← hN] at this
    exact this.alloc _
  have bS : Blk W (N + 1 + 1 + 1 + 1) 45 (sCells (N + 1) c rs (.map (some (N + 1 + 1))) (.map (some (N + 1 + 1 + 1))) fails inv) := by
    rw [← hWW]
    have := Blk.new ((((w1.alloc (Obj.cells #[Value.string { data := #[99, 97, 110, 110, 111, 116, 32, 114, 117, 110] }] 75)).alloc (Obj.cells #[Value.bool false, Value.slice none 0 0, Value.iface 73 (Value.pointer (some { block := N, off := 0 })), Value.int IntKind.i64 0, Value.slice none 0 0] 38)).alloc (.map #[] 0)).alloc (.map #[] 0)) 45 (sCells (N + 1) c rs (.map (some (N + 1 + 1))) (.map (some (N + 1 + 1 + 1))) fails inv)
    rw [World.size_alloc, World.size_alloc, World.size_alloc, World.size_alloc, ← hN] at this
    exact this
  have hF2 : F.told.answers W.tape := by rw [kW.tape, k1.tape]; exact hF
  have hO2 := hO.keeps kW (fun _ x => x.elim)
  have hlt : ∀ b, v1.ownBlock = some b → b < N := fun b hb => by rw [hN]; exact (hO.lt b hb).2
  clear hWW
  refine (confirm_err F W hF2 (N + 1 + 1 + 1 + 1) (N + 1) N c hc1 hc3 rs _ _ fails inv _ w.heap.size v1 L.toArray bS bT bE hO2 (by simpa using hl) (by simpa using hwf)
    (fun e => by have := hlt _ e; omega) (fun e => by have := hlt _ e; omega) (fun e => by have := hlt _ e; omega)).mono ?_
  rintro e w3 ⟨kk, x, rfl, hk, ⟨r, pv, hT3, l, hpv⟩, k3⟩
  have hn2 : ¬ (N + 1 + 1 = N + 1 ∨ v1.ownBlock = some (N + 1 + 1)) := fun h => h.elim (fun e => by omega) (fun e => by have := hlt _ e; omega)
  have hn3 : ¬ (N + 1 + 1 + 1 = N + 1 ∨ v1.ownBlock = some (N + 1 + 1 + 1)) := fun h => h.elim (fun e => by omega) (fun e => by have := hlt _ e; omega)
  have hn4 : ¬ (N + 1 + 1 + 1 + 1 = N + 1 ∨ v1.ownBlock = some (N + 1 + 1 + 1 + 1)) := fun h => h.elim (fun e => by omega) (fun e => by have := hlt _ e; omega)
  have m2' := m2.keeps k3 hn2
  have m3' := m3.keeps k3 hn3
  have bS' := bS.keeps k3 hn4
  have kw3 : Keeps (fun _ => False) w w3 := by
    have k2 := k1.trans kW
    have hs1 := k1.size
    exact ⟨k3.os.trans k2.os, k3.tape.trans k2.tape, k3.output.trans k2.output, Nat.le_trans k2.size k3.size, fun b hb hs => (k3.block b (Nat.lt_of_lt_of_le hb k2.size) (fun h => h.elim (fun e => by omega) (fun e => by have := (hO.lt b e).1; omega))).trans (k2.block b hb hs)⟩
  clear m2 m3 bS bT bE kW hO2 hO
  have l1 : N + 1 < w3.heap.size := hT3.lt
  clear hN hc hsz hF2 hlt hn2 hn3 hn4 k3 hcp hv
  go_wp2_with fail
  have kset : Keeps (fun _ => False) w3 (w3.alloc (.cells #[.slice none 0 0, .slice none 0 0, .bool false, .bool false] 47)) := (Keeps.refl _ _).alloc _
  have hT4 := hT3.keeps kset (fun x => x)
  refine (pats_calls _ (N + 1) _ _ _ _ pv 1 r l (by omega) (by omega) hT4 (fun t ht => by
    obtain rfl : t = 0 := by omega
    rw [← hpv]; exact World.cell?_of_block (kset.block _ (block_lt_of_cell hpv) (fun x => x)))).mono ?_
  rintro e w4 ⟨rfl, rfl⟩
  have ct : (w3.alloc (.cells #[.slice none 0 0, .slice none 0 0, .bool false, .bool false] 47)).cell? ⟨N + 1, 3, none⟩ = some (.int .i64 1) := hT4.cell 3
  have ha := assert99
  go_upto_if 62 with fail
  have k5 : Keeps (fun _ => False) w3 ((w3.alloc (.cells #[.slice none 0 0, .slice none 0 0, .bool false, .bool false] 47)).alloc (.cells #[.nilIface] 52)) := ((Keeps.refl _ _).alloc _).alloc _
  have hset : Blk ((w3.alloc (.cells #[.slice none 0 0, .slice none 0 0, .bool false, .bool false] 47)).alloc (.cells #[.nilIface] 52)) w3.heap.size 47 #[.slice none 0 0, .slice none 0 0, .bool false, .bool false] := (Blk.new _ _ _).alloc _
  generalize ((w3.alloc (.cells #[.slice none 0 0, .slice none 0 0, .bool false, .bool false] 47)).alloc (.cells #[.nilIface] 52)) = w5 at k5 hset ⊢
  have hk5 := hk.keeps k5 (fun x => x)
  have s0 : w5.cell? ⟨w3.heap.size, 0, none⟩ = some (.slice none 0 0) := hset.cell 0
  have s1 : w5.cell? ⟨w3.heap.size, 1, none⟩ = some (.slice none 0 0) := hset.cell 1
  have s2 : w5.cell? ⟨w3.heap.size, 2, none⟩ = some (.bool false) := hset.cell 2
  have s3 : w5.cell? ⟨w3.heap.size, 3, none⟩ = some (.bool false) := hset.cell 3
  clear ct hT4 kset hpv hT3 hmk ha
  go_wp2_with fail
  refine (is_wrap kk N w5 (hk5.cell 1)).mono ?_
  rintro e w6 ⟨rfl, rfl⟩
  go_wp2_with fail
  refine (zero_calls w6).mono ?_
  rintro e w7 ⟨rfl, k7⟩
  have k8 := k5.trans k7
  have bS7 := bS'.keeps k8 (fun x => x)
  have d6 : w7.cell? ⟨N + 1 + 1 + 1 + 1, 6, none⟩ = some (.map (some (N + 1 + 1 + 1))) := bS7.cell 6
  have d5 : w7.cell? ⟨N + 1 + 1 + 1 + 1, 5, none⟩ = some (.map (some (N + 1 + 1))) := bS7.cell 5
  have e2 := fun ty => (m2'.keeps k8 (fun x => x)).len0 Ybaf.underlying40 ty
  have e3 := fun ty => (m3'.keeps k8 (fun x => x)).len0 Ybaf.underlying41 ty
  clear bS' m2' m3'
  go_wp2_with fail
  go_ret
  refine ⟨by simp, ?_⟩
  exact (kw3.trans k8).below (Nat.le_refl _) (fun _ _ x => x)
end Go.Proofs.YbulkbrtmFmt
