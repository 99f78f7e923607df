import Derived.Test.YbulkbrtmFmtSortH
import Derived.Laws.CopyOwn
import Derived.Laws.CopyRow
import Derived.Laws.MakeOwn
import Derived.Deep.OwnRows
import Derived.Laws.Rows
import Derived.Laws.ResultCell
set_option linter.unusedVariables false
set_option linter.unusedSimpArgs false
set_option maxHeartbeats 4000000
set_option maxRecDepth 1000000
namespace Go.Proofs.YbulkbrtmFmt
open Go.RowKit Go.Sort Go.Proofs Go.Deep

/-- Numbers that came in. -/
def Ints (w : World) (v : Value) (L : List Int) : Prop :=
  (v = .slice none 0 0 ∧ L = []) ∨ ∃ a cap, v = .slice (some a) L.length cap ∧ L.length ≤ cap ∧ ∀ j u, (L.map u64)[j]? = some u → w.cell? (a.add j) = some u

/-- Numbers in a block from base on. -/
def Own (base : Nat) (w : World) (v : Value) (d : Array Int) : Prop :=
  (v = .slice none 0 0 ∧ d = #[]) ∨ ∃ b cap, v = .slice (some ⟨b, 0, none⟩) d.size cap ∧ Holds u64 w b 0 d ∧ base ≤ b ∧ b < w.heap.size ∧ d.size ≤ cap

theorem Own.keeps {base : Nat} {w w' : World} {v : Value} {d : Array Int} {S : Nat → Prop} (h : Own base w v d) (k : Keeps S w w') (hS : ∀ b, S b → b < base) : Own base w' v d := by
  rcases h with h | ⟨b, cap, rfl, hH, hb, hl, hc⟩
  · exact .inl h
  · exact .inr ⟨b, cap, rfl, holds_keeps hH hl k (fun x => by have := hS b x; omega), hb, Nat.lt_of_lt_of_le hl k.size, hc⟩
theorem Own.lt {base : Nat} {w : World} {v : Value} {d : Array Int} (h : Own base w v d) : ∀ b, v.ownBlock = some b → base ≤ b ∧ b < w.heap.size := by
  rcases h with ⟨rfl, rfl⟩ | ⟨b, cap, rfl, _, hb, hl, _⟩
  · intro b e; cases e
  · intro c e; cases e; exact ⟨hb, hl⟩
theorem Own.slice {base : Nat} {w : World} {v : Value} {d : Array Int} (h : Own base w v d) : ∃ a cap, v = .slice a d.size cap := by
  rcases h with ⟨rfl, rfl⟩ | ⟨b, cap, rfl, _⟩
  · exact ⟨_, _, rfl⟩
  · exact ⟨_, _, rfl⟩

theorem nil_eq (w : World) : (binOp .eql 22 (.slice none 0 0) (.slice none 0 0)).run Ybaf.prog w = .ok (.bool true) w := by kernel_rfl
theorem some_eq (w : World) (a : Addr) (n c : Nat) : (binOp .eql 22 (.slice (some a) n c) (.slice none 0 0)).run Ybaf.prog w = .ok (.bool false) w := by kernel_rfl
theorem info26 : (Ybaf.prog.info? 26).map (fun i => (i.zero, i.size, i.bytes)) = some (some (.int .u64 0), 1, 8) := by kernel_rfl

theorem holds_blk {w : World} {b : Nat} {t : TypeId} {L : List Int} (h : Blk w b t (L.map u64).toArray) : Holds u64 w b 0 L.toArray := by
  intro j hj
  have hj' : j < L.length := by simpa using hj
  refine ⟨?_, h.frozen _⟩
  rw [h.cell]
  simp [hj']

theorem copy_calls (w : World) (v : Value) (L : List Int) (hv : Ints w v L) (hl : L.length ≤ 1024) :
    Calls Ybaf.prog 5 #[v] w fun e w' => ∃ v', e = .returned v' ∧ Own w.heap.size w' v' L.toArray ∧ Keeps (fun _ => False) w w' := by
  have hne := nil_eq
  have hse := some_eq
  rcases hv with ⟨rfl, rfl⟩ | ⟨a, cap, rfl, hcap, hc⟩
  · go_enter Ybaf.func5, Ybaf.ntmps5
    go_wp2
    go_ret
    exact ⟨_, rfl, .inl ⟨rfl, rfl⟩, Keeps.refl _ _⟩
  · obtain ⟨n, hn⟩ : ∃ n, n = L.length := ⟨_, rfl⟩
    have hmk := run_make_row' (P := Ybaf.prog) 22 26 (.int .u64 0) 8 Ybaf.underlying22 info26 rfl .i64 .i64 n (by omega) (by omega)
    obtain ⟨w1, hw1⟩ : ∃ w1, w1 = w.alloc (.cells (madeCells #[.int .u64 0] n) 26) := ⟨_, rfl⟩
    have hb1 : Blk w1 w.heap.size 26 (madeCells #[.int .u64 0] n) := by rw [hw1]; exact Blk.new _ _ _
    have k1 : Keeps (fun _ => False) w w1 := by rw [hw1]; exact (Keeps.refl _ w).alloc _
    have hcp := run_copy_row (P := Ybaf.prog) w1 22 22 3 26 w.heap.size 0 n n a n cap (madeCells #[.int .u64 0] n) 26 (L.map u64) Ybaf.underlying22 (by kernel_rfl) hb1 (by simp [hn]) (fun j u hj => by
      have h := hc j u hj
      rw [← h]
      exact World.cell?_of_block (k1.block _ (block_lt_of_cell h) (by simp))) (by simp [madeCells, hn]) (by intro u hu; obtain ⟨x, _, rfl⟩ := List.mem_map.1 hu; rfl)
    rw [show List.take 0 (madeCells #[Value.int IntKind.u64 0] n).toList ++ L.map u64 ++ List.drop (0 + (L.map u64).length) (madeCells #[Value.int IntKind.u64 0] n).toList = L.map u64 from by
      rw [List.drop_eq_nil_of_le (by simp [madeCells, hn])]; simp, hw1] at hcp
    obtain ⟨w2, hw2⟩ : ∃ w2, w2 = (w.alloc (.cells (madeCells #[.int .u64 0] n) 26)).setRow w.heap.size (L.map u64).toArray := ⟨_, rfl⟩
    have hb2 : Blk w2 w.heap.size 26 (L.map u64).toArray := by rw [hw2, ← hw1]; exact setRow_heap w1 _ _ _ 26 _ hb1
    have k2 : Keeps (fun _ => False) w w2 := by
      rw [hw2, ← hw1]
      exact ⟨k1.os, k1.tape, k1.output, by simpa using k1.size, fun b hb hs => (setRow_other w1 _ b _ (by omega)).trans (k1.block b hb hs)⟩
    rw [← hw2] at hcp
    have HB : Hid (Blk w2 w.heap.size 26 (L.map u64).toArray ∧ Keeps (fun _ => False) w w2 ∧ n = L.length) := ⟨hb2, k2, hn⟩
    rw [← hn]
    clear hb2 k2 hw2 hb1 k1 hw1 hc hn hl hcap
    go_enter Ybaf.func5, Ybaf.ntmps5
    go_wp2_with fail
    go_ret
    obtain ⟨h1, h2, h3⟩ := HB.out
    subst h3
    exact ⟨_, rfl, .inr ⟨w.heap.size, L.length, by simp, holds_blk h1, Nat.le_refl _, h1.lt, by simp⟩, h2⟩

theorem sort_own (base : Nat) (w : World) (v : Value) (d : Array Int) (h : Own base w v d) (hsz : d.size < 4611686018427387904) :
    Calls Ybaf.prog 13 #[v] w fun e w' => e = .returned (.tuple #[]) ∧ Own base w' v (Sort.sort ltInt d) ∧ Keeps (fun b => v.ownBlock = some b) w w' := by
  rcases h with ⟨rfl, rfl⟩ | ⟨b, cap, rfl, hH, hb, hl, hc⟩
  · refine (sort_nil w).mono ?_
    rintro e w' ⟨rfl, rfl⟩
    exact ⟨rfl, .inl ⟨rfl, by have := sort_size #[]; simpa using this⟩, Keeps.refl _ _⟩
  · refine (sort_calls b 0 cap d _ rfl w hH hl hsz).mono ?_
    rintro e w' ⟨rfl, hA⟩
    exact ⟨rfl, .inr ⟨b, cap, by rw [sort_size], hA.holds, hb, hA.len, by rw [sort_size]; exact hc⟩, hA.keeps.mono fun k _ e => by rw [e]; rfl⟩

theorem results_row {P : Program} {fn : Func} {p : Tmp} {ty : TypeId} (h : fn.results = #[.cell p ty]) (tmps : Array Value) (w : World) (g : Nat) (t : TypeId) (cs : Array Value) (d : TypeDesc)
    (hp : tmps.getD p undef = .pointer (some ⟨g, 0, none⟩)) (hg : Blk w g t cs)
    (hu : P.underlying ty = some d) (hd : (match d with | .struct _ | .array _ _ => true | _ => false) = true) (hi : (P.info? ty).map (·.size) = some cs.size) :
    (results fn tmps).run P w = .ok (.agg cs) w := results_cell_row h tmps w g t cs (0, 0) d hp hg hu hd hi
theorem results_row_tmp {P : Program} {fn : Func} {p u : Tmp} {ty : TypeId} (h : fn.results = #[.cell p ty, .tmp u]) (tmps : Array Value) (w : World) (g : Nat) (t : TypeId) (cs : Array Value) (d : TypeDesc)
    (hp : tmps.getD p undef = .pointer (some ⟨g, 0, none⟩)) (hg : Blk w g t cs)
    (hu : P.underlying ty = some d) (hd : (match d with | .struct _ | .array _ _ => true | _ => false) = true) (hi : (P.info? ty).map (·.size) = some cs.size) :
    (results fn tmps).run P w = .ok (.tuple #[.agg cs, tmps.getD u undef]) w := by
  rw [results_cell_tmp h, hp]
  simp [asAddr, Result.andThen, run_loadVar_row w g t ty cs (0, 0) d hg hu hd hi]
theorem size87 : (Ybaf.prog.info? 87).map (·.size) = some 3 := by kernel_rfl

theorem exact_calls (x : Int) (w : World) :
    Calls Ybaf.prog 30 #[.int .u64 x] w fun e w' => ∃ b : Nat, e = .returned (.agg #[.int .u64 x, .int .i64 64, .slice (some ⟨b, 0, none⟩) 1 1]) ∧ Keeps (fun _ => False) w w' := by
  go_enter Ybaf.func30, Ybaf.ntmps30
  go_wp2
  refine bodyPost_ret (results_row rfl _ _ w.heap.size 87 #[.int .u64 x, .int .i64 64, .slice (some ⟨w.heap.size + 1, 0, none⟩) 1 1] _ rfl ((Blk.new _ _ _).alloc _) Ybaf.underlying87 rfl size87) rfl ?_
  exact ⟨_, rfl, ((Keeps.refl _ _).alloc _).alloc _⟩

/-- The groups of the numbers d. -/
def Grps (w : World) (g : Nat) (d : Array Int) : Prop :=
  ∃ cs, Blk w g 87 cs ∧ cs.size = d.size * 3 ∧ ∀ t, t < d.size → cs[t * 3]? = some (.int .u64 d[t]!) ∧ cs[t * 3 + 1]? = some (.int .i64 64) ∧ ∃ u : Nat, cs[t * 3 + 2]? = some (.slice (some ⟨u, 0, none⟩) 1 1)

theorem info87 : (Ybaf.prog.info? 87).map (fun i => (i.zero.map Value.cells, i.size, i.bytes)) = some (some #[.int .u64 0, .int .i64 0, .slice none 0 0], 3, 40) := by kernel_rfl
theorem i87 : ∃ i z, Ybaf.prog.info? 87 = some i ∧ i.zero = some z ∧ i.size = 3 ∧ i.bytes = 40 ∧ z.cells.size = 3 := by
  have h := info87
  cases hi : Ybaf.prog.info? 87 with
  | none => rw [hi] at h; simp at h
  | some i =>
    rw [hi] at h
    simp at h
    obtain ⟨h1, h2, h3⟩ := h
    obtain ⟨z, hz, hc⟩ := h1
    exact ⟨i, z, rfl, hz, h2, h3, by rw [hc]; rfl⟩

theorem exacts_calls (base : Nat) (w : World) (v : Value) (d : Array Int) (hv : Own base w v d) (hl : d.size ≤ 1024) :
    Calls Ybaf.prog 16 #[v] w fun e w' => ∃ g, e = .returned (.slice (some ⟨g, 0, none⟩) d.size d.size) ∧ Grps w' g d ∧ Keeps (fun _ => False) w w' := by
  obtain ⟨n, hn⟩ : ∃ n, n = d.size := ⟨_, rfl⟩
  obtain ⟨i, z, hi, hz, hs, hb, hzs⟩ := i87
  have hmk := fun w => run_make (P := Ybaf.prog) w 65 87 i z Ybaf.underlying65 hi hz .i64 .i64 (n : Int) (n : Int) (by omega) (by omega) (by rw [hb]; omega) (by omega)
  simp only [hs, Int.toNat_natCast] at hmk
  obtain ⟨M, hM⟩ : ∃ M, M = madeCells z.cells (n * 3) := ⟨_, rfl⟩
  have hMs : M.size = n * 3 := by rw [hM, size_madeCells]
  rw [← hM] at hmk
  clear hM
  obtain ⟨G, hG⟩ : ∃ G : Nat → Int, ∀ t, G t = d[t]! := ⟨fun t => d[t]!, fun _ => rfl⟩
  have HG : Hid (∀ t, G t = d[t]!) := hG
  obtain ⟨ao, cap, hvv, hcell⟩ : ∃ ao cap, v = .slice ao n cap ∧ ∀ w' : World, Keeps (fun _ => False) w w' → ∀ t, t < n → ∃ blk, ao = some ⟨blk, 0, none⟩ ∧ w'.cell? ⟨blk, 0 + t, none⟩ = some (.int .u64 (G t)) := by
    rcases hv with ⟨rfl, rfl⟩ | ⟨b, cap, rfl, hH, _, hb, _⟩
    · exact ⟨_, _, by rw [hn]; rfl, fun w' _ t ht => by simp at hn; omega⟩
    · refine ⟨_, _, by rw [hn], fun w' k t ht => ⟨b, rfl, ?_⟩⟩
      rw [hG]
      exact (holds_keeps hH hb k (fun x => x) t (by omega)).1
  subst hvv
  rw [← hn]
  have HN := hid hn
  have hn1 : n ≤ 1024 := by omega
  clear hn hG hv hzs hz
  have k0 : Keeps (fun _ => False) w (w.alloc (.cells M 87)) := (Keeps.refl _ _).alloc _
  have b0 : Blk (w.alloc (.cells M 87)) w.heap.size 87 M := Blk.new _ _ _
  go_enter Ybaf.func16, Ybaf.ntmps16
  go_wp2_with fail
  go_loopw [11] (fun vi wr => ∃ (k : Nat) (cs : Array Value), vi = .int .i64 k ∧ k ≤ n ∧ Keeps (fun _ => False) w wr ∧ Blk wr w.heap.size 87 cs ∧ cs.size = n * 3 ∧
      ∀ t, t < k → cs[t * 3]? = some (.int .u64 (G t)) ∧ cs[t * 3 + 1]? = some (.int .i64 64) ∧ ∃ u : Nat, cs[t * 3 + 2]? = some (.slice (some ⟨u, 0, none⟩) 1 1)) (fun vi _ => n - (intOf vi).toNat)
  case atStart => exact ⟨0, M, rfl, Nat.zero_le _, k0, b0, hMs, fun t ht => by omega⟩
  case round =>
    obtain ⟨k, cs, rfl, hkn, kw, hB, hcs, hcell2⟩ := hrel
    clear k0 b0
    by_cases hlt : k < n
    · obtain ⟨blk, rfl, hc⟩ := hcell wr kw k hlt
      rw [Nat.zero_add] at hc
      have he := exact_calls (G k) wr
      go_wp2_with fail
      refine he.mono ?_
      rintro e w1 ⟨u, rfl, k1⟩
      have hB1 := hB.keeps k1 (fun x => x)
      have c0 : w1.cell? ⟨w.heap.size, k * 3, none⟩ = cs[k * 3]? := hB1.cell _
      have c1 : w1.cell? ⟨w.heap.size, k * 3 + 1, none⟩ = cs[k * 3 + 1]? := hB1.cell _
      have c2 : w1.cell? ⟨w.heap.size, k * 3 + 2, none⟩ = cs[k * 3 + 2]? := hB1.cell _
      rw [Array.getElem?_eq_getElem (by omega)] at c0 c1 c2
      have f0 := hB1.frozen (k * 3)
      have f1 := hB1.frozen (k * 3 + 1)
      have f2 := hB1.frozen (k * 3 + 2)
      go_wp2_with fail
      go_roundw
      case rel =>
        refine ⟨k + 1, _, by go_num, by omega, ?_, ((hB1.set _ _).set _ _).set _ _, by simp [hcs], ?_⟩
        · exact (((kw.trans k1).setNew (a := ⟨w.heap.size, k * 3, none⟩) (Nat.le_refl _) _).setNew (a := ⟨w.heap.size, k * 3 + 1, none⟩) (Nat.le_refl _) _).setNew (a := ⟨w.heap.size, k * 3 + 2, none⟩) (Nat.le_refl _) _
        · intro t ht
          by_cases e : t = k
          · subst e
            refine ⟨?_, ?_, u, ?_⟩
            · simp [Array.getElem?_setIfInBounds, hcs]; omega
            · simp [Array.getElem?_setIfInBounds, hcs]; omega
            · simp [Array.getElem?_setIfInBounds, hcs]; omega
          · have hh := hcell2 t (by omega)
            simp only [Array.getElem?_setIfInBounds, show ¬ k * 3 = t * 3 by omega, show ¬ k * 3 + 1 = t * 3 by omega, show ¬ k * 3 + 2 = t * 3 by omega, show ¬ k * 3 = t * 3 + 1 by omega, show ¬ k * 3 + 1 = t * 3 + 1 by omega, show ¬ k * 3 + 2 = t * 3 + 1 by omega,
              show ¬ k * 3 = t * 3 + 2 by omega, show ¬ k * 3 + 1 = t * 3 + 2 by omega, show ¬ k * 3 + 2 = t * 3 + 2 by omega, if_false]
            exact hh
      case measure => simp [intOf]; omega
    · go_wp2_with fail
      go_ret
      obtain rfl : k = n := by omega
      refine ⟨_, rfl, ⟨cs, hB, by rw [hcs, HN.out], fun t ht => ?_⟩, kw⟩
      have := hcell2 t (by rw [HN.out]; exact ht)
      rw [HG.out] at this
      exact this
end Go.Proofs.YbulkbrtmFmt
