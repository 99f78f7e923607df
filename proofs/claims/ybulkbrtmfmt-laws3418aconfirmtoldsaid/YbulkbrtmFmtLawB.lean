import Derived.Test.YbulkbrtmFmtConfB
import Derived.Test.YbulkbrtmFmtSeek
import Derived.Test.YbulkbrtmFmtOwnSort
import Derived.Test.YbulkbrtmFmtSmall
import Derived.Carry
import Derived.Deep.CutBlock
import Derived.Deep.DeepCutAuto
set_option linter.unusedVariables false
set_option linter.unusedSimpArgs false
set_option maxHeartbeats 8000000
set_option maxRecDepth 1000000
namespace Go.Proofs.YbulkbrtmFmt
open Go.RowKit Go.Sort Go.Proofs Go.Deep Go.Kit
open Go.Extern.Stop Go.Stop Go.Extern

/-- The reports' makings, as they came in. -/
def RIn (w : World) (rv : Value) (m : Nat) (PK RW : Nat → Int) (LN : Nat → ByteArray) : Prop :=
  ∃ ao cap, rv = .slice ao m cap ∧ (m = 0 ∨ ∃ b off, ao = some ⟨b, off, none⟩ ∧ ∀ t, t < m → w.cell? ⟨b, off + t * 3, none⟩ = some (.int .u8 (PK t)) ∧ w.cell? ⟨b, off + t * 3 + 1, none⟩ = some (.int .u64 (RW t)) ∧ w.cell? ⟨b, off + t * 3 + 2, none⟩ = some (.string (LN t)))

def repID (L : List Int) (pk rw : Int) : Int := if pk % 2 = 0 ∧ 0 < L.length then L.getD ((pk / 2).toNat % L.length) 0 else rw
theorem repID_wf (L : List Int) (pk rw : Int) (hL : ∀ x ∈ L, (Lit.int .u64 x).wf = true) (hr : (Lit.int .u64 rw).wf = true) : (Lit.int .u64 (repID L pk rw)).wf = true := by
  unfold repID
  split
  · rename_i h
    have hlt : (pk / 2).toNat % L.length < L.length := Nat.mod_lt _ h.2
    rw [List.getD_eq_getElem?_getD, List.getElem?_eq_getElem hlt]
    exact hL _ (List.getElem_mem _)
  · exact hr

theorem info30 : (Ybaf.prog.info? 30).map (fun i => (i.zero.map Value.cells, i.size, i.bytes)) = some (some #[.int .u64 0, .string ⟨#[]⟩], 2, 24) := by kernel_rfl
theorem i30 : ∃ i z, Ybaf.prog.info? 30 = some i ∧ i.zero = some z ∧ i.size = 2 ∧ i.bytes = 24 ∧ z.cells.size = 2 := by
  have h := info30
  cases hi : Ybaf.prog.info? 30 with
  | none => rw [hi] at h; simp at h
  | some i =>
    rw [hi] at h
    simp at h
    obtain ⟨h1, h2, h3⟩ := h
    obtain ⟨z, hz, hc⟩ := h1
    exact ⟨i, z, rfl, hz, h2, h3, by rw [hc]; rfl⟩

theorem assert52 (v : Value) (w : World) : (Instr.typeAssert (.iface 52 v) 35 52 true).run Ybaf.prog w = .ok (.tuple #[v, .bool true]) w := by kernel_rfl
theorem pats_tgt {w : World} {tb B : Nat} {fb : Bool} {ra : Option Addr} {rn rc : Nat} {er : Value} {pv : Value} (q : Nat) (r : List UInt8) (hq : 1 ≤ q) (hT : Tgt w tb B fb ra rn rc er (List.replicate q ⟨(118 :: r).toArray⟩) pv) :
    (Calls Ybaf.prog 7 #[.pointer (some ⟨tb, 0, none⟩)] w fun e w' => e = .returned (.bool true) ∧ w' = w) ∧ ∃ pb cap, pv = .slice (some ⟨pb, 0, none⟩) q cap ∧ w.cell? ⟨pb, 0, none⟩ = some (.string ⟨(118 :: r).toArray⟩) := by
  obtain ⟨q', rfl⟩ : ∃ q', q = q' + 1 := ⟨q - 1, by omega⟩
  have hown := hT.own
  rw [List.length_replicate] at hown
  obtain ⟨g, cp, rfl⟩ := ownsRow_succ hown
  have hc : ∀ t, t < q' + 1 → w.cell? ⟨g, 0 + t, none⟩ = some (.string ⟨(118 :: r).toArray⟩) := fun t ht => by
    have := hown.cellAt t (by omega)
    rw [Nat.zero_add, this]
    simp [ht]
  have hb := hT.blk
  have hf := hT.few
  rw [List.length_replicate] at hf
  exact ⟨pats_calls w tb _ _ _ _ g (q' + 1) cp r (by omega) hf hb hc, g, cp, rfl, hc 0 (by omega)⟩
theorem Ints.keeps {w w' : World} {v : Value} {L : List Int} {S : Nat → Prop} (h : Ints w v L) (k : Keeps S w w') (hS : ∀ b, b < w.heap.size → ¬ S b) : Ints w' v L := by
  rcases h with h | ⟨a, cap, rfl, hl, hc⟩
  · exact .inl h
  · exact .inr ⟨a, cap, rfl, hl, fun j u hj => by rw [← hc j u hj]; exact World.cell?_of_block (k.block _ (block_lt_of_cell (hc j u hj)) (hS _ (block_lt_of_cell (hc j u hj))))⟩

theorem row_cell {w : World} {base : Nat} {ao : Option Addr} {n cap : Nat} {LS : List ByteArray} (h : w.ownsRow base 9 1 (.slice ao n cap) n (LS.map Value.string)) (t : Nat) (ht : t < n) : ∃ g, ao = some ⟨g, 0, none⟩ ∧ w.cell? ⟨g, t, none⟩ = some (.string (LS.getD t ⟨#[]⟩)) := by
  have hlen : LS.length = n := by simpa using h.1
  rcases h.2 with ⟨_, h0⟩ | ⟨g, c, cur, hv, _⟩
  · omega
  · cases hv
    refine ⟨g, rfl, ?_⟩
    rw [h.cellAt t (by omega)]
    have : t < LS.length := by omega
    simp [this]
theorem law3_big (w : World) (ao ro : Option Addr) (n cap m rcap : Nat) (b1 b2 b3 b4 : Bool) (k : Int) (h : 1024 < n ∨ 1024 < m) (hn : n ≤ 140737488351232) (hm : m ≤ 140737488351232) :
    Calls Ybaf.prog 3 #[.slice ao n cap, .slice ro m rcap, .bool b1, .bool b2, .bool b3, .bool b4, .int .u8 k] w fun e w' => e = .returned (.bool true) ∧ Below w.heap.size w w' := by
  by_cases h1 : 1024 < n
  · go_enter Ybaf.func3, Ybaf.ntmps3
    go_wp2_with fail
    go_ret
    exact ⟨rfl, Below.refl _ _⟩
  · have h2 : 1024 < m := by omega
    go_enter Ybaf.func3, Ybaf.ntmps3
    go_wp2_with fail
    go_ret
    exact ⟨rfl, Below.refl _ _⟩

theorem law3 (F : Interp) (w : World) (hF : F.told.answers w.tape) (v rv : Value) (L : List Int) (hv : Ints w v L) (hl : L.length ≤ 1024) (hwf : ∀ x ∈ L, (Lit.int .u64 x).wf = true)
    (m : Nat) (hm : m ≤ 1024) (PK RW : Nat → Int) (LN : Nat → ByteArray) (hrv : RIn w rv m PK RW LN) (hpk : ∀ t, t < m → 0 ≤ PK t ∧ PK t ≤ 255) (hrw : ∀ t, t < m → (Lit.int .u64 (RW t)).wf = true)
    (fb fails inv rs : Bool) (k : Int) (h0 : 0 ≤ k) (h1 : k ≤ 255) :
    Calls Ybaf.prog 3 #[v, rv, .bool fb, .bool fails, .bool inv, .bool rs, .int .u8 k] w fun e w' => e = .returned (.bool true) ∧ Below w.heap.size w w' := by
  have hcp := copy_calls w v L hv hl
  have hmm := fun t (w : World) => run_makeMap (P := Ybaf.prog) t w
  have HV := hid hv
  obtain ⟨ao, cap, rfl, hids⟩ := hv.opens
  obtain ⟨ro, rcap, rfl, hreps⟩ := hrv
  obtain ⟨n, hn⟩ : ∃ n, n = L.length := ⟨_, rfl⟩
  obtain ⟨G, hG⟩ : ∃ G : Nat → Int, ∀ t, G t = L.getD t 0 := ⟨fun t => L.getD t 0, fun _ => rfl⟩
  obtain ⟨I, hI⟩ : ∃ I : Nat → Int, ∀ t, I t = repID L (PK t) (RW t) := ⟨fun t => repID L (PK t) (RW t), fun _ => rfl⟩
  have hI1 : ∀ t, PK t % 2 = 0 → 0 < n → I t = G ((PK t / 2).toNat % n) := fun t h1 h2 => by
    rw [hI, hG, repID, if_pos ⟨h1, by omega⟩, hn]
  have hI2 : ∀ t, ¬ (PK t % 2 = 0 ∧ 0 < n) → I t = RW t := fun t h => by
    rw [hI, repID, if_neg (by rw [← hn]; exact h)]
  have hIwf : ∀ t, t < m → (Lit.int .u64 (I t)).wf = true := fun t ht => by rw [hI]; exact repID_wf L _ _ hwf (hrw t ht)
  simp only [← hG] at hids
  obtain ⟨i, z, hi, hz, hs, hb, hzs⟩ := i30
  have hmk := fun w => run_make (P := Ybaf.prog) w 25 30 i z Ybaf.underlying25 hi hz .i64 .i64 (m : Int) (m : Int) (by omega) (by omega) (by rw [hb]; omega) (by omega)
  simp only [hs, Int.toNat_natCast] at hmk
  obtain ⟨M, hM⟩ : ∃ M, M = madeCells z.cells (m * 2) := ⟨_, rfl⟩
  have hMs : M.size = m * 2 := by rw [hM, size_madeCells]
  rw [← hM] at hmk
  rw [← hn] at hl hids hcp ⊢
  have HN := hid hn
  have HI1 := hid hI1
  have HI2 := hid hI2
  have HI := hid hI
  clear hM hn hI1 hI2 hG hI hz hzs hv hrw
  go_enter Ybaf.func3, Ybaf.ntmps3
  go_wp2_with fail
  refine hcp.mono ?_
  rintro e w1 ⟨v1, rfl, hO, k1⟩
  clear hcp
  have ko : Keeps (fun _ => False) w (w1.alloc (.cells M 30)) := k1.alloc _
  have hb0 : Blk (w1.alloc (.cells M 30)) w1.heap.size 30 M := Blk.new _ _ _
  have hz1 := k1.size
  go_wp2_with fail
  go_loopw [54] (fun vi wr => ∃ (j : Nat) (cs : Array Value), vi = .int .i64 j ∧ j ≤ m ∧ Keeps (fun b => b = w1.heap.size) (w1.alloc (.cells M 30)) wr ∧ Blk wr w1.heap.size 30 cs ∧ cs.size = m * 2 ∧
      ∀ t, t < j → cs[t * 2]? = some (.int .u64 (I t)) ∧ cs[t * 2 + 1]? = some (.string (LN t))) (fun vi _ => m - (intOf vi).toNat)
  case atStart => exact ⟨0, M, rfl, Nat.zero_le _, Keeps.refl _ _, hb0, hMs, fun t ht => by omega⟩
  case round =>
    obtain ⟨j, cs, rfl, hj, kj, hbj, hcsz, hcs⟩ := hrel
    have kwj : Keeps (fun _ => False) w wr := ⟨kj.os.trans ko.os, kj.tape.trans ko.tape, kj.output.trans ko.output, Nat.le_trans ko.size kj.size, fun b hb hs => (kj.block b (Nat.lt_of_lt_of_le hb ko.size) (by omega)).trans (ko.block b hb hs)⟩
    by_cases hjm : j < m
    · obtain ⟨rb, roff, rfl, hrc⟩ : ∃ b off, ro = some ⟨b, off, none⟩ ∧ ∀ t, t < m → w.cell? ⟨b, off + t * 3, none⟩ = some (.int .u8 (PK t)) ∧ w.cell? ⟨b, off + t * 3 + 1, none⟩ = some (.int .u64 (RW t)) ∧ w.cell? ⟨b, off + t * 3 + 2, none⟩ = some (.string (LN t)) := by
        rcases hreps with h | h
        · omega
        · exact h
      obtain ⟨p0, p1, p2⟩ := hrc j hjm
      have up : ∀ {a : Addr} {u : Value}, w.cell? a = some u → wr.cell? a = some u := fun {a u} h => by
        rw [← h]; exact World.cell?_of_block (kwj.block _ (block_lt_of_cell h) (fun x => x))
      have p0 := up p0
      have p1 := up p1
      have p2 := up p2
      obtain ⟨pk0, pk1⟩ := hpk j hjm
      have c0 : wr.cell? ⟨w1.heap.size, j * 2, none⟩ = cs[j * 2]? := hbj.cell _
      have c1 : wr.cell? ⟨w1.heap.size, j * 2 + 1, none⟩ = cs[j * 2 + 1]? := hbj.cell _
      rw [Array.getElem?_eq_getElem (by omega)] at c0 c1
      have f0 := hbj.frozen (j * 2)
      have f1 := hbj.frozen (j * 2 + 1)
      have lb := hbj.lt
      clear hmk hmm
      go_upto_region 9 with fail
      go_cut [69] from 61 to 68 (fun v69 wx => v69 = .bool (decide (PK j % 2 = 0 ∧ 0 < n)) ∧ wx = wr.alloc (.cells #[.int .u8 (PK j), .int .u64 (RW j), .string (LN j)] 28))
      case first =>
        by_cases h1 : PK j % 2 = 0
        · have h1z : (PK j % 2 == 0) = true := by simp [h1]
          by_cases h2 : 0 < n
          · have h2z : (0 : Int) < (n : Int) := by omega
            go_wp2_with fail
            go_meet
            case rel => exact ⟨by simp [h1, h2], rfl⟩
          · have h2z : ¬ (0 : Int) < (n : Int) := by omega
            obtain rfl : n = 0 := by omega
            go_wp2_with fail
            go_meet
            case rel => exact ⟨by simp, rfl⟩
        · have h1z : (PK j % 2 == 0) = false := by simp [h1]
          go_wp2_with fail
          go_meet
          case rel => exact ⟨by simp [h1], rfl⟩
      case rest =>
        obtain ⟨rfl, rfl⟩ := hcut
        have ka : Keeps (fun _ => False) wr (wr.alloc (.cells #[.int .u8 (PK j), .int .u64 (RW j), .string (LN j)] 28)) := (Keeps.refl _ _).alloc _
        go_upto_if 69 with fail
        go_cut [19] from 69 to 79 (fun v19 wx => v19 = .int .u64 (I j) ∧ wx = wr.alloc (.cells #[.int .u8 (PK j), .int .u64 (RW j), .string (LN j)] 28))
        case first =>
          by_cases hp : PK j % 2 = 0 ∧ 0 < n
          · have hd : decide (PK j % 2 = 0 ∧ 0 < n) = true := decide_eq_true hp
            obtain ⟨q, hq, hqn⟩ : ∃ q : Nat, PK j / 2 % (n : Int) = (q : Int) ∧ q = (PK j / 2).toNat % n := ⟨(PK j / 2).toNat % n, by
              have : PK j / 2 = ((PK j / 2).toNat : Int) := by omega
              rw [this]; simp, rfl⟩
            have hql : q < n := by rw [hqn]; exact Nat.mod_lt _ hp.2
            have hIq : I j = G q := by rw [HI1.out j hp.1 hp.2, hqn]
            obtain ⟨ib, ioff, rfl, hic⟩ : ∃ b off, ao = some ⟨b, off, none⟩ ∧ ∀ t, t < n → w.cell? ⟨b, off + t, none⟩ = some (.int .u64 (G t)) := by
              rcases hids with h | h
              · omega
              · exact h
            have cq := up (hic q hql)
            rw [← hIq] at cq
            have lq := block_lt_of_cell cq
            have hnz : ((n : Int) == 0) = false := by simp; omega
            rw [hd]
            clear hIq hqn hic hids
            go_wp2_with fail
            go_meet
            case rel => exact ⟨rfl, rfl⟩
          · have hd : decide (PK j % 2 = 0 ∧ 0 < n) = false := decide_eq_false hp
            rw [hd]
            go_wp2_with fail
            go_meet
            case rel => exact ⟨by rw [HI2.out j hp], rfl⟩
        case rest =>
          obtain ⟨rfl, rfl⟩ := hcut
          go_wp2_with fail
          go_roundw
          case rel =>
            refine ⟨j + 1, (cs.setIfInBounds (j * 2) (.int .u64 (I j))).setIfInBounds (j * 2 + 1) (.string (LN j)), by go_num, by omega, ?_, ?_, by simp [hcsz], ?_⟩
            · exact ((kj.setCell (a := ⟨w1.heap.size, j * 2, none⟩) rfl _).setCell (a := ⟨w1.heap.size, j * 2 + 1, none⟩) rfl _).alloc _
            · exact ((hbj.set _ _).set _ _).alloc _
            · intro t ht
              by_cases e : t = j
              · subst e
                refine ⟨?_, ?_⟩
                · rw [Array.getElem?_setIfInBounds_ne (by omega), Array.getElem?_setIfInBounds_self_of_lt (by omega)]
                · rw [Array.getElem?_setIfInBounds_self_of_lt (by simp; omega)]
              · obtain ⟨g1, g2⟩ := hcs t (by omega)
                refine ⟨?_, ?_⟩
                · rw [Array.getElem?_setIfInBounds_ne (by omega), Array.getElem?_setIfInBounds_ne (by omega)]; exact g1
                · rw [Array.getElem?_setIfInBounds_ne (by omega), Array.getElem?_setIfInBounds_ne (by omega)]; exact g2
          case measure => simp [intOf]; omega
    · obtain rfl : j = m := by omega
      have hRp : Reps wr w1.heap.size j I LN := ⟨cs, hbj, hcs⟩
      have hO2 : Own w.heap.size wr v1 L.toArray := (hO.keeps' (S := fun _ => False) ((Keeps.refl _ w1).alloc (.cells M 30)) (fun _ x => x.elim)).keeps' kj (fun b e h => by subst e; have := (hO.lt _ h).2; omega)
      have hlt : ∀ b, v1.ownBlock = some b → b < w1.heap.size := fun b hb => (hO.lt b hb).2
      have lb := hbj.lt
      clear hmk hreps hbj hcs hcsz hO hb0
      go_wp2_with fail
      obtain ⟨N, hN⟩ : ∃ N, N = wr.heap.size := ⟨_, rfl⟩
      obtain ⟨rb, hrb⟩ : ∃ rb, rb = w1.heap.size := ⟨_, rfl⟩
      obtain ⟨c, hc, hc1, hc3⟩ : ∃ c : Nat, 1 + k % 3 = (c : Int) ∧ 1 ≤ c ∧ c ≤ 3 := ⟨(1 + k % 3).toNat, by omega, by omega, by omega⟩
      rw [← hrb] at hRp lb hlt
      rw [hc, ← hN, ← hrb]
      generalize hWW : (((wr.alloc (Obj.cells #[Value.bool fb, Value.slice (some { block := rb, off := 0 }) j j, Value.nilIface, Value.int IntKind.i64 0, Value.slice none 0 0] 38)).alloc (Obj.map #[] 0)).alloc (Obj.map #[] 0)).alloc
        (Obj.cells #[Value.iface 31 (Value.pointer (some { block := N, off := 0 })), Value.int IntKind.i64 1, Value.int IntKind.i64 (c : Int), Value.int IntKind.i64 0, Value.bool rs, Value.map (some (N + 1)), Value.map (some (N + 1 + 1)), Value.slice none 0 0, Value.bool fails, Value.bool inv] 45) = W
      have kW : Keeps (fun _ => False) wr W := by rw [← hWW]; exact ((((Keeps.refl _ wr).alloc _).alloc _).alloc _).alloc _
      have bT : Blk W N 38 #[.bool fb, .slice (some ⟨rb, 0, none⟩) j j, .nilIface, .int .i64 0, .slice none 0 0] := by
        rw [← hWW, hN]; exact (((Blk.new _ _ _).alloc _).alloc _).alloc _
      have m1 : Seen W (N + 1) 0 (fun _ => False) := by
        rw [← hWW]
        have := Seen.made (wr.alloc (Obj.cells #[Value.bool fb, Value.slice (some { block := rb, off := 0 }) j j, Value.nilIface, Value.int IntKind.i64 0, Value.slice none 0 0] 38))
        rw [World.size_alloc, ← hN] at this
        exact this.keeps (T := fun _ => False) (((Keeps.refl _ _).alloc _).alloc _) (fun x => x)
      have m2 : Done0 W (N + 1 + 1) := by
        rw [← hWW]
        have := Done0.made ((wr.alloc (Obj.cells #[Value.bool fb, Value.slice (some { block := rb, off := 0 }) j j, Value.nilIface, Value.int IntKind.i64 0, Value.slice none 0 0] 38)).alloc (.map #[] 0))
        rw [World.size_alloc, World.size_alloc, ← hN] at this
        exact this.keeps (T := fun _ => False) ((Keeps.refl _ _).alloc _) (fun x => x)
      have bS : Blk W (N + 1 + 1 + 1) 45 (sCells N c rs (.map (some (N + 1))) (.map (some (N + 1 + 1))) fails inv) := by
        rw [← hWW]
        have := Blk.new (((wr.alloc (Obj.cells #[Value.bool fb, Value.slice (some { block := rb, off := 0 }) j j, Value.nilIface, Value.int IntKind.i64 0, Value.slice none 0 0] 38)).alloc (.map #[] 0)).alloc (.map #[] 0)) 45 (sCells N c rs (.map (some (N + 1))) (.map (some (N + 1 + 1))) fails inv)
        rw [World.size_alloc, World.size_alloc, World.size_alloc, ← hN] at this
        exact this
      have hF2 : F.told.answers W.tape := by rw [kW.tape, kwj.tape]; exact hF
      have hRW := hRp.keeps kW (fun x => x)
      have hOW := hO2.keeps' kW (fun _ x => x.elim)
      have hrN : rb < N := by rw [hN]; exact lb
      have hwN : w.heap.size ≤ rb := by rw [hrb]; exact hz1
      clear hWW
      refine (confirm_calls F W hF2 (N + 1 + 1 + 1) N rb (N + 1) (N + 1 + 1) c hc1 hc3 rs fb fails inv j I LN w.heap.size v1 L.toArray hm hIwf (by omega) bS bT hRW m1 m2 hOW (by rw [HN.out] at hl; simpa using hl) (by simpa using hwf)
        (fun e => by have := hlt _ e; omega) (fun e => by have := hlt _ e; omega) (fun e => by have := hlt _ e; omega) (fun e => by have := hlt _ e; omega) (fun e => by have := hlt _ e; omega)).mono ?_
      rintro e w3 ⟨r, set, er, rfl, hr, hCP, k3⟩
      have kw3 : Keeps (fun _ => False) w w3 := by
        have k2 := kwj.trans kW
        refine ⟨k3.os.trans k2.os, k3.tape.trans k2.tape, k3.output.trans k2.output, Nat.le_trans k2.size k3.size, fun b hb hs => (k3.block b (Nat.lt_of_lt_of_le hb k2.size) (fun h => ?_)).trans (k2.block b hb hs)⟩
        rcases h with h | h | h | h
        · omega
        · omega
        · omega
        · have := (hO2.lt b h).1; omega
      have nS : ¬ (N + 1 + 1 + 1 = N ∨ N + 1 + 1 + 1 = N + 1 ∨ N + 1 + 1 + 1 = N + 1 + 1 ∨ v1.ownBlock = some (N + 1 + 1 + 1)) := fun h => by
        rcases h with h | h | h | h
        · omega
        · omega
        · omega
        · have := hlt _ h; omega
      have nR : ¬ (rb = N ∨ rb = N + 1 ∨ rb = N + 1 + 1 ∨ v1.ownBlock = some rb) := fun h => by
        rcases h with h | h | h | h
        · omega
        · omega
        · omega
        · have := hlt _ h; omega
      have hS3 := bS.keeps k3 nS
      have hR3 := hRW.keeps k3 nR
      have hIw3 := HV.out.keeps kw3 (fun _ _ x => x)
      generalize htb : N = tb at *
      generalize hm1 : tb + 1 = mb1 at *
      generalize hm2 : mb1 + 1 = mb2 at *
      generalize hsb : mb2 + 1 = sb at *
      have hsd : sb ≠ tb := by omega
      have HID := hid hIw3
      have hp52 := assert52
      clear kW bT m1 m2 bS hF2 hRW hOW hO2 kj k3 nS nR HV hIw3 hmm hids htb hm1 hm2 hsb hN hrb hc
      rcases hCP with ⟨⟨rfl, rfl, rfl⟩, rfl, ⟨kk, rfl⟩, ⟨pv, B', hT⟩, hD⟩ | ⟨hgood, ⟨pv, B', hT⟩, hM3, hD3, hend⟩
      · obtain ⟨hpat, pb, pc, rfl, hpc⟩ := pats_tgt 1 r (Nat.le_refl _) hT
        have kset : Keeps (fun _ => False) w3 (w3.alloc (.cells #[.slice none 0 0, .slice none 0 0, .bool false, .bool false] 47)) := (Keeps.refl _ _).alloc _
        have hTs := hT.keeps kset (fun x => x) (fun _ x => x.elim)
        obtain ⟨hpat2, _⟩ := pats_tgt 1 r (Nat.le_refl _) hTs
        go_wp2_with fail
        refine hpat2.mono ?_
        rintro e w4 ⟨rfl, rfl⟩
        clear hpat hpat2
        go_upto_if 125 with fail
        have k5 : Keeps (fun _ => False) w3 ((w3.alloc (.cells #[.slice none 0 0, .slice none 0 0, .bool false, .bool false] 47)).alloc (.cells #[.iface 73 (.pointer (some ⟨kk, 0, none⟩))] 52)) := kset.alloc _
        have hset5 : Blk ((w3.alloc (.cells #[.slice none 0 0, .slice none 0 0, .bool false, .bool false] 47)).alloc (.cells #[.iface 73 (.pointer (some ⟨kk, 0, none⟩))] 52)) w3.heap.size 47 #[.slice none 0 0, .slice none 0 0, .bool false, .bool false] := (Blk.new _ _ _).alloc _
        have hT5 := hT.keeps k5 (fun x => x) (fun _ x => x.elim)
        have hS5 := hS3.keeps k5 (fun x => x)
        have hD5 := hD.keeps k5 (fun x => x)
        have ct : w3.cell? ⟨tb, 3, none⟩ = some (.int .i64 1) := hT.blk.cell 3
        have lt3 := hT.blk.lt
        go_wp2_with fail
        refine (zero_calls _).mono ?_
        rintro e w7 ⟨rfl, k7⟩
        have k8 := k5.trans k7
        have hS7 := hS3.keeps k8 (fun x => x)
        have hD7 := hD.keeps k8 (fun x => x)
        have d6 : w7.cell? ⟨sb, 6, none⟩ = some (.map (some mb2)) := hS7.cell 6
        have hlen := fun ty => hD7.len ty
        clear k5 k7 kset hT5 hS5 hD5 hset5
        go_wp2_with fail
        go_ret
        exact ⟨by simp, (kw3.trans k8).below (Nat.le_refl _) (fun _ _ x => x)⟩
      · obtain ⟨a0, n0, c0, a1, n1, c1, b2, b3, rfl⟩ : ∃ a0 n0 c0 a1 n1 c1 b2 b3, set = .agg #[.slice a0 n0 c0, .slice a1 n1 c1, .bool b2, .bool b3] := by
          rcases hend with ⟨_, rfl, _⟩ | ⟨_, _, lv, rfl, ho, BL, hl⟩
          · exact ⟨_, _, _, _, _, _, _, _, rfl⟩
          · obtain ⟨x, y, rfl⟩ := ho.slice
            obtain ⟨x', y', rfl⟩ := own_slice hl
            exact ⟨_, _, _, _, _, _, _, _, rfl⟩
        obtain ⟨hpat, pb, pc, rfl, hpc⟩ := pats_tgt c r hc1 hT
        clear hpat
        have kset : Keeps (fun _ => False) w3 (w3.alloc (.cells #[.slice a0 n0 c0, .slice a1 n1 c1, .bool b2, .bool b3] 47)) := (Keeps.refl _ _).alloc _
        have hset : Blk (w3.alloc (.cells #[.slice a0 n0 c0, .slice a1 n1 c1, .bool b2, .bool b3] 47)) w3.heap.size 47 #[.slice a0 n0 c0, .slice a1 n1 c1, .bool b2, .bool b3] := Blk.new _ _ _
        have hTs := hT.keeps kset (fun x => x) (fun _ x => x.elim)
        obtain ⟨hpat2, _⟩ := pats_tgt c r hc1 hTs
        go_wp2_with fail
        refine hpat2.mono ?_
        rintro e w4 ⟨rfl, rfl⟩
        clear hpat2
        have hSs := hS3.keeps kset (fun x => x)
        have hMs := hM3.keeps kset (fun x => x)
        have hDs := hD3.keeps kset (fun x => x)
        have hRs := hR3.keeps kset (fun x => x)
        have kws := kw3.trans kset
        have hpcs : (w3.alloc (.cells #[.slice a0 n0 c0, .slice a1 n1 c1, .bool b2, .bool b3] 47)).cell? ⟨pb, 0, none⟩ = some (.string ⟨(118 :: r).toArray⟩) := by
          rw [← hpc]; exact World.cell?_of_block (kset.block _ (block_lt_of_cell hpc) (fun x => x))
        generalize hws : w3.alloc (.cells #[.slice a0 n0 c0, .slice a1 n1 c1, .bool b2, .bool b3] 47) = ws at *
        go_upto_region 19 with fail
        go_cut [125] from 116 to 124 (fun v125 wx => v125 = .bool false ∧ wx = ws)
        case first =>
          cases fb
          · go_wp2_with fail
            go_meet
            case rel => exact ⟨rfl, rfl⟩
          · by_cases hj0 : j = 0
            · cases rs
              · exact absurd ⟨rfl, hj0, rfl⟩ hgood
              · have hz : ((j : Int) == 0) = true := by simp [hj0]
                clear hj0
                go_wp2_with fail
                go_meet
                case rel => exact ⟨rfl, rfl⟩
            · have hz : ((j : Int) == 0) = false := by simp; omega
              go_wp2_with fail
              go_meet
              case rel => exact ⟨rfl, rfl⟩
        case rest =>
          obtain ⟨rfl, rfl⟩ := hcut
          have ct : wc.cell? ⟨tb, 3, none⟩ = some (.int .i64 (c : Int)) := by
            have := hTs.blk.cell 3
            rw [List.length_replicate] at this
            exact this
          go_wp2_with fail
          go_loopw [159] (fun vi wr => ∃ (q : Nat), vi = .int .i64 q ∧ q ≤ j ∧ Keeps (fun _ => False) wc wr) (fun vi _ => j - (intOf vi).toNat)
          case atStart => exact ⟨0, rfl, Nat.zero_le _, Keeps.refl _ _⟩
          case round =>
            obtain ⟨q, rfl, hq, kq⟩ := hrel
            by_cases hqj : q < j
            · have hRq := hRs.keeps kq (fun x => x)
              have ci := hRq.id q hqj
              have cl := hRq.line q hqj
              have hSq := hSs.keeps kq (fun x => x)
              have s5 : wr.cell? ⟨sb, 5, none⟩ = some (.map (some mb1)) := hSq.cell 5
              have lsq := hSq.lt
              have ka : Keeps (fun _ => False) wc (wr.alloc (.cells #[.int .u64 (I q), .string (LN q)] 30)) := kq.alloc _
              have hlook := (hMs.keeps ka (fun x => x)).look (I q) (hIwf q hqj) ⟨q, hqj, rfl⟩
              have hlook2 := (hMs.keeps ka.drew (fun x => x)).look (I q) (hIwf q hqj) ⟨q, hqj, rfl⟩
              go_wp2_with fail
              go_region
              all_goals go_wp2_with fail
              go_roundw
              case rel => exact ⟨q + 1, by go_num, by omega, ka.drew⟩
              case measure => simp [intOf]; omega
            · obtain rfl : q = j := by omega
              have hSq := hSs.keeps kq (fun x => x)
              have hDq := hDs.keeps kq (fun x => x)
              have hTq := hTs.keeps kq (fun x => x) (fun _ x => x.elim)
              have hsq := hset.keeps kq (fun x => x)
              have s6 : wr.cell? ⟨sb, 6, none⟩ = some (.map (some mb2)) := hSq.cell 6
              have t4 : wr.cell? ⟨tb, 4, none⟩ = some (.slice (some ⟨pb, 0, none⟩) c pc) := hTq.blk.cell 4
              have p0 : wr.cell? ⟨pb, 0, none⟩ = some (.string ⟨(118 :: r).toArray⟩) := by
                rw [← hpcs]; exact World.cell?_of_block (kq.block _ (block_lt_of_cell hpcs) (fun x => x))
              have hlen := fun ty => hDq.len ty
              have hmx : (⟨(118 :: r).toArray⟩ : ByteArray).size ≤ maxLen := by
                show (118 :: r).toArray.size ≤ maxLen
                simp [maxLen]; omega
              have hlk := hDq.look hmx
              have hlk2 := (show Done1 wr.drew mb2 _ _ from hDq).look hmx
              have hc0 : (0 : Int) < (c : Int) := by omega
              have kqd : Keeps (fun _ => False) wc wr.drew := kq.drew
              have kwq := kws.trans kqd
              go_wp2_with fail
              go_region
              rcases hend with ⟨hne, heq, kk, rfl⟩ | ⟨rfl, rfl, lv, heq, hOw, BL, hrow⟩
              · obtain ⟨⟨rfl, rfl, rfl⟩, ⟨rfl, rfl, rfl⟩, rfl, rfl⟩ : (a0 = none ∧ n0 = 0 ∧ c0 = 0) ∧ (a1 = none ∧ n1 = 0 ∧ c1 = 0) ∧ b2 = false ∧ b3 = false := by simpa using heq
                obtain rfl : fb = !fails := by cases fb <;> cases fails <;> simp_all
                have hb1 : (!fails) ≠ fails := by cases fails <;> decide
                have hb2 : ((!fails) != fails) = true := by cases fails <;> decide
                have hb3 : (!(!fails) == fails) = true := by cases fails <;> decide
                have z0 : wr.cell? ⟨w3.heap.size, 0, none⟩ = some (.slice none 0 0) := hsq.cell 0
                have z1 : wr.cell? ⟨w3.heap.size, 1, none⟩ = some (.slice none 0 0) := hsq.cell 1
                have z2 : wr.cell? ⟨w3.heap.size, 2, none⟩ = some (.bool false) := hsq.cell 2
                have z3 : wr.cell? ⟨w3.heap.size, 3, none⟩ = some (.bool false) := hsq.cell 3
                have lz := hsq.lt
                clear hlen hlk hlk2 p0 t4 s6
                go_wp2_with fail
                refine (zero_calls _).mono ?_
                rintro e w7 ⟨rfl, k7⟩
                go_wp2_with fail
                go_ret
                exact ⟨by simp, ((kwq.alloc _).trans k7).below (Nat.le_refl _) (fun _ _ x => x)⟩
              · clear hlen hlk hlk2 p0 t4 s6
                obtain ⟨rfl, rfl, rfl, rfl⟩ : v1 = .slice a0 n0 c0 ∧ lv = .slice a1 n1 c1 ∧ b2 = fb ∧ b3 = inv := by
                  simp at heq
                  exact ⟨heq.1.symm, heq.2.1.symm, heq.2.2.1, heq.2.2.2⟩
                clear heq hws
                go_upto_region 40 with fail
                have hsz : (Sort.sort ltInt L.toArray).size = n := by rw [sort_size, HN.out]; simp
                obtain rfl : n0 = n := by
                  obtain ⟨x, y, e⟩ := hOw.slice
                  cases e
                  exact hsz
                obtain rfl : n1 = (linesOf L.toArray.toList I LN q).length := by
                  obtain ⟨x, y, e⟩ := own_slice hrow
                  cases e
                  rfl
                have kq3 : Keeps (fun _ => False) w3 wr.drew := kset.trans kqd
                have hO5 := hOw.keeps' kq3 (fun _ x => x.elim)
                have hrow5 := ownsRow_keeps' hrow kq3 (fun _ x => x.elim)
                have hI5 : Ints wr.drew (.slice ao n0 cap) L := by
                  have := HID.out.keeps kq3 (fun _ _ x => x)
                  rw [← HN.out] at this
                  exact this
                have hR5 := hRs.keeps kqd (fun x => x)
                have hset5 := hset.keeps kqd (fun x => x)
                have hl5 : L.length ≤ 1024 := by rw [← HN.out]; exact hl
                have hll : (linesOf L.toArray.toList I LN q).length ≤ 1024 := Nat.le_trans (linesOf_len _ _ _ _) hm
                obtain ⟨stb, hstb⟩ : ∃ x, x = w3.heap.size := ⟨_, rfl⟩
                rw [← hstb] at hset5 ⊢
                clear hOw hrow HID hRs hset hsq kq3 kqd kset kws kw3 hSq hDq hTq hSs hDs hTs hMs hM3 hD3 hT hS3 hR3 hpc hpcs ct hstb
                generalize wr.drew = w5 at *
                generalize hLL : linesOf L.toArray.toList I LN q = LL at *
                have HLL := hid hLL
                clear hLL
                go_wp2_with fail
                refine (sorted_calls w5 _ L hI5 hl5).mono ?_
                rintro e w6 ⟨v6, rfl, hO6, k6⟩
                obtain ⟨a6, c6, hv6⟩ := hO6.slice
                rw [hsz] at hv6
                subst hv6
                have hO56 := hO5.keeps' k6 (fun _ x => x.elim)
                have hset6 := hset5.keeps k6 (fun x => x)
                obtain ⟨Gs, hGs⟩ : ∃ G : Nat → Int, ∀ t, G t = (Sort.sort ltInt L.toArray)[t]! := ⟨fun t => (Sort.sort ltInt L.toArray)[t]!, fun _ => rfl⟩
                have hcA : ∀ t, t < n0 → ∃ b, a0 = some ⟨b, 0, none⟩ ∧ b < w6.heap.size ∧ w6.cell? ⟨b, t, none⟩ = some (.int .u64 (Gs t)) := fun t ht => by
                  have h' : Own w.heap.size w6 (.slice a0 (Sort.sort ltInt L.toArray).size c0) (Sort.sort ltInt L.toArray) := by rw [hsz]; exact hO56
                  rw [hGs]
                  exact own_cell h' t (by omega)
                have hcB : ∀ t, t < n0 → ∃ b, a6 = some ⟨b, 0, none⟩ ∧ b < w6.heap.size ∧ w6.cell? ⟨b, t, none⟩ = some (.int .u64 (Gs t)) := fun t ht => by
                  have h' : Own w5.heap.size w6 (.slice a6 (Sort.sort ltInt L.toArray).size c6) (Sort.sort ltInt L.toArray) := by rw [hsz]; exact hO6
                  rw [hGs]
                  exact own_cell h' t (by omega)
                have e0 : w6.cell? ⟨stb, 0, none⟩ = some (.slice a0 n0 c0) := hset6.cell 0
                clear hGs hO6 hO56 hO5
                go_wp2_with fail
                go_loopw [224] (fun vi wx => ∃ (x : Nat), vi = .int .i64 x ∧ x ≤ n0 ∧ Keeps (fun _ => False) w6 wx) (fun vi _ => n0 - (intOf vi).toNat)
                case atStart => exact ⟨0, rfl, Nat.zero_le _, Keeps.refl _ _⟩
                case round =>
                  obtain ⟨x, rfl, hx, kx⟩ := hrel
                  have hsx := hset6.keeps kx (fun x => x)
                  have g0 : wr.cell? ⟨stb, 0, none⟩ = some (.slice a0 n0 c0) := hsx.cell 0
                  by_cases hxn : x < n0
                  · obtain ⟨ba, rfl, hba, hca⟩ := hcA x hxn
                    obtain ⟨bb, rfl, hbb, hcb⟩ := hcB x hxn
                    have hca2 : wr.cell? ⟨ba, x, none⟩ = some (.int .u64 (Gs x)) := by rw [← hca]; exact World.cell?_of_block (kx.block _ hba (fun x => x))
                    have hcb2 : wr.cell? ⟨bb, x, none⟩ = some (.int .u64 (Gs x)) := by rw [← hcb]; exact World.cell?_of_block (kx.block _ hbb (fun x => x))
                    clear hcA hcB
                    go_wp2_with fail
                    go_quiet (fail)
                    go_wp2_with fail
                    go_roundw
                    case rel => exact ⟨x + 1, by go_num, by omega, kx.drewN _⟩
                    case measure => simp [intOf]; omega
                  · have g2 : wr.cell? ⟨stb, 2, none⟩ = some (.bool b2) := hsx.cell 2
                    have g3 : wr.cell? ⟨stb, 3, none⟩ = some (.bool b3) := hsx.cell 3
                    have k56 := k6.trans kx
                    have hRx := hR5.keeps k56 (fun x => x)
                    have hIx := hI5.keeps k56 (fun _ _ x => x)
                    have hrowx := ownsRow_keeps' hrow5 k56 (fun _ x => x.elim)
                    have kwx := kwq.trans k56
                    clear hcA hcB hR5 hI5 hrow5 k56 k6 kx hset6
                    obtain ⟨j0, hj0, hy0, hy1, hy2⟩ := info_parts info9
                    have hLq : linesOf L I LN q = LL := by simpa using HLL.out
                    have HLq := hid hLq
                    clear hLq
                    go_wp2_with fail
                    go_loopw [250, 35] (fun vi v35 wy => ∃ (y : Nat) (lv : Value), vi = .int .i64 y ∧ lv = v35 ∧ y ≤ q ∧ wy.ownsRow wr.heap.size 9 1 lv (linesOf L I LN y).length ((linesOf L I LN y).map Value.string) ∧ Keeps (fun _ => False) wr wy) (fun vi _ _ => q - (intOf vi).toNat)
                    case atStart => exact ⟨0, _, rfl, rfl, Nat.zero_le _, World.ownsRow_nil _ _ _ _, Keeps.refl _ _⟩
                    case round =>
                      obtain ⟨y, lv, rfl, rfl, hy, hown, ky⟩ := hrel
                      obtain ⟨lo, lc, rfl⟩ := own_slice hown
                      have hyl := linesOf_len L I LN y
                      have hsucc := linesOf_succ L I LN y
                      by_cases hyq : y < q
                      · have hRy := hRx.keeps ky (fun x => x)
                        have ci := hRy.id y hyq
                        have cl := hRy.line y hyq
                        have ka := ky.alloc (.cells #[.int .u64 (I y), .string (LN y)] 30)
                        have hhas := has_calls _ _ L (hIx.keeps ka (fun _ _ x => x)) hl5 (I y)
                        have hwz := ky.size
                        generalize hL2 : linesOf L I LN y = L2 at hown hsucc hyl
                        have HSC := hid hsucc
                        clear hL2 hsucc
                        by_cases hin : I y ∈ L
                        · rw [decide_eq_true hin] at hhas
                          go_wp2_with fail
                          refine hhas.mono ?_
                          rintro e w8 ⟨rfl, rfl⟩
                          clear hhas
                          go_wp2_with (at_builtin; refine wpList_append_own _ rfl _ _ 36 rfl _ 9 j0 (.string ⟨#[]⟩) 1 16 Ybaf.underlying36 hj0 hy0 hy1 hy2 rfl (by decide) _ _ _ rfl ((hown.alloc _).alloc _) ⟨wr.heap.size + 1, 0, none⟩ 1 1 [.string (LN y)] rfl rfl ?c1 ?c2 ?c3 ?c4 ?c5 ?_)
                          case c1 => exact cell_one_new' _ _ _ _ (by simp)
                          case c2 => intro u hu; simp at hu; subst hu; rfl
                          case c3 => unfold maxLen; omega
                          case c4 => omega
                          case c5 => simp; omega
                          intro v3 w9 hown3 hgrow3 _
                          obtain ⟨r3, cap3, rfl⟩ := ownsRow_succ hown3
                          go_wp2_with fail
                          go_roundw
                          case rel =>
                            have e1 : linesOf L I LN (y + 1) = L2 ++ [LN y] := by rw [HSC.out, if_pos hin]
                            refine ⟨y + 1, .slice (some ⟨r3, 0, none⟩) (L2.length + 1) cap3, by go_num, rfl, by omega, ?_, (ka.alloc _).grownNew hgrow3 fun b hb => (hown.lt b hb).1⟩
                            rw [e1, List.length_append, List.map_append]
                            exact hown3
                          case measure => simp [intOf]; omega
                        · rw [decide_eq_false hin] at hhas
                          go_wp2_with fail
                          refine hhas.mono ?_
                          rintro e w8 ⟨rfl, rfl⟩
                          clear hhas
                          go_wp2_with fail
                          go_roundw
                          case rel =>
                            have e1 : linesOf L I LN (y + 1) = L2 := by rw [HSC.out, if_neg hin, List.append_nil]
                            refine ⟨y + 1, .slice lo L2.length lc, by go_num, rfl, by omega, ?_, ka⟩
                            rw [e1]
                            exact hown.alloc _
                          case measure => simp [intOf]; omega
                      · obtain rfl : y = q := by omega
                        rw [HLq.out] at hown
                        have hLy := HLq.out
                        rw [hLy]
                        have hrowy := ownsRow_keeps' hrowx ky (fun _ x => x.elim)
                        have hsy := hsx.keeps ky (fun x => x)
                        have g1 : wr.cell? ⟨stb, 1, none⟩ = some (.slice a1 LL.length c1) := hsy.cell 1
                        have kwy := kwx.trans ky
                        clear hsucc hyl hLy hrowx hsx ky
                        go_wp2_with fail
                        go_loopw [272] (fun vi wz => ∃ (x : Nat), vi = .int .i64 x ∧ x ≤ LL.length ∧ Keeps (fun _ => False) wr wz) (fun vi _ => LL.length - (intOf vi).toNat)
                        case atStart => exact ⟨0, rfl, Nat.zero_le _, Keeps.refl _ _⟩
                        case round =>
                          obtain ⟨x, rfl, hx, kx⟩ := hrel
                          by_cases hxl : x < LL.length
                          · obtain ⟨ga, rfl, hca⟩ := row_cell hown x hxl
                            obtain ⟨gb, rfl, hcb⟩ := row_cell hrowy x hxl
                            have hca2 : wr.cell? ⟨ga, x, none⟩ = some (.string (LL.getD x ⟨#[]⟩)) := by rw [← hca]; exact World.cell?_of_block (kx.block _ (block_lt_of_cell hca) (fun x => x))
                            have hcb2 : wr.cell? ⟨gb, x, none⟩ = some (.string (LL.getD x ⟨#[]⟩)) := by rw [← hcb]; exact World.cell?_of_block (kx.block _ (block_lt_of_cell hcb) (fun x => x))
                            have g1x : wr.cell? ⟨stb, 1, none⟩ = some (.slice (some ⟨gb, 0, none⟩) LL.length c1) := by rw [← g1]; exact World.cell?_of_block (kx.block _ (block_lt_of_cell g1) (fun x => x))
                            generalize LL.getD x ⟨#[]⟩ = sx at hca2 hcb2
                            go_wp2_with fail
                            go_quiet (fail)
                            go_wp2_with fail
                            go_roundw
                            case rel => exact ⟨x + 1, by go_num, by omega, kx.drewN _⟩
                            case measure => simp [intOf]; omega
                          · go_wp2_with fail
                            go_ret
                            exact ⟨rfl, (kwy.trans kx).below (Nat.le_refl _) (fun _ _ x => x)⟩
end Go.Proofs.YbulkbrtmFmt
