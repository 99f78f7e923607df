import Derived.Test.YbulkbrtmFmtTrialB
import Derived.Deep.CutBlock
import Derived.Deep.DeepCutAuto
set_option linter.unusedVariables false
set_option linter.unusedSimpArgs false
set_option maxHeartbeats 8000000
set_option maxRecDepth 1000000
namespace Go.Proofs.YbulkbrtmFmt
open Go.RowKit Go.Sort Go.Proofs Go.Deep Go.Kit
open Go.Extern.Stop Go.Stop Go.Extern

theorem map_ne_blk {w : World} {m b : Nat} {k : TypeId} {n : Nat} {D : DataW Unit} {t : TypeId} {cs : Array Value} (h : w.ownsMap Ybaf.prog k (plainElem (H := Unit) Ybaf.prog 4) m n D) (hb : Blk w b t cs) : m ≠ b := by
  rintro rfl
  obtain ⟨es, c, hm, _⟩ := h
  unfold Blk at hb
  rw [hm] at hb
  cases hb
theorem map_ne_own {w : World} {m : Nat} {k : TypeId} {n : Nat} {D : DataW Unit} {base : Nat} {e : TypeId} {sz : Nat} {v : Value} {n' : Nat} {xs : List Value} (h : w.ownsMap Ybaf.prog k (plainElem (H := Unit) Ybaf.prog 4) m n D) (ho : w.ownsRow base e sz v n' xs) : some m ≠ v.ownBlock := by
  rcases ho.2 with ⟨rfl, _⟩ | ⟨g, cap, cur, rfl, _, hh, _⟩
  · simp [Value.ownBlock]
  · intro e1
    simp [Value.ownBlock] at e1
    exact map_ne_blk h (show Blk w g e cur from hh) e1
theorem Seen.ne_blk {w : World} {m b N : Nat} {S : Int → Prop} {t : TypeId} {cs : Array Value} (h : Seen w m N S) (hb : Blk w b t cs) : m ≠ b := by
  obtain ⟨D, h1, _⟩ := h
  exact map_ne_blk h1 hb
theorem Seen.ne_own {w : World} {m N : Nat} {S : Int → Prop} {base : Nat} {e : TypeId} {sz : Nat} {v : Value} {n' : Nat} {xs : List Value} (h : Seen w m N S) (ho : w.ownsRow base e sz v n' xs) : some m ≠ v.ownBlock := by
  obtain ⟨D, h1, _⟩ := h
  exact map_ne_own h1 ho

theorem Keeps.drewLeft' {S : Nat → Prop} {w w' : World} (h : Keeps S w w'.drew) : Keeps S w w'.drew := h
theorem Tgt.stores {w : World} {tb base : Nat} {fb : Bool} {ra : Option Addr} {rn rc : Nat} {er : Value} {ps : List ByteArray} {pv : Value} {ob : Nat} {cs : Array Value} (h : Tgt w tb base fb ra rn rc er ps pv) (hq : Blk w ob 33 cs) (u v : Value) : Tgt ((w.setCell ⟨ob, 0, none⟩ u).setCell ⟨ob, 1, none⟩ v) tb base fb ra rn rc er ps pv := by
  have hb : tb ≠ ob := blk_ne h.blk hq (by decide)
  have ho : some ob ≠ pv.ownBlock := own_ne h.own hq (by decide)
  exact ⟨(h.blk.setOther hb _).setOther hb _, ownsRow_store (ownsRow_store h.own ho _ _) ho _ _, h.lo, by simp [World.setCell]; exact h.hi, h.few⟩
theorem Blk.stores' {w : World} {k ob : Nat} {t : TypeId} {cs cs' : Array Value} (h : Blk w k t cs) (hq : Blk w ob 33 cs') (hn : k ≠ ob) (u v : Value) : Blk ((w.setCell ⟨ob, 0, none⟩ u).setCell ⟨ob, 1, none⟩ v) k t cs :=
  (h.setOther hn _).setOther hn _

def firstCells (k : Nat) (fb : Bool) (rb rn : Nat) : Array Value := if k = 0 then #[.bool false, .slice none 0 0] else #[.bool fb, .slice (some ⟨rb, 0, none⟩) rn rn]

theorem trial_ok (F : Interp) (w : World) (sb tb rb m1 m2 : Nat) (checks : Int) (rs fb fails inv : Bool) (rn : Nat) (I : Nat → Int) (T : Nat → ByteArray) (p : ByteArray) (hp : p.size ≤ maxLen) (n : Nat) (hn : 1 ≤ n) (hn3 : n ≤ 3) (hrn : rn ≤ 1024)
    (hwf : ∀ t, t < rn → (Lit.int .u64 (I t)).wf = true) (hgo : ¬ (fb = true ∧ rn = 0 ∧ rs = false)) (hm12 : m1 ≠ m2)
    (hS : Blk w sb 45 (sCells tb checks rs (.map (some m1)) (.map (some m2)) fails inv)) (hT : Tgt w tb w.heap.size fb (some ⟨rb, 0, none⟩) rn rn .nilIface [] (.slice none 0 0))
    (hRp : Reps w rb rn I T) (hM1 : Seen w m1 0 (fun _ => False)) (hM2 : Done0 w m2) :
    Calls Ybaf.prog 14 #[.pointer (some ⟨sb, 0, none⟩), .string p, .int .i64 (n : Int)] w fun e w' => e = .returned (.tuple #[.agg #[.bool fb, .slice (some ⟨rb, 0, none⟩) rn rn], .nilIface]) ∧
      (∃ pv, Tgt w' tb w.heap.size fb (some ⟨rb, 0, none⟩) rn rn .nilIface (List.replicate n p) pv) ∧ Seen w' m1 5000 (fun x => ∃ t, t < rn ∧ I t = x) ∧ Done1 w' m2 p fb ∧ Keeps (fun b => b = tb ∨ b = m1 ∨ b = m2) w w' := by
  have hna := nil_run
  have hme := method_run
  have hsl := hS.lt
  have htl := hT.blk.lt
  have hst : sb ≠ tb := blk_ne hS hT.blk (by decide)
  have hsm : sb ≠ m1 := Ne.symm (hM1.ne_blk hS)
  have htm : tb ≠ m1 := Ne.symm (hM1.ne_blk hT.blk)
  have hm1l := hM1.lt
  have HT := hid hT
  go_enter Ybaf.func14, Ybaf.ntmps14
  go_wp2_with fail
  go_loopw [17] (fun vi wr => ∃ (k : Nat) (pv : Value), vi = .int .i64 k ∧ k ≤ n ∧ Tgt wr tb w.heap.size fb (some ⟨rb, 0, none⟩) rn rn .nilIface (List.replicate k p) pv ∧ Seen wr m1 (k * 1024) (fun x => 0 < k ∧ ∃ t, t < rn ∧ I t = x) ∧
      Blk wr w.heap.size 33 #[.bool false, .slice none 0 0] ∧ Blk wr (w.heap.size + 1) 33 (firstCells k fb rb rn) ∧ Keeps (fun b => b = tb ∨ b = m1) w wr) (fun vi _ => n - (intOf vi).toNat)
  case atStart =>
    have k2 : Keeps (fun _ => False) w ((w.alloc (.cells #[.bool false, .slice none 0 0] 33)).alloc (.cells #[.bool false, .slice none 0 0] 33)) := ((Keeps.refl _ _).alloc _).alloc _
    refine ⟨0, .slice none 0 0, rfl, Nat.zero_le _, hT.keeps k2 (fun x => x) (fun _ x => x.elim), (hM1.keeps k2 (fun x => x)).mono (Nat.le_refl _) (fun x h => by omega), (Blk.new _ _ _).alloc _, ?_, k2.mono fun _ _ x => x.elim⟩
    have := Blk.new (w.alloc (.cells #[.bool false, .slice none 0 0] 33)) 33 #[.bool false, .slice none 0 0]
    rw [World.size_alloc] at this
    exact this
  case round =>
    obtain ⟨k, pv, rfl, hk, hTk, hMk, hR0, hR1, kw⟩ := hrel
    have hSk := hS.keeps kw (fun h => h.elim hst hsm)
    have c0 : wr.cell? ⟨sb, 0, none⟩ = some (.iface 31 (.pointer (some ⟨tb, 0, none⟩))) := hSk.cell 0
    by_cases hlt : k < n
    · go_wp2_with fail
      refine (run_calls _ tb w.heap.size fb (some ⟨rb, 0, none⟩) rn rn _ _ pv p hTk (by simp; omega)).mono ?_
      rintro e w3 ⟨rfl, ⟨pv3, hT3⟩, k3⟩
      have keep : ∀ {b : Nat} {t : TypeId} {cs : Array Value}, Blk wr b t cs → t ≠ 38 → t ≠ 9 → Blk w3 b t cs := fun {b t cs} h h1 h2 => h.keeps k3 (fun hh => hh.elim (blk_ne h hTk.blk h1) (own_ne hTk.own h h2))
      have hS3 := keep hSk (by decide) (by decide)
      have hR03 := keep hR0 (by decide) (by decide)
      have hR13 := keep hR1 (by decide) (by decide)
      have hM3 := hMk.keeps k3 (fun hh => hh.elim (fun e => htm e.symm) (hMk.ne_own hTk.own))
      have s4 : w3.cell? ⟨sb, 4, none⟩ = some (.bool rs) := hS3.cell 4
      have ls3 := hS3.lt
      have kO : Keeps (fun _ => False) w3 (w3.alloc (.cells #[.bool fb, .slice (some ⟨rb, 0, none⟩) rn rn] 33)) := (Keeps.refl _ _).alloc _
      have hOb : Blk (w3.alloc (.cells #[.bool fb, .slice (some ⟨rb, 0, none⟩) rn rn] 33)) w3.heap.size 33 #[.bool fb, .slice (some ⟨rb, 0, none⟩) rn rn] := Blk.new _ _ _
      go_upto_region 8 with fail
      go_cut [51] from 37 to 50 (fun v51 wx => v51 = .bool false ∧ wx = w3.alloc (.cells #[.bool fb, .slice (some ⟨rb, 0, none⟩) rn rn] 33))
      case first =>
        cases fb
        · go_wp2_with fail
          go_meet
          case rel => exact ⟨rfl, rfl⟩
        · by_cases h0 : rn = 0
          · cases rs
            · exact absurd ⟨rfl, h0, rfl⟩ hgo
            · subst h0
              go_wp2_with fail
              go_meet
              case rel => exact ⟨rfl, rfl⟩
          · have hz : ((rn : Int) == 0) = false := by simp; omega
            go_wp2_with fail
            go_meet
            case rel => exact ⟨rfl, rfl⟩
      case rest =>
        obtain ⟨rfl, rfl⟩ := hcut
        have hS4 := hS3.keeps kO (fun x => x)
        have hR04 := hR03.keeps kO (fun x => x)
        have hR14 := hR13.keeps kO (fun x => x)
        have hM4 := hM3.keeps kO (fun x => x)
        have hT4 := hT3.keeps kO (fun x => x) (fun _ x => x.elim)
        have kw4 : Keeps (fun b => b = tb ∨ b = m1) w (w3.alloc (.cells #[.bool fb, .slice (some ⟨rb, 0, none⟩) rn rn] 33)) := by
          refine ⟨kO.os.trans (k3.os.trans kw.os), kO.tape.trans (k3.tape.trans kw.tape), kO.output.trans (k3.output.trans kw.output), Nat.le_trans kw.size (Nat.le_trans k3.size kO.size), fun b hb hs => ?_⟩
          refine (kO.block b (Nat.lt_of_lt_of_le hb (Nat.le_trans kw.size k3.size)) (fun x => x)).trans ((k3.block b (Nat.lt_of_lt_of_le hb kw.size) (fun hh => hh.elim (fun e => hs (Or.inl e)) (fun e => ?_))).trans (kw.block b hb hs))
          have := (hTk.own.lt b e.symm).1
          omega
        have hRp4 := hRp.keeps kw4 (fun hh => hh.elim (fun e => by obtain ⟨cs, hb, _⟩ := hRp; exact blk_ne hb hT.blk (by decide) e) (fun e => by obtain ⟨cs, hb, _⟩ := hRp; exact hM1.ne_blk hb e.symm))
        have hO4 : w3.heap.size < (w3.alloc (.cells #[.bool fb, .slice (some ⟨rb, 0, none⟩) rn rn] 33)).heap.size := hOb.lt
        have hob1 : w3.heap.size ≠ m1 := by have := hM3.lt; omega
        have hge : w.heap.size + 1 < w3.heap.size := hR13.lt
        clear hS3 hR03 hR13 hM3 hT3 kO k3 keep s4 hR0 hR1 hTk hMk hSk c0 kw ls3
        generalize (w3.alloc (.cells #[.bool fb, .slice (some ⟨rb, 0, none⟩) rn rn] 33)) = w4 at *
        generalize w3.heap.size = ob at *
        have o1 : w4.cell? ⟨ob, 1, none⟩ = some (.slice (some ⟨rb, 0, none⟩) rn rn) := hOb.cell 1
        go_wp2_with fail
        go_loopw [62] (fun vj wr2 => ∃ (j : Nat), vj = .int .i64 j ∧ j ≤ rn ∧ Seen wr2 m1 (k * 1024 + j) (fun x => (0 < k ∧ ∃ t, t < rn ∧ I t = x) ∨ ∃ t, t < j ∧ I t = x) ∧ Keeps (fun b => b = m1) w4 wr2) (fun vj _ => rn - (intOf vj).toNat)
        case atStart => exact ⟨0, rfl, Nat.zero_le _, hM4.mono (Nat.le_refl _) (fun x h => h.elim id (fun ⟨t, ht, _⟩ => by omega)), Keeps.refl _ _⟩
        case round =>
          obtain ⟨j, rfl, hj, hMj, kj⟩ := hrel
          have hSj := hS4.keeps kj hsm
          have hOj := hOb.keeps kj hob1
          have lsj := hSj.lt
          by_cases hjr : j < rn
          · have hRj := hRp4.keeps kj (fun e => by obtain ⟨cs, hb, _⟩ := hRp4; exact hM4.ne_blk hb e.symm)
            have ci := hRj.id j hjr
            have cl := hRj.line j hjr
            have ka : Keeps (fun _ => False) wr (wr.alloc (.cells #[.int .u64 (I j), .string (T j)] 30)).drew := ((Keeps.refl _ _).alloc _).drew
            obtain ⟨w5, hup, hM5, k5⟩ := (hMj.keeps ka (fun x => x)).update (by omega) (I j) (hwf j hjr)
            have s5 : wr.cell? ⟨sb, 5, none⟩ = some (.map (some m1)) := hSj.cell 5
            go_wp2_with fail
            go_region
            go_wp2_with fail
            go_roundw
            case rel =>
              refine ⟨j + 1, by go_num, by omega, hM5.mono (by omega) (fun x h => ?_), (kj.trans (ka.drewLeft'.mono fun _ _ x => x.elim)).trans k5⟩
              rcases h with h | ⟨t, ht, e⟩
              · exact Or.inr (Or.inl h)
              · by_cases e2 : t = j
                · subst e2; exact Or.inl e.symm
                · exact Or.inr (Or.inr ⟨t, by omega, e⟩)
            case measure => simp [intOf]; omega
          · obtain rfl : j = rn := by omega
            have hMe : Seen wr m1 ((k + 1) * 1024) (fun x => 0 < k + 1 ∧ ∃ t, t < j ∧ I t = x) := hMj.mono (by omega) (fun x h => Or.inr h.2)
            have hT5 := hT4.keeps kj htm (fun b e => by omega)
            have hR05 := hR04.keeps kj (by omega)
            have hR15 := hR14.keeps kj (by omega)
            have kw5 : Keeps (fun b => b = tb ∨ b = m1) w wr := kw4.trans (kj.mono fun _ _ e => Or.inr e)
            have hrep : List.replicate k p ++ [p] = List.replicate (k + 1) p := by rw [List.replicate_succ']
            rw [hrep] at hT5
            have p0 : wr.cell? ⟨ob, 0, none⟩ = some (.bool fb) := hOj.cell 0
            have p1 : wr.cell? ⟨ob, 1, none⟩ = some (.slice (some ⟨rb, 0, none⟩) j j) := hOj.cell 1
            by_cases hk0 : k = 0
            · subst hk0
              have q0 : wr.cell? ⟨w.heap.size + 1, 0, none⟩ = some (.bool false) := hR15.cell 0
              have q1 : wr.cell? ⟨w.heap.size + 1, 1, none⟩ = some (.slice none 0 0) := hR15.cell 1
              have r0 := hR15.frozen 0
              have r1 := hR15.frozen 1
              have lR := hR15.lt
              go_wp2_with fail
              go_roundw
              case rel =>
                refine ⟨1, pv3, by go_num, by omega, hT5.stores hR15 _ _, hMe.keeps (((Keeps.refl _ _).setCell (S := fun b => b = w.heap.size + 1) (a := ⟨w.heap.size + 1, 0, none⟩) rfl _).setCell (a := ⟨w.heap.size + 1, 1, none⟩) rfl _) (by omega), hR05.stores' hR15 (by omega) _ _, (hR15.set 0 _).set 1 _, (kw5.setNew (a := ⟨w.heap.size + 1, 0, none⟩) (by simp) _).setNew (a := ⟨w.heap.size + 1, 1, none⟩) (by simp) _⟩
              case measure => simp [intOf]; omega
            · have hkz : ((k : Int) == 0) = false := by simp; omega
              have hfc : firstCells k fb rb j = #[.bool fb, .slice (some ⟨rb, 0, none⟩) j j] := if_neg hk0
              have hfc1 : firstCells (k + 1) fb rb j = #[.bool fb, .slice (some ⟨rb, 0, none⟩) j j] := if_neg (by omega)
              rw [hfc] at hR15
              have q0 : wr.cell? ⟨w.heap.size + 1, 0, none⟩ = some (.bool fb) := hR15.cell 0
              go_wp2_with fail
              go_roundw
              case rel => exact ⟨k + 1, pv3, by go_num, by omega, hT5, hMe, hR05, by rw [hfc1]; exact hR15, kw5⟩
              case measure => simp [intOf]; omega
    · obtain rfl : k = n := by omega
      have hfc : firstCells k fb rb rn = #[.bool fb, .slice (some ⟨rb, 0, none⟩) rn rn] := if_neg (by omega)
      rw [hfc] at hR1
      have ht2 : m2 ≠ tb := map_ne_blk hM2 hT.blk
      have hDk := hM2.keeps kw (fun h => h.elim ht2 (fun e => hm12 e.symm))
      have hlk := hDk.look p hp
      obtain ⟨w5, hup, hD5, k5⟩ := (show Done0 wr.drew m2 from hDk).update p hp fb
      have n0 : w.heap.size ≠ m2 := Ne.symm (map_ne_blk hDk hR0)
      have n1 : w.heap.size + 1 ≠ m2 := Ne.symm (map_ne_blk hDk hR1)
      have s6 : wr.cell? ⟨sb, 6, none⟩ = some (.map (some m2)) := hSk.cell 6
      have q0 : wr.cell? ⟨w.heap.size + 1, 0, none⟩ = some (.bool fb) := hR1.cell 0
      have hR15 := (show Blk wr.drew (w.heap.size + 1) 33 _ from hR1).keeps k5 n1
      have hR05 := (show Blk wr.drew w.heap.size 33 _ from hR0).keeps k5 n0
      have a0 : w5.cell? ⟨w.heap.size + 1, 0, none⟩ = some (.bool fb) := hR15.cell 0
      have a1 : w5.cell? ⟨w.heap.size + 1, 1, none⟩ = some (.slice (some ⟨rb, 0, none⟩) rn rn) := hR15.cell 1
      have b0 : w5.cell? ⟨w.heap.size, 0, none⟩ = some (.bool false) := hR05.cell 0
      have b1 : w5.cell? ⟨w.heap.size, 1, none⟩ = some (.slice none 0 0) := hR05.cell 1
      have r0 := hR05.frozen 0
      have r1 := hR05.frozen 1
      have lR := hR05.lt
      go_wp2_with fail
      go_region
      go_wp2_with fail
      have hR6 : Blk ((w5.setCell ⟨w.heap.size, 0, none⟩ (.bool fb)).setCell ⟨w.heap.size, 1, none⟩ (.slice (some ⟨rb, 0, none⟩) rn rn)) w.heap.size 33 #[.bool fb, .slice (some ⟨rb, 0, none⟩) rn rn] := (hR05.set 0 _).set 1 _
      refine bodyPost_ret (results_row_tmp rfl _ _ w.heap.size 33 #[.bool fb, .slice (some ⟨rb, 0, none⟩) rn rn] _ rfl hR6 Ybaf.underlying33 rfl size33) rfl ?_
      have kst : Keeps (fun b => b = w.heap.size) w5 ((w5.setCell ⟨w.heap.size, 0, none⟩ (.bool fb)).setCell ⟨w.heap.size, 1, none⟩ (.slice (some ⟨rb, 0, none⟩) rn rn)) :=
        ((Keeps.refl _ _).setCell (S := fun b => b = w.heap.size) (a := ⟨w.heap.size, 0, none⟩) rfl _).setCell (a := ⟨w.heap.size, 1, none⟩) rfl _
      have kwr : Keeps (fun b => b = m2) wr w5 := ⟨k5.os, k5.tape, k5.output, k5.size, k5.block⟩
      have hT5 := hTk.keeps kwr (Ne.symm ht2) (fun b e => by have := World.ownsMap.lt hM2; omega)
      have hM5 := hMk.keeps kwr hm12
      refine ⟨rfl, ⟨pv, hT5.stores hR05 _ _⟩, (hM5.keeps kst (by omega)).mono (by omega) (fun x h => ⟨by omega, h⟩), hD5.keeps kst (Ne.symm n0), ?_⟩
      exact (((kw.mono fun b _ h => h.elim Or.inl (fun e => Or.inr (Or.inl e))).trans (kwr.mono fun b _ e => Or.inr (Or.inr e))).setNew (a := ⟨w.heap.size, 0, none⟩) (Nat.le_refl _) _).setNew (a := ⟨w.heap.size, 1, none⟩) (Nat.le_refl _) _
end Go.Proofs.YbulkbrtmFmt
