import Derived.Test.YbulkbrtmFmtSortA
import Derived.Sort.LotD3
import Derived.Sort.AtCall
import Derived.Deep.CutBlock
import Derived.Deep.DeepCutAuto
set_option linter.unusedVariables false
set_option linter.unusedSimpArgs false
set_option maxHeartbeats 4000000
set_option maxRecDepth 1000000
namespace Go.Proofs.YbulkbrtmFmt
open Go.RowKit Go.Sort Go.Proofs

theorem holds_keeps {w w' : World} {blk off : Nat} {d : Array Int} {S : Nat → Prop} (h : Holds u64 w blk off d) (hb : blk < w.heap.size) (k : Keeps S w w') (hS : ¬ S blk) : Holds u64 w' blk off d := fun j hj => by
  have e := k.block blk hb hS
  simpa [World.cell?, World.frozen?, e] using h j hj

/-- The row is d; the cell that counts is cb. -/
structure Cnt (blk off cb : Nat) (d : Array Int) (s : Nat) (w : World) : Prop where
  holds : Holds u64 w blk off d
  lt : blk < w.heap.size
  ne : blk ≠ cb
  cnt : Blk w cb 3 #[.int .i64 (s : Int)]
theorem Cnt.next {blk off cb : Nat} {d : Array Int} {s s' : Nat} {w w' : World} (h : Cnt blk off cb d s w) (k : Keeps (· = cb) w w') (hb : Blk w' cb 3 #[.int .i64 (s' : Int)]) : Cnt blk off cb d s' w' :=
  ⟨holds_keeps h.holds h.lt k h.ne, Nat.lt_of_lt_of_le h.lt k.size, h.ne, hb⟩

theorem order2_calls (blk off cap cb : Nat) (d : Array Int) (n : Nat) (hn : d.size = n) (a b s : Nat) (w : World) (h : Cnt blk off cb d s w) (ha : a < n) (hb : b < n) (hs : s < 1000) :
    Calls Ybaf.prog 55 #[.slice (some ⟨blk, off, none⟩) n cap, .int .i64 a, .int .i64 b, .pointer (some ⟨cb, 0, none⟩)] w fun e w' =>
      e = .returned (.tuple #[.int .i64 (order2 ltInt d a b s).1, .int .i64 (order2 ltInt d a b s).2.1]) ∧ Keeps (· = cb) w w' ∧ Cnt blk off cb d (order2 ltInt d a b s).2.2 w' := by
  have hA := At.start h.holds h.lt
  obtain ⟨G, hG⟩ : ∃ G : Nat → Int, ∀ t, G t = d[t]! := ⟨fun t => d[t]!, fun _ => rfl⟩
  have hcw := hA.cell G hG _ hn
  have hc : w.cell? ⟨cb, 0, none⟩ = some (.int .i64 (s : Int)) := by rw [h.cnt.cell]; rfl
  have hf : w.frozen? ⟨cb, 0, none⟩ = false := h.cnt.frozen 0
  have HG : Hid (∀ t, G t = d[t]!) := hG
  clear hG
  go_enter Ybaf.func55, Ybaf.ntmps55
  go_wp2_with fail
  go_quiet (first | (go_at_call 33; refine Calls.quiet_of_same (less_calls _ _ _)))
  have hc2 : (w.drewN nq).cell? ⟨cb, 0, none⟩ = some (.int .i64 (s : Int)) := hc
  have hf2 : (w.drewN nq).frozen? ⟨cb, 0, none⟩ = false := hf
  go_wp2
  · have hl : ltInt (G b) (G a) = true := by assumption
    go_ret2
    have e : order2 ltInt d a b s = (b, a, s + 1) := by
      unfold order2; rw [if_pos (by rw [← HG.out, ← HG.out]; exact hl)]
    rw [e]
    refine ⟨rfl, ?_⟩
    have k : Keeps (· = cb) w ((w.drewN nq).setCell ⟨cb, 0, none⟩ (.int .i64 ((s : Int) + 1))) := Keeps.setCell (S := (· = cb)) (a := ⟨cb, 0, none⟩) ((Keeps.refl _ _).drewN nq) rfl _
    exact ⟨k, h.next k ((h.cnt.drewN nq).set 0 _)⟩
  · have hl : ltInt (G b) (G a) = false := by assumption
    go_ret2
    have e : order2 ltInt d a b s = (a, b, s) := by
      unfold order2; rw [if_neg (by rw [← HG.out, ← HG.out, hl]; simp)]
    rw [e]
    have k : Keeps (· = cb) w (w.drewN nq) := (Keeps.refl _ _).drewN nq
    exact ⟨rfl, k, h.next k h.cnt⟩

theorem order2_lt {n : Nat} (d : Array Int) (a b s : Nat) (ha : a < n) (hb : b < n) : (order2 ltInt d a b s).1 < n ∧ (order2 ltInt d a b s).2.1 < n ∧ (order2 ltInt d a b s).2.2 ≤ s + 1 := by
  unfold order2; split <;> exact ⟨by assumption, by assumption, by simp⟩

theorem median_calls (blk off cap cb : Nat) (d : Array Int) (n : Nat) (hn : d.size = n) (a b c s : Nat) (w : World) (h : Cnt blk off cb d s w) (ha : a < n) (hb : b < n) (hc : c < n) (hs : s < 900) :
    Calls Ybaf.prog 52 #[.slice (some ⟨blk, off, none⟩) n cap, .int .i64 a, .int .i64 b, .int .i64 c, .pointer (some ⟨cb, 0, none⟩)] w fun e w' =>
      e = .returned (.int .i64 (median ltInt d a b c s).1) ∧ Keeps (· = cb) w w' ∧ Cnt blk off cb d (median ltInt d a b c s).2 w' := by
  have h1 := order2_calls blk off cap cb d n hn a b s w h ha hb (by omega)
  have l1 := order2_lt d a b s ha hb
  generalize hr1 : order2 ltInt d a b s = r1 at h1 l1
  obtain ⟨a1, b1, s1⟩ := r1
  simp only at h1 l1
  have HR1 := hid hr1
  clear hr1
  go_enter Ybaf.func52, Ybaf.ntmps52
  go_wp2_with fail
  refine h1.mono ?_
  rintro e w1 ⟨rfl, k1, h1'⟩
  have h2 := order2_calls blk off cap cb d n hn b1 c s1 w1 h1' l1.2.1 hc (by omega)
  have l2 := order2_lt d b1 c s1 l1.2.1 hc
  generalize hr2 : order2 ltInt d b1 c s1 = r2 at h2 l2
  obtain ⟨b2, c2, s2⟩ := r2
  simp only at h2 l2
  have HR2 := hid hr2
  clear hr2
  go_wp2_with fail
  refine h2.mono ?_
  rintro e w2 ⟨rfl, k2, h2'⟩
  have h3 := order2_calls blk off cap cb d n hn a1 b2 s2 w2 h2' l1.1 l2.1 (by omega)
  generalize hr3 : order2 ltInt d a1 b2 s2 = r3 at h3
  obtain ⟨a3, b3, s3⟩ := r3
  simp only at h3
  have HR3 := hid hr3
  clear hr3
  go_wp2_with fail
  refine h3.mono ?_
  rintro e w3 ⟨rfl, k3, h3'⟩
  go_wp2_with fail
  go_ret
  have e : median ltInt d a b c s = (b3, s3) := by
    unfold median; simp only [HR1.out, HR2.out, HR3.out]
  rw [e]
  exact ⟨rfl, (k1.trans k2).trans k3, h3'⟩

theorem median_lt {n : Nat} (d : Array Int) (a b c s : Nat) (ha : a < n) (hb : b < n) (hc : c < n) : (median ltInt d a b c s).1 < n ∧ (median ltInt d a b c s).2 ≤ s + 3 := by
  unfold median
  have l1 := order2_lt d a b s ha hb
  have l2 := order2_lt d _ c (order2 ltInt d a b s).2.2 l1.2.1 hc
  have l3 := order2_lt d _ _ (order2 ltInt d (order2 ltInt d a b s).2.1 c (order2 ltInt d a b s).2.2).2.2 l1.1 l2.1
  refine ⟨l3.2.1, Nat.le_trans l3.2.2 ?_⟩
  have := l1.2.2; have := l2.2.2
  omega

theorem medianAdj_calls (blk off cap cb : Nat) (d : Array Int) (n : Nat) (hn : d.size = n) (a s : Nat) (z : Int) (hz : z = (a : Int)) (w : World) (h : Cnt blk off cb d s w) (ha : 1 ≤ a) (ha2 : a + 1 < n) (hnn : n < 4611686018427387904) (hs : s < 900) :
    Calls Ybaf.prog 51 #[.slice (some ⟨blk, off, none⟩) n cap, .int .i64 z, .pointer (some ⟨cb, 0, none⟩)] w fun e w' =>
      e = .returned (.int .i64 (medianAdjacent ltInt d a s).1) ∧ Keeps (· = cb) w w' ∧ Cnt blk off cb d (medianAdjacent ltInt d a s).2 w' := by
  subst hz
  have h1 := median_calls blk off cap cb d n hn (a - 1) a (a + 1) s w h (by omega) (by omega) (by omega) hs
  rw [show ((a - 1 : Nat) : Int) = (a : Int) - 1 by omega, show ((a + 1 : Nat) : Int) = (a : Int) + 1 by omega] at h1
  unfold medianAdjacent
  generalize median ltInt d (a - 1) a (a + 1) s = r at h1 ⊢
  go_enter Ybaf.func51, Ybaf.ntmps51
  go_wp2_with fail
  refine h1.mono ?_
  rintro e w1 ⟨rfl, k1, h1'⟩
  go_wp2_with fail
  go_ret
  exact ⟨rfl, k1, h1'⟩

theorem median_calls' (blk off cap cb : Nat) (d : Array Int) (n : Nat) (hn : d.size = n) (a b c s : Nat) (za zb zc : Int) (ea : za = (a : Int)) (eb : zb = (b : Int)) (ec : zc = (c : Int)) (w : World) (h : Cnt blk off cb d s w) (ha : a < n) (hb : b < n) (hc : c < n) (hs : s < 900) :
    Calls Ybaf.prog 52 #[.slice (some ⟨blk, off, none⟩) n cap, .int .i64 za, .int .i64 zb, .int .i64 zc, .pointer (some ⟨cb, 0, none⟩)] w fun e w' =>
      e = .returned (.int .i64 (median ltInt d a b c s).1) ∧ Keeps (· = cb) w w' ∧ Cnt blk off cb d (median ltInt d a b c s).2 w' := by
  subst ea eb ec
  exact median_calls blk off cap cb d n hn a b c s w h ha hb hc hs

def hintNo : Hint → Int
  | .unknown => 0
  | .increasing => 1
  | .decreasing => 2

def pivEnd (r : Nat × Nat) : Nat × Hint := (r.1, if r.2 = 0 then .increasing else if r.2 = 12 then .decreasing else .unknown)
theorem piv50 (d : Array Int) (a b : Nat) (h : 50 ≤ b - a) {i1 s1 j1 s2 k1 s3 : Nat} {r : Nat × Nat} (h1 : medianAdjacent ltInt d (a + (b - a) / 4) 0 = (i1, s1)) (h2 : medianAdjacent ltInt d (a + (b - a) / 4 * 2) s1 = (j1, s2))
    (h3 : medianAdjacent ltInt d (a + (b - a) / 4 * 3) s2 = (k1, s3)) (h4 : median ltInt d i1 j1 k1 s3 = r) : choosePivot ltInt d a b = pivEnd r := by
  subst h4
  unfold choosePivot
  simp only [Nat.mul_one, show b - a ≥ 8 by omega, show b - a ≥ 50 by omega, if_true, h1, h2, h3]
  rfl
theorem piv8 (d : Array Int) (a b : Nat) (h : 8 ≤ b - a) (h' : b - a < 50) {r : Nat × Nat} (h4 : median ltInt d (a + (b - a) / 4) (a + (b - a) / 4 * 2) (a + (b - a) / 4 * 3) 0 = r) : choosePivot ltInt d a b = pivEnd r := by
  subst h4
  unfold choosePivot
  simp only [Nat.mul_one, show b - a ≥ 8 by omega, show ¬ (b - a ≥ 50) by omega, if_true, if_false]
  rfl
theorem piv0 (d : Array Int) (a b : Nat) (h : b - a < 8) : choosePivot ltInt d a b = pivEnd (a + (b - a) / 4 * 2, 0) := by
  unfold choosePivot
  simp only [show ¬ (b - a ≥ 8) by omega, if_false]
  rfl

theorem Cnt.start {w : World} {blk off : Nat} {d : Array Int} (hH : Holds u64 w blk off d) (hblk : blk < w.heap.size) : Cnt blk off w.heap.size d 0 (w.alloc (.cells #[.int .i64 0] 3)) := by
  have k : Keeps (fun _ => False) w (w.alloc (.cells #[.int .i64 0] 3)) := (Keeps.refl _ _).alloc _
  exact ⟨holds_keeps hH hblk k (fun x => x), Nat.lt_of_lt_of_le hblk k.size, by omega, Blk.new _ _ _⟩
theorem At.cnt {w w1 w' : World} {blk off : Nat} {d : Array Int} (h : At w blk off d w1) (k : Keeps (· = w.heap.size) w1 w') : At w blk off d w' :=
  h.other (k.mono fun b _ e => by omega)

theorem pivot_calls (blk off cap a b : Nat) (d : Array Int) (w : World) (hH : Holds u64 w blk off d) (hblk : blk < w.heap.size) (hab : a < b) (hb : b ≤ d.size) (hsz : d.size < 4611686018427387904) :
    Calls Ybaf.prog 38 #[.slice (some ⟨blk, off, none⟩) d.size cap, .int .i64 a, .int .i64 b] w fun e w' =>
      e = .returned (.tuple #[.int .i64 (choosePivot ltInt d a b).1, .int .i64 (hintNo (choosePivot ltInt d a b).2)]) ∧ At w blk off d w' := by
  have hA := At.start hH hblk
  have hC := Cnt.start hH hblk
  have hA1 : At w blk off d (w.alloc (.cells #[.int .i64 0] 3)) := hA.other ((Keeps.refl _ _).alloc _)
  go_enter Ybaf.func38, Ybaf.ntmps38
  go_upto_if 32 with fail
  go_cut [10, 11, 12] from 32 to 48 (fun _ vj _ wx => ∃ (j s : Nat), vj = .int .i64 (j : Int) ∧ At w blk off d wx ∧ Blk wx w.heap.size 3 #[.int .i64 (s : Int)] ∧ s < 100 ∧
    Hid (choosePivot ltInt d a b = pivEnd (j, s)))
  case first =>
    by_cases h8 : 8 ≤ b - a
    · have h8z : (8 : Int) ≤ (b : Int) - (a : Int) := by omega
      by_cases h50 : 50 ≤ b - a
      · have h50z : (50 : Int) ≤ (b : Int) - (a : Int) := by omega
        go_wp2_with fail
        refine (medianAdj_calls blk off cap _ d _ rfl (a + (b - a) / 4) 0 _ (by omega) _ hC (by omega) (by omega) hsz (by omega)).mono ?_
        rintro e w2 ⟨rfl, k2, hC2⟩
        have l1 := median_lt (n := d.size) d (a + (b - a) / 4 - 1) (a + (b - a) / 4) (a + (b - a) / 4 + 1) 0 (by omega) (by omega) (by omega)
        generalize hr1 : medianAdjacent ltInt d (a + (b - a) / 4) 0 = r1 at hC2 ⊢
        unfold medianAdjacent at hr1
        rw [hr1] at l1
        obtain ⟨i1, s1⟩ := r1
        have HR1 := hid hr1
        clear hr1
        simp only at l1 hC2
        go_wp2_with fail
        refine (medianAdj_calls blk off cap _ d _ rfl (a + (b - a) / 4 * 2) s1 _ (by omega) _ hC2 (by omega) (by omega) hsz (by omega)).mono ?_
        rintro e w3 ⟨rfl, k3, hC3⟩
        have l2 := median_lt (n := d.size) d (a + (b - a) / 4 * 2 - 1) (a + (b - a) / 4 * 2) (a + (b - a) / 4 * 2 + 1) s1 (by omega) (by omega) (by omega)
        generalize hr2 : medianAdjacent ltInt d (a + (b - a) / 4 * 2) s1 = r2 at hC3 ⊢
        unfold medianAdjacent at hr2
        rw [hr2] at l2
        obtain ⟨j1, s2⟩ := r2
        have HR2 := hid hr2
        clear hr2
        simp only at l2 hC3
        go_wp2_with fail
        refine (medianAdj_calls blk off cap _ d _ rfl (a + (b - a) / 4 * 3) s2 _ (by omega) _ hC3 (by omega) (by omega) hsz (by omega)).mono ?_
        rintro e w4 ⟨rfl, k4, hC4⟩
        have l3 := median_lt (n := d.size) d (a + (b - a) / 4 * 3 - 1) (a + (b - a) / 4 * 3) (a + (b - a) / 4 * 3 + 1) s2 (by omega) (by omega) (by omega)
        generalize hr3 : medianAdjacent ltInt d (a + (b - a) / 4 * 3) s2 = r3 at hC4 ⊢
        unfold medianAdjacent at hr3
        rw [hr3] at l3
        obtain ⟨k1, s3⟩ := r3
        have HR3 := hid hr3
        clear hr3
        simp only at l3 hC4
        go_wp2_with fail
        refine (median_calls blk off cap _ d _ rfl i1 j1 k1 s3 _ hC4 l1.1 l2.1 l3.1 (by omega)).mono ?_
        rintro e w5 ⟨rfl, k5, hC5⟩
        have l4 := median_lt (n := d.size) d i1 j1 k1 s3 l1.1 l2.1 l3.1
        generalize hr4 : median ltInt d i1 j1 k1 s3 = r4 at hC5 l4 ⊢
        obtain ⟨m, s⟩ := r4
        have HP : Hid (choosePivot ltInt d a b = pivEnd (m, s)) := hid (piv50 d a b h50 HR1.out HR2.out HR3.out hr4)
        clear hr4
        simp only at hC5 l4 ⊢
        go_wp2_with fail
        go_meet
        case rel => exact ⟨m, s, rfl, (((hA1.cnt k2).cnt k3).cnt k4).cnt k5, hC5.cnt, by omega, HP⟩
      · have h50z : ¬ ((50 : Int) ≤ (b : Int) - (a : Int)) := by omega
        go_wp2_with fail
        refine (median_calls' blk off cap _ d _ rfl (a + (b - a) / 4) (a + (b - a) / 4 * 2) (a + (b - a) / 4 * 3) 0 _ _ _ (by omega) (by omega) (by omega) _ hC (by omega) (by omega) (by omega) (by omega)).mono ?_
        rintro e w2 ⟨rfl, k2, hC2⟩
        have l1 := median_lt (n := d.size) d (a + (b - a) / 4) (a + (b - a) / 4 * 2) (a + (b - a) / 4 * 3) 0 (by omega) (by omega) (by omega)
        generalize hr1 : median ltInt d (a + (b - a) / 4) (a + (b - a) / 4 * 2) (a + (b - a) / 4 * 3) 0 = r1 at hC2 l1 ⊢
        obtain ⟨m, s⟩ := r1
        have HP : Hid (choosePivot ltInt d a b = pivEnd (m, s)) := hid (piv8 d a b h8 (by omega) hr1)
        clear hr1
        simp only at hC2 l1 ⊢
        go_wp2_with fail
        go_meet
        case rel => exact ⟨m, s, rfl, hA1.cnt k2, hC2.cnt, by omega, HP⟩
    · have h8z : ¬ ((8 : Int) ≤ (b : Int) - (a : Int)) := by omega
      go_wp2_with fail
      go_meet
      case rel => exact ⟨a + (b - a) / 4 * 2, 0, by congr 1; omega, hA1, hC.cnt, by omega, hid (piv0 d a b (by omega))⟩
  case rest =>
    obtain ⟨j, s, rfl, hAx, hBx, hs, HP⟩ := hcut
    have hc : wc.cell? ⟨w.heap.size, 0, none⟩ = some (.int .i64 (s : Int)) := by rw [hBx.cell]; rfl
    by_cases h0 : s = 0
    · subst h0
      go_wp2_with fail
      go_ret2
      rw [HP.out]
      exact ⟨rfl, hAx⟩
    · have h0z : ((s : Int) == 0) = false := by simp; omega
      by_cases h12 : s = 12
      · subst h12
        go_wp2_with fail
        go_ret2
        rw [HP.out]
        exact ⟨rfl, hAx⟩
      · have h12z : ((s : Int) == 12) = false := by simp; omega
        go_wp2_with fail
        go_ret2
        rw [HP.out]
        unfold pivEnd
        rw [if_neg h0, if_neg h12]
        exact ⟨rfl, hAx⟩

end Go.Proofs.YbulkbrtmFmt
