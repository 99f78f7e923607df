import Derived.Test.YbulkbrrwMins
import Derived.Deep.DeepCutAuto
import Derived.Deep.CutBlock
import Derived.OpenShut
namespace Go.Proofs.Ybulkbrrw
open Go.RowKit Go.Deep Go.Maps
set_option linter.unusedVariables false
set_option linter.unusedSimpArgs false
attribute [local go_sem ↓] Go.wp_at_zero Go.wp_at_succ

set_option maxRecDepth 100000 in
set_option maxHeartbeats 4000000 in
theorem law3 (wi : World) (ao : Option Addr) (n0 cap0 : Nat) (a1 a2 a3 a4 a6 a7 : Int) (a5 : Bool) (h300 : n0 ≤ 300) (h1 : (Lit.int .u64 a1).wf = true) (h2 : (Lit.int .u64 a2).wf = true) (h4 : (Lit.int .u8 a4).wf = true)
    (hin : n0 = 0 ∨ ∃ b off hdF rcF fiF laF, ao = some ⟨b, off, none⟩ ∧ n0 ≤ cap0 ∧ Ins wi b off n0 hdF rcF fiF laF) :
    Calls Yba.prog 3 #[.slice ao n0 cap0, .int .u64 a1, .int .u64 a2, .int .i64 a3, .int .u8 a4, .bool a5, .int .i64 a6, .int .u64 a7] wi fun e w' => e = .returned (.bool true) ∧ Below wi.heap.size wi w' := by
  have hn30 : ¬ (300 : Int) < (n0 : Int) := by omega
  have HIN : Hid (n0 = 0 ∨ ∃ b off hdF rcF fiF laF, ao = some ⟨b, off, none⟩ ∧ n0 ≤ cap0 ∧ Ins wi b off n0 hdF rcF fiF laF) := hin
  clear hin
  go_enter Yba.func3, Yba.ntmps3
  go_upto_if 44 with fail
  go_cut [17] from 38 to 46 (fun l wx => ∃ b off n cap hdF rcF fiF laF, l = .slice (some ⟨b, off, none⟩) n cap ∧ 0 < n ∧ n ≤ 300 ∧ n ≤ cap ∧ Ins wx b off n hdF rcF fiF laF ∧ Below wi.heap.size wi wx)
  case first =>
    rcases HIN.out with h | ⟨b, off, hdF, rcF, fiF, laF, rfl, hc, hI⟩
    · subst h
      go_wp2_with fail
      go_meet
      case rel =>
        exact ⟨wi.heap.size, 0, 1, 1, fun _ => 0, fun _ => 0, fun _ => 0, fun _ => 0, rfl, by omega, by omega, by omega, ins_zero wi, (Below.refl _ wi).alloc (Nat.le_refl _) _⟩
    · by_cases h0 : n0 = 0
      · subst h0
        go_wp2_with fail
        go_meet
        case rel =>
          exact ⟨wi.heap.size, 0, 1, 1, fun _ => 0, fun _ => 0, fun _ => 0, fun _ => 0, rfl, by omega, by omega, by omega, ins_zero wi, (Below.refl _ wi).alloc (Nat.le_refl _) _⟩
      · have h0' : ((n0 : Int) == 0) = false := by simp; omega
        go_wp2_with fail
        go_meet
        case rel => exact ⟨b, off, n0, cap0, hdF, rcF, fiF, laF, rfl, by omega, by omega, hc, hI, Below.refl _ _⟩
  case rest =>
  obtain ⟨b, off, n, cap, hdF, rcF, fiF, laF, rfl, hn0, hn, hcap, ⟨hb, hrc, c0, c1, c2, c3⟩, belw⟩ := hcut
  obtain ⟨w, hw⟩ : ∃ w, w = wc := ⟨_, rfl⟩
  subst hw
  have hn3 : ¬ (300 : Int) < (n : Int) := by omega
  have hne : ((n : Int) == 0) = false := by simp; omega
  have hmk := run_make_row' (P := Yba.prog) 52 53 (.pointer none) 8 Yba.underlying52 Yba.info53 rfl .i64 .i64 n (by omega) (by omega)
  have hE0 : Blk (w.alloc (.cells (ecells a7 0 0) 49)) w.heap.size 49 (ecells a7 0 0) := Blk.new _ _ _
  have hQ1 := queue6 (w.alloc (.cells (ecells a7 0 0) 49)) 1
  go_wp2_with fail
  refine hQ1.mono ?_
  rintro e w2 ⟨rfl, hm1, hq1, hk1, hz1⟩
  clear hQ1
  simp only [World.size_alloc] at hm1 hq1 hz1 ⊢
  have hE2 := hE0.keeps hk1 (by simp)
  have bel2 : Below w.heap.size w w2 := ((Below.refl _ w).alloc (Nat.le_refl _) _).trans (hk1.below (by rw [World.size_alloc]; omega) (by simp))
  have hQ2 := queue6 w2 2
  clear hE0 hk1
  have HZ1 : Hid (w2.heap.size = w.heap.size + 1 + 6) := hz1
  have HA : Hid (MapAt w2 (w.heap.size + 1) 0 (.map []) ∧ (∀ D base, w.heap.size + 1 + 6 ≤ base → QH w2 D base (w.heap.size + 1) 1 nilV nilX) ∧ Blk w2 w.heap.size 49 (ecells a7 0 0) ∧ Below w.heap.size w w2) := ⟨hm1, hq1, hE2, bel2⟩
  clear hz1 hm1 hq1 hE2 bel2
  go_wp2_with fail
  refine hQ2.mono ?_
  rintro e w3 ⟨rfl, hm2, hq2, hk2, hz2⟩
  clear hQ2
  obtain ⟨hm1, hq1, hE2, bel2⟩ := HA.out
  obtain ⟨s, hs⟩ : ∃ s, s = w.heap.size + 1 := ⟨_, rfl⟩
  obtain ⟨s2, hs2⟩ : ∃ s2, s2 = w2.heap.size := ⟨_, rfl⟩
  obtain ⟨R, hR⟩ : ∃ R, R = w3.heap.size := ⟨_, rfl⟩
  have hse : s2 = s + 6 := by rw [hs2, HZ1.out, hs]
  have hRe : R = s + 12 := by rw [hR, hz2, ← hs2, hse]
  have hwe : w.heap.size = s - 1 ∧ 1 ≤ s := by omega
  rw [← hs] at hm1 hq1 ⊢
  rw [← hs2] at hm2 hq2 ⊢
  have start : Inv w w.heap.size (R + 1) s s2 w.heap.size R n a7 (recF hdF rcF fiF laF) 0 (w3.alloc (.cells (madeCells #[.pointer none] n) 53)) [] (recF hdF rcF fiF laF) nilV nilX := by
    have k3 : Keeps (fun _ => False) w2 (w3.alloc (.cells (madeCells #[.pointer none] n) 53)) := hk2.alloc _
    have k4 : Keeps (fun _ => False) w3 (w3.alloc (.cells (madeCells #[.pointer none] n) 53)) := (Keeps.refl _ _).alloc _
    refine ⟨rfl, ?_, ?_, MapAt.keeps hm1 k3 (by simp), MapAt.keeps hm2 k4 (by simp), hE2.keeps k3 (by simp), ⟨madeCells #[.pointer none] n, by rw [hR]; exact Blk.new _ _ _, by simp [madeCells], by simp⟩, by simp, by simp, by simp [nilX], by simp [nilX], ?_, ?_, ?_⟩
    · exact (hq1 (recF hdF rcF fiF laF) _ (by omega)).frame k3 (by simp) (by simp) (by simp) (by simp [nilX])
    · exact (hq2 (recF hdF rcF fiF laF) _ (by omega)).frame k4 (by simp) (by simp) (by simp) (by simp [nilX])
    · exact bel2.trans (k3.below (by rw [HZ1.out]; omega) (by simp))
    · rw [World.size_alloc, ← hR]; omega
    · refine ⟨by omega, by omega, by omega, by omega, by omega, by omega, by simp⟩
  have HW : Hid (w.heap.size = s - 1 ∧ 1 ≤ s ∧ s2 = s + 6 ∧ R = s + 12) := ⟨hwe.1, hwe.2, hse, hRe⟩
  have hstart : Hid _ := start
  have hRw : w3.heap.size = R := hR.symm
  obtain ⟨E, hE⟩ : ∃ E, E = w.heap.size := ⟨_, rfl⟩
  clear hm1 hq1 hE2 bel2 hm2 hq2 hk2 hz2 hs hs2 hR hse hRe hwe HA HZ1 start
  rw [← hE]
  have HE : Hid (E = w.heap.size) := hE
  clear hE
  go_wp2_with fail
  go_loopw [22] (fun q wr => ∃ (i : Nat) (L : List Nat) (D : Nat → Rec) (v : Nat → Value) (X : Nat → List Nat), i ≤ n ∧ q = .int .i64 i ∧ Inv w w.heap.size (R + 1) s s2 E R n a7 (recF hdF rcF fiF laF) i wr L D v X) (fun q _ => n - (intOf q).toNat)
  case atStart =>
    refine ⟨0, [], recF hdF rcF fiF laF, nilV, nilX, Nat.zero_le _, rfl, ?_⟩
    rw [HE.out]
    exact hstart.out
  case round =>
    obtain ⟨i, L, D, v, X, hi, rfl, inv⟩ := hrel
    have hlo : w.heap.size ≤ wr.heap.size := inv.below.size
    by_cases hlt : i < n
    · have d0 : wr.cell? ⟨b, off + i * 4, none⟩ = some (.int .i64 (hdF i)) := (inv.below.cell (p := ⟨b, off + i * 4, none⟩) hb).trans (c0 i hlt)
      have d1 : wr.cell? ⟨b, off + i * 4 + 1, none⟩ = some (.int .i8 (rcF i)) := (inv.below.cell (p := ⟨b, off + i * 4 + 1, none⟩) hb).trans (c1 i hlt)
      have d2 : wr.cell? ⟨b, off + i * 4 + 2, none⟩ = some (.int .i64 (fiF i)) := (inv.below.cell (p := ⟨b, off + i * 4 + 2, none⟩) hb).trans (c2 i hlt)
      have d3 : wr.cell? ⟨b, off + i * 4 + 3, none⟩ = some (.int .i64 (laF i)) := (inv.below.cell (p := ⟨b, off + i * 4 + 3, none⟩) hb).trans (c3 i hlt)
      have hrci := hrc i
      obtain ⟨rs, hr, hrs, hrj⟩ := inv.row
      obtain ⟨x1, r1⟩ : ∃ x, wr.cell? ⟨R, i, none⟩ = some x := ⟨rs[i]'(by omega), by rw [hr.cell i]; simp [hrs, hlt]⟩
      have HR : Hid (Blk wr R 53 rs) := hr
      have rf := hr.frozen i
      have hRl := hr.lt
      have i1 : (i : Int) < (n : Int) := by omega
      have hbl : b < wr.heap.size := by omega
      have hSt := fun W g k hg hgl hR => inv_add inv hlt hn (W := W) (g := g) rfl k hg hgl hr hrs hrj hR
      have HST : Hid _ := hSt
      clear hSt inv hr hrs hrj c0 c1 c2 c3
      go_wp2_with fail
      refine (HST.out _ (wr.heap.size + 1) ?k1 ?k2 (by omega) ?k3).mono ?_
      case k1 => exact (((Keeps.refl (fun b => b = R) wr).setCell (a := ⟨R, i, none⟩) rfl _).alloc _).alloc _
      case k2 => exact new_at _ 61 (recF hdF rcF fiF laF i).cells _ (by simp [World.setCell])
      case k3 => exact ((HR.out.set i _).alloc _).alloc _
      rintro e w5 ⟨rfl, D5, v5, X5, inv5⟩
      have HI5 : Hid _ := inv5
      clear inv5 d0 d1 d2 d3 r1 rf
      go_wp2
      go_roundw
      case rel => exact ⟨i + 1, _, D5, v5, X5, by omega, by go_num, HI5.out⟩
      case measure => simp [intOf]; omega
    · obtain rfl : i = n := by omega
      clear c0 c1 c2 c3
      have ha1 := bounds_u64 h1
      have hi1 : (0 : Int) < (i : Int) := by omega
      have hm0 := Int.emod_nonneg a1 (show (i : Int) ≠ 0 by omega)
      have hm1 := Int.emod_lt_of_pos a1 hi1
      obtain ⟨kk, hkk⟩ : ∃ kk : Nat, a1 % (i : Int) = (kk : Int) := ⟨(a1 % (i : Int)).toNat, by omega⟩
      have hkl : kk < i := by omega
      have hkl1 : (kk : Int) < (i : Int) := by omega
      clear hm0 hm1
      obtain ⟨g, hgk⟩ : ∃ g, L[kk]? = some g := ⟨L[kk]'(by rw [inv.len]; exact hkl), by simp⟩
      obtain ⟨rs, hr, hrs, hrj⟩ := inv.row
      have r1 : wr.cell? ⟨R, kk, none⟩ = some (.pointer (some ⟨g, 0, none⟩)) := by rw [hr.cell kk]; exact hrj kk g hgk
      have hgL : g ∈ L := List.mem_iff_getElem?.2 ⟨_, hgk⟩
      have hgm := inv.mem g hgL
      have hgB := (inv.q.heap 3 (by omega)).msg g hgm.2
      obtain ⟨pa, pb, hDg⟩ := inv.rcd kk g hgk
      have g0 : wr.cell? ⟨g, 0, none⟩ = some (.int .u64 ((kk : Int) + 1)) := by rw [hgB.cell 0, hDg]; rfl
      have g44 : wr.cell? ⟨g, 44, none⟩ = some (.int .i64 (fiF kk)) := by rw [hgB.cell 44, hDg]; rfl
      have g45 : wr.cell? ⟨g, 45, none⟩ = some (.int .i64 (laF kk)) := by rw [hgB.cell 45, hDg]; rfl
      have e16 : wr.cell? ⟨E, 16, none⟩ = some (.int .i64 (64 * (i : Int))) := inv.eng.cell 16
      have e17 : wr.cell? ⟨E, 17, none⟩ = some (.int .i64 (i : Int)) := inv.eng.cell 17
      have HINV : Hid (Inv w w.heap.size (R + 1) s s2 E R i a7 (recF hdF rcF fiF laF) i wr L D v X) := inv
      have HG : Hid (L[kk]? = some g ∧ g ∈ L ∧ g ∈ X (cls (D g)) ∧ g ∈ X 3 ∧ D g = ((recF hdF rcF fiF laF kk).put false pa).put true pb) := ⟨hgk, hgL, hgm.1, hgm.2, hDg⟩
      clear inv hgk hgL hgm hDg hgB hr hrs hrj
      go_wp2
      go_quiet (fail)
      go_wp2
      go_quiet (fail)
      go_upto_block 2 with fail
      go_cut [32] from 87 to 124 (fun o wx => ∃ og, o = .pointer og ∧ (og = none ∨ og = some ⟨s + 1, 0, none⟩ ∨ og = some ⟨s2 + 1, 0, none⟩) ∧ ∃ nn, wx = wr.drewN nn)
      case first =>
        have ha4 := bounds_u8 h4
        have h3 : a4 % 3 = 0 ∨ a4 % 3 = 1 ∨ a4 % 3 = 2 := by omega
        rcases h3 with h3 | h3 | h3
        · go_wp2_with fail
          go_meet
          case rel => exact ⟨none, rfl, .inl rfl, _, rfl⟩
        · go_wp2_with fail
          go_meet
          case rel => exact ⟨_, rfl, .inr (.inl rfl), _, rfl⟩
        · go_wp2_with fail
          go_meet
          case rel => exact ⟨_, rfl, .inr (.inr rfl), _, rfl⟩
      case rest =>
      obtain ⟨og, rfl, hog, nn, rfl⟩ := hcut
      go_upto_if 125 with fail
      go_cut [33] from 87 to 128 (fun t wx => ∃ tk, t = .pointer tk ∧ Keeps (fun _ => False) wr wx ∧ (tk = none ∧ a5 = false ∨ ∃ T tc, a5 = true ∧ tk = some ⟨T, 0, none⟩ ∧ Blk wx T 66 tc ∧ tc[6]? = some (.int .i64 a6) ∧ wr.heap.size ≤ T))
      case first =>
        cases a5 with
        | false =>
          go_wp2_with fail
          go_meet
          case rel => exact ⟨none, rfl, (Keeps.refl _ wr).drewN _,   .inl ⟨rfl, by simp⟩⟩
        | true =>
          go_wp2_with fail
          go_meet
          case rel => exact ⟨_, rfl, ((Keeps.refl _ wr).drewN _).alloc _, .inr ⟨_, _, by simp, rfl, Blk.new _ _ _, rfl, Nat.le_refl _⟩⟩
      case rest =>
      obtain ⟨tk, rfl, hkw, htk⟩ := hcut
      obtain ⟨w7, hw7⟩ : ∃ w7, w7 = wc := ⟨_, rfl⟩
      subst hw7
      have HTK : Hid (tk = none ∧ a5 = false ∨ ∃ T tc, a5 = true ∧ tk = some ⟨T, 0, none⟩ ∧ Blk w7 T 66 tc ∧ tc[6]? = some (.int .i64 a6) ∧ wr.heap.size ≤ T) := htk
      have HKW : Hid (Keeps (fun _ => False) wr w7) := hkw
      have HOG : Hid (og = none ∨ og = some ⟨s + 1, 0, none⟩ ∨ og = some ⟨s2 + 1, 0, none⟩) := hog
      clear htk hkw hog r1 g0 g44 g45 e16 e17
      have inv7 := HINV.out
      have hMv := move8 w7 D (R + 1) s s2 v X g E i a7 (64 * (i : Int)) i (mp L i) a2 a3 og tk
        (inv7.q.frame (D' := D) HKW.out (by simp) (by simp) (by simp) (by simp)) (inv7.q2.frame (D' := D) HKW.out (by simp) (by simp) (by simp) (by simp)) inv7.lows.2.1 (inv7.eng.keeps HKW.out (by simp)) (MapAt.keeps inv7.map HKW.out (by simp)) (MapAt.keeps inv7.map2 HKW.out (by simp))
        HG.out.2.2.1 HG.out.2.2.2.1 (by rw [HG.out.2.2.2.2]; exact WalkArith.wf_u64 (by show 0 ≤ (kk : Int) + 1 ∧ (kk : Int) + 1 ≤ 18446744073709551615; omega)) h2 (Nat.le_trans inv7.size HKW.out.size) (by omega) (by omega)
        (by rcases HTK.out with h | ⟨T, tc, _, h1, h2, h3, _⟩; exact .inl h.1; exact .inr ⟨T, tc, a6, h1, h2, h3⟩)
      clear inv7
      go_wp2_with fail
      refine hMv.mono ?_
      rintro e w8 ⟨rfl, hE8, hT8, hk8, D8, v8, X8, v28, X28, mv8⟩
      clear hMv
      have bg8 : Blk w8 g 61 (D8 g).cells := (mv8.q2.heap 0 (by omega)).msg g (by rw [mv8.r0]; simp)
      obtain ⟨pc, pd, hD8⟩ := mv8.msg
      have hfl : (D g).fi = fiF kk ∧ (D g).la = laF kk := by rw [HG.out.2.2.2.2]; exact ⟨rfl, rfl⟩
      have g0 : w8.cell? ⟨g, 0, none⟩ = some (.int .u64 a2) := by rw [bg8.cell 0, hD8]; rfl
      have g34 : w8.cell? ⟨g, 34, none⟩ = some (.int .i64 a3) := by rw [bg8.cell 34, hD8]; rfl
      have g35 : w8.cell? ⟨g, 35, none⟩ = some (.int .i64 0) := by rw [bg8.cell 35, hD8]; rfl
      have g46 : w8.cell? ⟨g, 46, none⟩ = some (.pointer og) := by rw [bg8.cell 46, hD8]; rfl
      have g44 : w8.cell? ⟨g, 44, none⟩ = some (.int .i64 (if a3 = 0 then 0 else fiF kk)) := by rw [bg8.cell 44, hD8, ← hfl.1]; rfl
      have g45 : w8.cell? ⟨g, 45, none⟩ = some (.int .i64 (if a3 = 0 then 0 else laF kk)) := by rw [bg8.cell 45, hD8, ← hfl.2]; rfl
      have ho : ∀ w, (binOp .neq 50 (.pointer og) (.pointer og)).run Yba.prog w = .ok (.bool false) w := by
        intro w
        cases og with
        | none => kernel_rfl
        | some a => exact neq50_same w a
      have HM8 : Hid (Moved w7 D (R + 1) s s2 v X g E i a7 (64 * (i : Int)) i (mp L i) a2 a3 og w8 D8 v8 X8 v28 X28) := mv8
      have HE8 : Hid (Blk w8 E 49 (ecells (if a7 < IntKind.u64.wrap (a2 + 1) then IntKind.u64.wrap (a2 + 1) else a7) (64 * (i : Int)) i)) := hE8
      have HT8 : Hid (∀ T tc mv, tk = some ⟨T, 0, none⟩ → Blk w7 T 66 tc → tc[6]? = some (.int .i64 mv) → Blk w8 T 66 (tc.setIfInBounds 6 (.int .i64 (wrap64 (mv + 1))))) := hT8
      have HK8 : Hid (Keeps (fun b => MS s s2 E g v X b ∨ ∃ T, tk = some ⟨T, 0, none⟩ ∧ b = T) w7 w8) := hk8
      have HG8 : Hid (Blk w8 g 61 (D8 g).cells) := bg8
      clear mv8 hE8 hT8 hk8 bg8 hD8 hfl
      go_upto_if 169 with fail
      go_cut [] from 87 to 195 (fun wx => wx = w8)
      case first =>
        by_cases h3 : a3 = 0
        · subst h3
          simp only [if_true] at g44 g45
          go_wp2_with fail
          go_meet
          case rel => rfl
        · rw [if_neg h3] at g44 g45
          have h3' : (a3 == 0) = false := by simpa using h3
          go_wp2_with fail
          go_meet
          case rel => rfl
      case rest =>
      obtain ⟨w9, hw9⟩ : ∃ w9, w9 = wc := ⟨_, rfl⟩
      subst hw9
      subst hcut
      have hsg : (D g).sq = (kk : Int) + 1 := by rw [HG.out.2.2.2.2]; rfl
      have hmap := HM8.out.map
      rw [hsg] at hmap
      have hwfk : (Lit.int .u64 ((kk : Int) + 1)).wf = true := WalkArith.wf_u64 (by omega)
      have hlk := look_out hmap hwfk has_del_same
      have hsz : Maps.size ((mp L i).del (kl ((kk : Int) + 1))) = i - 1 := by
        have h1 := size_del (k := kl ((kk : Int) + 1)) (mp_tidy L i)
        rw [mp_has, mp_size, if_pos (by simp; omega)] at h1
        omega
      have hln := fun ty => World.ownsMap.len hmap under75 ty
      rw [hsz, show ((i - 1 : Nat) : Int) = (i : Int) - 1 from by omega] at hln
      have q13 : w9.cell? ⟨s + 1, 13, none⟩ = some (.map (some s)) := HM8.out.q.q.cell 13
      have HMAP : Hid (MapAt w9 s i ((mp L i).del (kl ((kk : Int) + 1)))) := hmap
      clear hmap hsz hsg g44 g45 g34 g35 g46 ho
      have hT : ∀ T, tk = some ⟨T, 0, none⟩ → wr.heap.size ≤ T := by
        intro T e
        rcases HTK.out with ⟨h, _⟩ | ⟨T', tc, _, h, _, _, h5⟩
        · rw [h] at e; simp at e
        · rw [h] at e; simp at e; omega
      have HT : Hid (∀ T, tk = some ⟨T, 0, none⟩ → wr.heap.size ≤ T) := hT
      have HROW : Hid (∀ j : Nat, j < i → ∃ x, w9.cell? ⟨R, j, none⟩ = some (.pointer (some ⟨x, 0, none⟩)) ∧ (j ≠ kk → w9.cell? ⟨x, 0, none⟩ = some (.int .u64 ((j : Int) + 1)) ∧ ∀ m, (Instr.lookup 75 (.map (some s)) (.int .u64 ((j : Int) + 1)) false).run Yba.prog (w9.drewN m) = .ok (.pointer (some ⟨x, 0, none⟩)) (w9.drewN m))) :=
        tail_rows HINV.out HKW.out HK8.out HM8.out hT HG.out.1 (fun j => rfl) hn
      clear hT
      have hsame := neq53_same
      go_wp2_with fail
      go_loopw [36] (fun q wx => ∃ j : Nat, j ≤ i ∧ q = .int .i64 j ∧ ∃ m, wx = w9.drewN m) (fun q _ => i - (intOf q).toNat)
      case atStart => exact ⟨0, Nat.zero_le _, rfl, 0, rfl⟩
      case round =>
        obtain ⟨j, hj, rfl, m, rfl⟩ := hrel
        by_cases hji : j < i
        · have hji1 : (j : Int) < (i : Int) := by omega
          obtain ⟨x, hx, hxj⟩ := HROW.out j hji
          by_cases hjk : j = kk
          · subst hjk
            go_wp2
            go_quiet (fail)
            go_wp2
            go_roundw
            case rel => exact ⟨j + 1, by omega, by go_num, _, rfl⟩
            case measure => simp [intOf]; omega
          · obtain ⟨hx0, hxl⟩ := hxj hjk
            have hjk1 : ((j : Int) == (kk : Int)) = false := by simp; omega
            have hjk2 : ¬ ((j : Int) = (kk : Int)) := by omega
            go_wp2
            go_quiet (fail)
            go_wp2
            go_roundw
            case rel => exact ⟨j + 1, by omega, by go_num, _, rfl⟩
            case measure => simp [intOf]; omega
        · obtain rfl : j = i := by omega
          clear HROW hlk hln q13 g0
          have q14 : w9.cell? ⟨s + 1, 14, none⟩ = some (.pointer (some ⟨s + 2, 0, none⟩)) := HM8.out.q.q.cell 14
          have q15 : w9.cell? ⟨s + 1, 15, none⟩ = some (.pointer (some ⟨s + 3, 0, none⟩)) := HM8.out.q.q.cell 15
          have q16 : w9.cell? ⟨s + 1, 16, none⟩ = some (.pointer (some ⟨s + 4, 0, none⟩)) := HM8.out.q.q.cell 16
          have q17 : w9.cell? ⟨s + 1, 17, none⟩ = some (.pointer (some ⟨s + 5, 0, none⟩)) := HM8.out.q.q.cell 17
          obtain ⟨b0, m0, c0, b1, m1, c1, b2, m2, c2, b3, m3, c3, l0, l1, l2, l3, ⟨k0, k1, k2, k3, k4, k5⟩, N0, N1, N2, N3⟩ := tail_src HINV.out HM8.out
          have HN0 : Hid (∀ m, Calls Yba.prog 9 #[.slice b0 m0 c0, .pointer (some ⟨g, 0, none⟩)] (w9.drewN m) fun e w' => e = .returned (.bool true) ∧ w' = w9.drewN m) := N0
          have HN1 : Hid (∀ m, Calls Yba.prog 9 #[.slice b1 m1 c1, .pointer (some ⟨g, 0, none⟩)] (w9.drewN m) fun e w' => e = .returned (.bool true) ∧ w' = w9.drewN m) := N1
          have HN2 : Hid (∀ m, Calls Yba.prog 9 #[.slice b2 m2 c2, .pointer (some ⟨g, 0, none⟩)] (w9.drewN m) fun e w' => e = .returned (.bool true) ∧ w' = w9.drewN m) := N2
          have HN3 : Hid (∀ m, Calls Yba.prog 9 #[.slice b3 m3 c3, .pointer (some ⟨g, 0, none⟩)] (w9.drewN m) fun e w' => e = .returned (.bool true) ∧ w' = w9.drewN m) := N3
          clear N0 N1 N2 N3
          go_wp2
          go_quiet (fail)
          go_wp2_with fail
          refine (HN0.out _).mono ?_
          rintro e w' ⟨rfl, rfl⟩
          go_wp2_with fail
          refine (HN1.out _).mono ?_
          rintro e w' ⟨rfl, rfl⟩
          go_wp2_with fail
          refine (HN2.out _).mono ?_
          rintro e w' ⟨rfl, rfl⟩
          go_wp2_with fail
          refine (HN3.out _).mono ?_
          rintro e w' ⟨rfl, rfl⟩
          clear q14 q15 q16 q17 l0 l1 l2 l3
          have p13 : w9.cell? ⟨s2 + 1, 13, none⟩ = some (.map (some s2)) := HM8.out.q2.q.cell 13
          have p14 : w9.cell? ⟨s2 + 1, 14, none⟩ = some (.pointer (some ⟨s2 + 2, 0, none⟩)) := HM8.out.q2.q.cell 14
          have p15 : w9.cell? ⟨s2 + 1, 15, none⟩ = some (.pointer (some ⟨s2 + 3, 0, none⟩)) := HM8.out.q2.q.cell 15
          have p16 : w9.cell? ⟨s2 + 1, 16, none⟩ = some (.pointer (some ⟨s2 + 4, 0, none⟩)) := HM8.out.q2.q.cell 16
          have p17 : w9.cell? ⟨s2 + 1, 17, none⟩ = some (.pointer (some ⟨s2 + 5, 0, none⟩)) := HM8.out.q2.q.cell 17
          have hM2 := (tail_map2 HM8.out h2 (m + nq)).1
          have hL2 := (tail_map2 HM8.out h2 (m + nq)).2
          obtain ⟨r0, z0, t0, t0', t0''⟩ := tail_one HM8.out 0 (.inl rfl)
          obtain ⟨r3, z3, t3, t3', t3''⟩ := tail_one HM8.out 3 (.inr rfl)
          obtain ⟨y1, z1, t1⟩ := tail_none HM8.out 1 (.inl rfl)
          obtain ⟨y2, z2, t2⟩ := tail_none HM8.out 2 (.inr rfl)
          replace t0 : w9.cell? ⟨s2 + 2, 0, none⟩ = some (.slice (some ⟨r0, 0, none⟩) 1 z0) := t0
          replace t1 : w9.cell? ⟨s2 + 3, 0, none⟩ = some (.slice y1 0 z1) := t1
          replace t2 : w9.cell? ⟨s2 + 4, 0, none⟩ = some (.slice y2 0 z2) := t2
          replace t3 : w9.cell? ⟨s2 + 5, 0, none⟩ = some (.slice (some ⟨r3, 0, none⟩) 1 z3) := t3
          have e15 : w9.cell? ⟨E, 15, none⟩ = some (.int .u64 (if a7 < IntKind.u64.wrap (a2 + 1) then IntKind.u64.wrap (a2 + 1) else a7)) := HE8.out.cell 15
          have e16 : w9.cell? ⟨E, 16, none⟩ = some (.int .i64 (64 * (j : Int))) := HE8.out.cell 16
          have e17 : w9.cell? ⟨E, 17, none⟩ = some (.int .i64 (j : Int)) := HE8.out.cell 17
          have hbel : Hid (Below wi.heap.size wi (w9.drewN (m + nq))) := belw.trans ((tail_below HINV.out HKW.out HK8.out HT.out HG.out.1 (m + nq)).mono belw.size)
          rcases HTK.out with ⟨rfl, rfl⟩ | ⟨T, tc, rfl, rfl, hT1, hT2, _⟩
          · by_cases hw : a7 < IntKind.u64.wrap (a2 + 1)
            · rw [if_pos hw] at e15
              go_wp2_with fail
              go_ret
              exact ⟨rfl, hbel.out⟩
            · rw [if_neg hw] at e15
              have hw3 := decide_eq_false hw
              clear hw
              go_wp2_with fail
              go_ret
              exact ⟨rfl, hbel.out⟩
          · have tT : w9.cell? ⟨T, 6, none⟩ = some (.int .i64 (wrap64 (a6 + 1))) := by
              rw [(HT8.out T tc a6 rfl hT1 hT2).cell 6]
              have : 6 < tc.size := (Array.getElem?_eq_some_iff.1 hT2).1
              simp [this]
            by_cases hw : a7 < IntKind.u64.wrap (a2 + 1)
            · rw [if_pos hw] at e15
              go_wp2_with fail
              go_ret
              exact ⟨rfl, hbel.out⟩
            · rw [if_neg hw] at e15
              have hw3 := decide_eq_false hw
              clear hw
              go_wp2_with fail
              go_ret
              exact ⟨rfl, hbel.out⟩
end Go.Proofs.Ybulkbrrw
