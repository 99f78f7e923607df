import Derived.Test.YbulkbrrwBuildEnd
namespace Go.Proofs.Ybulkbrrw
open Go.RowKit Go.Deep
set_option linter.unusedVariables false
set_option linter.unusedSimpArgs false

set_option maxRecDepth 100000 in
set_option maxHeartbeats 4000000 in
theorem build10 (w : World) (kv hv : Value) (n : Nat) (K : Nat → Nat) (hs : List Bool) (hk : SlAt w w.heap.size kv n (fun t => .int .u16 (K t))) (hK : ∀ t, K t ≤ 65535) (hh : SlAt w w.heap.size hv hs.length (fun t => .bool (hs.getD t false))) (hn : n ≤ 256) (hl : hs.length ≤ 4096) :
    Calls Yba.prog 10 #[kv, hv] w fun e w' => ∃ (ev : Value) (ms : Nat → List Nat) (sq hd : Nat → Int) (base Q H : Nat) (S : List Nat) (eb : Nat), e = .returned (.tuple #[.pointer (some ⟨Q, 0, none⟩), ev]) ∧
      w'.ownsRow eb 24 1 ev (S.flatMap (vis ms sq hd)).length (u64s (S.flatMap (vis ms sq hd))) ∧ w.heap.size ≤ eb ∧ Queue w' ms sq hd w.heap.size base Q H S ∧ S.length = n ∧ Below w.heap.size w w' := by
  obtain ⟨ko, kc, rfl, hkc, hkx⟩ := hk
  have hmk := run_make_row' (P := Yba.prog) 94 24 (.int .u64 0) 8 Yba.underlying94 Yba.info24 rfl .i64 .i64 n (by omega) (by omega)
  have hmk2 := run_make_row' (P := Yba.prog) 111 3 (.int .i64 0) 8 Yba.underlying111 Yba.info3 rfl .i64 .i64 n (by omega) (by omega)
  obtain ⟨ho, hc, rfl, hhc, hhx⟩ := hh
  go_enter Yba.func10, Yba.ntmps10
  go_wp2_with fail
  refine (start24 _ w.heap.size (Blk.new w 85 _)).mono ?_
  rintro e w1 ⟨rfl, hQ, hH, hkp, hsz⟩
  have hbl : Below w.heap.size w w1 := ((Below.refl _ w).alloc (Nat.le_refl _) _).trans (hkp.below (by rw [World.size_alloc]; omega) (by intro k hk e; omega))
  have e1 : (w.alloc (.cells (qcells (.map none) (.map none) (.pointer none) (.map none)) 85)).heap.size = w.heap.size + 1 := by simp
  have e2 : w.heap.size < w1.heap.size := by rw [hsz]; simp; omega
  have hst : (∃ cs, Blk w1 w.heap.size 85 cs ∧ cs[24]? = some (.pointer (some ⟨w.heap.size + 2, 0, none⟩))) ∧ Blk w1 (w.heap.size + 2) 120 #[.slice none 0 0, .func (.func 36) #[] #[], .func (.func 37) #[] #[]] := by
    simp only [World.size_alloc] at hQ hH
    exact ⟨hQ, hH⟩
  have HST : Hid _ := hst
  clear hQ hH hkp hsz e1 hst
  have HKX : Hid (∀ t, t < n → ∃ b off, ko = some ⟨b, off, none⟩ ∧ b < w.heap.size ∧ w.cell? ⟨b, off + t, none⟩ = some (.int .u16 (K t))) := hkx
  clear hkx
  go_wp2_with fail
  go_loopw [9] (fun q wr => ∃ i : Nat, i ≤ n ∧ q = .int .i64 i ∧ wr.rowIs w1.heap.size 24 n (fun t => .int .u64 (if t < i then (bs K t : Int) else 0)) ∧ Below w1.heap.size w1 wr) (fun q _ => n - (intOf q).toNat)
  case atStart =>
    refine ⟨0, Nat.zero_le _, rfl, ?_, (Below.refl _ _).alloc (Nat.le_refl _) _⟩
    exact (World.rowIs_made _ _ _ _).congr (fun t _ => by simp)
  case round =>
    obtain ⟨i, hi, rfl, hrow, hb1⟩ := hrel
    by_cases hlt : i < n
    · obtain ⟨b, off, hko, hbw, hx⟩ := HKX.out i hlt
      subst hko
      have hK1 := hK i
      have hx1 : wr.cell? ⟨b, off + i, none⟩ = some (.int .u16 (K i)) := (hb1.cell (p := ⟨b, off + i, none⟩) (by show b < _; omega)).trans ((hbl.cell (p := ⟨b, off + i, none⟩) hbw).trans hx)
      have hc1 := hrow.cell hlt
      have hf1 := hrow.frozen i
      have hnb : b ≠ w1.heap.size := by omega
      clear hx
      go_wp2_with fail
      go_roundw
      case rel =>
        refine ⟨i + 1, by omega, by go_num, (hrow.set i _).congr ?_, hb1.setCell (p := ⟨w1.heap.size, i, none⟩) (Nat.le_refl _) _⟩
        intro t ht
        by_cases e : t = i
        · subst e; simp [bs]
        · rw [if_neg e]
          by_cases e2 : t < i
          · rw [if_pos e2, if_pos (by omega)]
          · rw [if_neg e2, if_neg (by omega)]
      case measure => simp [intOf]; omega
    · obtain rfl : i = n := by omega
      obtain ⟨i0, hi0, hz0, hz1, hz2⟩ := info_parts Yba.info53
      have hrowN : wr.rowIs w1.heap.size 24 i (fun t => .int .u64 (bs K t : Int)) := hrow.congr (fun t ht => by simp [ht])
      have hbw : Below w.heap.size w wr := hbl.trans (hb1.mono (by omega))
      have start : StB w wr w.heap.size (w.heap.size + 2) w1.heap.size (w1.heap.size + 1) i K hs 0 (fun _ => []) (fun _ => 0) (fun _ => 0) (.slice none 0 0) [] [] := by
        obtain ⟨⟨cs, bq, hq⟩, bH⟩ := HST.out
        refine ⟨⟨cs, bq.of_block (hb1.block _ bq.lt), hq⟩, hrowN, ⟨bH.of_block (hb1.block _ bH.lt), World.ownsRow_nil _ _ _ _, by simp, by have := bH.lt; omega, by simp⟩, by intro i _ h; simp at h, .refl _, rfl, by simp, hbw, by have := hrow.lt; omega⟩
      have HB0 : Hid (StB w wr w.heap.size (w.heap.size + 2) w1.heap.size (w1.heap.size + 1) i K hs 0 (fun _ => []) (fun _ => 0) (fun _ => 0) (.slice none 0 0) [] []) := start
      have hQH : w.heap.size + 2 < w1.heap.size := by have := HST.out.2.lt; omega
      clear start hrow hrowN hb1 hbw
      go_wp2_with fail
      go_loopw [10] (fun q wx => ∃ (k : Nat) (ms : Nat → List Nat) (sq hd : Nat → Int) (v : Value) (xs G : List Nat), k ≤ i ∧ q = .int .i64 k ∧ StB w wx w.heap.size (w.heap.size + 2) w1.heap.size (w1.heap.size + 1) i K hs k ms sq hd v xs G) (fun q _ => i - (intOf q).toNat)
      case atStart => exact ⟨0, _, _, _, _, _, _, Nat.zero_le _, rfl, HB0.out⟩
      case round =>
        obtain ⟨k, ms, sq, hd, v, xs, G, hk, rfl, hS⟩ := hrel
        by_cases hlt2 : k < i
        · obtain ⟨b, off, hko, hbw, hx⟩ := HKX.out k hlt2
          subst hko
          have hK1 := hK k
          have hx1 : wr.cell? ⟨b, off + k, none⟩ = some (.int .u16 (K k)) := (hS.below.cell (p := ⟨b, off + k, none⟩) hbw).trans hx
          have HS : Hid (StB w wr w.heap.size (w.heap.size + 2) w1.heap.size (w1.heap.size + 1) i K hs k ms sq hd v xs G) := hS
          clear hS hx
          go_wp2_with fail
          obtain ⟨c, hc0⟩ : ∃ c, c = cnt K k := ⟨_, rfl⟩
          have hcz : 1 + (K k : Int) % 5 = (c : Int) := by rw [hc0]; unfold cnt; omega
          have hc5 : c ≤ 5 := by rw [hc0]; unfold cnt; omega
          rw [hcz]
          have HC0 : Hid (c = cnt K k) := hc0
          clear hcz hc0
          have bst : Bld wr (wr.alloc (.cells #[.string { data := #[] }, .slice none 0 0, .int .i64 0, .int .i64 (-1)] 108)) K hs k 0 wr.heap.size (.slice none 0 0) [] :=
            ⟨Blk.new _ _ _, World.ownsRow_nil _ _ _ _, rfl, by simp, (Below.refl _ _).alloc (Nat.le_refl _) _, rfl, by simp⟩
          have HBS : Hid (Bld wr (wr.alloc (.cells #[.string { data := #[] }, .slice none 0 0, .int .i64 0, .int .i64 (-1)] 108)) K hs k 0 wr.heap.size (.slice none 0 0) []) := bst
          clear bst
          obtain ⟨wS, hwS⟩ : ∃ wS, wS = wr := ⟨_, rfl⟩
          rw [← hwS] at HBS HS hx1 ⊢
          clear hwS
          go_loopw [13] (fun q ws => ∃ (j : Nat) (mv : Value) (M : List Nat), j ≤ c ∧ q = .int .i64 j ∧ Bld wS ws K hs k j wS.heap.size mv M) (fun q _ => c - (intOf q).toNat)
          case atStart => exact ⟨0, _, _, Nat.zero_le _, rfl, HBS.out⟩
          case round =>
            obtain ⟨j, mv, M, hj, rfl, hBd⟩ := hrel
            by_cases hlt3 : j < c
            · have hrw := (HS.out.row.of_block (hBd.below.block _ HS.out.row.lt)).cell hlt2
              have hml := hBd.len
              obtain ⟨ao, cap, rfl⟩ := own_slice hBd.own
              have cg : wr.cell? ⟨wS.heap.size, 1, none⟩ = some (.slice ao M.length cap) := hBd.grp.cell 1
              have fg := hBd.grp.frozen 1
              have lg := hBd.grp.lt
              have hbK : bs K k ≤ 67107840 + 256 := by unfold bs; have := hK1; omega
              have HBd : Hid (Bld wS wr K hs k j wS.heap.size (.slice ao M.length cap) M) := hBd
              have hown := hBd.own
              have hbw2 : Below w.heap.size w wr := HS.out.below.trans (hBd.below.mono HS.out.below.size)
              obtain ⟨bb, hbb⟩ : ∃ bb, bb = hidF hs k j := ⟨_, rfl⟩
              have hHd : ∀ o : Obj, Calls Yba.prog 25 #[.slice ho hs.length hc, .int .i64 k, .int .i64 j] (wr.alloc o) fun e w' => e = .returned (.bool bb) ∧ w' = wr.alloc o := by
                intro o
                rw [hbb]
                refine hidden25 (wr.alloc o) w.heap.size (.slice ho hs.length hc) hs k j ⟨ho, hc, rfl, hhc, fun t ht => ?_⟩ (by omega) (by omega) (by omega)
                obtain ⟨b2, o2, e1, e2, e3⟩ := hhx t ht
                exact ⟨b2, o2, e1, e2, ((hbw2.alloc hbw2.size o).cell (p := ⟨b2, o2 + t, none⟩) e2).trans e3⟩
              have HBB : Hid (bb = hidF hs k j) := hbb
              have hM9 : M.length < 10 := by omega
              have HLn : Hid (M.length = j) := hml
              have hgw : wS.heap.size + 1 ≤ wr.heap.size := by omega
              clear hBd hbb hml hbw2
              go_wp2_with fail
              refine (hHd _).mono ?_
              rintro e w' ⟨rfl, rfl⟩
              clear hHd
              cases bb with
              | true =>
                go_wp2_with (at_builtin; refine wpList_append_own _ rfl _ _ 52 rfl (wS.heap.size + 1) 53 i0 (.pointer none) 1 8 Yba.underlying52 hi0 hz0 hz1 hz2 rfl (by decide) _ _ _ rfl ((hown.alloc _).alloc _) ⟨wr.heap.size + 1, 0, none⟩ 1 1 [pt wr.heap.size] rfl rfl ?c1 ?c2 ?c3 ?c4 ?c5 ?_)
                case c1 => exact cell_one_new' _ _ _ _ (by simp)
                case c2 => intro u hu; simp at hu; subst hu; rfl
                case c3 => unfold maxLen; omega
                case c4 => omega
                case c5 => simp; omega
                intro v3 w3 hown3 hgrow3 _
                obtain ⟨r3, cap3, rfl⟩ := ownsRow_succ hown3
                have hst := HBd.out.step (by simp) (by rw [← HBB.out]; rfl) hgrow3 hown3
                have hg3 : Blk w3 wS.heap.size 108 #[.string { data := #[] }, .slice ao M.length cap, .int .i64 0, .int .i64 (-1)] := ((HBd.out.grp.alloc _).alloc _).grown hgrow3 (own_ne hown HBd.out.grp (by decide))
                have cg3 : w3.cell? ⟨wS.heap.size, 1, none⟩ = some (.slice ao M.length cap) := hg3.cell 1
                have fg3 := hg3.frozen 1
                have HST3 : Hid (Bld wS (w3.setCell ⟨wS.heap.size, 1, none⟩ (.slice (some ⟨r3, 0, none⟩) (M.length + 1) cap3)) K hs k (j + 1) wS.heap.size (.slice (some ⟨r3, 0, none⟩) (M.length + 1) cap3) (M ++ [wr.heap.size])) := hst
                clear hgrow3 hown3 hst hg3 hown cg fg lg hrw
                go_wp2_with fail
                go_roundw
                case rel => exact ⟨j + 1, _, _, by omega, by go_num, HST3.out⟩
                case measure => simp [intOf]; omega
              | false =>
                go_wp2_with (at_builtin; refine wpList_append_own _ rfl _ _ 52 rfl (wS.heap.size + 1) 53 i0 (.pointer none) 1 8 Yba.underlying52 hi0 hz0 hz1 hz2 rfl (by decide) _ _ _ rfl ((hown.alloc _).alloc _) ⟨wr.heap.size + 1, 0, none⟩ 1 1 [pt wr.heap.size] rfl rfl ?c1 ?c2 ?c3 ?c4 ?c5 ?_)
                case c1 => exact cell_one_new' _ _ _ _ (by simp)
                case c2 => intro u hu; simp at hu; subst hu; rfl
                case c3 => unfold maxLen; omega
                case c4 => omega
                case c5 => simp; omega
                intro v3 w3 hown3 hgrow3 _
                obtain ⟨r3, cap3, rfl⟩ := ownsRow_succ hown3
                have hst := HBd.out.step (by simp) (by rw [← HBB.out]; rfl) hgrow3 hown3
                have hg3 : Blk w3 wS.heap.size 108 #[.string { data := #[] }, .slice ao M.length cap, .int .i64 0, .int .i64 (-1)] := ((HBd.out.grp.alloc _).alloc _).grown hgrow3 (own_ne hown HBd.out.grp (by decide))
                have cg3 : w3.cell? ⟨wS.heap.size, 1, none⟩ = some (.slice ao M.length cap) := hg3.cell 1
                have fg3 := hg3.frozen 1
                have HST3 : Hid (Bld wS (w3.setCell ⟨wS.heap.size, 1, none⟩ (.slice (some ⟨r3, 0, none⟩) (M.length + 1) cap3)) K hs k (j + 1) wS.heap.size (.slice (some ⟨r3, 0, none⟩) (M.length + 1) cap3) (M ++ [wr.heap.size])) := hst
                clear hgrow3 hown3 hst hg3 hown cg fg lg hrw
                go_wp2_with fail
                go_roundw
                case rel => exact ⟨j + 1, _, _, by omega, by go_num, HST3.out⟩
                case measure => simp [intOf]; omega
            · obtain rfl : j = c := by omega
              obtain ⟨ms', sq', hd', hS2, hG2, hgx, hgl, hgd⟩ := HS.out.ready (by rw [← HC0.out]; exact hBd)
              obtain ⟨cs, bq, hq⟩ := hS2.q
              have hqH : wr.cell? ⟨w.heap.size, 24, none⟩ = some (.pointer (some ⟨w.heap.size + 2, 0, none⟩)) := by rw [bq.cell 24]; exact hq
              have hfew : xs.length + 1 < 1000 := by have := hS2.perm.length_eq; have := hS2.len; omega
              have hPu := push26 wr (w1.heap.size + 1) (w.heap.size + 2) wS.heap.size v xs (-1) hS2.heap hG2 hgx hfew hS2.size
              have hbg := hBd.grp
              have hwS : w.heap.size ≤ wS.heap.size := HS.out.below.size
              have HS2 : Hid (StB w wr w.heap.size (w.heap.size + 2) w1.heap.size (w1.heap.size + 1) i K hs k ms' sq' hd' v xs G) := hS2
              have HGD : Hid ((ms' wS.heap.size).length = cnt K k ∧ ∀ (j m : Nat), (ms' wS.heap.size)[j]? = some m → sq' m = ((bs K k * 8 + j : Nat) : Int) ∧ hd' m = (if hidF hs k j then 1 else 0)) := ⟨hgl, hgd⟩
              have HBG : Hid (Blk wr wS.heap.size 108 #[.string { data := #[] }, mv, .int .i64 0, .int .i64 (-1)]) := hbg
              clear hS2 hG2 hgl hgd hBd hbg bq hq
              go_wp2_with fail
              refine hPu.mono ?_
              rintro e w5 ⟨rfl, v5, p1, p2, p3⟩
              have hnew := HS2.out.pushed hwS HGD.out.1 HGD.out.2 (Nat.le_refl _) (by omega) HBG.out p1 p2
              clear p1 p2 p3 hPu hqH
              go_wp2_with fail
              go_roundw
              case rel => exact ⟨k + 1, _, _, _, _, _, _, by omega, by go_num, hnew⟩
              case measure => simp [intOf]; omega
        · obtain rfl : k = i := by omega
          obtain ⟨WB, hWB⟩ : ∃ WB, WB = wr := ⟨_, rfl⟩
          rw [← hWB] at hS ⊢
          have HSB : Hid (StB w WB w.heap.size (w.heap.size + 2) w1.heap.size (w1.heap.size + 1) k K hs k ms sq hd v xs G) := hS
          have hbases : ∀ t, t < k → (WB.alloc (.cells (madeCells #[.int .i64 0] k) 3)).cell? ⟨w1.heap.size, t, none⟩ = some (.int .u64 (bs K t)) := fun t ht => (hS.row.alloc _).cell ht
          have HBA : Hid (∀ t, t < k → (WB.alloc (.cells (madeCells #[.int .i64 0] k) 3)).cell? ⟨w1.heap.size, t, none⟩ = some (.int .u64 (bs K t))) := hbases
          have hneB : w1.heap.size < WB.heap.size := hS.row.lt
          clear hS hWB hbases HB0
          go_wp2_with fail
          go_loopw [16, 17, 18] (fun q _ _ wx => ∃ (p : Nat) (o : List Nat), p ≤ k ∧ q = .int .i64 p ∧ Ord K p o ∧ wx.rowIs WB.heap.size 3 k (fun t => .int .i64 (if t < p then ((o.getD t 0 : Nat) : Int) else 0)) ∧ Keeps (fun b => b = WB.heap.size) (WB.alloc (.cells (madeCells #[.int .i64 0] k) 3)) wx) (fun q _ _ _ => k - (intOf q).toNat)
          case atStart =>
            refine ⟨0, [], Nat.zero_le _, rfl, ⟨.refl _, by simp⟩, ?_, .refl _ _⟩
            exact (World.rowIs_made _ _ _ _).congr (fun t _ => by simp)
          case round =>
            obtain ⟨p, o, hp, rfl, hO, hrow, hkp⟩ := hrel
            by_cases hlt4 : p < k
            · have cO := hrow.cell hlt4
              have fO := hrow.frozen p
              have HOr : Hid (Ord K p o) := hO
              clear hO
              have hrow1 := hrow.set p (.int .i64 (p : Int))
              have hkp1 : Keeps (fun b => b = WB.heap.size) (WB.alloc (.cells (madeCells #[.int .i64 0] k) 3)) (wr.setCell ⟨WB.heap.size, p, none⟩ (.int .i64 (p : Int))) := hkp.setCell (a := ⟨WB.heap.size, p, none⟩) rfl _
              have HI1 : Hid ((wr.setCell ⟨WB.heap.size, p, none⟩ (.int .i64 (p : Int))).rowIs WB.heap.size 3 k (fun t => .int .i64 (if t ≤ p then ((ins o p p t : Nat) : Int) else 0))) := hrow1.congr (fun t ht => by
                unfold ins
                by_cases e : t = p
                · subst e; simp
                · rw [if_neg e]
                  by_cases e2 : t < p
                  · rw [if_pos e2, if_pos (by omega), if_pos e2]
                  · rw [if_neg e2, if_neg (by omega)])
              have HK1 : Hid (Keeps (fun b => b = WB.heap.size) (WB.alloc (.cells (madeCells #[.int .i64 0] k) 3)) (wr.setCell ⟨WB.heap.size, p, none⟩ (.int .i64 (p : Int)))) := hkp1
              clear hrow1 hkp1 hrow hkp
              go_wp2_with fail
              go_loopw [17, 18] (fun q _ wx => ∃ kk : Nat, kk ≤ p ∧ q = .int .i64 kk ∧ wx.rowIs WB.heap.size 3 k (fun t => .int .i64 (if t ≤ p then ((ins o p kk t : Nat) : Int) else 0)) ∧ Keeps (fun b => b = WB.heap.size) (WB.alloc (.cells (madeCells #[.int .i64 0] k) 3)) wx ∧ (∀ t, kk ≤ t → t < p → bs K p < bs K (o.getD t 0))) (fun q _ _ => (intOf q).toNat)
              case atStart => exact ⟨p, Nat.le_refl _, rfl, HI1.out, HK1.out, by intro t h1 h2; omega⟩
              case round =>
                obtain ⟨kk, hkk, rfl, hrow, hkp, hhi⟩ := hrel
                have fin : (kk = 0 ∨ bs K (o.getD (kk - 1) 0) ≤ bs K p) → ∃ o', Ord K (p + 1) o' ∧ wr.rowIs WB.heap.size 3 k (fun t => .int .i64 (if t < p + 1 then ((o'.getD t 0 : Nat) : Int) else 0)) := by
                  intro hlo
                  refine ⟨o.take kk ++ [p] ++ o.drop kk, HOr.out.put (by omega) hkk hlo hhi, hrow.congr (fun t ht => ?_)⟩
                  by_cases e : t ≤ p
                  · rw [if_pos e, if_pos (by omega), getD_put HOr.out hkk t e]
                  · rw [if_neg e, if_neg (by omega)]
                have HF : Hid ((kk = 0 ∨ bs K (o.getD (kk - 1) 0) ≤ bs K p) → ∃ o', Ord K (p + 1) o' ∧ wr.rowIs WB.heap.size 3 k (fun t => .int .i64 (if t < p + 1 then ((o'.getD t 0 : Nat) : Int) else 0))) := fin
                have HHI : Hid (∀ t, kk ≤ t → t < p → bs K p < bs K (o.getD t 0)) := hhi
                have HKP : Hid (Keeps (fun b => b = WB.heap.size) (WB.alloc (.cells (madeCells #[.int .i64 0] k) 3)) wr) := hkp
                clear fin hhi
                by_cases hk0 : kk = 0
                · subst hk0
                  have hd0 : decide ((0 : Int) < ((0 : Nat) : Int)) = false := by decide
                  go_wp2_with fail
                  go_quiet (fail)
                  go_wp2
                  go_roundw
                  case rel =>
                    obtain ⟨o', ho1, ho2⟩ := HF.out (by first | exact .inl rfl | exact .inl trivial)
                    exact ⟨p + 1, o', by omega, by go_num, ho1, ho2, HKP.out.drewN _⟩
                  case measure => simp [intOf]; omega
                · obtain ⟨q, rfl⟩ : ∃ q, kk = q + 1 := ⟨kk - 1, by omega⟩
                  have hq1 : q < p := by omega
                  have hoq : o.getD q 0 < p := HOr.out.lt hq1
                  obtain ⟨x, hx⟩ : ∃ x, x = o.getD q 0 := ⟨_, rfl⟩
                  have r1 : wr.cell? ⟨WB.heap.size, q + 1, none⟩ = some (.int .i64 (p : Int)) := by rw [hrow.cell (by omega)]; simp [ins, hkk]
                  have r2 : wr.cell? ⟨WB.heap.size, q, none⟩ = some (.int .i64 (x : Int)) := by
                    rw [hrow.cell (by omega), if_pos (by omega)]
                    unfold ins
                    rw [if_pos (by omega), hx]
                  have fz1 := hrow.frozen (q + 1)
                  have fz2 := hrow.frozen q
                  have hxp : x < p := by omega
                  have b1 : wr.cell? ⟨w1.heap.size, p, none⟩ = some (.int .u64 (bs K p)) := by
                    have hb := HKP.out.block w1.heap.size (by simp; omega) (by omega)
                    exact (World.cell?_of_block (a := ⟨w1.heap.size, p, none⟩) hb).trans (HBA.out p hlt4)
                  have b2 : wr.cell? ⟨w1.heap.size, x, none⟩ = some (.int .u64 (bs K x)) := by
                    have hb := HKP.out.block w1.heap.size (by simp; omega) (by omega)
                    exact (World.cell?_of_block (a := ⟨w1.heap.size, x, none⟩) hb).trans (HBA.out x (by omega))
                  have i1 : (p : Int) < (k : Int) := by omega
                  have i2 : (x : Int) < (k : Int) := by omega
                  have HRW : Hid (wr.rowIs WB.heap.size 3 k (fun t => .int .i64 (if t ≤ p then ((ins o p (q + 1) t : Nat) : Int) else 0))) := hrow
                  have HXX : Hid (x = o.getD q 0) := hx
                  have hd1 : decide ((0 : Int) < (q : Int) + 1) = true := decide_eq_true (by omega)
                  clear hrow hx hoq hkp
                  by_cases hcmp : bs K p < bs K x
                  · have hci : (bs K p : Int) < (bs K x : Int) := by omega
                    go_wp2_with fail
                    go_quiet (fail)
                    go_wp2
                    go_roundw
                    case rel =>
                      refine ⟨q, by omega, rfl, ?_, ((HKP.out.drewN nq).setCell (a := ⟨WB.heap.size, q + 1, none⟩) rfl _).setCell (a := ⟨WB.heap.size, q, none⟩) rfl _, ?_⟩
                      · have hr0 : (wr.drewN nq).rowIs WB.heap.size 3 k (fun t => .int .i64 (if t ≤ p then ((ins o p (q + 1) t : Nat) : Int) else 0)) := HRW.out
                        refine ((hr0.set (q + 1) (.int .i64 (x : Int))).set q (.int .i64 (p : Int))).congr (fun t ht => ?_)
                        unfold ins
                        by_cases e1 : t = q
                        · subst e1; simp; omega
                        · rw [if_neg e1]
                          by_cases e2 : t = q + 1
                          · subst e2
                            rw [if_pos rfl, if_pos (by omega), if_neg (by omega), if_neg (by omega), HXX.out]; simp
                          · rw [if_neg e2]
                            by_cases e3 : t ≤ p
                            · rw [if_pos e3, if_pos e3]
                              by_cases e4 : t < q
                              · rw [if_pos (by omega), if_pos e4]
                              · rw [if_neg (by omega), if_neg e2, if_neg e4, if_neg e1]
                            · rw [if_neg e3, if_neg e3]
                      · intro t h1 h2
                        by_cases e : t = q
                        · subst e; rw [← HXX.out]; exact hcmp
                        · exact HHI.out t (by omega) h2
                    case measure => simp [intOf]
                  · have hci : ¬ (bs K p : Int) < (bs K x : Int) := by omega
                    go_wp2_with fail
                    go_quiet (fail)
                    go_wp2
                    go_roundw
                    case rel =>
                      obtain ⟨o', ho1, ho2⟩ := HF.out (.inr (by rw [Nat.add_sub_cancel, ← HXX.out]; omega))
                      exact ⟨p + 1, o', by omega, by go_num, ho1, ho2, HKP.out.drewN _⟩
                    case measure => simp [intOf]; omega
            · obtain rfl : p = k := by omega
              obtain ⟨j0, hj0, hj1, hj2, hj3⟩ := info_parts Yba.info24
              have hol := hO.length
              have hbase2 : ∀ t, t < p → wr.cell? ⟨w1.heap.size, t, none⟩ = some (.int .u64 (bs K t)) := fun t ht => by
                have hb := hkp.block w1.heap.size (by simp; omega) (by omega)
                exact (World.cell?_of_block (a := ⟨w1.heap.size, t, none⟩) hb).trans (HBA.out t ht)
              have hord2 : ∀ t, t < p → wr.cell? ⟨WB.heap.size, t, none⟩ = some (.int .i64 ((o.getD t 0 : Nat) : Int)) := fun t ht => by
                rw [hrow.cell ht, if_pos ht]
              have hkeep2 : Below w.heap.size w wr := HSB.out.below.trans ((((Below.refl WB.heap.size WB).alloc (Nat.le_refl _) _).trans (hkp.below (by simp) (by intro b hb e; omega))).mono HSB.out.below.size)
              obtain ⟨WC, hWC⟩ : ∃ WC, WC = wr := ⟨_, rfl⟩
              rw [← hWC] at hbase2 hord2 hkeep2 hrow hkp ⊢
              have HB2 : Hid (∀ t, t < p → WC.cell? ⟨w1.heap.size, t, none⟩ = some (.int .u64 (bs K t))) := hbase2
              have HO2 : Hid (∀ t, t < p → WC.cell? ⟨WB.heap.size, t, none⟩ = some (.int .i64 ((o.getD t 0 : Nat) : Int))) := hord2
              have HOr : Hid (Ord K p o) := hO
              have HKP : Hid (Keeps (fun b => b = WB.heap.size) (WB.alloc (.cells (madeCells #[.int .i64 0] p) 3)) WC) := hkp
              have hsC : WB.heap.size < WC.heap.size := hrow.lt
              clear hbase2 hord2 hO hrow hkp hWC hol
              go_wp2_with fail
              go_loopw [19, 155, 21, 22, 23] (fun ev q _ _ _ wx => ∃ t : Nat, t ≤ p ∧ q = .int .i64 t ∧ wx.ownsRow WC.heap.size 24 1 ev ((o.take t).flatMap (visI K hs)).length (u64s ((o.take t).flatMap (visI K hs))) ∧ Below WC.heap.size WC wx) (fun _ q _ _ _ _ => p - (intOf q).toNat)
              case atStart => exact ⟨0, Nat.zero_le _, rfl, by simpa [u64s] using World.ownsRow_nil _ _ _ _, .refl _ _⟩
              case round =>
                obtain ⟨t, ht, rfl, hown, hbC⟩ := hrel
                by_cases hlt6 : t < p
                · have hog := HO2.out t hlt6
                  have hgp : o.getD t 0 < p := HOr.out.lt hlt6
                  obtain ⟨g, hg⟩ : ∃ g, g = o.getD t 0 := ⟨_, rfl⟩
                  rw [← hg] at hog hgp
                  have hog1 : wr.cell? ⟨WB.heap.size, t, none⟩ = some (.int .i64 (g : Int)) := (hbC.cell (p := ⟨WB.heap.size, t, none⟩) hsC).trans hog
                  obtain ⟨b, off, hko, hbw, hx⟩ := HKX.out g hgp
                  subst hko
                  have hK1 := hK g
                  have hx1 : wr.cell? ⟨b, off + g, none⟩ = some (.int .u16 (K g)) := (hbC.cell (p := ⟨b, off + g, none⟩) (by show b < WC.heap.size; have := hkeep2.size; omega)).trans ((hkeep2.cell (p := ⟨b, off + g, none⟩) hbw).trans hx)
                  obtain ⟨es, hes⟩ : ∃ es, es = (o.take t).flatMap (visI K hs) := ⟨_, rfl⟩
                  rw [← hes] at hown
                  have hesl : es.length ≤ 5 * t := by
                    have h1 := length_flatMap_le (visI K hs) 5 (o.take t) (fun g _ => visI_len K hs g)
                    rw [← hes, List.length_take] at h1
                    have : min t o.length ≤ t := Nat.min_le_left _ _
                    omega
                  have HES : Hid (es = (o.take t).flatMap (visI K hs) ∧ g = o.getD t 0) := ⟨hes, hg⟩
                  have HOW : Hid (wr.ownsRow WC.heap.size 24 1 u19 es.length (u64s es) ∧ Below WC.heap.size WC wr) := ⟨hown, hbC⟩
                  clear hog hx hes hg
                  go_wp2_with fail
                  obtain ⟨c, hc0⟩ : ∃ c, c = cnt K g := ⟨_, rfl⟩
                  have hcz : 1 + (K g : Int) % 5 = (c : Int) := by rw [hc0]; unfold cnt; omega
                  have hc5 : c ≤ 5 := by rw [hc0]; unfold cnt; omega
                  rw [hcz]
                  have HC0 : Hid (c = cnt K g) := hc0
                  clear hcz hc0
                  go_loopw [19, 23] (fun ev q wx => ∃ j : Nat, j ≤ c ∧ q = .int .i64 j ∧ wx.ownsRow WC.heap.size 24 1 ev (es ++ (List.range j).map (fun j => ((bs K g * 8 + j : Nat) : Int))).length (u64s (es ++ (List.range j).map (fun j => ((bs K g * 8 + j : Nat) : Int)))) ∧ Below WC.heap.size WC wx ∧ ∀ q, q < j → hidF hs g q = false) (fun _ q _ => c - (intOf q).toNat)
                  case atStart => exact ⟨0, Nat.zero_le _, rfl, by simpa using HOW.out.1, HOW.out.2, by intro q h; omega⟩
                  case round =>
                    obtain ⟨j, hj, rfl, hown, hbC, hvis⟩ := hrel
                    have fin : (j = c ∨ hidF hs g j = true) → es ++ (List.range j).map (fun j => ((bs K g * 8 + j : Nat) : Int)) = (o.take (t + 1)).flatMap (visI K hs) := by
                      intro hor
                      have e1 : o.take (t + 1) = o.take t ++ [g] := by
                        rw [List.take_add_one, HES.out.2, List.getD_eq_getElem?_getD, List.getElem?_eq_getElem (by have := HOr.out.length; omega)]; rfl
                      rw [e1, List.flatMap_append, ← HES.out.1]
                      congr 1
                      simp only [List.flatMap_cons, List.flatMap_nil, List.append_nil, visI]
                      rw [range_takeWhile _ (cnt K g) j (by rw [← HC0.out]; exact hj) (fun q hq => by rw [hvis q hq]; rfl) (by rw [← HC0.out]; rcases hor with e | e; exact .inl e; exact .inr (by rw [e]; rfl))]
                    have HFN : Hid ((j = c ∨ hidF hs g j = true) → es ++ (List.range j).map (fun j => ((bs K g * 8 + j : Nat) : Int)) = (o.take (t + 1)).flatMap (visI K hs)) := fin
                    have HVS : Hid (∀ q, q < j → hidF hs g q = false) := hvis
                    obtain ⟨fs, hfs⟩ : ∃ fs, fs = es ++ (List.range j).map (fun j => ((bs K g * 8 + j : Nat) : Int)) := ⟨_, rfl⟩
                    rw [← hfs] at hown
                    have hfl : fs.length = es.length + j := by rw [hfs]; simp
                    have hfb : fs.length < 2000 := by omega
                    have HFS : Hid (fs = es ++ (List.range j).map (fun j => ((bs K g * 8 + j : Nat) : Int))) := hfs
                    have HFL : Hid (fs.length = es.length + j) := hfl
                    have HOB : Hid (wr.ownsRow WC.heap.size 24 1 u19 fs.length (u64s fs) ∧ Below WC.heap.size WC wr) := ⟨hown, hbC⟩
                    clear fin hvis hfs hfl
                    by_cases hlt7 : j < c
                    · have hHd := hidden25 wr w.heap.size (.slice ho hs.length hc) hs g j ⟨ho, hc, rfl, hhc, fun q hq => by
                        obtain ⟨b2, o2, e1, e2, e3⟩ := hhx q hq
                        exact ⟨b2, o2, e1, e2, (hbC.cell (p := ⟨b2, o2 + q, none⟩) (by show b2 < WC.heap.size; have := hkeep2.size; omega)).trans ((hkeep2.cell (p := ⟨b2, o2 + q, none⟩) e2).trans e3)⟩⟩ (by omega) (by omega) (by omega)
                      obtain ⟨bb, hbb⟩ : ∃ bb, bb = hidF hs g j := ⟨_, rfl⟩
                      rw [← hbb] at hHd
                      have HBB : Hid (bb = hidF hs g j) := hbb
                      have hbg : wr.cell? ⟨w1.heap.size, g, none⟩ = some (.int .u64 (bs K g)) := (hbC.cell (p := ⟨w1.heap.size, g, none⟩) (by show w1.heap.size < WC.heap.size; omega)).trans (HB2.out g hgp)
                      have hbK : bs K g ≤ 67107840 + 256 := by unfold bs; omega
                      clear hbb
                      go_wp2_with fail
                      refine hHd.mono ?_
                      rintro e w' ⟨rfl, hw'⟩
                      subst hw'
                      cases bb with
                      | true =>
                        go_wp2_with fail
                        go_roundw
                        case rel =>
                          refine ⟨t + 1, by omega, by go_num, ?_, HOB.out.2⟩
                          rw [← HFN.out (.inr HBB.out.symm), ← HFS.out]
                          exact HOB.out.1
                        case measure => simp [intOf]; omega
                      | false =>
                        obtain ⟨ao, cap, rfl⟩ := own_slice hown
                        go_wp2_with (at_builtin; refine wpList_append_own _ rfl _ _ 94 rfl WC.heap.size 24 j0 (.int .u64 0) 1 8 Yba.underlying94 hj0 hj1 hj2 hj3 rfl (by decide) _ _ _ rfl (hown.alloc _) ⟨w'.heap.size, 0, none⟩ 1 1 [.int .u64 ((bs K g : Int) * 8 + (j : Int))] rfl rfl ?c1 ?c2 ?c3 ?c4 ?c5 ?_)
                        case c1 => exact cell_one_new' _ _ _ _ rfl
                        case c2 => intro u hu; simp at hu; subst hu; rfl
                        case c3 => unfold maxLen; omega
                        case c4 => omega
                        case c5 => simp; have := hbC.size; omega
                        intro v3 w3 hown3 hgrow3 _
                        obtain ⟨r3, cap3, rfl⟩ := ownsRow_succ hown3
                        have hb3 : Below WC.heap.size WC w3 := (hbC.alloc hbC.size _).grown hgrow3 (by simp; have := hbC.size; omega) (fun q e => (hown.lt q e).1)
                        have e3 : fs ++ [((bs K g * 8 + j : Nat) : Int)] = es ++ (List.range (j + 1)).map (fun j => ((bs K g * 8 + j : Nat) : Int)) := by
                          rw [HFS.out, List.range_succ, List.map_append, List.append_assoc]; rfl
                        have HO3 : Hid (w3.ownsRow WC.heap.size 24 1 (.slice (some ⟨r3, 0, none⟩) (fs.length + 1) cap3) (es ++ (List.range (j + 1)).map (fun j => ((bs K g * 8 + j : Nat) : Int))).length (u64s (es ++ (List.range (j + 1)).map (fun j => ((bs K g * 8 + j : Nat) : Int)))) ∧ Below WC.heap.size WC w3) := by
                          refine ⟨?_, hb3⟩
                          rw [← e3]
                          have : u64s (fs ++ [((bs K g * 8 + j : Nat) : Int)]) = u64s fs ++ [.int .u64 ((bs K g : Int) * 8 + (j : Int))] := by simp [u64s]
                          rw [this, List.length_append]
                          exact hown3
                        clear hgrow3 hown3 e3 hb3 hHd
                        go_wp2_with fail
                        go_roundw
                        case rel =>
                          refine ⟨j + 1, by omega, by go_num, HO3.out.1, HO3.out.2, ?_⟩
                          intro q hq
                          by_cases e : q = j
                          · subst e; exact HBB.out.symm
                          · exact HVS.out q (by omega)
                        case measure => simp [intOf]; omega
                    · obtain rfl : j = c := by omega
                      go_wp2_with fail
                      go_roundw
                      case rel =>
                        refine ⟨t + 1, by omega, by go_num, ?_, HOB.out.2⟩
                        rw [← HFN.out (.inl rfl), ← HFS.out]
                        exact HOB.out.1
                      case measure => simp [intOf]; omega
                · obtain rfl : t = p := by omega
                  rw [List.take_of_length_le (by have := HOr.out.length; omega)] at hown
                  have hQ := HSB.out.queue ((((Below.refl WB.heap.size WB).alloc (Nat.le_refl _) _).trans (HKP.out.below (by simp) (by intro b hb e; omega))).trans (hbC.mono (by omega))) HOr.out (by omega) (by omega)
                  have HQ : Hid _ := hQ
                  clear hQ
                  go_wp2_with fail
                  go_ret2
                  exact ⟨_, ms, sq, hd, _, _, _, _, WC.heap.size, rfl, by rw [HQ.out.2.1]; exact hown, by have := hkeep2.size; omega, HQ.out.1, by rw [List.length_map]; exact HOr.out.length, HQ.out.2.2⟩
end Go.Proofs.Ybulkbrrw
