import Derived.Test.YbulkbrtmFmtSortB
import Derived.Test.YbulkbrtmFmtSortC2
import Derived.Test.YbulkbrtmFmtSortE
import Derived.Test.YbulkbrtmFmtSortF
import Derived.Sort.Walk13a
import Derived.Sort.LotD4
import Derived.Sort.AssemblyPlain
import Derived.Deep.Cut
set_option linter.unusedVariables false
set_option linter.unusedSimpArgs false
set_option maxHeartbeats 8000000
set_option maxRecDepth 1000000
namespace Go.Proofs.YbulkbrtmFmt
open Go.RowKit Go.Sort Go.Proofs

theorem hintNo_two {h : Hint} (e : hintNo h = 2) : h = .decreasing := by cases h <;> simp [hintNo] at e ⊢
theorem eighth' {x y p q : Nat} (h1 : q ≤ p) (h2 : y ≤ x) : decide (((x : Int) - (y : Int)) / 8 ≤ (p : Int) - (q : Int)) = decide (p - q ≥ (x - y) / 8) :=
  decide_eq_decide.2 ⟨fun h => by omega, fun h => by omega⟩

theorem pdqsort_calls : ∀ (N blk off cap a b limit : Nat) (d : Array Int) (w : World), b - a < N → Holds u64 w blk off d → blk < w.heap.size → a ≤ b → b ≤ d.size → d.size < 4611686018427387904 → limit < 4611686018427387904 → Go.Sort.Below ltInt a b d →
    Calls Ybaf.prog 24 #[.slice (some ⟨blk, off, none⟩) d.size cap, .int .i64 a, .int .i64 b, .int .i64 limit] w fun e w' => e = .returned (.tuple #[]) ∧ At w blk off (pdq ltInt d a b limit true true) w' := by
  have swo : SWO ltInt := swo_ltInt
  intro N
  induction N with
  | zero => intro _ _ _ _ _ _ _ _ h; exact absurd h (Nat.not_lt_zero _)
  | succ N ih =>
    intro blk off cap a b limit d w hN hH hblk hab hb hsz hlimit hBel0
    go_enter Ybaf.func24, Ybaf.ntmps24
    go_wp2
    go_loopg [1, 2, 3, 8, 9] (b - a) (fun k s1 s2 s3 s8 s9 wr => ∃ (a' b' lim : Nat) (wb wp : Bool) (dk : Array Int), s1 = .int .i64 a' ∧ s2 = .int .i64 b' ∧ s3 = .int .i64 lim ∧ s8 = .bool wb ∧ s9 = .bool wp ∧
      a' ≤ b' ∧ b' ≤ d.size ∧ b' - a' ≤ k ∧ k ≤ b - a ∧ lim ≤ limit ∧ dk.size = d.size ∧ Go.Sort.Below ltInt a' b' dk ∧ At w blk off dk wr ∧ Hid (pdq ltInt dk a' b' lim wb wp = pdq ltInt d a b limit true true))
    case atStart => exact ⟨a, b, limit, true, true, d, rfl, rfl, rfl, rfl, rfl, hab, hb, Nat.le_refl _, Nat.le_refl _, Nat.le_refl _, rfl, hBel0, At.start hH hblk, hid rfl⟩
    case round =>
      obtain ⟨a', b', lim, wb, wp, dk, rfl, rfl, rfl, rfl, rfl, hab', hb', hk, hkN, hlim, hds, hBel, hAt, A⟩ := hrel
      by_cases h12 : b' - a' ≤ 12
      · have h12z : (b' : Int) - (a' : Int) ≤ 12 := by omega
        have hc := insertion_calls blk off cap a' b' dk wr hAt.holds hAt.len hab' (by omega) (by omega)
        rw [hds] at hc
        go_wp2_with (go_at_call 35; refine hc.mono ?_; rintro e w1 ⟨rfl, hw1⟩)
        (try simp only [Exit.inBlock, Exit.then]); refine bodyPost_ret (results_none rfl _ _ _) rfl ?_
        refine ⟨rfl, ?_⟩
        rw [← A.out, pdq_small h12]
        exact hAt.trans hw1
      · have h12z : ¬ ((b' : Int) - (a' : Int) ≤ 12) := by omega
        by_cases hl0 : lim = 0
        · subst hl0
          have hc := heap_calls blk off d.size cap dk hds a' b' wr hAt.holds hAt.len hab' (by omega) (by omega)
          go_wp2_with (go_at_call 36; refine hc.mono ?_; rintro e w1 ⟨rfl, hw1⟩)
          (try simp only [Exit.inBlock, Exit.then]); refine bodyPost_ret (results_none rfl _ _ _) rfl ?_
          refine ⟨rfl, ?_⟩
          rw [← A.out, pdq_heap h12 rfl]
          exact hAt.trans hw1
        · have hl0z : ¬ ((lim : Int) = 0) := by omega
          obtain ⟨s1, B1, hc1, s2, B2, hpv, s3, B3⟩ := rd_facts (limit := lim) (wb := wb) (wp := wp) swo partialInsertionSort_holds reverseRange_holds (show a' < b' by omega) (show b' ≤ dk.size by omega) hBel
          go_upto_if 35 with fail
          go_cut [3] from 19 (fun s3 wc => s3 = .int .i64 (rd ltInt dk a' b' lim wb wp).lim ∧ At w blk off (rd ltInt dk a' b' lim wb wp).d1 wc)
          case first =>
            cases wb
            · have hc := break_calls blk off cap a' b' dk wr hAt.holds hAt.len hab' (by omega) (by omega)
              rw [hds] at hc
              go_wp2_with (go_at_call 37; refine hc.mono ?_; rintro e w1 ⟨rfl, hw1⟩)
              go_meet
              case rel =>
                refine ⟨?_, hAt.trans hw1⟩
                show Value.int .i64 ((lim : Int) - 1) = Value.int .i64 ((lim - 1 : Nat) : Int)
                congr 1
                omega
            · go_wp2_with fail
              go_meet
              case rel => exact ⟨rfl, hAt⟩
          case rest =>
            obtain ⟨rfl, hAt1⟩ := hcut
            have hc17 : Calls Ybaf.prog 38 #[.slice (some ⟨blk, off, none⟩) d.size cap, .int .i64 a', .int .i64 b'] wc fun e w' => e = .returned (.tuple #[.int .i64 (rd ltInt dk a' b' lim wb wp).c.1, .int .i64 (hintNo (rd ltInt dk a' b' lim wb wp).c.2)]) ∧ At wc blk off (rd ltInt dk a' b' lim wb wp).d1 w' := by
              have := pivot_calls blk off cap a' b' (rd ltInt dk a' b' lim wb wp).d1 wc hAt1.holds hAt1.len (by omega) (by omega) (by omega)
              rw [s1, hds] at this
              exact this
            go_upto_if 50 with (go_at_call 38; refine hc17.mono ?_; rintro e w2 ⟨rfl, hw2⟩)
            have hAt2 : At w blk off (rd ltInt dk a' b' lim wb wp).d1 w2 := hAt1.trans hw2
            go_cut [11, 12] from 19 (fun s11 s12 wc => s11 = .int .i64 (rd ltInt dk a' b' lim wb wp).pivot ∧ s12 = .int .i64 (hintNo (rd ltInt dk a' b' lim wb wp).hint) ∧ At w blk off (rd ltInt dk a' b' lim wb wp).d2 wc)
            case first =>
              by_cases hh : (rd ltInt dk a' b' lim wb wp).c.2 = .decreasing
              · have hcode : hintNo (rd ltInt dk a' b' lim wb wp).c.2 = 2 := by rw [hh]; rfl
                obtain ⟨e2, epv, eht⟩ := rd_dec hh
                have hc18 := reverse_calls blk off cap (rd ltInt dk a' b' lim wb wp).d1 a' b' w2 hAt2.holds hAt2.len hab' (by omega) (by omega)
                rw [s1, hds] at hc18
                go_wp2_with (go_at_call 39; refine hc18.mono ?_; rintro e w3 ⟨rfl, hw3⟩)
                go_meet
                case rel =>
                  refine ⟨?_, by rw [eht]; rfl, by rw [e2]; exact hAt2.trans hw3⟩
                  rw [epv]
                  congr 1
                  omega
              · have hcode : ¬ (hintNo (rd ltInt dk a' b' lim wb wp).c.2 = 2) := fun h => hh (hintNo_two h)
                obtain ⟨e2, epv, eht⟩ := rd_not hh
                go_wp2_with fail
                go_meet
                case rel => exact ⟨by rw [epv], by rw [eht], by rw [e2]; exact hAt2⟩
            case rest =>
              obtain ⟨rfl, rfl, hAt3⟩ := hcut
              go_upto_region 15 with fail
              go_cut [12, 68] from 19 (fun s12 s68 wx => s12 = .int .i64 (hintNo (rd ltInt dk a' b' lim wb wp).hint) ∧ s68 = .bool (wb && wp && decide ((rd ltInt dk a' b' lim wb wp).hint = .increasing)) ∧ wx = wc)
              case first =>
                cases wb <;> cases wp <;> cases hh3 : (rd ltInt dk a' b' lim _ _).hint <;>
                  (have hcode3 := congrArg hintNo hh3
                   simp only [hintNo] at hcode3
                   go_wp2_with fail
                   go_meet
                   exact ⟨by simp [hh3, hintNo], by simp [hh3, hintNo], rfl⟩)
              case rest =>
                obtain ⟨rfl, rfl, rfl⟩ := hcut
                go_upto_if 68 with fail
                go_cut [] from 19 (fun wx => (rd ltInt dk a' b' lim wb wp).pi.2 = false ∧ At w blk off (rd ltInt dk a' b' lim wb wp).pi.1 wx)
                case first =>
                  cases h68 : (wb && wp && decide ((rd ltInt dk a' b' lim wb wp).hint = .increasing))
                  · have epi := rd_pi_no h68
                    go_wp2_with fail
                    go_meet
                    case rel => exact ⟨by rw [epi], by rw [epi]; exact hAt3⟩
                  · have epi := rd_pi_yes h68
                    have hc19 := parIns_calls blk off cap a' b' (rd ltInt dk a' b' lim wb wp).d2 wc hAt3.holds hAt3.len (by omega) (by omega) (by omega)
                    rw [s2, hds, ← epi] at hc19
                    go_wp2_with (go_at_call 40; refine hc19.mono ?_; rintro e w4 ⟨rfl, hw4⟩)
                    all_goals first
                      | (have hp2 : (rd ltInt dk a' b' lim wb wp).pi.2 = false := by rw [epi]; assumption
                         go_meet
                         exact ⟨hp2, hAt3.trans hw4⟩)
                      | (have hp2 : (rd ltInt dk a' b' lim wb wp).pi.2 = true := by rw [epi]; assumption
                         (try simp only [Exit.inBlock, Exit.then]); refine bodyPost_ret (results_none rfl _ _ _) rfl ?_
                         refine ⟨rfl, ?_⟩
                         rw [← A.out, pdq_done h12 hl0 hp2]
                         exact hAt3.trans hw4)
                case rest =>
                  obtain ⟨hp2, hAt5⟩ := hcut
                  have hcw : ∀ t, t < d.size → wc.cell? ⟨blk, off + t, none⟩ = some (.int .u64 (rd ltInt dk a' b' lim wb wp).pi.1[t]!) := fun t ht => (hAt5.holds t (by omega)).1
                  have hfw : ∀ t, t < d.size → wc.frozen? ⟨blk, off + t, none⟩ = false := fun t ht => (hAt5.holds t (by omega)).2
                  go_upto_region 17 with fail
                  go_cut [87] from 19 (fun s87 wx => s87 = .bool (decide (a' > 0) && !ltInt (rd ltInt dk a' b' lim wb wp).pi.1[a' - 1]! (rd ltInt dk a' b' lim wb wp).pi.1[(rd ltInt dk a' b' lim wb wp).pivot]!) ∧ At w blk off (rd ltInt dk a' b' lim wb wp).pi.1 wx)
                  case first =>
                    rcases Nat.eq_zero_or_pos a' with ha0 | ha0
                    · have ha0z : decide ((a' : Int) > 0) = false := decide_eq_false (by omega)
                      go_big_quiet (first | (go_at_call 33; refine Calls.quiet_of_same (less_calls _ _ _)))
                      go_wp2_with fail
                      go_meet
                      case rel => exact ⟨by simp [ha0], hAt5.drewN nq⟩
                    · have ha0z : (a' : Int) > 0 := by omega
                      go_big_quiet (first | (go_at_call 33; refine Calls.quiet_of_same (less_calls _ _ _)))
                      go_wp2_with fail
                      go_meet
                      case rel => exact ⟨by simp [ha0], hAt5.drewN nq⟩
                  case rest =>
                    obtain ⟨rfl, hAt6⟩ := hcut
                    clear hcw hfw
                    cases h87 : (decide (a' > 0) && !ltInt (rd ltInt dk a' b' lim wb wp).pi.1[a' - 1]! (rd ltInt dk a' b' lim wb wp).pi.1[(rd ltInt dk a' b' lim wb wp).pivot]!)
                    · obtain ⟨mid, ap, d4, hx⟩ : ∃ mid ap d4, partition ltInt (rd ltInt dk a' b' lim wb wp).pi.1 a' b' (rd ltInt dk a' b' lim wb wp).pivot = (mid, ap, d4) := ⟨(partition ltInt (rd ltInt dk a' b' lim wb wp).pi.1 a' b' (rd ltInt dk a' b' lim wb wp).pivot).1, (partition ltInt (rd ltInt dk a' b' lim wb wp).pi.1 a' b' (rd ltInt dk a' b' lim wb wp).pivot).2.1, (partition ltInt (rd ltInt dk a' b' lim wb wp).pi.1 a' b' (rd ltInt dk a' b' lim wb wp).pivot).2.2, rfl⟩
                      obtain ⟨r1, r2, r3, r4, r5, r6, r7⟩ := round_part swo (partition_holds ltInt) hpv.1 hpv.2 (show b' ≤ (rd ltInt dk a' b' lim wb wp).pi.1.size by omega) B3 hx
                      have hc22 := part_calls blk off cap a' b' (rd ltInt dk a' b' lim wb wp).pivot (rd ltInt dk a' b' lim wb wp).pi.1 wc hAt6.holds hAt6.len hpv.1 hpv.2 (by omega) (by omega)
                      rw [s3, hds, hx] at hc22
                      have X : Hid (partition ltInt (rd ltInt dk a' b' lim wb wp).pi.1 a' b' (rd ltInt dk a' b' lim wb wp).pivot = (mid, ap, d4)) := hx
                      clear hx
                      go_upto_if 113 with (go_at_call 42; refine hc22.mono ?_; rintro e w7 ⟨rfl, hw7⟩)
                      have hx := X.out
                      have hAt7 : At w blk off d4 w7 := hAt6.trans hw7
                      by_cases h4 : mid - a' < b' - mid
                      · have h4z : (mid : Int) - (a' : Int) < (b' : Int) - (mid : Int) := by omega
                        have hih := ih blk off cap a' mid (rd ltInt dk a' b' lim wb wp).lim d4 w7 (by omega) hAt7.holds hAt7.len (by omega) (by omega) (by omega) (Nat.lt_of_le_of_lt (Nat.le_trans rd_lim_le hlim) hlimit) r4
                        rw [r3, s3, hds] at hih
                        obtain ⟨pL, sL⟩ := pdq_sorts ltInt swo d4 a' mid (rd ltInt dk a' b' lim wb wp).lim true true (by omega) (by omega) r4
                        go_wp2_with (go_at_call 24; refine hih.mono ?_; rintro e w8 ⟨rfl, hw8⟩)
                        go_roundg (b' - (mid + 1))
                        case measure => omega
                        case rel =>
                          refine ⟨mid + 1, b', (rd ltInt dk a' b' lim wb wp).lim, decide (mid - a' ≥ (b' - a') / 8), ap, pdq ltInt d4 a' mid (rd ltInt dk a' b' lim wb wp).lim true true, by simp, rfl, rfl, ?_, rfl, by omega, by omega, Nat.le_refl _, by omega, Nat.le_trans rd_lim_le hlim, by rw [pL.1, r3, s3, hds], (r6 _ pL sL).1, hAt7.trans hw8, hid ?_⟩
                          · exact congrArg Value.bool (eighth' (by omega) (by omega))
                          · rw [← A.out, pdq_left h12 hl0 hp2 h87 (by rw [hx]; exact ⟨r1, r2⟩) (by rw [hx]; exact h4), hx]
                      · have h4z : ¬ ((mid : Int) - (a' : Int) < (b' : Int) - (mid : Int)) := by omega
                        have hih := ih blk off cap (mid + 1) b' (rd ltInt dk a' b' lim wb wp).lim d4 w7 (by omega) hAt7.holds hAt7.len (by omega) (by omega) (by omega) (Nat.lt_of_le_of_lt (Nat.le_trans rd_lim_le hlim) hlimit) r5
                        rw [r3, s3, hds] at hih
                        obtain ⟨pL, sL⟩ := pdq_sorts ltInt swo d4 (mid + 1) b' (rd ltInt dk a' b' lim wb wp).lim true true (by omega) (by omega) r5
                        go_wp2_with (go_at_call 24; refine hih.mono ?_; rintro e w8 ⟨rfl, hw8⟩)
                        go_roundg (mid - a')
                        case measure => omega
                        case rel =>
                          refine ⟨a', mid, (rd ltInt dk a' b' lim wb wp).lim, decide (b' - mid ≥ (b' - a') / 8), ap, pdq ltInt d4 (mid + 1) b' (rd ltInt dk a' b' lim wb wp).lim true true, rfl, rfl, rfl, ?_, rfl, by omega, by omega, Nat.le_refl _, by omega, Nat.le_trans rd_lim_le hlim, by rw [pL.1, r3, s3, hds], (r7 _ pL sL).1, hAt7.trans hw8, hid ?_⟩
                          · exact congrArg Value.bool (eighth' (by omega) (by omega))
                          · rw [← A.out, pdq_right h12 hl0 hp2 h87 (by rw [hx]; exact ⟨r1, r2⟩) (by rw [hx]; exact h4), hx]
                    · have h87' := h87
                      simp only [Bool.and_eq_true, decide_eq_true_eq, Bool.not_eq_true'] at h87'
                      obtain ⟨mid, d4, hx⟩ : ∃ mid d4, partitionEqual ltInt (rd ltInt dk a' b' lim wb wp).pi.1 a' b' (rd ltInt dk a' b' lim wb wp).pivot = (mid, d4) := ⟨(partitionEqual ltInt (rd ltInt dk a' b' lim wb wp).pi.1 a' b' (rd ltInt dk a' b' lim wb wp).pivot).1, (partitionEqual ltInt (rd ltInt dk a' b' lim wb wp).pi.1 a' b' (rd ltInt dk a' b' lim wb wp).pivot).2, rfl⟩
                      obtain ⟨r1, r2, r3, r4, _⟩ := round_eq swo (partitionEqual_holds ltInt) h87'.1 hpv.1 hpv.2 (show b' ≤ (rd ltInt dk a' b' lim wb wp).pi.1.size by omega) B3 h87'.2 hx
                      have hc21 := partEq_calls blk off cap a' b' (rd ltInt dk a' b' lim wb wp).pivot (rd ltInt dk a' b' lim wb wp).pi.1 wc hAt6.holds hAt6.len hpv.1 hpv.2 (by omega) (by omega)
                      rw [s3, hds, hx] at hc21
                      have X : Hid (partitionEqual ltInt (rd ltInt dk a' b' lim wb wp).pi.1 a' b' (rd ltInt dk a' b' lim wb wp).pivot = (mid, d4)) := hx
                      clear hx
                      go_wp2_with (go_at_call 41; refine hc21.mono ?_; rintro e w7 ⟨rfl, hw7⟩)
                      go_roundg (b' - mid)
                      case measure => omega
                      case rel =>
                        have hx := X.out
                        exact ⟨mid, b', (rd ltInt dk a' b' lim wb wp).lim, wb, wp, d4, rfl, rfl, rfl, rfl, rfl, r2, hb', Nat.le_refl _, by omega, Nat.le_trans rd_lim_le hlim, by rw [r3, s3, hds], r4, hAt6.trans hw7, hid (by rw [← A.out, pdq_eq h12 hl0 hp2 h87 (by rw [hx]; exact ⟨r1, r2⟩), hx])⟩

end Go.Proofs.YbulkbrtmFmt
