import Derived.Test.YbulkbrtmFmtIds
import Derived.Test.YbulkbrtmFmtWhole
import Derived.Test.YbulkbrtmFmtJoin
import Derived.Laws.AppendOwn
set_option linter.unusedVariables false
set_option linter.unusedSimpArgs false
set_option maxHeartbeats 8000000
set_option maxRecDepth 1000000
namespace Go.Proofs.YbulkbrtmFmt
open Go.RowKit Go.Sort Go.Proofs Go.Deep Go.Kit
open Go.Extern.Stop Go.Stop Go.Extern

theorem info9 : (Ybaf.prog.info? 9).map (fun i => (i.zero, i.size, i.bytes)) = some (some (.string ⟨#[]⟩), 1, 16) := by kernel_rfl

theorem ownsRow_succ {w : World} {base : Nat} {e : TypeId} {size : Nat} {v : Value} {n : Nat} {xs : List Value} (h : w.ownsRow base e size v (n + 1) xs) : ∃ g cap, v = .slice (some ⟨g, 0, none⟩) (n + 1) cap := by
  rcases h.2 with ⟨_, h0⟩ | ⟨g, cap, _, rfl, _⟩
  · omega
  · exact ⟨g, cap, rfl⟩
theorem own_of_row {w : World} {base : Nat} {v : Value} {d : Array Int} (h : w.ownsRow base 26 1 v d.size (d.toList.map u64)) : Own base w v d := by
  rcases h.2 with ⟨rfl, h0⟩ | ⟨g, cap, cur, rfl, hb, hh, hc, _, hs, ht⟩
  · exact .inl ⟨rfl, by simpa using h0⟩
  · refine .inr ⟨g, cap, rfl, ?_, hb, (Array.getElem?_eq_some_iff.1 hh).1, hc⟩
    intro j hj
    have hB : Blk w g 26 cur := hh
    refine ⟨?_, hB.frozen _⟩
    rw [hB.cell, Nat.zero_add]
    have := congrArg (·[j]?) ht
    rw [Nat.mul_one] at this
    simp only [List.getElem?_take_of_lt hj] at this
    simpa [hj] using this

theorem Keeps.grownNew {S : Nat → Prop} {w w' w'' : World} (h : Keeps S w w') {row : Option Nat} (hg : w'.grownBy w'' row) (hr : ∀ k, row = some k → w.heap.size ≤ k) : Keeps S w w'' :=
  ⟨hg.os.trans h.os, hg.tape.trans h.tape, hg.output.trans h.output, Nat.le_trans h.size hg.size, fun b hb hs => (hg.block b (Nat.lt_of_lt_of_le hb h.size) (fun e => by have := hr b e.symm; omega)).trans (h.block b hb hs)⟩
theorem take_succ_map (d : Array Int) (k : Nat) (hk : k < d.size) : (d.toList.map u64).take (k + 1) = (d.toList.map u64).take k ++ [u64 d[k]!] := by
  rw [List.take_add_one]
  simp [hk]
theorem own_cell {base : Nat} {w : World} {ao : Option Addr} {cap : Nat} {d : Array Int} (h : Own base w (.slice ao d.size cap) d) (t : Nat) (ht : t < d.size) : ∃ b, ao = some ⟨b, 0, none⟩ ∧ b < w.heap.size ∧ w.cell? ⟨b, t, none⟩ = some (.int .u64 d[t]!) := by
  rcases h with ⟨_, rfl⟩ | ⟨b, c, hv, hH, _, hl, _⟩
  · simp at ht
  · cases hv
    exact ⟨b, rfl, hl, by have := (hH t ht).1; rwa [Nat.zero_add] at this⟩

/-- The pattern: its text begins with a v. -/
theorem pattern_calls (F : Interp) (w : World) (hF : F.told.answers w.tape) (sb g : Nat) (ss : Array Value) (inv : Bool) (d : Array Int) (hsb : Blk w sb 45 ss) (hinv : ss[9]? = some (.bool inv)) (hg : Grps w g d) (hl : d.size ≤ 1024)
    (hwf : ∀ x ∈ d.toList, (Lit.int .u64 x).wf = true) :
    Calls Ybaf.prog 15 #[.pointer (some ⟨sb, 0, none⟩), .slice (some ⟨g, 0, none⟩) d.size d.size] w fun e w' =>
      ∃ r : List UInt8, e = .returned (.string ⟨(118 :: r).toArray⟩) ∧ Keeps (fun _ => False) w w' := by
  obtain ⟨cs, hB, hcs, hcell⟩ := hg
  obtain ⟨G, hG⟩ : ∃ G : Nat → Int, ∀ t, G t = d[t]! := ⟨fun t => d[t]!, fun _ => rfl⟩
  have HG : Hid (∀ t, G t = d[t]!) := hG
  obtain ⟨n, hn⟩ : ∃ n, n = d.size := ⟨_, rfl⟩
  simp only [← hG] at hcell
  rw [← hn] at hl hcell hcs ⊢
  have HN := hid hn
  have HW := hid hwf
  clear hn hwf hG
  obtain ⟨i0, hi0, hz0, hz1, hz2⟩ := info_parts info26
  go_enter Ybaf.func15, Ybaf.ntmps15
  go_wp2_with fail
  go_loopw [17, 6, 5] (fun vi v6 v5 wr => ∃ (k : Nat) (vs : Value), vi = .int .i64 k ∧ vs = v6 ∧ v5 = .slice none 0 0 ∧ k ≤ n ∧ Keeps (fun _ => False) w wr ∧ wr.ownsRow w.heap.size 26 1 vs k ((d.toList.map u64).take k)) (fun vi _ _ _ => n - (intOf vi).toNat)
  case atStart => exact ⟨0, _, rfl, rfl, rfl, Nat.zero_le _, Keeps.refl _ _, World.ownsRow_nil _ _ _ _⟩
  case round =>
    obtain ⟨k, vs, rfl, rfl, rfl, hkn, kw, hown⟩ := hrel
    by_cases hlt : k < n
    · obtain ⟨c0, c1, u, c2⟩ := hcell k hlt
      obtain ⟨ao, cp, rfl⟩ := own_slice hown
      have hB1 := hB.keeps kw (fun x => x)
      rw [← hB1.cell] at c0 c1 c2
      have hwz := kw.size
      go_wp2_with (at_builtin; refine wpList_append_own _ rfl _ _ 22 rfl w.heap.size 26 i0 (.int .u64 0) 1 8 Ybaf.underlying22 hi0 hz0 hz1 hz2 rfl (by decide) _ _ _ rfl ((hown.alloc _).alloc _) ⟨wr.heap.size + 1, 0, none⟩ 1 1 [.int .u64 (G k)] rfl rfl ?c1 ?c2 ?c3 ?c4 ?c5 ?_)
      case c1 => exact cell_one_new' _ _ _ _ (by simp)
      case c2 => intro u hu; simp at hu; subst hu; rfl
      case c3 => unfold maxLen; omega
      case c4 => omega
      case c5 => simp; omega
      intro v3 w3 hown3 hgrow3 _
      obtain ⟨r3, cap3, rfl⟩ := ownsRow_succ hown3
      go_wp2_with fail
      go_roundw
      case rel =>
        refine ⟨k + 1, _, by go_num, rfl, rfl, by omega, ?_, ?_⟩
        · exact ((kw.alloc _).alloc _).grownNew hgrow3 fun b hb => (hown.lt b hb).1
        · rw [take_succ_map d k (by rw [← HN.out]; exact hlt), ← HG.out]
          exact hown3
      case measure => simp [intOf]; omega
    · obtain rfl : k = n := by omega
      have hO : Own w.heap.size wr vs d := own_of_row (by
        have := hown
        rw [HN.out] at this
        simpa [List.take_of_length_le] using this)
      have hs := sort_own w.heap.size wr vs d hO (by rw [← HN.out]; omega)
      obtain ⟨av, cap, rfl⟩ := hO.slice
      have hlen : d.size = k := HN.out.symm
      have hlow : ∀ b, (Value.slice av d.size cap).ownBlock = some b → w.heap.size ≤ b := fun b hb => (hO.lt b hb).1
      rw [hlen] at hs hlow
      clear hown hO hcell hB
      go_wp2_with fail
      refine hs.mono ?_
      rintro e w1 ⟨rfl, hO1, k1⟩
      have k2 : Keeps (fun _ => False) w w1 := ⟨k1.os.trans kw.os, k1.tape.trans kw.tape, k1.output.trans kw.output, Nat.le_trans kw.size k1.size, fun b hb hs => (k1.block b (Nat.lt_of_lt_of_le hb kw.size) (fun e => by have := hlow b e; omega)).trans (kw.block b hb hs)⟩
      have hsz2 := sort_size d
      have hwf2 : ∀ t, t < k → (Lit.int .u64 (Sort.sort ltInt d)[t]!).wf = true := fun t ht => by
        refine HW.out _ ((sort_perm d).mem_iff.1 ?_)
        have ht2 : t < (Sort.sort ltInt d).size := by omega
        rw [getElem!_pos (Sort.sort ltInt d) t ht2]
        exact Array.getElem_mem_toList ht2
      obtain ⟨Gs, hGs⟩ : ∃ G : Nat → Int, ∀ t, G t = (Sort.sort ltInt d)[t]! := ⟨fun t => (Sort.sort ltInt d)[t]!, fun _ => rfl⟩
      have hcs2 : ∀ t, t < k → ∃ b, av = some ⟨b, 0, none⟩ ∧ b < w1.heap.size ∧ w1.cell? ⟨b, t, none⟩ = some (.int .u64 (Gs t)) := fun t ht => by
        have h' : Own w.heap.size w1 (.slice av (Sort.sort ltInt d).size cap) (Sort.sort ltInt d) := by rw [hsz2, hlen]; exact hO1
        rw [hGs]
        exact own_cell h' t (by omega)
      simp only [← hGs] at hwf2
      rw [hlen]
      clear hO1 hsz2 hs k1 HW HG hGs hlen HN
      clear G
      obtain ⟨j0, hj0, hy0, hy1, hy2⟩ := info_parts info9
      go_wp2_with fail
      go_loopw [54, 5] (fun vi v5 wr2 => ∃ (j : Nat) (vt : Value) (ts : List ByteArray), vi = .int .i64 j ∧ vt = v5 ∧ j ≤ k ∧ Keeps (fun _ => False) w1 wr2 ∧ (∀ s ∈ ts, s.size ≤ 100) ∧ wr2.ownsRow w1.heap.size 9 1 vt j (ts.map Value.string)) (fun vi _ _ => k - (intOf vi).toNat)
      case atStart => exact ⟨0, _, [], rfl, rfl, Nat.zero_le _, Keeps.refl _ _, by simp, World.ownsRow_nil _ _ _ _⟩
      case round =>
        obtain ⟨j, vt, ts, rfl, rfl, hjk, k3, hts, hown⟩ := hrel
        obtain ⟨ao, cp, rfl⟩ := own_slice hown
        have k4 := k2.trans k3
        have hF2 : F.told.answers wr.tape := by rw [k4.tape]; exact hF
        by_cases hlt2 : j < k
        · obtain ⟨b, rfl, hbl, hcb⟩ := hcs2 j hlt2
          have hcb2 : wr.cell? ⟨b, j, none⟩ = some (.int .u64 (Gs j)) := by
            rw [← hcb]; exact World.cell?_of_block (k3.block _ hbl (fun x => x))
          have hwh := whole_calls F (Gs j) (hwf2 j hlt2) wr hF2
          go_wp2_with fail
          refine hwh.mono ?_
          rintro e w4 ⟨s, rfl, hs, k5⟩
          have hown4 := ownsRow_keeps hown k5 (fun _ x => x.elim)
          have k6 := k3.trans k5
          have hz6 := k6.size
          go_wp2_with (at_builtin; refine wpList_append_own _ rfl _ _ 36 rfl w1.heap.size 9 j0 (.string ⟨#[]⟩) 1 16 Ybaf.underlying36 hj0 hy0 hy1 hy2 rfl (by decide) _ _ _ rfl (hown4.alloc _) ⟨w4.heap.size, 0, none⟩ 1 1 [.string s] rfl rfl ?c1 ?c2 ?c3 ?c4 ?c5 ?_)
          case c1 => exact cell_one_new' _ _ _ _ rfl
          case c2 => intro u hu; simp at hu; subst hu; rfl
          case c3 => unfold maxLen; omega
          case c4 => omega
          case c5 => simp; omega
          intro v3 w3 hown3 hgrow3 _
          obtain ⟨r3, cap3, rfl⟩ := ownsRow_succ hown3
          go_wp2_with fail
          go_roundw
          case rel =>
            refine ⟨j + 1, _, ts ++ [s], by go_num, rfl, by omega, (k6.alloc _).grownNew hgrow3 fun b hb => (hown.lt b hb).1, ?_, by simpa using hown3⟩
            intro x hx
            rcases List.mem_append.1 hx with hx | hx
            · exact hts x hx
            · simp at hx; subst hx; exact hs
          case measure => simp [intOf]; omega
        · obtain rfl : j = k := by omega
          have hsb2 := hsb.keeps k4 (fun x => x)
          have hci : wr.cell? ⟨sb, 9, none⟩ = some (.bool inv) := by rw [hsb2.cell]; exact hinv
          have hown0 := hown
          have kB : Keeps (fun _ => False) w wr := k4
          have hb0 := Bld.start wr
          go_wp2_with fail
          refine (write_calls wr.heap.size wr.heap.size [] ⟨#[118]⟩ _ hb0 (by decide)).mono ?_
          rintro e w5 ⟨rfl, hb5, bel5⟩
          have k5 : Keeps (fun _ => False) wr w5 := ((Keeps.refl _ wr).alloc _).thenBelow bel5 (Nat.le_refl _)
          have hci5 : w5.cell? ⟨sb, 9, none⟩ = some (.bool inv) := by rw [(hsb2.keeps k5 (fun x => x)).cell]; exact hinv
          have hl5 : wr.heap.size ≤ w5.heap.size := k5.size
          cases inv
          · go_wp2_with fail
            refine (join_own w5 w1.heap.size _ j ts ⟨#[43]⟩ rfl (ownsRow_keeps hown k5 (fun _ x => x.elim)) hl hts).mono ?_
            rintro e w6 ⟨s, rfl, hs, k6⟩
            go_wp2_with fail
            refine (write_calls wr.heap.size wr.heap.size _ s w6 (hb5.keeps k6 (fun _ x => x.elim)) (by simp; omega)).mono ?_
            rintro e w7 ⟨rfl, hb7, bel7⟩
            go_wp2_with fail
            refine (string_calls wr.heap.size wr.heap.size _ w7 hb7).mono ?_
            rintro e w8 ⟨rfl, bel8⟩
            go_wp2_with fail
            go_ret
            exact ⟨s.data.toList, rfl, kB.trans (((k5.trans k6).thenBelow bel7 (Nat.le_refl _)).thenBelow bel8 (Nat.le_refl _))⟩
          · go_wp2_with fail
            refine (write_calls wr.heap.size wr.heap.size _ ⟨#[33]⟩ w5 hb5 (by decide)).mono ?_
            rintro e w9 ⟨rfl, hb9, bel9⟩
            have k9 := k5.thenBelow bel9 (Nat.le_refl _)
            go_wp2_with fail
            refine (join_own w9 w1.heap.size _ j ts ⟨#[43]⟩ rfl (ownsRow_keeps hown k9 (fun _ x => x.elim)) hl hts).mono ?_
            rintro e w6 ⟨s, rfl, hs, k6⟩
            go_wp2_with fail
            refine (write_calls wr.heap.size wr.heap.size _ s w6 (hb9.keeps k6 (fun _ x => x.elim)) (by simp; omega)).mono ?_
            rintro e w7 ⟨rfl, hb7, bel7⟩
            go_wp2_with fail
            refine (string_calls wr.heap.size wr.heap.size _ w7 hb7).mono ?_
            rintro e w8 ⟨rfl, bel8⟩
            go_wp2_with fail
            go_ret
            exact ⟨33 :: s.data.toList, rfl, kB.trans (((k9.trans k6).thenBelow bel7 (Nat.le_refl _)).thenBelow bel8 (Nat.le_refl _))⟩
end Go.Proofs.YbulkbrtmFmt
