import Derived.Test.YbulkbrtmFmtIds
import Derived.Deep.Slices
set_option linter.unusedVariables false
set_option linter.unusedSimpArgs false
set_option maxHeartbeats 4000000
set_option maxRecDepth 1000000
namespace Go.Proofs.YbulkbrtmFmt
open Go.RowKit Go.Sort Go.Proofs Go.Deep

theorem Ints.opens {w : World} {v : Value} {L : List Int} (h : Ints w v L) : ∃ ao cap, v = .slice ao L.length cap ∧ (L.length = 0 ∨ ∃ b off, ao = some ⟨b, off, none⟩ ∧ ∀ t, t < L.length → w.cell? ⟨b, off + t, none⟩ = some (.int .u64 (L.getD t 0))) := by
  rcases h with ⟨rfl, rfl⟩ | ⟨a, cap, rfl, _, hc⟩
  · exact ⟨_, _, rfl, .inl rfl⟩
  · refine ⟨_, _, rfl, ?_⟩
    by_cases h0 : L.length = 0
    · exact .inl h0
    right
    have hat : ∀ t, t < L.length → w.cell? (a.add t) = some (.int .u64 (L.getD t 0)) := fun t ht => hc t _ (by simp [ht])
    have hsp : a.spot = none := by
      have := World.cell?_spot (hat 0 (by omega))
      simpa [Addr.add] using this
    obtain ⟨b, off, spot⟩ := a
    simp at hsp
    subst hsp
    have hadd : ∀ j, (⟨b, off, none⟩ : Addr).add j = ⟨b, off + j, none⟩ := by intro j; unfold Addr.add; split <;> simp_all
    exact ⟨b, off, rfl, fun t ht => by rw [← hadd]; exact hat t ht⟩

theorem has_calls (w : World) (v : Value) (L : List Int) (hv : Ints w v L) (hl : L.length ≤ 1024) (x : Int) :
    Calls Ybaf.prog 10 #[v, .int .u64 x] w fun e w' => e = .returned (.bool (decide (x ∈ L))) ∧ w' = w := by
  obtain ⟨ao, cap, rfl, hc⟩ := hv.opens
  obtain ⟨n, hn⟩ : ∃ n, n = L.length := ⟨_, rfl⟩
  obtain ⟨G, hG⟩ : ∃ G : Nat → Int, ∀ t, G t = L.getD t 0 := ⟨fun t => L.getD t 0, fun _ => rfl⟩
  have hin : ∀ k, k < n → G k = x → x ∈ L := fun k hk e => by
    rw [← e, hG, List.getD_eq_getElem?_getD, List.getElem?_eq_getElem (by omega)]
    exact List.getElem_mem _
  have hout : (∀ t, t < n → G t ≠ x) → ¬ x ∈ L := fun h hx => by
    obtain ⟨t, ht, e⟩ := List.getElem_of_mem hx
    exact h t (by omega) (by rw [hG, List.getD_eq_getElem?_getD, List.getElem?_eq_getElem ht]; simpa using e)
  simp only [← hG] at hc
  rw [← hn] at hl hc ⊢
  have HI := hid hin
  have HO := hid hout
  clear hn hG hin hout hv
  go_enter Ybaf.func10, Ybaf.ntmps10
  go_wp2_with fail
  go_loopw [9] (fun vi wr => ∃ (k : Nat), vi = .int .i64 k ∧ k ≤ n ∧ wr = w ∧ Hid (∀ t, t < k → G t ≠ x)) (fun vi _ => n - (intOf vi).toNat)
  case atStart => exact ⟨0, rfl, Nat.zero_le _, rfl, hid fun t ht => by omega⟩
  case round =>
    obtain ⟨k, rfl, hk, rfl, hno⟩ := hrel
    by_cases hlt : k < n
    · obtain ⟨b, off, rfl, hcell⟩ : ∃ b off, ao = some ⟨b, off, none⟩ ∧ ∀ t, t < n → wr.cell? ⟨b, off + t, none⟩ = some (.int .u64 (G t)) := by
        rcases hc with h | h
        · omega
        · exact h
      have ck := hcell k hlt
      by_cases he : G k = x
      · have hb : (G k == x) = true := by simp [he]
        go_wp2_with fail
        go_ret
        exact ⟨by rw [decide_eq_true (HI.out k hlt he)]; rfl, rfl⟩
      · have hb : (G k == x) = false := by simp [he]
        go_wp2_with fail
        go_roundw
        case rel =>
          refine ⟨k + 1, by go_num, by omega, trivial, hid fun t ht => ?_⟩
          by_cases e : t = k
          · subst e; exact he
          · exact hno.out t (by omega)
        case measure => simp [intOf]; omega
    · go_wp2_with fail
      go_ret
      exact ⟨by rw [decide_eq_false (HO.out fun t ht => hno.out t (by omega))]; rfl, rfl⟩

theorem nan_calls (x : Int) (w : World) : Calls Ybaf.prog 34 #[.int .u64 x] w fun e w' => e = .returned (.bool false) ∧ w' = w := by
  go_enter Ybaf.func34, Ybaf.ntmps34
  go_wp2
  go_ret
  exact ⟨by simp, rfl⟩

theorem bin_calls (w : World) (ao : Option Addr) (cap n : Nat) (G : Nat → Int) (x : Int) (hn : n ≤ 1024) (hc : n = 0 ∨ ∃ b off, ao = some ⟨b, off, none⟩ ∧ ∀ t, t < n → w.cell? ⟨b, off + t, none⟩ = some (.int .u64 (G t)))
    (hs : ∀ i j, i < j → j < n → G i ≤ G j) :
    Calls Ybaf.prog 21 #[.slice ao n cap, .int .u64 x] w fun e w' => (∃ (i : Nat) (f : Bool), e = .returned (.tuple #[.int .i64 i, .bool f]) ∧ (f = true ↔ ∃ t, t < n ∧ G t = x)) ∧ w' = w := by
  have HS := hid hs
  clear hs
  have hless := less_calls
  have hnan := nan_calls
  go_enter Ybaf.func21, Ybaf.ntmps21
  go_wp2_with fail
  go_loopw [7, 8] (fun vi vj wr => ∃ (i j : Nat), vi = .int .i64 i ∧ vj = .int .i64 j ∧ i ≤ j ∧ j ≤ n ∧ wr = w ∧ Hid (∀ t, t < i → G t < x) ∧ Hid (∀ t, j ≤ t → t < n → x ≤ G t)) (fun vi vj _ => (intOf vj).toNat - (intOf vi).toNat)
  case atStart => exact ⟨0, n, rfl, rfl, Nat.zero_le _, Nat.le_refl _, rfl, hid fun t ht => by omega, hid fun t h1 h2 => by omega⟩
  case round =>
    obtain ⟨i, j, rfl, rfl, hij, hjn, rfl, hlo, hhi⟩ := hrel
    by_cases hlt : i < j
    · obtain ⟨b, off, rfl, hcell⟩ : ∃ b off, ao = some ⟨b, off, none⟩ ∧ ∀ t, t < n → wr.cell? ⟨b, off + t, none⟩ = some (.int .u64 (G t)) := by
        rcases hc with h | h
        · omega
        · exact h
      obtain ⟨h, hh⟩ : ∃ h, h = (i + j) / 2 := ⟨_, rfl⟩
      have ch := hcell h (by omega)
      have hhz : ((i : Int) + (j : Int)) / 2 = (h : Int) := by omega
      have HH := hid hh
      clear hc hcell hh
      go_wp2_with fail
      refine (hless _ _ _).mono ?_
      rintro e w1 ⟨rfl, rfl⟩
      cases hl : ltInt (G h) x
      · go_wp2_with fail
        go_roundw
        case rel =>
          have hh := HH.out
          have hx : x ≤ G h := by simpa [ltInt] using hl
          refine ⟨i, h, rfl, rfl, by omega, by omega, trivial, hlo, hid fun t h1 h2 => ?_⟩
          by_cases e : t = h
          · subst e; exact hx
          · exact Int.le_trans hx (HS.out h t (by omega) h2)
        case measure => have hh := HH.out; simp [intOf]; omega
      · go_wp2_with fail
        go_roundw
        case rel =>
          have hh := HH.out
          have hx : G h < x := by simpa [ltInt] using hl
          refine ⟨h + 1, j, by go_num, rfl, by omega, hjn, trivial, hid fun t h1 => ?_, hhi⟩
          by_cases e : t = h
          · subst e; exact hx
          · exact Int.lt_of_le_of_lt (HS.out t h (by omega) (by omega)) hx
        case measure => have hh := HH.out; simp [intOf]; omega
    · obtain rfl : i = j := by omega
      by_cases hin : i < n
      · obtain ⟨b, off, rfl, hcell⟩ : ∃ b off, ao = some ⟨b, off, none⟩ ∧ ∀ t, t < n → wr.cell? ⟨b, off + t, none⟩ = some (.int .u64 (G t)) := by
          rcases hc with h | h
          · omega
          · exact h
        have ci := hcell i hin
        clear hc hcell
        by_cases he : G i = x
        · have hb : (G i == x) = true := by simp [he]
          go_wp2_with fail
          go_ret2
          exact ⟨⟨i, true, rfl, by simp; exact ⟨i, hin, he⟩⟩, rfl⟩
        · have hb : (G i == x) = false := by simp [he]
          go_wp2_with fail
          refine (hnan _ _).mono ?_
          rintro e w1 ⟨rfl, rfl⟩
          go_wp2_with fail
          go_ret2
          refine ⟨⟨i, false, rfl, ⟨fun h => (by cases h), fun ⟨t, ht, e1⟩ => (show False from ?_).elim⟩⟩, rfl⟩
          by_cases h1 : t < i
          · have := hlo.out t h1; omega
          · by_cases h2 : t = i
            · subst h2; exact he e1
            · have h3 := HS.out i t (by omega) ht
              have h4 := hhi.out i (Nat.le_refl _) hin
              omega
      · go_wp2_with fail
        go_ret2
        refine ⟨⟨i, false, rfl, ⟨fun h => (by cases h), fun ⟨t, ht, e1⟩ => (show False from ?_).elim⟩⟩, rfl⟩
        have := hlo.out t (by omega)
        omega

/-- slices.BinarySearch over sorted numbers. -/
theorem seek_calls (base : Nat) (w : World) (v : Value) (d : Array Int) (hO : Own base w v d) (hl : d.size ≤ 1024) (hs : ∀ i j, i < j → j < d.size → d[i]! ≤ d[j]!) (x : Int) :
    Calls Ybaf.prog 21 #[v, .int .u64 x] w fun e w' => (∃ (i : Nat), e = .returned (.tuple #[.int .i64 i, .bool (decide (x ∈ d.toList))])) ∧ w' = w := by
  have key : ∀ ao cap, (d.size = 0 ∨ ∃ b off, ao = some ⟨b, off, none⟩ ∧ ∀ t, t < d.size → w.cell? ⟨b, off + t, none⟩ = some (.int .u64 d[t]!)) → Calls Ybaf.prog 21 #[.slice ao d.size cap, .int .u64 x] w fun e w' => (∃ (i : Nat), e = .returned (.tuple #[.int .i64 i, .bool (decide (x ∈ d.toList))])) ∧ w' = w := fun ao cap hc => by
    refine (bin_calls w ao cap d.size (fun t => d[t]!) x hl hc hs).mono ?_
    rintro e w' ⟨⟨i, f, rfl, hf⟩, rfl⟩
    refine ⟨⟨i, ?_⟩, rfl⟩
    have : f = decide (x ∈ d.toList) := by
      rw [Bool.eq_iff_iff, hf, decide_eq_true_iff]
      constructor
      · rintro ⟨t, ht, e⟩
        rw [← e, getElem!_pos d t ht]
        exact Array.getElem_mem_toList ht
      · intro hx
        obtain ⟨t, ht, e⟩ := List.getElem_of_mem hx
        have ht' : t < d.size := by simpa using ht
        exact ⟨t, ht', by rw [getElem!_pos d t ht']; simpa using e⟩
    rw [this]
  rcases hO with ⟨rfl, rfl⟩ | ⟨b, cap, rfl, hH, _, _, _⟩
  · exact key none 0 (.inl rfl)
  · exact key _ _ (.inr ⟨b, 0, rfl, fun t ht => (hH t ht).1⟩)
end Go.Proofs.YbulkbrtmFmt
