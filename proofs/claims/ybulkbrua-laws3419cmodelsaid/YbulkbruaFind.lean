import Derived.Test.YbulkbruaEq
import Derived.Deep.QuietTactic
namespace Go.Proofs.Ybulkbrua
open Go.RowKit Go.Deep
set_option linter.unusedVariables false
set_option linter.unusedSimpArgs false
attribute [local go_sem ↓] Go.wp_at_zero Go.wp_at_succ

theorem orR {a b c : Prop} (h : a ∨ b) (f : b → c) : a ∨ c := by
  rcases h with h | h
  · exact .inl h
  · exact .inr (f h)

/-- One entry that came in: its two names, its list as it lies, the list's S-NSSAIs. -/
structure En where
  mcc : ByteArray
  mnc : ByteArray
  v : Value
  L : List El

def enCells (e : En) (c : Value) : List Value := [.string e.mcc, .string e.mnc, .slice none 0 0, .map none, c, .map none]

/-- The first match. -/
def firstM (E : Nat → En) (a b : ByteArray) : Nat → Nat → Option Nat
  | _, 0 => none
  | j, n + 1 => if (E j).mcc = a ∧ (E j).mnc = b then some j else firstM E a b (j + 1) n

set_option maxRecDepth 100000 in
set_option maxHeartbeats 1000000 in
theorem find6 (w : World) (S n cap : Nat) (ao : Option Addr) (E : Nat → En) (a b : ByteArray) (hS : w.cell? ⟨S, 1, none⟩ = some (.slice ao n cap)) (hn : n ≤ 1024)
    (hr : n = 0 ∨ ∃ g, ao = some ⟨g, 0, none⟩ ∧ n ≤ cap ∧ ∀ j, j < n → w.cell? ⟨g, j * 6, none⟩ = some (.string (E j).mcc) ∧ w.cell? ⟨g, j * 6 + 1, none⟩ = some (.string (E j).mnc)) :
    Calls Yba.prog 6 #[.pointer (some ⟨S, 0, none⟩), .agg #[.string a, .string b]] w fun e w' => Keeps (fun _ => False) w w' ∧ ((firstM E a b 0 n = none ∧ e = .returned (.pointer none)) ∨ ∃ k g, firstM E a b 0 n = some k ∧ k < n ∧ ao = some ⟨g, 0, none⟩ ∧ e = .returned (.pointer (some ⟨g, k * 6, none⟩))) := by
  have hSl := block_lt_of_cell hS
  have hpe := plmn_eq
  have hgd := hg33
  go_enter Yba.func6, Yba.ntmps6
  go_wp2_with fail
  go_loopw [11] (fun q wr => ∃ j m : Nat, j ≤ n ∧ q = .int .i64 j ∧ wr = (w.alloc (.cells #[.string a, .string b] 33)).drewN m ∧ firstM E a b 0 n = firstM E a b j (n - j)) (fun q _ => n - (intOf q).toNat)
  case atStart => exact ⟨0, 0, Nat.zero_le _, rfl, rfl, rfl⟩
  case round =>
    obtain ⟨j, m, hj, rfl, rfl, hf⟩ := hrel
    by_cases hji : j < n
    · rcases hr with h0 | ⟨g, rfl, hcap, hr⟩
      · omega
      have hji1 : (j : Int) < (n : Int) := by omega
      obtain ⟨r0, r1⟩ := hr j hji
      have hgl := block_lt_of_cell r0
      have HF : Hid (firstM E a b 0 n = firstM E a b j (n - j)) := hf
      clear hf hr
      by_cases hm : (E j).mcc = a ∧ (E j).mnc = b
      · have hm1 : decide ((E j).mcc = a ∧ (E j).mnc = b) = true := decide_eq_true hm
        have HM : Hid ((E j).mcc = a ∧ (E j).mnc = b) := hm
        clear hm
        go_wp2
        go_quiet (fail)
        go_wp2
        go_ret
        refine ⟨((Keeps.refl _ w).alloc _).drewN _, .inr ⟨j, g, ?_, hji, rfl, rfl⟩⟩
        rw [HF.out, show n - j = (n - (j + 1)) + 1 from by omega, firstM, if_pos HM.out]
      · have hm1 : decide ((E j).mcc = a ∧ (E j).mnc = b) = false := decide_eq_false hm
        have HM : Hid (¬ ((E j).mcc = a ∧ (E j).mnc = b)) := hm
        clear hm
        go_wp2
        go_quiet (fail)
        go_wp2
        go_roundw
        case rel =>
          refine ⟨j + 1, _, by omega, by go_num, rfl, ?_⟩
          rw [HF.out, show n - j = (n - (j + 1)) + 1 from by omega, firstM, if_neg HM.out]
        case measure => simp [intOf]; omega
    · obtain rfl : j = n := by omega
      go_wp2
      go_ret
      exact ⟨((Keeps.refl _ w).alloc _).drewN m, .inl ⟨by rw [hf]; simp [firstM], rfl⟩⟩

theorem RejAt.keeps {w w' : World} {S : Nat → Prop} {v : Value} {L : List El} (h : RejAt w v L) (k : Keeps S w w') (hs : ∀ b, b < w.heap.size → (∃ a n c, v = .slice (some a) n c ∧ a.block = b) → ¬ S b) : RejAt w' v L := by
  rcases h with h | ⟨a, cap, rfl, hc, hh⟩
  · exact .inl h
  · refine .inr ⟨a, cap, rfl, hc, fun j u hj => ?_⟩
    have hx := hh j u hj
    have hl := block_lt_of_cell hx
    have hb : (a.add j).block = a.block := by unfold Addr.add; split <;> simp
    rw [← hx]
    refine World.cell?_of_block (k.block _ hl ?_)
    rw [hb] at hl ⊢
    exact hs _ hl ⟨a, _, _, rfl, rfl⟩

set_option maxRecDepth 100000 in
set_option maxHeartbeats 1000000 in
theorem rej5 (w : World) (S n cap : Nat) (ao : Option Addr) (E : Nat → En) (C : Nat → Value) (a b : ByteArray) (hS : w.cell? ⟨S, 1, none⟩ = some (.slice ao n cap)) (hn : n ≤ 1024)
    (hr : n = 0 ∨ ∃ g, ao = some ⟨g, 0, none⟩ ∧ n ≤ cap ∧ ∀ j, j < n → w.cell? ⟨g, j * 6, none⟩ = some (.string (E j).mcc) ∧ w.cell? ⟨g, j * 6 + 1, none⟩ = some (.string (E j).mnc) ∧ w.cell? ⟨g, j * 6 + 4, none⟩ = some (C j))
    (hC : ∀ j, j < n → RejAt w (C j) (E j).L ∧ (E j).L.length ≤ 1024) :
    Calls Yba.prog 5 #[.pointer (some ⟨S, 0, none⟩), .agg #[.string a, .string b]] w fun e w' => ∃ v', e = .returned v' ∧ Keeps (fun _ => False) w w' ∧ ((firstM E a b 0 n = none ∧ v' = .slice none 0 0) ∨ ∃ k, firstM E a b 0 n = some k ∧ k < n ∧ (v' = .slice none 0 0 ↔ C k = .slice none 0 0) ∧ GotAt w' w.heap.size v' (E k).L) := by
  have hSl := block_lt_of_cell hS
  have kb : Keeps (fun _ => False) w (w.alloc (.cells #[.string a, .string b] 33)) := (Keeps.refl _ w).alloc _
  have up : ∀ {x : Addr} {u : Value}, w.cell? x = some u → (w.alloc (.cells #[.string a, .string b] 33)).cell? x = some u := fun h => by
    rw [← h]; exact World.cell?_of_block (kb.block _ (block_lt_of_cell h) (by simp))
  have hF := find6 (w.alloc (.cells #[.string a, .string b] 33)) S n cap ao E a b (up hS) hn (orR hr (fun ⟨g, h1, h2, h3⟩ => ⟨g, h1, h2, fun j hj => ⟨up (h3 j hj).1, up (h3 j hj).2.1⟩⟩))
  have HC : Hid (∀ j, j < n → RejAt w (C j) (E j).L ∧ (E j).L.length ≤ 1024) := hC
  have HR : Hid (n = 0 ∨ ∃ g, ao = some ⟨g, 0, none⟩ ∧ n ≤ cap ∧ ∀ j, j < n → w.cell? ⟨g, j * 6, none⟩ = some (.string (E j).mcc) ∧ w.cell? ⟨g, j * 6 + 1, none⟩ = some (.string (E j).mnc) ∧ w.cell? ⟨g, j * 6 + 4, none⟩ = some (C j)) := hr
  have HKB : Hid (Keeps (fun _ => False) w (w.alloc (.cells #[.string a, .string b] 33))) := kb
  clear hC hr kb up
  go_enter Yba.func5, Yba.ntmps5
  go_wp2_with fail
  refine hF.mono ?_
  rintro e w2 ⟨k2, ⟨hf, rfl⟩ | ⟨k, g, hf, hk, rfl, rfl⟩⟩
  · have HE : Hid (firstM E a b 0 n = none ∧ Keeps (fun _ => False) w w2) := ⟨hf, HKB.out.trans k2⟩
    clear hf hF k2 HKB
    go_wp2_with fail
    go_ret
    exact ⟨_, rfl, HE.out.2, .inl ⟨HE.out.1, rfl⟩⟩
  · have kk := HKB.out.trans k2
    obtain ⟨hCk, hlk⟩ := HC.out k hk
    have c4 : w.cell? ⟨g, k * 6 + 4, none⟩ = some (C k) := by
      rcases HR.out with h0 | ⟨g', h1, h2, h3⟩
      · omega
      · cases h1; exact (h3 k hk).2.2
    have c4' : w2.cell? ⟨g, k * 6 + 4, none⟩ = some (C k) := by rw [← c4]; exact World.cell?_of_block (kk.block _ (block_lt_of_cell c4) (by simp))
    have hL := clone7 w2 (C k) (E k).L (hCk.keeps kk (by simp)) hlk
    have HE : Hid (firstM E a b 0 n = some k ∧ k < n ∧ Keeps (fun _ => False) w w2) := ⟨hf, hk, kk⟩
    clear hf hF k2 HKB kk hCk hlk c4 HC HR
    go_wp2_with fail
    refine hL.mono ?_
    rintro e w3 ⟨v3, rfl, hnil, hgot, k3⟩
    clear hL
    have HG : Hid ((v3 = .slice none 0 0 ↔ C k = .slice none 0 0) ∧ GotAt w3 w2.heap.size v3 (E k).L ∧ Keeps (fun _ => False) w2 w3) := ⟨hnil, hgot, k3⟩
    clear hnil hgot k3
    go_wp2_with fail
    go_ret
    obtain ⟨h1, h2, h3⟩ := HE.out
    obtain ⟨g1, g2, g3⟩ := HG.out
    refine ⟨_, rfl, h3.trans g3, .inr ⟨k, h1, h2, g1, ?_⟩⟩
    rcases g2 with g2 | ⟨x, xc, cur, e1, e2, e3, e4, e5⟩
    · exact .inl g2
    · exact .inr ⟨x, xc, cur, e1, e2, Nat.le_trans h3.size e3, e4, e5⟩
end Go.Proofs.Ybulkbrua
