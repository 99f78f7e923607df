import Derived.Test.YbulkbrrwRows
import Derived.Test.YbulkbrrwMem
import Derived.RangeFuncBox
import Derived.BigQuiet
import Derived.Deep.QuietTactic
namespace Go.Proofs.Ybulkbrrw
open Go.RowKit Go.Deep

/-- A message: its sequence number, and till when it is hidden. -/
def Msg (w : World) (m : Nat) (sq hd : Nat → Int) : Prop :=
  ∃ cs, Blk w m 61 cs ∧ cs[0]? = some (.int .u64 (sq m)) ∧ cs[35]? = some (.int .i64 (hd m))

/-- A group: its messages, its place. -/
structure Grp (w : World) (ms : Nat → List Nat) (sq hd : Nat → Int) (g : Nat) (idx : Int) : Prop where
  body : ∃ r cap rs, Blk w g 108 #[.string { data := #[] }, .slice (some ⟨r, 0, none⟩) (ms g).length cap, .int .i64 0, .int .i64 idx] ∧ (ms g).length ≤ cap ∧ Blk w r 53 rs ∧ ∀ (i m : Nat), (ms g)[i]? = some m → rs[i]? = some (pt m)
  msgs : ∀ m, m ∈ ms g → Msg w m sq hd
  ne : ms g ≠ []

/-- A message's or a group's block stands while others are turned. -/
theorem Msg.keeps {w w' : World} {m : Nat} {sq hd : Nat → Int} {S : Nat → Prop} (h : Msg w m sq hd) (k : Keeps S w w') (hs : ∀ cs, Blk w m 61 cs → ¬ S m) : Msg w' m sq hd := by
  obtain ⟨cs, hb, h1, h2⟩ := h
  exact ⟨cs, hb.keeps k (hs cs hb), h1, h2⟩

theorem Grp.keeps {w w' : World} {ms : Nat → List Nat} {sq hd : Nat → Int} {g : Nat} {idx : Int} {S : Nat → Prop} (h : Grp w ms sq hd g idx) (k : Keeps S w w') (hs : ∀ b t cs, Blk w b t cs → t = 108 ∧ b = g ∨ t = 53 ∨ t = 61 → ¬ S b) : Grp w' ms sq hd g idx := by
  obtain ⟨⟨r, cap, rs, h1, h2, h3, h4⟩, h5, h6⟩ := h
  exact ⟨⟨r, cap, rs, h1.keeps k (hs _ _ _ h1 (.inl ⟨rfl, rfl⟩)), h2, h3.keeps k (hs _ _ _ h3 (.inr (.inl rfl))), h4⟩, fun m hm => (h5 m hm).keeps k (fun cs hc => hs _ _ _ hc (.inr (.inr rfl))), h6⟩

theorem Keeps.ofDraws {S : Nat → Prop} (w : World) (n : Nat) : Keeps S w (w.drewN n) := (Keeps.refl S w).drewN n

def key (ms : Nat → List Nat) (sq : Nat → Int) (g : Nat) : Int := sq ((ms g).headD 0)

set_option maxHeartbeats 400000 in
theorem less36 (w : World) (ms : Nat → List Nat) (sq hd : Nat → Int) (a b : Nat) (ia ib : Int) (ha : Grp w ms sq hd a ia) (hb : Grp w ms sq hd b ib) :
    Calls Yba.prog 36 #[pt a, pt b] w fun e w' => e = .returned (.bool (decide (key ms sq a < key ms sq b))) ∧ ∃ n, w' = w.drewN n := by
  obtain ⟨⟨ra, ca, rsa, hba, hla, hra, hca⟩, hma, hna⟩ := ha
  obtain ⟨⟨rb, cb, rsb, hbb, hlb, hrb, hcb⟩, hmb, hnb⟩ := hb
  obtain ⟨xa, la, ea⟩ := List.exists_cons_of_ne_nil hna
  obtain ⟨xb, lb, eb⟩ := List.exists_cons_of_ne_nil hnb
  have ka : key ms sq a = sq xa := by simp [key, ea]
  have kb : key ms sq b = sq xb := by simp [key, eb]
  obtain ⟨csa, hxa, sa, _⟩ := hma xa (by rw [ea]; simp)
  obtain ⟨csb, hxb, sb, _⟩ := hmb xb (by rw [eb]; simp)
  have a1 : w.cell? ⟨a, 1, none⟩ = some (.slice (some ⟨ra, 0, none⟩) (la.length + 1) ca) := by rw [hba.cell 1]; simp [ea]
  have b1 : w.cell? ⟨b, 1, none⟩ = some (.slice (some ⟨rb, 0, none⟩) (lb.length + 1) cb) := by rw [hbb.cell 1]; simp [eb]
  have a2 : w.cell? ⟨ra, 0, none⟩ = some (.pointer (some ⟨xa, 0, none⟩)) := by rw [hra.cell 0]; exact hca 0 xa (by simp [ea])
  have b2 : w.cell? ⟨rb, 0, none⟩ = some (.pointer (some ⟨xb, 0, none⟩)) := by rw [hrb.cell 0]; exact hcb 0 xb (by simp [eb])
  have a3 : w.cell? ⟨xa, 0, none⟩ = some (.int .u64 (sq xa)) := by rw [hxa.cell 0]; exact sa
  have b3 : w.cell? ⟨xb, 0, none⟩ = some (.int .u64 (sq xb)) := by rw [hxb.cell 0]; exact sb
  rw [ka, kb]
  clear hba hbb hra hrb hca hcb hxa hxb sa sb ka kb hma hmb ea eb
  unfold pt
  go_enter Yba.func36, Yba.ntmps36
  go_wp2
  go_quiet (fail)
  go_wp2
  go_ret
  exact ⟨rfl, _, rfl⟩

set_option maxHeartbeats 400000 in
theorem slot37 (w : World) (a : Nat) :
    Calls Yba.prog 37 #[.pointer (some ⟨a, 0, none⟩)] w fun e w' => e = .returned (.pointer (some ⟨a, 3, none⟩)) ∧ w' = w := by
  go_enter Yba.func37, Yba.ntmps37
  go_wp2
  go_ret
  exact ⟨rfl, rfl⟩

/-- The heap of groups: the object H, its row v, the groups xs, each at its own place. -/
structure GHeap (w : World) (ms : Nat → List Nat) (sq hd : Nat → Int) (base H : Nat) (v : Value) (xs : List Nat) : Prop where
  obj : Blk w H 120 #[v, .func (.func 36) #[] #[], .func (.func 37) #[] #[]]
  own : w.ownsRow base 100 1 v xs.length (xs.map pt)
  grp : ∀ (i g : Nat), xs[i]? = some g → Grp w ms sq hd g i
  lt : H < base
  few : xs.length < 1000

theorem GHeap.row {w : World} {ms : Nat → List Nat} {sq hd : Nat → Int} {base H : Nat} {v : Value} {xs : List Nat} (h : GHeap w ms sq hd base H v xs) (hp : 0 < xs.length) :
    ∃ r cap, v = .slice (some ⟨r, 0, none⟩) xs.length cap ∧ xs.length ≤ cap ∧ base ≤ r ∧ (∀ i, w.frozen? ⟨r, i, none⟩ = false) ∧ ∀ (i g : Nat), xs[i]? = some g → w.cell? ⟨r, i, none⟩ = some (.pointer (some ⟨g, 0, none⟩)) := by
  have ho := h.own
  rcases ho.2 with ⟨_, h0⟩ | ⟨r, cap, cur, rfl, hb, _, hc, _⟩
  · omega
  · refine ⟨r, cap, rfl, hc, hb, fun i => ho.frozenAt i, fun i g hg => ?_⟩
    have hi : i < xs.length := (List.getElem?_eq_some_iff.1 hg).1
    rw [ho.cellAt i (by omega)]
    simp [hg, pt]

set_option maxHeartbeats 400000 in
theorem len97 (w : World) (H n cap : Nat) (ao : Option Addr) (h : w.cell? ⟨H, 0, none⟩ = some (.slice ao n cap)) :
    Calls Yba.prog 97 #[.pointer (some ⟨H, 0, none⟩)] w fun e w' => e = .returned (.int .i64 n) ∧ w' = w := by
  go_enter Yba.func97, Yba.ntmps97
  go_wp2
  go_ret
  exact ⟨rfl, rfl⟩

set_option maxHeartbeats 400000 in
theorem less98 (w : World) (ms : Nat → List Nat) (sq hd : Nat → Int) (base H : Nat) (v : Value) (xs : List Nat) (h : GHeap w ms sq hd base H v xs) (i j a b : Nat) (hi : xs[i]? = some a) (hj : xs[j]? = some b) :
    Calls Yba.prog 98 #[.pointer (some ⟨H, 0, none⟩), .int .i64 i, .int .i64 j] w fun e w' => e = .returned (.bool (decide (key ms sq a < key ms sq b))) ∧ ∃ n, w' = w.drewN n := by
  have hli : i < xs.length := (List.getElem?_eq_some_iff.1 hi).1
  have hlj : j < xs.length := (List.getElem?_eq_some_iff.1 hj).1
  have hfew := h.few
  obtain ⟨r, cap, rfl, hc, hb, hf, hcell⟩ := h.row (by omega)
  have c0 : w.cell? ⟨H, 0, none⟩ = some _ := h.obj.cell 0
  have c1 : w.cell? ⟨H, 1, none⟩ = some _ := h.obj.cell 1
  have ci := hcell i a hi
  have cj := hcell j b hj
  have i1 : (i : Int) < (xs.length : Int) := by omega
  have j1 : (j : Int) < (xs.length : Int) := by omega
  have ga := h.grp i a hi
  have gb := h.grp j b hj
  have hl36 := fun n => less36 (w.drewN n) ms sq hd a b i j (ga.keeps (S := fun _ => False) (.ofDraws w n) (by simp)) (gb.keeps (S := fun _ => False) (.ofDraws w n) (by simp))
  clear hcell h hi hj
  go_enter Yba.func98, Yba.ntmps98
  go_wp2
  go_quiet ((go_at_call 36; exact Calls.quiet_of (hl36 _)))
  go_wp2
  go_ret
  exact ⟨rfl, _, rfl⟩
end Go.Proofs.Ybulkbrrw
