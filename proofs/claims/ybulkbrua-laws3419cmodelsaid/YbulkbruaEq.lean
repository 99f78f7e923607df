import Derived.Test.YbulkbruaClone
import Derived.DeepKeys
namespace Go.Proofs.Ybulkbrua
open Go.RowKit Go.Deep
set_option linter.unusedVariables false
set_option linter.unusedSimpArgs false

theorem hp33 : Yba.prog.stoodInHeld 33 = false := by kernel_rfl
theorem hg33 : Yba.prog.eqGuardType Yba.prog.depth 33 = false := by kernel_rfl
theorem hg41 : Yba.prog.eqGuardType Yba.prog.depth 41 = false := by kernel_rfl
theorem hp41 : Yba.prog.stoodInHeld 41 = false := by kernel_rfl
theorem hf33 : (Yba.prog.fieldsOf 33).toList.map (fun f => (f.name, f.type, f.offset)) = [("MCC", 9, 0), ("MNC", 9, 1)] := by kernel_rfl
theorem ht33 : Yba.prog.underlying 33 = some (.struct (Yba.prog.fieldsOf 33)) := by kernel_rfl
theorem ht41 : Yba.prog.underlying 41 = some (.struct (Yba.prog.fieldsOf 41)) := by kernel_rfl

theorem part0 (a b : ByteArray) (w : World) : (part 9 #[.string a, .string b] 0).run Yba.prog w = .ok (.string a) w := by kernel_rfl
theorem part1 (a b : ByteArray) (w : World) : (part 9 #[.string a, .string b] 1).run Yba.prog w = .ok (.string b) w := by kernel_rfl

theorem fields_two {fs : List Field} {n0 n1 : String} {t0 t1 o0 o1 : Nat} (h : fs.map (fun f => (f.name, f.type, f.offset)) = [(n0, t0, o0), (n1, t1, o1)]) : ∃ f0 f1, fs = [f0, f1] ∧ f0.name = n0 ∧ f0.type = t0 ∧ f0.offset = o0 ∧ f1.name = n1 ∧ f1.type = t1 ∧ f1.offset = o1 := by
  match fs, h with
  | [f0, f1], h => simp at h; exact ⟨f0, f1, rfl, h.1.1, h.1.2.1, h.1.2.2, h.2.1, h.2.2.1, h.2.2.2⟩

theorem plmn_eq (a b a' b' : ByteArray) (w : World) : (binOp .eql 33 (.agg #[.string a, .string b]) (.agg #[.string a', .string b'])).run Yba.prog w = .ok (.bool (decide (a = a' ∧ b = b'))) w := by
  obtain ⟨f0, f1, hf, n0, t0, o0, n1, t1, o1⟩ := fields_two hf33
  rw [run_eql_struct, run_equalIn_struct w 9999 33 _ _ ht33 hp33, hf]
  have e0 := run_equalIn_string (P := Yba.prog) w 9998 9 a a' Yba.underlying9
  have e1 := run_equalIn_string (P := Yba.prog) w 9998 9 b b' Yba.underlying9
  have q : ∀ x y : ByteArray, (x.toList == y.toList) = decide (x = y) := by
    intro x y
    rw [← beq_toListBytes]
    obtain ⟨x⟩ := x
    obtain ⟨y⟩ := y
    show (x == y) = _
    by_cases h : x = y
    · subst h; simp
    · simp [h]
  simp only [Op.eqFields, n0, n1, t0, t1, o0, o1, Sem.run_bind, Sem.run_ite, part0, part1, Result.andThen_ok, e0, e1, q]
  by_cases h0 : a = a' <;> by_cases h1 : b = b' <;> simp [h0, h1]

theorem str_ne (x y : ByteArray) (h : x ≠ y) : (x == y) = false ∧ (x.toList == y.toList) = false := by
  have e : (x == y) = false := by
    obtain ⟨x⟩ := x
    obtain ⟨y⟩ := y
    show (x == y) = false
    simp at h
    simp [h]
  exact ⟨e, by rw [← beq_toListBytes]; exact e⟩

/-- Each number is a byte. -/
def El.ok (e : El) : Prop := (Lit.int .u8 e.x0).wf = true ∧ (Lit.int .u8 e.s0).wf = true ∧ (Lit.int .u8 e.s1).wf = true ∧ (Lit.int .u8 e.s2).wf = true ∧ (Lit.int .u8 e.x1).wf = true ∧ (Lit.int .u8 e.t0).wf = true ∧ (Lit.int .u8 e.t1).wf = true ∧ (Lit.int .u8 e.t2).wf = true

theorem key41 : Yba.prog.keyTypeAt 3 41 = true := by kernel_rfl
theorem formed41 (e : El) : (Value.agg e.cells.toArray).formed Yba.prog 41 = true := by kernel_rfl

theorem keyL (q : TypeId) (n : Int) (d : Nat) (hu : Yba.prog.underlying q = some (.int .u8)) (h : (Lit.int .u8 n).wf = true) : Yba.prog.keyLits (d + 1) q [.int .u8 n] = some [.int .u8 n] := by
  simp [Program.keyLits, hu, h]

theorem lits41 (e : El) (h : e.ok) : ∃ L, Yba.prog.keyLits 3 41 (Value.agg e.cells.toArray).cells.toList = some L := by
  obtain ⟨h0, h1, h2, h3, h4, h5, h6, h7⟩ := h
  have c5 : Yba.prog.cellsOf 5 = 1 := by kernel_rfl
  have c4 : Yba.prog.cellsOf 4 = 1 := by kernel_rfl
  have c39 : Yba.prog.cellsOf 39 = 3 := by kernel_rfl
  have c41 : Yba.prog.cellsOf 41 = 11 := by kernel_rfl
  have ce : (Value.agg e.cells.toArray).cells.toList = e.cells := by kernel_rfl
  rw [ce]
  have l39 : ∀ x y z : Int, (Lit.int .u8 x).wf = true → (Lit.int .u8 y).wf = true → (Lit.int .u8 z).wf = true → Yba.prog.keyLits 2 39 [.int .u8 x, .int .u8 y, .int .u8 z] = some [.int .u8 x, .int .u8 y, .int .u8 z] := by
    intro x y z hx hy hz
    have r3 : List.range 3 = [0, 1, 2] := rfl
    unfold Program.keyLits
    rw [Yba.underlying39]
    simp [c39, c5, r3, keyL 5 _ 0 Yba.underlying5, hx, hy, hz]
  have l4 : ∀ b : Bool, Yba.prog.keyLits 2 4 [.bool b] = some [.bool b] := by intro b; simp [Program.keyLits, Yba.underlying4]
  have l5 : ∀ x : Int, (Lit.int .u8 x).wf = true → Yba.prog.keyLits 2 5 [.int .u8 x] = some [.int .u8 x] := fun x hx => keyL 5 x 1 Yba.underlying5 hx
  unfold Program.keyLits
  rw [Yba.underlying41]
  simp [c41, c5, c4, c39, El.cells, l39, l4, l5, h0, h1, h2, h3, h4, h5, h6, h7]

theorem el_eq (e : El) (h : e.ok) (w : World) : (binOp .neq 41 (.agg e.cells.toArray) (.agg e.cells.toArray)).run Yba.prog w = .ok (.bool false) w := by
  obtain ⟨L, hL⟩ := lits41 e h
  obtain ⟨r, hr, hi⟩ := run_equalIn_deep (P := Yba.prog) 9997 3 41 key41 w 3 3 _ _ L L (formed41 e) (formed41 e) hL hL
  have : r = true := hi.2 rfl
  subst this
  rw [run_neq_struct, hr]
  rfl
end Go.Proofs.Ybulkbrua
