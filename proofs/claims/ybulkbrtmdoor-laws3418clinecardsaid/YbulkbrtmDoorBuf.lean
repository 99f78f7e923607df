import Derived.Test.YbulkbrtmDoorMem
import Derived.Test.YbulkbrtmDoorShelf
import Derived.Test.YbulkbrtmDoorChecked
import Derived.Lib.AppendStr
import Derived.Lib.UnsafeStr
import Derived.Laws.CopyOwn
import Derived.Laws.IdiomStrings
namespace Go.Proofs.YbulkbrtmDoor
open Go.RowKit Go.Deep Go.Lib
set_option linter.unusedVariables false
set_option linter.unusedSimpArgs false

theorem Ybad.info5 : (Ybad.prog.info? 5).map (fun i => (i.zero, i.size, i.bytes)) = some (some (.int .u8 0), 1, 1) := by kernel_rfl
theorem Ybad.info45 : (Ybad.prog.info? 45).map (fun i => (i.zero, i.size, i.bytes)) = some (some (.slice none 0 0), 1, 24) := by kernel_rfl

theorem append_room_tag {P : Program} (w : World) (t ty e T : TypeId) (i : TypeInfo) (ht : P.underlying t = some (.slice e)) (hi : P.info? e = some i)
    (g sLen sCap : Nat) (cur : Array Value) (hg : w.heap[g]? = some (.cells cur T (0, 0)))
    (a : Addr) (m c : Nat) (news : List Value) (hl : news.length = m * i.size) (hnews : ∀ j u, news[j]? = some u → w.cell? (a.add j) = some u) (h1 : ∀ u ∈ news, u.oneCell' = true)
    (hroom : sLen + m ≤ sCap) (hfit : sLen * i.size + news.length ≤ cur.size) :
    (Builtin.append_ #[t, t] ty #[.slice (some ⟨g, 0, none⟩) sLen sCap, .slice (some a) m c]).run P w =
      .ok (.slice (some ⟨g, 0, none⟩) (sLen + m) sCap) (w.setRow g (cur.toList.take (sLen * i.size) ++ news ++ cur.toList.drop (sLen * i.size + news.length)).toArray) := by
  have hf := run_firstCells_some (P := P) w i.size m a m c news hl hnews
  have hst := run_storeCells_at P g (sLen * i.size) T news 0 cur w hg (by simpa using hfit) h1
  simp only [Nat.add_zero] at hst
  simp [Builtin.append_, run_underlying ht, sizeOf, typeInfo, hi, Builtin.lenOf, hroom, hf, Addr.add_lit, hst]

theorem append_room_tag_string {P : Program} (w : World) (t u ty e T : TypeId) (i : TypeInfo) (ht : P.underlying t = some (.slice e)) (hu : P.underlying u = some .string) (hi : P.info? e = some i) (hs1 : i.size = 1)
    (g sLen sCap : Nat) (cur : Array Value) (hg : w.heap[g]? = some (.cells cur T (0, 0))) (s : ByteArray)
    (hroom : sLen + s.size ≤ sCap) (hfit : sLen + s.size ≤ cur.size) :
    (Builtin.append_ #[t, u] ty #[.slice (some ⟨g, 0, none⟩) sLen sCap, .string s]).run P w =
      .ok (.slice (some ⟨g, 0, none⟩) (sLen + s.size) sCap) (w.setRow g (cur.toList.take sLen ++ strCells s ++ cur.toList.drop (sLen + s.size)).toArray) := by
  have hf := run_firstCells_string (P := P) w 1 s
  have hst := run_storeCells_at P g sLen T (strCells s) 0 cur w hg (by simpa [strCells_length] using hfit) (strCells_oneCell s)
  simp only [Nat.add_zero, strCells_length] at hst
  simp [Builtin.append_, run_underlying ht, run_underlying hu, sizeOf, typeInfo, hi, hs1, Builtin.lenOf, hroom, hf, Addr.add_lit, hst]

/-- A slice of bytes that the call owns: its bytes; 'room' more go in without a new array, or it may grow. -/
def Buf (w : World) (B : Nat) (T : TypeId) (v : Value) (bs : List UInt8) (room : Nat) : Prop :=
  w.ownsRow B T 1 v bs.length (byteCells bs) ∧ (T = 5 ∨ ∃ g cap, v = .slice (some ⟨g, 0, none⟩) bs.length cap ∧ bs.length + room ≤ cap)

/-- What an append may turn: nothing below B; where the slice cannot grow, nothing but its own block. -/
def Fr (B : Nat) (T : TypeId) (w : World) (v : Value) (w' : World) (v' : Value) : Prop :=
  Below B w w' ∧ (T ≠ 5 → v'.ownBlock = v.ownBlock ∧ Keeps (fun b => some b = v.ownBlock) w w')

theorem Fr.refl (B : Nat) (T : TypeId) (w : World) (v : Value) : Fr B T w v w v := ⟨Below.refl _ _, fun _ => ⟨rfl, Keeps.refl _ _⟩⟩
theorem Fr.trans {B : Nat} {T : TypeId} {w w1 w2 : World} {v v1 v2 : Value} (h : Fr B T w v w1 v1) (k : Fr B T w1 v1 w2 v2) : Fr B T w v w2 v2 :=
  ⟨h.1.trans k.1, fun hT => ⟨(k.2 hT).1.trans (h.2 hT).1, (h.2 hT).2.trans (by rw [← (h.2 hT).1]; exact (k.2 hT).2)⟩⟩
theorem Fr.alloc {B : Nat} {T : TypeId} {w w1 : World} {v v1 : Value} (h : Fr B T w v w1 v1) (hB : B ≤ w.heap.size) (o : Obj) : Fr B T w v (w1.alloc o) v1 :=
  ⟨h.1.alloc (Nat.le_trans hB h.1.size) _, fun hT => ⟨(h.2 hT).1, (h.2 hT).2.alloc _⟩⟩

theorem bc_one (l : List UInt8) : ∀ u ∈ byteCells l, u.oneCell' = true := by
  intro u hu
  simp [byteCells] at hu
  obtain ⟨b, _, rfl⟩ := hu
  rfl

theorem below_row {B g : Nat} {w : World} (hBg : B ≤ g) (cs : Array Value) : Below B w (w.setRow g cs) := below_setRow (Below.refl _ _) hBg cs

theorem grown_below {w w' : World} {B : Nat} {e : TypeId} {v : Value} {n : Nat} {xs : List Value} (h : w.ownsRow B e 1 v n xs) (hg : w.grownBy w' v.ownBlock) (hB : B ≤ w.heap.size) : Below B w w' :=
  (Below.refl _ _).grown hg hB (fun k hk => (h.lt k hk).1)

/-- What is written behind the bytes of a row with room. -/
theorem row_put {w : World} {B T g cap : Nat} {cur : Array Value} {bs ns : List UInt8} (hb : B ≤ g) (hg : w.heap[g]? = some (.cells cur T (0, 0))) (hnc : bs.length + ns.length ≤ cap) (hcm : cap ≤ maxLen) (hcs : cur.size = cap) (ht : cur.toList.take bs.length = byteCells bs) :
    (w.setRow g (cur.toList.take bs.length ++ byteCells ns ++ cur.toList.drop (bs.length + ns.length)).toArray).ownsRow B T 1 (.slice (some ⟨g, 0, none⟩) (bs ++ ns).length cap) (bs ++ ns).length (byteCells (bs ++ ns)) := by
  refine ⟨by simp [byteCells_length], .inr ⟨g, cap, _, rfl, hb, setRow_heap w g cur _ T _ hg, by simpa using hnc, hcm, ?_, ?_⟩⟩
  · simp only [List.size_toArray, List.length_append, List.length_take, List.length_drop, Array.length_toList, byteCells_length]
    omega
  · rw [ht, ← byteCells_append]
    have : ((bs ++ ns).length * 1) = (byteCells (bs ++ ns)).length := by simp [byteCells_length]
    rw [this]
    exact List.take_left

theorem Buf.app {w : World} {B : Nat} {T : TypeId} {v : Value} {bs : List UInt8} {m r : Nat} (h : Buf w B T v bs (m + r)) (a : Addr) (ns : List UInt8) (c : Nat) (hm : ns.length = m) (hc : ∀ j u, (byteCells ns)[j]? = some u → w.cell? (a.add j) = some u) (hl : bs.length + m ≤ 140737488355328) (hB : B ≤ w.heap.size) (ty : TypeId) :
    ∃ v' w', (Builtin.append_ #[45, 45] ty #[v, .slice (some a) m c]).run Ybad.prog w = .ok v' w' ∧ Buf w' B T v' (bs ++ ns) r ∧ Fr B T w v w' v' := by
  subst hm
  obtain ⟨ho, hT⟩ := h
  obtain ⟨i0, hi0, hz0, hz1, hz2⟩ := info_parts Ybad.info5
  have hno : (byteCells ns).length = ns.length * 1 := by simp [byteCells_length]
  rcases hT with rfl | ⟨g, cap, rfl, hroom⟩
  · obtain ⟨v', w', h1, h2, h3, _⟩ := run_append_own (P := Ybad.prog) w B 45 ty 5 _ (.int .u8 0) 1 1 Ybad.underlying45 hi0 hz0 hz1 hz2 rfl (by omega) v bs.length _ ho a ns.length c (byteCells ns) hno hc (bc_one ns) (by simp [maxLen]; omega) (by omega) hB
    rw [← byteCells_append, ← List.length_append] at h2
    exact ⟨v', w', h1, ⟨h2, .inl rfl⟩, grown_below ho h3 hB, fun h => absurd rfl h⟩
  · rcases ho.2 with ⟨h0, _⟩ | ⟨g', cap', cur, hv, hbg, hg, hnc, hcm, hcs, htake⟩
    · cases h0
    · cases hv
      simp only [Nat.mul_one] at hcs htake
      have hr := append_room_tag (P := Ybad.prog) w 45 ty 5 T _ Ybad.underlying45 hi0 g bs.length cap cur hg a ns.length c (byteCells ns) (by rw [hz1]; exact hno) hc (bc_one ns) (by omega) (by rw [hz1]; simp [byteCells_length]; omega)
      rw [hz1] at hr
      simp only [Nat.mul_one, byteCells_length] at hr
      refine ⟨_, _, hr, ⟨?_, .inr ⟨g, cap, by simp, by simp; omega⟩⟩, below_row hbg _, fun _ => ⟨rfl, ⟨rfl, rfl, rfl, by simp, fun b hb hs => setRow_other w _ b _ (fun e => hs (by simp [Value.ownBlock, e]))⟩⟩⟩
      have := row_put (w := w) (B := B) hbg hg (show bs.length + ns.length ≤ cap by omega) hcm hcs htake
      simpa [byteCells_length] using this

theorem Buf.appStr {w : World} {B : Nat} {T : TypeId} {v : Value} {bs : List UInt8} {r : Nat} (s : ByteArray) (h : Buf w B T v bs (s.size + r)) (hl : bs.length + s.size ≤ 140737488355328) (hB : B ≤ w.heap.size) (ty : TypeId) :
    ∃ v' w', (Builtin.append_ #[45, 9] ty #[v, .string s]).run Ybad.prog w = .ok v' w' ∧ Buf w' B T v' (bs ++ s.data.toList) r ∧ Fr B T w v w' v' := by
  obtain ⟨ho, hT⟩ := h
  obtain ⟨i0, hi0, hz0, hz1, hz2⟩ := info_parts Ybad.info5
  have hsz : s.data.toList.length = s.size := by rw [Array.length_toList]; rfl
  rcases hT with rfl | ⟨g, cap, rfl, hroom⟩
  · obtain ⟨v', w', h1, h2, h3, _⟩ := run_append_own_string (P := Ybad.prog) w B 45 9 ty 5 _ Ybad.underlying45 Ybad.underlying9 hi0 hz0 hz1 hz2 v bs.length _ ho s (by simp [maxLen]; omega) (by omega) hB
    rw [strCells_eq, ← byteCells_append, ← hsz, ← List.length_append] at h2
    exact ⟨v', w', h1, ⟨h2, .inl rfl⟩, grown_below ho h3 hB, fun h => absurd rfl h⟩
  · rcases ho.2 with ⟨h0, _⟩ | ⟨g', cap', cur, hv, hbg, hg, hnc, hcm, hcs, htake⟩
    · cases h0
    · cases hv
      simp only [Nat.mul_one] at hcs htake
      have hr := append_room_tag_string (P := Ybad.prog) w 45 9 ty 5 T _ Ybad.underlying45 Ybad.underlying9 hi0 hz1 g bs.length cap cur hg s (by omega) (by omega)
      refine ⟨_, _, hr, ⟨?_, .inr ⟨g, cap, by simp [hsz], by simp [hsz]; omega⟩⟩, below_row hbg _, fun _ => ⟨rfl, ⟨rfl, rfl, rfl, by simp, fun b hb hs => setRow_other w _ b _ (fun e => hs (by simp [Value.ownBlock, e]))⟩⟩⟩
      have := row_put (w := w) (B := B) (ns := s.data.toList) hbg hg (show bs.length + s.data.toList.length ≤ cap by omega) hcm hcs htake
      simpa [byteCells_length, hsz, strCells_eq] using this

theorem Buf.alloc {w : World} {B : Nat} {T : TypeId} {v : Value} {bs : List UInt8} {r : Nat} (h : Buf w B T v bs r) (o : Obj) : Buf (w.alloc o) B T v bs r := by
  obtain ⟨ho, hT⟩ := h
  exact ⟨ho.alloc o, hT⟩

theorem Buf.less {w : World} {B : Nat} {T : TypeId} {v : Value} {bs : List UInt8} {r r' : Nat} (h : Buf w B T v bs r) (hr : r' ≤ r) : Buf w B T v bs r' := by
  obtain ⟨ho, hT⟩ := h
  refine ⟨ho, ?_⟩
  rcases hT with h | ⟨g, cap, e, hc⟩
  · exact .inl h
  · exact .inr ⟨g, cap, e, by omega⟩

/-- Its cells, where there are any. -/
theorem Buf.cells {w : World} {B : Nat} {T : TypeId} {v : Value} {bs : List UInt8} {r : Nat} (h : Buf w B T v bs r) (hp : 0 < bs.length) :
    ∃ g cap cur, v = .slice (some ⟨g, 0, none⟩) bs.length cap ∧ B ≤ g ∧ Blk w g T cur ∧ cur.toList.take bs.length = byteCells bs ∧ bs.length ≤ cap ∧ cur.size = cap := by
  obtain ⟨ho, hT⟩ := h
  rcases ho.2 with ⟨_, h0⟩ | ⟨g, cap, cur, rfl, hbg, hg, hnc, hcm, hcs, htake⟩
  · omega
  · exact ⟨g, cap, cur, rfl, hbg, hg, by simpa using htake, hnc, by simpa using hcs⟩

/-- The operation 'append', by what its run gives. -/
theorem wpList_append_run {P : Program} {w : World} {ops : Array Oper} {rest : List Oper} {o : Oper} {a : Act} {Q : Exit → Act → World → Prop} (hgd : o.guard = none) (s x : Operand) (t u : TypeId)
    (ho : o.op = .call { callee := .builtin .append, args := #[s, x], argTypes := #[t, u] }) {v' : Value} {w' : World}
    (hr : (Builtin.append_ #[t, u] o.type #[a.eval s, a.eval x]).run P w = .ok v' w') (h : wpList P ops Q rest (a.put o.dst v') w') : wpList P ops Q (o :: rest) a w :=
  wpList_plain hgd fun _ hK => by
    unfold Oper.wp execOp
    simp only [ho, resolve, invoke, builtin, Sem.run_bind, Sem.run_pure, Result.andThen_ok, List.map_toArray, List.map_cons, List.map_nil, hr]
    exact hK _ _ h

theorem wpList_buf_str {w : World} {ops : Array Oper} {rest : List Oper} {o : Oper} {a : Act} {Q : Exit → Act → World → Prop} (hgd : o.guard = none) (s x : Operand)
    (ho : o.op = .call { callee := .builtin .append, args := #[s, x], argTypes := #[45, 9] }) (st : ByteArray) (hx : a.eval x = .string st) {B : Nat} {T : TypeId} {v : Value} {bs : List UInt8} {r : Nat} (hs : a.eval s = v) (hb : Buf w B T v bs (st.size + r)) (hl : bs.length + st.size ≤ 140737488355328) (hB : B ≤ w.heap.size)
    (h : ∀ v' w', Buf w' B T v' (bs ++ st.data.toList) r → Fr B T w v w' v' → wpList Ybad.prog ops Q rest (a.put o.dst v') w') : wpList Ybad.prog ops Q (o :: rest) a w := by
  obtain ⟨v', w', hr, h1, h2⟩ := hb.appStr st hl hB o.type
  exact wpList_append_run hgd s x 45 9 ho (by rw [hs, hx]; exact hr) (h v' w' h1 h2)

theorem wpList_buf_app {w : World} {ops : Array Oper} {rest : List Oper} {o : Oper} {a : Act} {Q : Exit → Act → World → Prop} (hgd : o.guard = none) (s x : Operand)
    (ho : o.op = .call { callee := .builtin .append, args := #[s, x], argTypes := #[45, 45] }) (ad : Addr) (m c : Nat) (ns : List UInt8) (hx : a.eval x = .slice (some ad) m c) {B : Nat} {T : TypeId} {v : Value} {bs : List UInt8} {r : Nat} (hs : a.eval s = v) (hb : Buf w B T v bs (m + r)) (hm : ns.length = m)
    (hc : ∀ j u, (byteCells ns)[j]? = some u → w.cell? (ad.add j) = some u) (hl : bs.length + m ≤ 140737488355328) (hB : B ≤ w.heap.size)
    (h : ∀ v' w', Buf w' B T v' (bs ++ ns) r → Fr B T w v w' v' → wpList Ybad.prog ops Q rest (a.put o.dst v') w') : wpList Ybad.prog ops Q (o :: rest) a w := by
  obtain ⟨v', w', hr, h1, h2⟩ := hb.app ad ns c hm hc hl hB o.type
  exact wpList_append_run hgd s x 45 45 ho (by rw [hs, hx]; exact hr) (h v' w' h1 h2)

theorem step_buf_app {w : World} {ops : Array Oper} {o : Oper} {a : Act} {K : Act → World → Prop} {Q : Exit → Act → World → Prop} {E : Prop} (hgd : o.guard = none) (s x : Operand)
    (ho : o.op = .call { callee := .builtin .append, args := #[s, x], argTypes := #[45, 45] }) (ad : Addr) (m c : Nat) (ns : List UInt8) (hx : a.eval x = .slice (some ad) m c) {B : Nat} {T : TypeId} {v : Value} {bs : List UInt8} {r : Nat} (hs : a.eval s = v) (hb : Buf w B T v bs (m + r)) (hm : ns.length = m)
    (hc : ∀ j u, (byteCells ns)[j]? = some u → w.cell? (ad.add j) = some u) (hl : bs.length + m ≤ 140737488355328) (hB : B ≤ w.heap.size)
    (h : ∀ v' w', Buf w' B T v' (bs ++ ns) r → Fr B T w v w' v' → K (a.put o.dst v') w') : if Region.wanted o (yielded ops a.tmps) = true then Oper.wp Ybad.prog o a w K Q else E := by
  have hw : Region.wanted o (yielded ops a.tmps) = true := by simp [Region.wanted, hgd]
  rw [if_pos hw]
  obtain ⟨v', w', hr, h1, h2⟩ := hb.app ad ns c hm hc hl hB o.type
  unfold Oper.wp execOp
  simp only [ho, resolve, invoke, builtin, Sem.run_bind, Sem.run_pure, Result.andThen_ok, List.map_toArray, List.map_cons, List.map_nil, hs, hx, hr]
  exact h v' w' h1 h2

theorem Buf.drewN {w : World} {B : Nat} {T : TypeId} {v : Value} {bs : List UInt8} {r : Nat} (h : Buf w B T v bs r) (k : Nat) : Buf (w.drewN k) B T v bs r := ⟨ownsRow_drewN h.1 k, h.2⟩
theorem Buf.drew {w : World} {B : Nat} {T : TypeId} {v : Value} {bs : List UInt8} {r : Nat} (h : Buf w B T v bs r) : Buf w.drew B T v bs r := h.drewN 1

theorem cells_new (w : World) (ns : List UInt8) (t : TypeId) (cs : Array Value) (hcs : cs.toList = byteCells ns) : ∀ j u, (byteCells ns)[j]? = some u → (w.alloc (.cells cs t)).cell? ((⟨w.heap.size, 0, none⟩ : Addr).add j) = some u := by
  intro j u hj
  have hb : Blk (w.alloc (.cells cs t)) w.heap.size t cs := Blk.new _ _ _
  have e : (⟨w.heap.size, 0, none⟩ : Addr).add j = ⟨w.heap.size, j, none⟩ := by unfold Addr.add; split <;> simp_all
  rw [e, hb.cell j, ← hj, ← hcs]
  simp
end Go.Proofs.YbulkbrtmDoor
