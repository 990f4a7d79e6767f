import Derived.Test.YbulkaroiDoorPar
import Derived.Laws.CopyOwn
set_option linter.unusedVariables false
namespace Go.Proofs.YbulkaroiDoor
open Go.RowKit Go.Deep

/-- Bytes that lie in block g from o on. -/
def Bytes (w : World) (g o : Nat) (ys : List Int) : Prop := ∀ (j : Nat) (y : Int), ys[j]? = some y → w.cell? ⟨g, o + j, none⟩ = some (.int .u8 y)

theorem Bytes.keep {B g o : Nat} {w w' : World} {ys : List Int} (h : Bytes w g o ys) (hb : Below B w w') (hg : g < B) : Bytes w' g o ys := fun j y hj => (hb.cell (p := ⟨g, o + j, none⟩) hg).trans (h j y hj)

/-- The AVPs as the parser lays them: each one's data where they lie in the group. -/
def rsAt (g : Nat) : Nat → List Avp → List R
  | _, [] => []
  | o, a :: r => ⟨a, some (if a.d.length = 0 then ⟨g, o, none⟩ else ⟨g, o + 12, none⟩), a.d.length⟩ :: rsAt g (o + wire a) r

theorem rsAt_length (g o : Nat) (ls : List Avp) : (rsAt g o ls).length = ls.length := by
  induction ls generalizing o with
  | nil => rfl
  | cons a r ih => simp [rsAt, ih]

theorem rsAt_snoc (g o : Nat) (ls : List Avp) (a : Avp) : rsAt g o (ls ++ [a]) = rsAt g o ls ++ [⟨a, some (if a.d.length = 0 then ⟨g, o + wires ls, none⟩ else ⟨g, o + wires ls + 12, none⟩), a.d.length⟩] := by
  induction ls generalizing o with
  | nil => simp [rsAt, wires]
  | cons b r ih =>
    simp only [List.cons_append, rsAt, ih, wires]
    rw [Nat.add_assoc]

theorem rsAt_get (g o : Nat) (ls : List Avp) (i : Nat) (a : Avp) (h : ls[i]? = some a) : ∃ p, (rsAt g o ls)[i]? = some ⟨a, some p, a.d.length⟩ := by
  induction ls generalizing o i with
  | nil => simp at h
  | cons b r ih =>
    cases i with
    | zero => simp at h; subst h; exact ⟨_, by simp [rsAt]; rfl⟩
    | succ i => simp at h; obtain ⟨p, hp⟩ := ih (o + wire b) i h; exact ⟨p, by simpa [rsAt] using hp⟩

theorem allB_cons (a : Avp) (r : List Avp) : allB (a :: r) = a.bytes ++ allB r := by simp [allB]
theorem bytes_length (a : Avp) : a.bytes.length = wire a := avpB_length _ _ _ _

theorem rsAt_ok {w : World} {g o : Nat} {ls : List Avp} (hb : Bytes w g o (allB ls)) (ht : ∃ cs fr, w.heap[g]? = some (.cells cs 5 fr)) (hv : ∀ a ∈ ls, a.f = 192) : ∀ r ∈ rsAt g o ls, r.ok w := by
  induction ls generalizing o with
  | nil => intro r hr; simp [rsAt] at hr
  | cons a q ih =>
    intro r hr
    rw [rsAt] at hr
    rcases List.mem_cons.1 hr with rfl | hr
    · refine ⟨fun e => (by cases e), fun e => (by cases e), fun ad e => ?_⟩
      have hblk : ad.block = g := by
        simp only [Option.some.injEq] at e
        rw [← e]
        split <;> rfl
      refine ⟨by rw [hblk]; exact ht, fun j v hj => ?_⟩
      simp only [List.getElem?_map, Option.map_eq_some_iff] at hj
      obtain ⟨y, hy, rfl⟩ := hj
      have hlt := (List.getElem?_eq_some_iff.1 hy).1
      have hne : ¬ a.d.length = 0 := by omega
      simp only [Option.some.injEq] at e
      rw [if_neg hne] at e
      subst e
      rw [Addr.add_lit]
      have h9 := hb (12 + j) y (by
        rw [allB_cons, List.getElem?_append_left (by rw [bytes_length]; unfold wire hlen; rw [hv a (by simp)]; simp; omega)]
        have hf : a.f = 192 := hv a (by simp)
        simp only [Avp.bytes, avpB, headB, be32, be24, hf]
        rw [List.getElem?_append_left (by simp; omega), List.getElem?_append_right (by simp)]
        simpa using hy)
      rw [show o + 12 + j = o + (12 + j) from by omega]
      exact h9
    · refine ih (fun j y hj => ?_) (fun x hx => hv x (by simp [hx])) r hr
      have h9 := hb (wire a + j) y (by rw [allB_cons, List.getElem?_append_right (by rw [bytes_length]; omega), bytes_length]; simpa using hj)
      rw [show o + wire a + j = o + (wire a + j) from by omega]
      exact h9

theorem split_at (ls : List Avp) (i : Nat) (a : Avp) (h : ls[i]? = some a) : ls = ls.take i ++ a :: ls.drop (i + 1) := by
  obtain ⟨hl, e⟩ := List.getElem?_eq_some_iff.1 h
  rw [← e, List.getElem_cons_drop, List.take_append_drop]

/-- The i-th AVP's bytes in the group. -/
theorem Bytes.at_ {w : World} {g o : Nat} {ls : List Avp} (hb : Bytes w g o (allB ls)) {i : Nat} {a : Avp} (h : ls[i]? = some a) : Bytes w g (o + wires (ls.take i)) a.bytes := by
  intro j y hj
  have hlt := (List.getElem?_eq_some_iff.1 hj).1
  have e := split_at ls i a h
  have hall : allB ls = allB (ls.take i) ++ (a.bytes ++ allB (ls.drop (i + 1))) := by
    rw [← allB_cons]
    conv => lhs; rw [e]
    simp [allB]
  have h9 := hb (wires (ls.take i) + j) y (by
    rw [hall, List.getElem?_append_right (by rw [allB_length]; omega), allB_length, List.getElem?_append_left (by rw [Nat.add_sub_cancel_left]; exact hlt), Nat.add_sub_cancel_left]
    exact hj)
  rw [show o + wires (ls.take i) + j = o + (wires (ls.take i) + j) from by omega]
  exact h9

theorem wires_split (ls : List Avp) (i : Nat) (a : Avp) (h : ls[i]? = some a) : wires (ls.drop i) = wire a + wires (ls.drop (i + 1)) ∧ wires (ls.take (i + 1)) = wires (ls.take i) + wire a := by
  obtain ⟨hl, e⟩ := List.getElem?_eq_some_iff.1 h
  refine ⟨?_, ?_⟩
  · rw [List.drop_eq_getElem_cons hl, e]; rfl
  · rw [take_snoc ls i a h, wires_snoc]

/-- A row of AVPs of the call's own, in whatever kind of block. -/
def RowX (w : World) (base : Nat) (v : Value) (rs : List R) : Prop :=
  ∃ G cap cur t, v = .slice (some ⟨G, 0, none⟩) rs.length cap ∧ base ≤ G ∧ w.heap[G]? = some (.cells cur t (0, 0)) ∧ rs.length ≤ cap ∧ cap ≤ maxLen ∧ cur.size = cap * 4 ∧ cur.toList.take (rs.length * 4) = cellsOf rs

theorem RowX.cell {w : World} {base : Nat} {v : Value} {rs : List R} {G cap : Nat} (h : RowX w base v rs) (hv : v = .slice (some ⟨G, 0, none⟩) rs.length cap) (j : Nat) (u : Value) (hj : (cellsOf rs)[j]? = some u) : w.cell? ⟨G, j, none⟩ = some u := by
  obtain ⟨G', cap', cur, t, e, hb, hh, h1, h2, h3, h4⟩ := h
  rw [hv] at e
  simp only [Value.slice.injEq, Option.some.injEq, Addr.mk.injEq, and_true, true_and] at e
  obtain ⟨rfl, rfl⟩ := e
  rw [← h4, List.getElem?_take] at hj
  split at hj
  · simp [World.cell?, hh]
    simpa using hj
  · cases hj

theorem RowX.keep {w w' : World} {base : Nat} {v : Value} {rs : List R} (h : RowX w base v rs) (hb : Below w.heap.size w w') : RowX w' base v rs := by
  obtain ⟨G, cap, cur, t, e, q1, q2, q3⟩ := h
  exact ⟨G, cap, cur, t, e, q1, (hb.block _ (heap_lt q2)).trans q2, q3⟩

theorem run_append_room_tag {P : Program} (w : World) (t ty e tg : TypeId) (i : TypeInfo) (ht : P.underlying t = some (.slice e)) (hi : P.info? e = some i)
    (g sLen sCap : Nat) (cur : Array Value) (hg : w.heap[g]? = some (.cells cur tg (0, 0)))
    (a : Addr) (m c : Nat) (news : List Value) (hl : news.length = m * i.size) (hnews : ∀ j u, news[j]? = some u → w.cell? (a.add j) = some u) (h1 : ∀ u ∈ news, u.oneCell' = true)
    (hroom : sLen + m ≤ sCap) (hfit : sLen * i.size + news.length ≤ cur.size) :
    (Builtin.append_ #[t, t] ty #[.slice (some ⟨g, 0, none⟩) sLen sCap, .slice (some a) m c]).run P w =
      .ok (.slice (some ⟨g, 0, none⟩) (sLen + m) sCap) (w.setRow g (cur.toList.take (sLen * i.size) ++ news ++ cur.toList.drop (sLen * i.size + news.length)).toArray) := by
  have hf := run_firstCells_some (P := P) w i.size m a m c news hl hnews
  have hst := run_storeCells_at P g (sLen * i.size) tg news 0 cur w hg (by simpa using hfit) h1
  simp only [Nat.add_zero] at hst
  simp [Builtin.append_, run_underlying ht, sizeOf, typeInfo, hi, Builtin.lenOf, hroom, hf, Addr.add_lit, hst]

theorem cells_one (r : R) : ∀ u ∈ r.cells, u.oneCell' = true := by
  intro u hu
  simp [R.cells] at hu
  rcases hu with rfl | rfl | rfl | rfl <;> rfl

/-- One AVP more behind such a row. -/
theorem push_avp {w : World} {ops : Array Oper} {rest : List Oper} {o : Oper} {a : Act} {Q : Exit → Act → World → Prop} (hgd : o.guard = none) (s x : Operand)
    (ho : o.op = .call { callee := .builtin .append, args := #[s, x], argTypes := #[52, 52] }) (base : Nat) (v : Value) (rs : List R) (hs : a.eval s = v) (hrow : RowX w base v rs) (r : R) (G : Nat) (hG : w.heap.size = G)
    (hx : a.eval x = .slice (some ⟨G, 0, none⟩) 1 1) (hB : base ≤ w.heap.size) (hlen : rs.length ≤ 1000)
    (h : ∀ v' w', RowX w' base v' (rs ++ [r]) → Below base w w' → wpList Ybad.prog ops Q rest (a.put o.dst v') w') :
    wpList Ybad.prog ops Q (o :: rest) a (w.alloc (.cells #[.int .u32 r.a.c, .int .u8 r.a.f, .int .u32 r.a.v, .slice r.p r.a.d.length r.k] 29)) := by
  subst hG
  obtain ⟨i, hi, hxx⟩ := Option.map_eq_some_iff.1 Ybad.info29'
  simp only [Prod.mk.injEq] at hxx
  obtain ⟨hz0, hz1, hz2⟩ := hxx
  obtain ⟨g, cap, cur, t, rfl, hbg, hg, hnc, hcm, hcs, htake⟩ := hrow
  have hgl := heap_lt hg
  have hg2 : (w.alloc (.cells #[.int .u32 r.a.c, .int .u8 r.a.f, .int .u32 r.a.v, .slice r.p r.a.d.length r.k] 29)).heap[g]? = some (.cells cur t (0, 0)) := (blk_alloc_lt _ _ _ hgl).trans hg
  have hnb : (w.alloc (.cells #[.int .u32 r.a.c, .int .u8 r.a.f, .int .u32 r.a.v, .slice r.p r.a.d.length r.k] 29)).heap[w.heap.size]? = some (.cells #[.int .u32 r.a.c, .int .u8 r.a.f, .int .u32 r.a.v, .slice r.p r.a.d.length r.k] 29 (0, 0)) := heap_alloc_new w _
  have hnews : ∀ j u, r.cells[j]? = some u → (w.alloc (.cells #[.int .u32 r.a.c, .int .u8 r.a.f, .int .u32 r.a.v, .slice r.p r.a.d.length r.k] 29)).cell? ((⟨w.heap.size, 0, none⟩ : Addr).add j) = some u := World.news_of_block hnb
  have hBa : Below base w (w.alloc (.cells #[.int .u32 r.a.c, .int .u8 r.a.f, .int .u32 r.a.v, .slice r.p r.a.d.length r.k] 29)) := (Below.refl _ _).alloc hB _
  have hBs : base ≤ (w.alloc (.cells #[.int .u32 r.a.c, .int .u8 r.a.f, .int .u32 r.a.v, .slice r.p r.a.d.length r.k] 29)).heap.size := by simp; omega
  generalize (w.alloc (.cells #[.int .u32 r.a.c, .int .u8 r.a.f, .int .u32 r.a.v, .slice r.p r.a.d.length r.k] 29)) = w1 at *
  have hcl : (cellsOf rs).length = rs.length * 4 := cellsOf_length rs
  have hrl : r.cells.length = 1 * i.size := by rw [hz1]; rfl
  have hcc : cellsOf (rs ++ [r]) = cellsOf rs ++ r.cells := by simp [cellsOf]
  have hll : (rs ++ [r]).length = rs.length + 1 := by simp
  refine wpList_plain hgd fun K hK => ?_
  by_cases hroom : rs.length + 1 ≤ cap
  · have hr := run_append_room_tag (P := Ybad.prog) w1 52 o.type 29 t i Ybad.underlying52 hi g rs.length cap cur hg2 ⟨w.heap.size, 0, none⟩ 1 1 r.cells hrl hnews (cells_one r) hroom (by rw [hz1, hcs]; simp [R.cells]; omega)
    rw [hz1, htake] at hr
    unfold Oper.wp execOp
    simp only [ho, resolve, invoke, builtin, Sem.run_bind, Sem.run_pure, Result.andThen_ok, List.map_toArray, List.map_cons, List.map_nil, hs, hx, hr]
    refine hK _ _ (h _ _ ⟨g, cap, _, t, by rw [hll], hbg, setRow_heap w1 g cur _ t _ hg2, by rw [hll]; exact hroom, hcm, ?_, ?_⟩ ?_)
    · simp only [List.size_toArray, List.length_append, List.length_drop, Array.length_toList, hcl]
      simp [R.cells]
      omega
    · rw [hll, hcc]
      have e1 : (cellsOf rs ++ r.cells).length = (rs.length + 1) * 4 := by simp [hcl, R.cells]; omega
      rw [← e1]
      exact List.take_left
    · exact below_setRow hBa hbg _
  · have holds : ∀ j u, (cellsOf rs)[j]? = some u → w1.cell? ((⟨g, 0, none⟩ : Addr).add j) = some u := by
      intro j u hj
      rw [Addr.add_lit, Nat.zero_add]
      rw [← htake, List.getElem?_take] at hj
      split at hj
      · simp [World.cell?, hg2]
        simpa using hj
      · cases hj
    have hr := run_append_grow (P := Ybad.prog) w1 52 o.type 29 i _ Ybad.underlying52 hi hz0 ⟨g, 0, none⟩ rs.length cap (cellsOf rs) (by rw [hz1]; exact hcl) holds ⟨w.heap.size, 0, none⟩ 1 1 r.cells hrl hnews (by omega) (by omega) (by rw [hz2]; exact growslice_fits (by omega) (by omega))
    unfold Oper.wp execOp
    simp only [ho, resolve, invoke, builtin, Sem.run_bind, Sem.run_pure, Result.andThen_ok, List.map_toArray, List.map_cons, List.map_nil, hs, hx, hr]
    have hge := grownCap_ge w1 (rs.length + 1) cap 29
    have hcm2 : grownCap w1 (rs.length + 1) cap 29 ≤ maxLen := grownCap_le_maxLen w1 (rs.length + 1) cap 29 (by unfold maxLen; omega)
    refine hK _ _ (h _ _ ⟨w1.heap.size, _, _, 29, by rw [hll], hBs, heap_alloc_new w1.drew _, by rw [hll]; exact hge, hcm2, ?_, ?_⟩ ?_)
    · simp only [Array.size_append, List.size_toArray, size_zeroCells, hcl]
      simp [R.cells, Value.cells]
      omega
    · simp only [Array.toList_append, hll, hcc]
      have e1 : (cellsOf rs ++ r.cells).length = (rs.length + 1) * 4 := by simp [hcl, R.cells]; omega
      rw [← e1]
      exact List.take_left
    · exact (hBa.drew).alloc hBs _

end Go.Proofs.YbulkaroiDoor
