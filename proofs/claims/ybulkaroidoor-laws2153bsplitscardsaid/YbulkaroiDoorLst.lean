import Derived.Test.YbulkaroiDoorGroup
set_option linter.unusedVariables false
namespace Go.Proofs.YbulkaroiDoor
open Go.RowKit Go.Deep

/-- An AVP with the slice that leads to its data. -/
structure R where
  a : Avp
  p : Option Addr
  k : Nat

def R.cells (r : R) : List Value := [.int .u32 r.a.c, .int .u8 r.a.f, .int .u32 r.a.v, .slice r.p r.a.d.length r.k]
def R.ok (w : World) (r : R) : Prop := (r.p = none → r.k = 0) ∧ SrcOk w r.p r.a.d
def cellsOf (rs : List R) : List Value := rs.flatMap R.cells

theorem cellsOf_length (rs : List R) : (cellsOf rs).length = rs.length * 4 := by
  induction rs with
  | nil => rfl
  | cons r q ih => simp only [cellsOf, List.flatMap_cons, List.length_append, List.length_cons] at ih ⊢; simp only [R.cells, List.length_cons, List.length_nil]; omega

theorem cellsOf_get (rs : List R) : ∀ (i t : Nat) (r : R), rs[i]? = some r → t < 4 → (cellsOf rs)[i * 4 + t]? = r.cells[t]? := by
  induction rs with
  | nil => intro i t r h; simp at h
  | cons q qs ih =>
    intro i t r h ht
    cases i with
    | zero =>
      simp at h
      subst h
      simp only [cellsOf, List.flatMap_cons]
      rw [List.getElem?_append_left (by simp [R.cells]; omega)]
      simp
    | succ i =>
      simp at h
      have := ih i t r h ht
      simp only [cellsOf, List.flatMap_cons] at this ⊢
      rw [List.getElem?_append_right (by simp [R.cells]; omega)]
      rw [← this]
      congr 1
      simp [R.cells]; omega

/-- A row of AVPs of the call's own: v's elements are the AVPs ls, each with its data. -/
def Lst (w : World) (base : Nat) (v : Value) (ls : List Avp) : Prop :=
  ∃ rs : List R, rs.map R.a = ls ∧ w.ownsRow base 29 4 v ls.length (cellsOf rs) ∧ ∀ r ∈ rs, r.ok w

theorem R.ok.later {w w' : World} {r : R} (h : r.ok w) (hb : Below w.heap.size w w') : r.ok w' := ⟨h.1, h.2.later hb⟩

theorem Lst.later {w w' : World} {base : Nat} {v : Value} {ls : List Avp} (h : Lst w base v ls) (hb : Below w.heap.size w w') : Lst w' base v ls := by
  obtain ⟨rs, h1, h2, h3⟩ := h
  exact ⟨rs, h1, h2.kept (grown_of_below hb none) (by cases hv : v.ownBlock <;> simp), fun r hr => (h3 r hr).later hb⟩

/-- Data of bytes stay where only a row of AVPs is written. -/
theorem src_kept {w w' : World} {base n : Nat} {v : Value} {xs : List Value} (hown : w.ownsRow base 29 4 v n xs) (hg : w.grownBy w' v.ownBlock) {p : Option Addr} {d : List Int} (h : SrcOk w p d) : SrcOk w' p d := by
  rcases hown.2 with ⟨rfl, _⟩ | ⟨g, cap, cur, rfl, hg', hb, _⟩
  · exact ⟨h.1, fun ad e => ⟨(by
      obtain ⟨cs, fr, hc⟩ := (h.2 ad e).1
      exact ⟨cs, fr, (hg.block _ (heap_lt hc) (by simp [Value.ownBlock])).trans hc⟩), fun j v hj => hg.cell ((h.2 ad e).2 j v hj) (by simp [Value.ownBlock])⟩⟩
  · refine h.grown hg (fun ad e hne => ?_)
    obtain ⟨cs, fr, hc⟩ := (h.2 ad e).1
    rw [hne] at hc
    simp only [hb, Option.some.injEq, Obj.cells.injEq] at hc
    exact absurd hc.2.1 (by decide)

/-- From the row v in w to the row v' in w': of old memory only v's own block may have turned, and no data of bytes. -/
structure GrewA (base : Nat) (w : World) (v : Value) (w' : World) (v' : Value) (ls : List Avp) : Prop where
  lst : Lst w' base v' ls
  grown : w.grownBy w' v.ownBlock
  away : ∀ k, k < w.heap.size → v.ownBlock ≠ some k → v'.ownBlock ≠ some k
  src : ∀ p d, SrcOk w p d → SrcOk w' p d

theorem Lst.lt {w : World} {base : Nat} {v : Value} {ls : List Avp} (h : Lst w base v ls) {k : Nat} (e : v.ownBlock = some k) : base ≤ k ∧ k < w.heap.size := by
  obtain ⟨rs, _, h2, _⟩ := h
  exact h2.lt k e

theorem GrewA.below {base : Nat} {w w' : World} {v v' : Value} {ls ls' : List Avp} (h : GrewA base w v w' v' ls') (hl : Lst w base v ls) (hb : base ≤ w.heap.size) : Below base w w' :=
  (Below.refl base w).grown h.grown hb (fun k e => (hl.lt e).1)

theorem GrewA.keep {base : Nat} {w w' : World} {v v' : Value} {ls : List Avp} {k : Nat} {o : Obj} (h : GrewA base w v w' v' ls) (hb : w.heap[k]? = some o) (hne : v.ownBlock ≠ some k) : w'.heap[k]? = some o ∧ v'.ownBlock ≠ some k :=
  ⟨(h.grown.block k (heap_lt hb) (fun e => hne e.symm)).trans hb, h.away k (heap_lt hb) hne⟩

theorem wp_append_avps {w : World} {o : Oper} {a : Act} {K : Act → World → Prop} {Q : Exit → Act → World → Prop} (s x : Operand)
    (ho : o.op = .call { callee := .builtin .append, args := #[s, x], argTypes := #[52, 52] })
    (base : Nat) (v : Value) (ls : List Avp) (hs : a.eval s = v) (hown : Lst w base v ls)
    (ad : Addr) (m c : Nat) (news : List R) (hx : a.eval x = .slice (some ad) m c) (hm : news.length = m) (hnews : ∀ j u, (cellsOf news)[j]? = some u → w.cell? (ad.add j) = some u) (hok : ∀ r ∈ news, r.ok w)
    (hbytes : ls.length + m ≤ 1000000000) (hbase : base ≤ w.heap.size)
    (h : ∀ v' w', GrewA base w v w' v' (ls ++ news.map R.a) → K (a.put o.dst v') w') : o.wp Ybad.prog a w K Q := by
  obtain ⟨i, hi, hxx⟩ := Option.map_eq_some_iff.1 Ybad.info29'
  simp only [Prod.mk.injEq] at hxx
  obtain ⟨hz0, hz1, hz2⟩ := hxx
  obtain ⟨rs, e1, e2, e3⟩ := hown
  have hone : ∀ u ∈ cellsOf news, u.oneCell' = true := by
    intro u hu
    simp only [cellsOf, List.mem_flatMap] at hu
    obtain ⟨r, _, hr⟩ := hu
    simp [R.cells] at hr
    rcases hr with rfl | rfl | rfl | rfl <;> rfl
  obtain ⟨v', w', hr, h1, h2, _, h4⟩ := run_append_own_at (P := Ybad.prog) w base 52 o.type 29 i _ 4 40 Ybad.underlying52 hi hz0 hz1 hz2 rfl (by decide) v ls.length (cellsOf rs) e2 ad m c (cellsOf news) (by rw [cellsOf_length, hm]) hnews hone (by unfold maxLen; omega) (by omega) hbase
  unfold Oper.wp execOp
  simp only [ho, resolve, invoke, builtin, Sem.run_bind, Sem.run_pure, Result.andThen_ok, List.map_toArray, List.map_cons, List.map_nil, hs, hx, hr]
  have hp : ∀ p d, SrcOk w p d → SrcOk w' p d := fun p d hs => src_kept e2 h2 hs
  refine h v' w' ⟨⟨rs ++ news, by simp [e1], ?_, ?_⟩, h2, fun k hk hne => ?_, hp⟩
  · have e5 : (ls ++ news.map R.a).length = ls.length + m := by simp [hm]
    rw [e5]
    simpa [cellsOf] using h1
  · intro r hr
    rcases List.mem_append.1 hr with hr | hr
    · exact ⟨(e3 r hr).1, hp _ _ (e3 r hr).2⟩
    · exact ⟨(hok r hr).1, hp _ _ (hok r hr).2⟩
  · rcases h4 with h4 | h4
    · rw [h4]; exact hne
    · rw [h4]; simp; omega

/-- An append of AVPs onto a row of the call's own. -/
theorem wpList_append_avps {w : World} {ops : Array Oper} {rest : List Oper} {o : Oper} {a : Act} {Q : Exit → Act → World → Prop} (hgd : o.guard = none) (s x : Operand)
    (ho : o.op = .call { callee := .builtin .append, args := #[s, x], argTypes := #[52, 52] })
    (base : Nat) (v : Value) (ls : List Avp) (hs : a.eval s = v) (hown : Lst w base v ls)
    (ad : Addr) (m c : Nat) (news : List R) (hx : a.eval x = .slice (some ad) m c) (hm : news.length = m) (hnews : ∀ j u, (cellsOf news)[j]? = some u → w.cell? (ad.add j) = some u) (hok : ∀ r ∈ news, r.ok w)
    (hbytes : ls.length + m ≤ 1000000000) (hbase : base ≤ w.heap.size)
    (h : ∀ v' w', GrewA base w v w' v' (ls ++ news.map R.a) → wpList Ybad.prog ops Q rest (a.put o.dst v') w') : wpList Ybad.prog ops Q (o :: rest) a w :=
  wpList_plain hgd fun _ hK => wp_append_avps s x ho base v ls hs hown ad m c news hx hm hnews hok hbytes hbase fun v' w' g => hK _ _ (h v' w' g)

/-- The same at a step of a region that draws its order. -/
theorem step_append_avps {w : World} {ops : Array Oper} {o : Oper} {a : Act} {K : Act → World → Prop} {Q : Exit → Act → World → Prop} {E : Prop} (hgd : o.guard = none) (s x : Operand)
    (ho : o.op = .call { callee := .builtin .append, args := #[s, x], argTypes := #[52, 52] })
    (base : Nat) (v : Value) (ls : List Avp) (hs : a.eval s = v) (hown : Lst w base v ls)
    (ad : Addr) (m c : Nat) (news : List R) (hx : a.eval x = .slice (some ad) m c) (hm : news.length = m) (hnews : ∀ j u, (cellsOf news)[j]? = some u → w.cell? (ad.add j) = some u) (hok : ∀ r ∈ news, r.ok w)
    (hbytes : ls.length + m ≤ 1000000000) (hbase : base ≤ w.heap.size)
    (h : ∀ v' w', GrewA base w v w' v' (ls ++ news.map R.a) → K (a.put o.dst v') w') :
    if Region.wanted o (yielded ops a.tmps) = true then Oper.wp Ybad.prog o a w K Q else E := by
  have hw : Region.wanted o (yielded ops a.tmps) = true := by simp [Region.wanted, hgd]
  rw [if_pos hw]
  exact wp_append_avps s x ho base v ls hs hown ad m c news hx hm hnews hok hbytes hbase h

/-- Such a row, not empty, as an argument of Grouped. -/
theorem Lst.at_ {w : World} {base : Nat} {v : Value} {ls : List Avp} (h : Lst w base v ls) (hne : 0 < ls.length) : ∃ g cap, v = .slice (some ⟨g, 0, none⟩) ls.length cap ∧ AvpsAt w g ls ∧ g < w.heap.size ∧ base ≤ g := by
  obtain ⟨rs, e1, e2, e3⟩ := h
  rcases e2.2 with ⟨rfl, h0⟩ | ⟨g, cap, cur, rfl, hg', hb, _⟩
  · omega
  · refine ⟨g, cap, rfl, fun i a hi => ?_, heap_lt hb, hg'⟩
    rw [← e1] at hi
    simp only [List.getElem?_map, Option.map_eq_some_iff] at hi
    obtain ⟨r, hr, rfl⟩ := hi
    have hc : ∀ t, t < 4 → ∀ u, r.cells[t]? = some u → w.cell? ⟨g, i * 4 + t, none⟩ = some u := by
      intro t ht u hu
      have := e2.cells rfl (i * 4 + t) u (by rw [cellsOf_get rs i t r hr ht]; exact hu)
      have e : (⟨g, 0, none⟩ : Addr).add (i * 4 + t) = ⟨g, i * 4 + t, none⟩ := by
        unfold Addr.add; split
        · rename_i h; rw [h]
        · simp
      rw [e] at this
      exact this
    have hk := e3 r (List.mem_of_getElem? hr)
    exact ⟨r.p, r.k, hc 0 (by omega) _ rfl, hc 1 (by omega) _ rfl, hc 2 (by omega) _ rfl, hc 3 (by omega) _ rfl, hk.1, hk.2⟩

/-- The cells of a block that has just been laid, as a source. -/
theorem news_of_alloc (w : World) (rs : List R) (g : Nat) (cs : Array Value) (hcs : cs.toList = cellsOf rs) (hg : w.heap.size = g) : ∀ j u, (cellsOf rs)[j]? = some u → (w.alloc (.cells cs 29)).cell? ((⟨g, 0, none⟩ : Addr).add j) = some u := by
  intro j u hj
  subst hg
  rw [← hcs] at hj
  exact World.news_of_block (heap_alloc_new w (.cells cs 29)) j u hj

/-- A row that a literal has just laid. -/
theorem lst_of_alloc (w : World) (base : Nat) (rs : List R) (g : Nat) (cs : Array Value) (m : Nat) (hcs : cs.toList = cellsOf rs) (hm : rs.length = m) (hg : w.heap.size = g) (hb : base ≤ w.heap.size) (hok : ∀ r ∈ rs, r.ok w) (hlen : m ≤ 1000) :
    Lst (w.alloc (.cells cs 29)) base (.slice (some ⟨g, 0, none⟩) m m) (rs.map R.a) := by
  subst hg
  subst hm
  refine ⟨rs, rfl, ⟨by simp [cellsOf_length], .inr ⟨w.heap.size, rs.length, cs, ?_, hb, heap_alloc_new w _, ?_, ?_, ?_, ?_⟩⟩, fun r hr => (hok r hr).later ((Below.refl _ _).alloc (Nat.le_refl _) _)⟩
  · simp
  · simp
  · unfold maxLen; omega
  · have := cellsOf_length rs
    rw [← hcs] at this
    simpa using this
  · have := cellsOf_length rs
    rw [hcs, List.take_of_length_le]
    simp [this]

end Go.Proofs.YbulkaroiDoor
