import Derived.Test.YbulkaroiIdx
set_option linter.unusedVariables false
namespace Go.Proofs.Ybulkaroi
open Go.RowKit Go.Maps Go.Deep Go.MuLone

def HostsAt (w : World) (hb : Nat) : Prop := w.heap[hb]? = some (.cells #[.string ⟨#[]⟩, .string ⟨#[112, 99, 101, 102, 49]⟩, .string ⟨#[112, 99, 101, 102, 50]⟩, .string ⟨#[97, 102, 46, 101, 120, 97, 109, 112, 108, 101]⟩] 23 (0, 0))
def hostOf : Nat → ByteArray | 0 => ⟨#[]⟩ | 1 => ⟨#[112, 99, 101, 102, 49]⟩ | 2 => ⟨#[112, 99, 101, 102, 50]⟩ | _ => ⟨#[97, 102, 46, 101, 120, 97, 109, 112, 108, 101]⟩
theorem hostOf_size (i : Nat) : (hostOf i).size ≤ maxLen := by
  unfold hostOf maxLen
  split <;> decide
theorem HostsAt.cell {w : World} {hb : Nat} (h : HostsAt w hb) (i : Nat) (hi : i < 4) : w.cell? ⟨hb, i, none⟩ = some (.string (hostOf i)) := by
  unfold HostsAt at h
  match i, hi with
  | 0, _ => simp [World.cell?, h, hostOf]
  | 1, _ => simp [World.cell?, h, hostOf]
  | 2, _ => simp [World.cell?, h, hostOf]
  | 3, _ => simp [World.cell?, h, hostOf]

/-- What lies in memory besides the three rows. -/
def Env (B : Nat) (w0 w : World) (hb tb c : Nat) (f : ByteArray → Option Nat) (made : List (Nat × ByteArray)) : Prop :=
  Below B w0 w ∧ B ≤ w.heap.size ∧ HostsAt w hb ∧ TabIs B w tb c f ∧ ∀ x ∈ made, PeerAt w x.1 x.2

/-- The three rows. -/
def Rows3 (B : Nat) (w : World) (v7 v8 v9 : Value) (kv : List (ByteArray × Nat)) (made : List (Nat × ByteArray)) : Prop :=
  w.ownsRow B 9 1 v7 kv.length ((kv.map (·.1)).map Value.string) ∧ w.ownsRow B 38 1 v8 kv.length (kv.map fun x => ptr x.2) ∧ w.ownsRow B 38 1 v9 made.length (made.map fun x => ptr x.1) ∧
    (v8.ownBlock = none ∨ v8.ownBlock ≠ v9.ownBlock)

/-- What the lists say, with no memory in sight. -/
def Plain (f : ByteArray → Option Nat) (kv : List (ByteArray × Nat)) (made : List (Nat × ByteArray)) : Prop :=
  Rel kv f ∧ (kv.map (·.1)).Nodup ∧ (∀ x ∈ kv, ∃ h, (x.2, h) ∈ made) ∧ ∀ x ∈ made, x.2.size ≤ maxLen

theorem row_tag {w : World} {B : Nat} {t : TypeId} {v : Value} {n : Nat} {xs : List Value} (h : w.ownsRow B t 1 v n xs) : ∀ g, v.ownBlock = some g → B ≤ g ∧ ∃ cs, w.heap[g]? = some (.cells cs t (0, 0)) := by
  intro g hg
  rcases h.2 with ⟨rfl, -⟩ | ⟨g', cap, cur, rfl, hb, hc, -⟩
  · cases hg
  · cases hg
    exact ⟨hb, cur, hc⟩

theorem rows_apart {w : World} {B : Nat} {t1 t2 : TypeId} {v1 v2 : Value} {n1 n2 : Nat} {xs1 xs2 : List Value} (h1 : w.ownsRow B t1 1 v1 n1 xs1) (h2 : w.ownsRow B t2 1 v2 n2 xs2) (ht : t1 ≠ t2) : v1.ownBlock = none ∨ v1.ownBlock ≠ v2.ownBlock := by
  cases hb : v1.ownBlock with
  | none => exact .inl rfl
  | some g =>
    refine .inr fun e => ?_
    obtain ⟨-, c1, e1⟩ := row_tag h1 g hb
    obtain ⟨-, c2, e2⟩ := row_tag h2 g e.symm
    rw [e1] at e2
    simp only [Option.some.injEq, Obj.cells.injEq] at e2
    exact ht e2.2.1

theorem row_turn {w w' : World} {B : Nat} {t : TypeId} {v : Value} {n : Nat} {xs : List Value} (h : w.ownsRow B t 1 v n xs) (ht : t ≠ 33) (hT : Turn B w w') : w'.ownsRow B t 1 v n xs := by
  refine ⟨h.1, ?_⟩
  rcases h.2 with h0 | ⟨g, cap, cur, e, hb, hc, hr⟩
  · exact .inl h0
  · exact .inr ⟨g, cap, cur, e, hb, hT.2.2.2.2.2 _ _ _ _ hc ht, hr⟩

theorem Turn.below {B : Nat} {w0 w w' : World} (h : Below B w0 w) (t : Turn B w w') : Below B w0 w' :=
  ⟨t.1.trans h.os, t.2.1.trans h.tape, t.2.2.1.trans h.output, Nat.le_trans h.size t.2.2.2.1, fun i hi => (t.2.2.2.2.1 i hi).trans (h.block i hi)⟩

section
variable {B : Nat} {w0 w w' : World} {hb tb c c' : Nat} {f f' : ByteArray → Option Nat} {made : List (Nat × ByteArray)} {kv : List (ByteArray × Nat)} {v7 v8 v9 : Value}

theorem Env.turn (e : Env B w0 w hb tb c f made) (t : Turn B w w') (ht : TabIs B w' tb c' f') : Env B w0 w' hb tb c' f' made :=
  ⟨t.below e.1, Nat.le_trans e.2.1 t.2.2.2.1, t.2.2.2.2.2 _ _ _ _ e.2.2.1 (by decide), ht, fun x hx => (e.2.2.2.2 x hx).turn t⟩

theorem TabIs.grown {row : Option Nat} (h : TabIs B w tb c f) (hg : w.grownBy w' row) (hr : ∀ g, row = some g → ∃ cs t, w.heap[g]? = some (.cells cs t (0, 0)) ∧ (t = 9 ∨ t = 38)) : TabIs B w' tb c f := by
  obtain ⟨hB, mv, hb, ht⟩ := h
  refine ⟨hB, mv, ?_, ?_⟩
  · rw [hg.block tb (heap_lt hb) (fun e => by
      obtain ⟨cs, t, e1, e2⟩ := hr tb e.symm
      rw [hb] at e1
      simp only [Option.some.injEq, Obj.cells.injEq] at e1
      have e3 := e1.2.1
      rcases e2 with rfl | rfl <;> cases e3)]
    exact hb
  · rcases ht with h0 | ⟨bm, D, e, h1, h2, h3, h4⟩
    · exact .inl h0
    · refine .inr ⟨bm, D, e, h1, h2, h3.kept hg (fun e2 => ?_), h4⟩
      obtain ⟨cs, t, e1, -⟩ := hr bm e2.symm
      obtain ⟨es, cl, hm, -⟩ := h3
      rw [hm] at e1
      cases e1

theorem PeerAt.grown {p : Nat} {h : ByteArray} {row : Option Nat} (a : PeerAt w p h) (hg : w.grownBy w' row) (hr : ∀ g, row = some g → ∃ cs t, w.heap[g]? = some (.cells cs t (0, 0)) ∧ (t = 9 ∨ t = 38)) : PeerAt w' p h := by
  obtain ⟨cs, h1, h2⟩ := a
  refine ⟨cs, (hg.block p (heap_lt h1) (fun e => ?_)).trans h1, h2⟩
  obtain ⟨cs', t, e1, e2⟩ := hr p e.symm
  rw [h1] at e1
  simp only [Option.some.injEq, Obj.cells.injEq] at e1
  have e3 := e1.2.1
  rcases e2 with rfl | rfl <;> cases e3

theorem Env.grown {row : Option Nat} (e : Env B w0 w hb tb c f made) (hg : w.grownBy w' row) (hr : ∀ g, row = some g → B ≤ g ∧ ∃ cs t, w.heap[g]? = some (.cells cs t (0, 0)) ∧ (t = 9 ∨ t = 38)) : Env B w0 w' hb tb c f made := by
  obtain ⟨e1, e2, e3, e4, e5⟩ := e
  have hr' := fun g hg => (hr g hg).2
  refine ⟨e1.grown hg e2 (fun k hk => (hr k hk).1), Nat.le_trans e2 hg.size, ?_, e4.grown hg hr', fun x hx => (e5 x hx).grown hg hr'⟩
  refine (hg.block hb (heap_lt e3) (fun e => ?_)).trans e3
  obtain ⟨cs', t, q1, q2⟩ := hr' hb e.symm
  unfold HostsAt at e3
  rw [e3] at q1
  simp only [Option.some.injEq, Obj.cells.injEq] at q1
  have q3 := q1.2.1
  rcases q2 with rfl | rfl <;> cases q3

theorem Env.alloc (e : Env B w0 w hb tb c f made) (o : Obj) : Env B w0 (w.alloc o) hb tb c f made := e.grown (World.grownBy_alloc w o none) (fun g h => by cases h)
theorem Env.drew (e : Env B w0 w hb tb c f made) : Env B w0 w.drew hb tb c f made := ⟨e.1.drew, e.2.1, e.2.2.1, e.2.2.2.1, e.2.2.2.2⟩

theorem Rows3.alloc (r : Rows3 B w v7 v8 v9 kv made) (o : Obj) : Rows3 B (w.alloc o) v7 v8 v9 kv made := ⟨r.1.alloc o, r.2.1.alloc o, r.2.2.1.alloc o, r.2.2.2⟩
theorem Rows3.turn (r : Rows3 B w v7 v8 v9 kv made) (t : Turn B w w') : Rows3 B w' v7 v8 v9 kv made := ⟨row_turn r.1 (by decide) t, row_turn r.2.1 (by decide) t, row_turn r.2.2.1 (by decide) t, r.2.2.2⟩

/-- A peer more is made. -/
theorem Env.more {p : Nat} {h : ByteArray} (e : Env B w0 w hb tb c f made) (hp : PeerAt w p h) : Env B w0 w hb tb c f (made ++ [(p, h)]) :=
  ⟨e.1, e.2.1, e.2.2.1, e.2.2.2.1, fun x hx => by
    rcases List.mem_append.1 hx with hx | hx
    · exact e.2.2.2.2 x hx
    · simp at hx; subst hx; exact hp⟩

theorem tag_of {t : TypeId} {v : Value} {n : Nat} {xs : List Value} (h : w.ownsRow B t 1 v n xs) (ht : t = 9 ∨ t = 38) : ∀ g, v.ownBlock = some g → B ≤ g ∧ ∃ cs t, w.heap[g]? = some (.cells cs t (0, 0)) ∧ (t = 9 ∨ t = 38) := fun g hg => by
  obtain ⟨h1, cs, h2⟩ := row_tag h g hg
  exact ⟨h1, cs, t, h2, ht⟩

/-- Behind an append to the row of peers made. -/
theorem push9 {p : Nat} {h : ByteArray} {v9' : Value} (e : Env B w0 w hb tb c f made) (r : Rows3 B w v7 v8 v9 kv made)
    (ho : w'.ownsRow B 38 1 v9' (made.length + 1) ((made.map fun x => ptr x.1) ++ [ptr p])) (hg : w.grownBy w' v9.ownBlock) (hat : v9'.ownBlock = v9.ownBlock ∨ v9'.ownBlock = some w.heap.size) (hp : PeerAt w p h) :
    Env B w0 w' hb tb c f (made ++ [(p, h)]) ∧ Rows3 B w' v7 v8 v9' kv (made ++ [(p, h)]) := by
  obtain ⟨r1, r2, r3, r4⟩ := r
  refine ⟨(e.more hp).grown hg (tag_of r3 (.inr rfl)), r1.kept hg (rows_apart r1 r3 (by decide)), r2.kept hg r4, by simpa using ho, ?_⟩
  rcases r4 with h0 | h0
  · exact .inl h0
  · rcases hat with h1 | h1
    · rw [h1]; exact .inr h0
    · cases hb : v8.ownBlock with
      | none => exact .inl rfl
      | some g =>
        refine .inr fun e2 => ?_
        rw [h1] at e2
        cases e2
        obtain ⟨-, cs, h2⟩ := row_tag r2 _ hb
        exact Nat.lt_irrefl _ (heap_lt h2)

/-- Behind an append to the row of keys. -/
theorem push7 {k : ByteArray} {v7' : Value} (e : Env B w0 w hb tb c f made) (r : Rows3 B w v7 v8 v9 kv made)
    (ho : w'.ownsRow B 9 1 v7' (kv.length + 1) (((kv.map (·.1)).map Value.string) ++ [.string k])) (hg : w.grownBy w' v7.ownBlock) :
    Env B w0 w' hb tb c f made ∧ w'.ownsRow B 38 1 v8 kv.length (kv.map fun x => ptr x.2) ∧ w'.ownsRow B 38 1 v9 made.length (made.map fun x => ptr x.1) := by
  obtain ⟨r1, r2, r3, r4⟩ := r
  exact ⟨e.grown hg (tag_of r1 (.inl rfl)), r2.kept hg (rows_apart r2 r1 (by decide)), r3.kept hg (rows_apart r3 r1 (by decide))⟩

end

/-! ### The plain law -/
section
variable {f : ByteArray → Option Nat} {kv : List (ByteArray × Nat)} {made : List (Nat × ByteArray)} {h : ByteArray} {p : Nat}

theorem Plain.more (a : Plain f kv made) (hs : h.size ≤ maxLen) : Plain f kv (made ++ [(p, h)]) :=
  ⟨a.1, a.2.1, fun x hx => by obtain ⟨y, hy⟩ := a.2.2.1 x hx; exact ⟨y, List.mem_append_left _ hy⟩, fun x hx => by
    rcases List.mem_append.1 hx with hx | hx
    · exact a.2.2.2 x hx
    · simp at hx; subst hx; exact hs⟩

theorem Plain.snoc (a : Plain f kv made) (hno : h ∉ kv.map (·.1)) (hp : (p, h) ∈ made) : Plain (upd f h (some p)) (kv ++ [(h, p)]) made := by
  obtain ⟨⟨r1, r2⟩, a2, a3, a4⟩ := a
  refine ⟨⟨fun k q hx => ?_, fun x hx => ?_⟩, ?_, fun x hx => ?_, a4⟩
  · unfold upd
    rcases List.mem_append.1 hx with hx | hx
    · rw [if_neg (fun e => hno (by rw [← e]; exact List.mem_map.2 ⟨_, hx, rfl⟩))]
      exact r1 k q hx
    · simp at hx
      obtain ⟨rfl, rfl⟩ := hx
      simp
  · simp only [List.map_append, List.map_cons, List.map_nil, List.mem_append, List.mem_singleton, not_or] at hx
    unfold upd
    rw [if_neg hx.2]
    exact r2 x hx.1
  · rw [List.map_append, List.nodup_append]
    refine ⟨a2, by simp, fun x hx y hy e => ?_⟩
    simp at hy
    subst hy
    subst e
    exact hno hx
  · rcases List.mem_append.1 hx with hx | hx
    · exact a3 x hx
    · simp at hx; subst hx; exact ⟨h, hp⟩

theorem nodup_at {kv : List (ByteArray × Nat)} (hn : (kv.map (·.1)).Nodup) {i j : Nat} {k : ByteArray} {p q : Nat} (hi : kv[i]? = some (k, p)) (hj : kv[j]? = some (k, q)) : i = j := by
  have h1 : (kv.map (·.1))[i]? = some k := by simp [hi]
  have h2 : (kv.map (·.1))[j]? = some k := by simp [hj]
  obtain ⟨l1, e1⟩ := List.getElem?_eq_some_iff.1 h1
  obtain ⟨l2, e2⟩ := List.getElem?_eq_some_iff.1 h2
  rcases Nat.lt_trichotomy i j with hlt | e | hlt
  · exact absurd (e1.trans e2.symm) (List.pairwise_iff_getElem.1 hn i j l1 l2 hlt)
  · exact e
  · exact absurd (e2.trans e1.symm) (List.pairwise_iff_getElem.1 hn j i l2 l1 hlt)

theorem Plain.set (a : Plain f kv made) {i : Nat} {p0 : Nat} (hi : kv[i]? = some (h, p0)) (hp : (p, h) ∈ made) : Plain (upd f h (some p)) (kv.set i (h, p)) made := by
  obtain ⟨⟨r1, r2⟩, a2, a3, a4⟩ := a
  have hk : (kv.set i (h, p)).map (·.1) = kv.map (·.1) := by
    rw [List.map_set]
    refine List.ext_getElem? fun j => ?_
    rw [List.getElem?_set]
    split
    · rename_i e; subst e
      split
      · simp [hi]
      · rename_i hl; rw [List.getElem?_eq_none (by omega)]
    · rfl
  refine ⟨⟨fun k q hx => ?_, fun x hx => ?_⟩, by rw [hk]; exact a2, fun x hx => ?_, a4⟩
  · obtain ⟨j, hj⟩ := List.getElem?_of_mem hx
    rw [List.getElem?_set] at hj
    unfold upd
    split at hj
    · split at hj
      · simp only [Option.some.injEq, Prod.mk.injEq] at hj
        obtain ⟨rfl, rfl⟩ := hj
        simp
      · cases hj
    · rename_i hij
      rw [if_neg (fun e => by subst e; exact hij (nodup_at a2 hi hj))]
      exact r1 k q (List.mem_of_getElem? hj)
  · rw [hk] at hx
    unfold upd
    rw [if_neg (fun e => hx (by rw [e]; exact List.mem_map.2 ⟨_, List.mem_of_getElem? hi, rfl⟩))]
    exact r2 x hx
  · rcases List.mem_or_eq_of_mem_set hx with hx | hx
    · exact a3 x hx
    · subst hx; exact ⟨h, hp⟩

theorem Plain.cut (a : Plain f kv made) {i : Nat} (hi : kv[i]? = some (h, p)) : Plain (cutOf f h p) (kv.eraseIdx i) made := by
  obtain ⟨⟨r1, r2⟩, a2, a3, a4⟩ := a
  have hf := r1 h p (List.mem_of_getElem? hi)
  have hc : cutOf f h p = upd f h none := by unfold cutOf; rw [if_pos hf]
  have hsub : ∀ x ∈ kv.eraseIdx i, x ∈ kv := fun x hx => List.mem_of_mem_eraseIdx hx
  have hne : ∀ x ∈ kv.eraseIdx i, x.1 ≠ h := by
    intro x hx e
    obtain ⟨j, hji, hj⟩ := List.mem_eraseIdx_iff_getElem?.1 hx
    obtain ⟨k, q⟩ := x
    simp only at e
    subst e
    exact hji (nodup_at a2 hj hi)
  refine ⟨⟨fun k q hx => ?_, fun x hx => ?_⟩, ?_, fun x hx => a3 x (hsub x hx), a4⟩
  · rw [hc]
    unfold upd
    rw [if_neg (hne _ hx)]
    exact r1 k q (hsub _ hx)
  · rw [hc]
    unfold upd
    split
    · rfl
    · rename_i hxh
      refine r2 x fun hm => hx ?_
      obtain ⟨y, hy, e⟩ := List.mem_map.1 hm
      obtain ⟨j, hj⟩ := List.getElem?_of_mem hy
      refine List.mem_map.2 ⟨y, List.mem_eraseIdx_iff_getElem?.2 ⟨j, fun eji => ?_, hj⟩, e⟩
      subst eji
      rw [hi] at hj
      cases hj
      exact hxh e.symm
  · have he : (kv.eraseIdx i).map (·.1) = (kv.map (·.1)).eraseIdx i := by simp [List.eraseIdx_eq_take_drop_succ]
    rw [he]
    exact List.Nodup.sublist (List.eraseIdx_sublist _ _) a2

theorem Plain.keep (a : Plain f kv made) (hne : f h ≠ some p) : Plain (cutOf f h p) kv made := by
  have hc : cutOf f h p = f := by unfold cutOf; rw [if_neg hne]
  rw [hc]
  exact a

end

end Go.Proofs.Ybulkaroi
