/-
  Shared lemmas for the walks over bearerward's diameter AVPs: bytes behind a slice, appends, the world's frame.
-/
import Derived.Test.YbulkaroiDoorRows
import Derived.WalkKit
import Derived.WalkSpells
import Derived.WalkLawsBesides
import Derived.Deep.QuietTactic
import Derived.BigQuiet
import Derived.Deep.RegionHeld3
import Derived.Deep.AppendLies
import Derived.Deep.AppendSrc
import Derived.Deep.OwnRows
import Derived.Lib.ConvBytes
import Derived.Laws.AppendOwnNone
import Derived.Maps.AppendAt
set_option linter.unusedVariables false
namespace Go.Proofs.YbulkaroiDoor
open Go.RowKit Go.Deep

/-- A byte as a cell's value. -/
abbrev u8 (x : Int) : Value := .int .u8 x

/-- What is known of a slice of bytes that is read: its numbers lie behind its address. -/
def SrcOk (w : World) (sp : Option Addr) (ys : List Int) : Prop :=
  (sp = none → ys = []) ∧ ∀ ad, sp = some ad → (∃ cs fr, w.heap[ad.block]? = some (.cells cs 5 fr)) ∧ ∀ j v, (ys.map u8)[j]? = some v → w.cell? (ad.add j) = some v

theorem heap_lt {w : World} {k : Nat} {o : Obj} (h : w.heap[k]? = some o) : k < w.heap.size := by
  rcases Nat.lt_or_ge k w.heap.size with h' | h'
  · exact h'
  · rw [Array.getElem?_eq_none h'] at h; cases h

theorem SrcOk.later {w w' : World} {sp : Option Addr} {ys : List Int} (h : SrcOk w sp ys) (hb : Below w.heap.size w w') : SrcOk w' sp ys := by
  refine ⟨h.1, fun ad e => ⟨?_, fun j v hj => cell_later hb ((h.2 ad e).2 j v hj)⟩⟩
  obtain ⟨cs, fr, hc⟩ := (h.2 ad e).1
  exact ⟨cs, fr, (hb.block _ (heap_lt hc)).trans hc⟩

theorem Ybad.info5' : (Ybad.prog.info? 5).map (fun i => (i.zero, i.size, i.bytes)) = some (some (.int .u8 0), 1, 1) := by kernel_rfl
theorem Ybad.info29' : (Ybad.prog.info? 29).map (fun i => (i.zero, i.size, i.bytes)) = some (some (.agg #[.int .u32 0, .int .u8 0, .int .u32 0, .slice none 0 0]), 4, 40) := by kernel_rfl

/-- From the slice b in w to the slice b' in w': the row of the call's own has grown to ys; of old memory only b's own block may have turned; b' lies in b's block or in a new one. -/
structure Grew (base : Nat) (w : World) (b : Value) (w' : World) (b' : Value) (n : Nat) (ys : List Int) : Prop where
  own : w'.ownsRow base 5 1 b' n (ys.map u8)
  grown : w.grownBy w' b.ownBlock
  away : ∀ k, k < w.heap.size → b.ownBlock ≠ some k → b'.ownBlock ≠ some k

theorem Grew.alloc {base : Nat} {w w' : World} {b b' : Value} {n : Nat} {ys : List Int} {o : Obj} (h : Grew base (w.alloc o) b w' b' n ys) : Grew base w b w' b' n ys :=
  ⟨h.own, (World.grownBy_alloc w o _).trans h.grown, fun k hk => h.away k (by simp; omega)⟩

theorem Grew.below {base : Nat} {w w' : World} {b b' : Value} {n m : Nat} {ys xs : List Int} (h : Grew base w b w' b' n ys) (hown : w.ownsRow base 5 1 b m (xs.map u8)) (hb : base ≤ w.heap.size) : Below base w w' :=
  (Below.refl base w).grown h.grown hb (fun k e => (hown.lt k e).1)

theorem Grew.trans {base : Nat} {w w' w'' : World} {b b' b'' : Value} {n n' : Nat} {ys ys' : List Int} (h : Grew base w b w' b' n ys) (h' : Grew base w' b' w'' b'' n' ys') : Grew base w b w'' b'' n' ys' := by
  refine ⟨h'.own, ⟨h'.grown.os.trans h.grown.os, h'.grown.tape.trans h.grown.tape, h'.grown.output.trans h.grown.output, Nat.le_trans h.grown.size h'.grown.size, fun k hk hne => ?_⟩, fun k hk hne => h'.away k (Nat.lt_of_lt_of_le hk h.grown.size) (h.away k hk hne)⟩
  exact (h'.grown.block k (Nat.lt_of_lt_of_le hk h.grown.size) (fun e => h.away k hk (fun e' => hne e'.symm) e.symm)).trans (h.grown.block k hk hne)

/-- An append of bytes onto a slice of the call's own. -/
theorem wpList_append_bytes {w : World} {ops : Array Oper} {rest : List Oper} {o : Oper} {a : Act} {Q : Exit → Act → World → Prop} (hgd : o.guard = none) (s x : Operand)
    (ho : o.op = .call { callee := .builtin .append, args := #[s, x], argTypes := #[27, 27] })
    (base : Nat) (v : Value) (n : Nat) (xs : List Int) (hs : a.eval s = v) (hown : w.ownsRow base 5 1 v n (xs.map u8))
    (sp : Option Addr) (m c : Nat) (ys : List Int) (hx : a.eval x = .slice sp m c) (hm : ys.length = m) (hnil : sp = none → c = 0) (hsrc : SrcOk w sp ys)
    (hbytes : n + m ≤ 140737488355328) (hbase : base ≤ w.heap.size)
    (h : ∀ v' w', Grew base w v w' v' (n + m) (xs ++ ys) → wpList Ybad.prog ops Q rest (a.put o.dst v') w') : wpList Ybad.prog ops Q (o :: rest) a w := by
  obtain ⟨i, hi, hxx⟩ := Option.map_eq_some_iff.1 Ybad.info5'
  simp only [Prod.mk.injEq] at hxx
  obtain ⟨hz0, hz1, hz2⟩ := hxx
  cases sp with
  | none =>
    obtain rfl := hsrc.1 rfl
    obtain rfl := hnil rfl
    simp at hm
    subst hm
    refine wpList_append_own_none hgd s x 27 ho base 5 i 1 Ybad.underlying27 hi v n (xs.map u8) hs hown hx ?_
    exact h v w ⟨by simpa using hown, ⟨rfl, rfl, rfl, Nat.le_refl _, fun _ _ _ => rfl⟩, fun _ _ hk => hk⟩
  | some ad =>
    refine wpList_append_own_at w hgd s x 27 ho base 5 i (.int .u8 0) 1 1 Ybad.underlying27 hi hz0 hz1 hz2 rfl (by decide) v n (xs.map u8) hs hown ad m c (ys.map u8) hx (by simp [hm]) (hsrc.2 ad rfl).2 (by simp [Value.oneCell']) (by unfold maxLen; omega) (by omega) hbase ?_
    intro v' w' h1 h2 _ h4
    refine h v' w' ⟨by simpa using h1, h2, fun k hk hne => ?_⟩
    rcases h4 with h4 | h4
    · rw [h4]; exact hne
    · rw [h4]; simp; omega

/-- '[]byte(s)'. -/
theorem str_bytes (W : World) (s : ByteArray) : ∃ w1 c, (convert 9 27 (.string s)).run Ybad.prog W = .ok (.slice (some ⟨W.heap.size, 0, none⟩) s.size c) w1 ∧ Below W.heap.size W w1 ∧ W.heap.size < w1.heap.size ∧
    SrcOk w1 (some ⟨W.heap.size, 0, none⟩) (s.data.toList.map fun b => (b.toNat : Int)) := by
  refine ⟨_, _, Lib.run_convert_string_bytes W 9 27 5 s Ybad.underlying9 Ybad.underlying27 Ybad.underlying5, ⟨rfl, rfl, rfl, ?_, fun k hk => Lib.bytesWorld_at_old W 5 s k hk⟩, ?_, ⟨fun e => (by cases e), fun ad e => ⟨?_, fun j v hj => ?_⟩⟩⟩
  · rw [Lib.bytesWorld_size]; omega
  · rw [Lib.bytesWorld_size]; omega
  · cases e; exact ⟨_, _, Lib.bytesWorld_at_new W 5 s⟩
  · cases e
    simp only [List.map_map, List.getElem?_map, Option.map_eq_some_iff] at hj
    obtain ⟨b, hb, rfl⟩ := hj
    have hlt : j < s.size := by
      have := (List.getElem?_eq_some_iff.1 hb).1
      simpa using this
    have := Lib.bytesWorld_cell W 5 s j hlt
    have e1 : (⟨W.heap.size, 0, none⟩ : Addr).add j = ⟨W.heap.size, j, none⟩ := by
      unfold Addr.add; split
      · rename_i h; subst h; rfl
      · simp
    rw [e1, this]
    simp [hb]

/-- What a slice of the call's own holds, as a source. -/
theorem src_of_own {w : World} {base n : Nat} {v : Value} {xs : List Int} (h : w.ownsRow base 5 1 v n (xs.map u8)) : ∃ a c, v = .slice a n c ∧ xs.length = n ∧ (a = none → c = 0) ∧ SrcOk w a xs := by
  have hl : xs.length = n := by simpa using h.1
  rcases h.2 with ⟨rfl, rfl⟩ | ⟨g, cap, cur, rfl, hg, hb, h1, h2, h3, h4⟩
  · have : xs = [] := List.eq_nil_of_length_eq_zero hl
    subst this
    exact ⟨none, 0, rfl, rfl, fun _ => rfl, fun _ => rfl, fun ad e => (by cases e)⟩
  · refine ⟨some ⟨g, 0, none⟩, cap, rfl, hl, fun e => (by cases e), fun e => (by cases e), fun ad e => ?_⟩
    cases e
    exact ⟨⟨_, _, hb⟩, fun j v hj => h.cells rfl j v hj⟩

theorem bcell {W w1 : World} (hb : Below W.heap.size W w1) : (∀ b o, b < W.heap.size → w1.cell? ⟨b, o, none⟩ = W.cell? ⟨b, o, none⟩) ∧ (∀ b o, b < W.heap.size → w1.frozen? ⟨b, o, none⟩ = W.frozen? ⟨b, o, none⟩) :=
  ⟨fun b o h => hb.cell (p := ⟨b, o, none⟩) h, fun b o h => hb.frozen (p := ⟨b, o, none⟩) h⟩

theorem grown_of_below {w w' : World} (h : Below w.heap.size w w') (row : Option Nat) : w.grownBy w' row := ⟨h.os, h.tape, h.output, h.size, fun k hk _ => h.block k hk⟩

theorem grown_trans {a b c : World} {k : Nat} (h : a.grownBy b (some k)) (h' : b.grownBy c (some k)) : a.grownBy c (some k) :=
  ⟨h'.os.trans h.os, h'.tape.trans h.tape, h'.output.trans h.output, Nat.le_trans h.size h'.size, fun i hi hne => (h'.block i (Nat.lt_of_lt_of_le hi h.size) hne).trans (h.block i hi hne)⟩

theorem grown_set (w : World) (k o : Nat) (v : Value) : w.grownBy (w.setCell ⟨k, o, none⟩ v) (some k) :=
  ⟨rfl, rfl, rfl, by simp [World.setCell], fun i _ hne => Below.heap_setCell _ _ _ _ (fun e => hne (by simp at e; simp [e]))⟩

/-- Four cells of block g written. -/
def set4 (w : World) (g : Nat) (a b c d : Value) : World := (((w.setCell ⟨g, 0, none⟩ a).setCell ⟨g, 1, none⟩ b).setCell ⟨g, 2, none⟩ c).setCell ⟨g, 3, none⟩ d

theorem grown_set4 (w : World) (g : Nat) (a b c d : Value) : w.grownBy (set4 w g a b c d) (some g) :=
  grown_trans (grown_trans (grown_trans (grown_set _ _ _ _) (grown_set _ _ _ _)) (grown_set _ _ _ _)) (grown_set _ _ _ _)

theorem SrcOk.grown {w w' : World} {sp : Option Addr} {ys : List Int} {g : Nat} (h : SrcOk w sp ys) (hg : w.grownBy w' (some g)) (hne : ∀ ad, sp = some ad → ad.block ≠ g) : SrcOk w' sp ys := by
  refine ⟨h.1, fun ad e => ⟨?_, fun j v hj => hg.cell ((h.2 ad e).2 j v hj) ?_⟩⟩
  · obtain ⟨cs, fr, hc⟩ := (h.2 ad e).1
    exact ⟨cs, fr, (hg.block _ (heap_lt hc) (fun e' => hne ad e (by simpa using e'))).trans hc⟩
  · have := hne ad e
    unfold Addr.add
    split <;> simpa using this

theorem heap_alloc_new2 (w : World) (o o' : Obj) : ((w.alloc o).alloc o').heap[w.heap.size + 1]? = some o' := by
  have := heap_alloc_new (w.alloc o) o'
  simpa using this

/-- The four cells of a block that lies below, read later. -/
theorem res4 {W w2 : World} {g : Nat} {a b c d : Value} {t : TypeId} (h : Below W.heap.size W w2) (hc : W.heap[g]? = some (.cells #[a, b, c, d] t (0, 0))) :
    (w2.cell? ⟨g, 0, none⟩ = some a ∧ w2.cell? ⟨g, 1, none⟩ = some b ∧ w2.cell? ⟨g, 2, none⟩ = some c ∧ w2.cell? ⟨g, 3, none⟩ = some d) ∧
    w2.frozen? ⟨g, 0, none⟩ = false ∧ w2.frozen? ⟨g, 1, none⟩ = false ∧ w2.frozen? ⟨g, 2, none⟩ = false ∧ w2.frozen? ⟨g, 3, none⟩ = false := by
  have hg : g < W.heap.size := by
    rcases Nat.lt_or_ge g W.heap.size with h' | h'
    · exact h'
    · rw [Array.getElem?_eq_none h'] at hc; cases hc
  have hb : w2.heap[g]? = some (.cells #[a, b, c, d] t (0, 0)) := (h.block g hg).trans hc
  simp [World.cell?, World.frozen?, hb]

theorem keep3 {W w2 : World} {g : Nat} {a b c : Value} {t : TypeId} (h : Below W.heap.size W w2) (hc : W.heap[g]? = some (.cells #[a, b, c] t (0, 0))) :
    w2.cell? ⟨g, 0, none⟩ = some a ∧ w2.cell? ⟨g, 1, none⟩ = some b ∧ w2.cell? ⟨g, 2, none⟩ = some c := by
  have hg : g < W.heap.size := by
    rcases Nat.lt_or_ge g W.heap.size with h' | h'
    · exact h'
    · rw [Array.getElem?_eq_none h'] at hc; cases hc
  have hb : w2.heap[g]? = some (.cells #[a, b, c] t (0, 0)) := (h.block g hg).trans hc
  simp [World.cell?, hb]

theorem heap_alloc_old2 (w : World) (o o' : Obj) : ((w.alloc o).alloc o').heap[w.heap.size]? = some o := by
  rw [Below.heap_alloc _ _ _ (by simp)]
  exact heap_alloc_new w o

end Go.Proofs.YbulkaroiDoor
