import Derived.Test.YbulkaroiLocks
import Derived.Maps.OwnSet
import Derived.Maps.AppendAt
import Derived.Deep.DeepAppendRoom
import Derived.Deep.OwnRows
import Derived.Deep.QuietTactic
import Derived.Deep.RegionHeld3
import Derived.Deep.DeepCutAuto
import Derived.BigQuiet
import Derived.WalkKit
import Derived.WalkSpells
import Derived.WalkLawsBesides
import Derived.Below
import Derived.StringKeys
import Derived.LaidEqlPtr
set_option linter.unusedVariables false
namespace Go.Proofs.Ybulkaroi
open Go.RowKit Go.Maps Go.Deep Go.MuLone

/-- How a map's element is told: by itself. -/
def asIs (v : Value) : Option (DataW Value × List MemPlace) := some (.held v, [])

theorem law9 : Keyed Yba.prog 9 := string_keyed Yba.underlying9
theorem zero38 (w : World) : (zeroValue 38).run Yba.prog w = .ok (.pointer none) w := by kernel_rfl

/-- A string as a map's key. -/
def key (h : ByteArray) : Lit := .string h.data.toList
theorem key_inj {a b : ByteArray} (h : key a = key b) : a = b := by
  simp only [key, Lit.string.injEq] at h
  obtain ⟨⟨x⟩⟩ := a
  obtain ⟨⟨y⟩⟩ := b
  simpa using h

def adr (p : Nat) : Addr := ⟨p, 0, none⟩
/-- The map holds just what f says. -/
def MapIs (D : DataW Value) (f : ByteArray → Option Nat) : Prop :=
  IsMap D ∧ ∀ h, has D (key h) = (f h).isSome ∧ ∀ z, D.atKey (key h) z = (match f h with | some p => .held (.pointer (some (adr p))) | none => z)

def upd (f : ByteArray → Option Nat) (h : ByteArray) (o : Option Nat) : ByteArray → Option Nat := fun x => if x = h then o else f x

theorem isKey (h : ByteArray) : Go.WideAt.IsKeyLit (key h) := by trivial

theorem MapIs.put {D : DataW Value} {f : ByteArray → Option Nat} (m : MapIs D f) (h : ByteArray) (p : Nat) : MapIs (D.put (key h) (.held (.pointer (some (adr p))))) (upd f h (some p)) := by
  refine ⟨m.1.put _ _, fun x => ?_⟩
  unfold upd
  by_cases e : x = h
  · subst e
    simp [has_put_same m.1 (isKey x), atKey_put_same m.1 (isKey x)]
  · have hk : key x ≠ key h := fun k => e (key_inj k)
    rw [if_neg e]
    exact ⟨(has_put_other hk _).trans (m.2 x).1, fun z => (atKey_put_other hk _ z).trans ((m.2 x).2 z)⟩

theorem MapIs.del {D : DataW Value} {f : ByteArray → Option Nat} (m : MapIs D f) (h : ByteArray) : MapIs (D.del (key h)) (upd f h none) := by
  refine ⟨m.1.del _, fun x => ?_⟩
  unfold upd
  by_cases e : x = h
  · subst e
    simp [has_del_same, atKey_del_same]
  · have hk : key x ≠ key h := fun k => e (key_inj k)
    rw [if_neg e]
    exact ⟨(has_del_other hk).trans (m.2 x).1, fun z => (atKey_del_other hk z).trans ((m.2 x).2 z)⟩

theorem MapIs.empty : MapIs (.map []) (fun _ => none) := ⟨isMap_empty, fun h => ⟨rfl, fun z => rfl⟩⟩

theorem setCell_back {w : World} {a : Addr} {v : Value} (h : w.cell? a = some v) (x : Value) : (w.setCell a x).setCell a v = w := by
  have hh : ((w.setCell a x).setCell a v).heap = w.heap := by
    obtain ⟨b, o, sp⟩ := a
    simp only [World.cell?] at h
    split at h
    · rename_i c t fr hb
      split at h
      · cases h
      · rename_i hsp
        obtain ⟨hl2, hv⟩ := Array.getElem?_eq_some_iff.1 h
        refine Array.ext_getElem? fun i => ?_
        simp only [World.setCell, Array.getElem?_modify]
        by_cases hi : b = i
        · subst hi
          simp only [hb, if_true, Option.map_some, hsp, Bool.false_eq_true, if_false, Option.some.injEq, Obj.cells.injEq, and_true]
          refine Array.ext_getElem? fun j => ?_
          simp only [Array.getElem?_setIfInBounds, Array.size_setIfInBounds]
          by_cases hj : o = j
          · subst hj
            simp [hl2, hv]
          · simp [hj]
        · simp [hi]
    · cases h
  exact congrArg (fun hp => { w with heap := hp }) hh

/-- The table in block tb: its lock is free, its map holds what f says (no more than c entries were ever put). -/
def TabIs (B : Nat) (w : World) (tb c : Nat) (f : ByteArray → Option Nat) : Prop :=
  B ≤ tb ∧ ∃ mv, w.heap[tb]? = some (.cells #[.int .i32 0, .int .u32 0, .map mv] 33 (0, 0)) ∧
    ((mv = none ∧ f = fun _ => none) ∨ ∃ bm D, mv = some bm ∧ B ≤ bm ∧ bm ≠ tb ∧ w.ownsMap Yba.prog 9 asIs bm c D ∧ MapIs D f)

theorem key_of {h : ByteArray} (hs : h.size ≤ maxLen) : keyOf Yba.prog 9 (.string h) = some (key h) := WideMaps.keyOf_string_mk Yba.underlying9 hs

set_option maxHeartbeats 1600000 in
theorem find_calls (B tb c : Nat) (f : ByteArray → Option Nat) (h : ByteArray) (w : World) (ht : TabIs B w tb c f) (hs : h.size ≤ maxLen) :
    Calls Yba.prog 9 #[.pointer (some ⟨tb, 0, none⟩), .string h] w fun e w' => e = .returned (.tuple #[.pointer ((f h).map adr), .bool (f h).isSome]) ∧ w' = w := by
  obtain ⟨hB, mv, hb, ht⟩ := ht
  have c0 : w.cell? ⟨tb, 0, none⟩ = some (.int .i32 0) := by simp [World.cell?, hb]
  have c2 : w.cell? ⟨tb, 2, none⟩ = some (.map mv) := by simp [World.cell?, hb]
  have f0 : w.frozen? ⟨tb, 0, none⟩ = false := by simp [World.frozen?, hb]
  have hlook : (Instr.lookup 31 (.map mv) (.string h) true).run Yba.prog (w.setCell ⟨tb, 0, none⟩ (.int .i32 1)) = .ok (.tuple #[.pointer ((f h).map adr), .bool (f h).isSome]) (w.setCell ⟨tb, 0, none⟩ (.int .i32 1)) := by
    rcases ht with ⟨rfl, rfl⟩ | ⟨bm, D, rfl, hbm, hne, hown, hm⟩
    · exact look_nil (w := w.setCell ⟨tb, 0, none⟩ (.int .i32 1)) true law9 Yba.underlying31 (zero38 _) (key_of hs)
    · obtain ⟨v, ps, hr, hv⟩ := (hown.setCell (a := ⟨tb, 0, none⟩) hne (.int .i32 1)).look_ok law9 Yba.underlying31 (zero38 _) (zd := .held (.pointer none)) (zp := []) rfl (key_of hs)
      rw [(hm.2 h).1] at hr
      rw [(hm.2 h).2] at hv
      rw [hr]
      simp only [asIs, Option.some.injEq, Prod.mk.injEq] at hv
      have hv1 := hv.1
      cases hfh : f h with
      | none => rw [hfh] at hv1; simp at hv1; subst hv1; rfl
      | some p => rw [hfh] at hv1; simp at hv1; subst hv1; rfl
  generalize (f h).map adr = r at *
  generalize (f h).isSome = ok at *
  go_enter_defers Yba.func9, Yba.ntmps9
  go_wp2_with (go_at_call 10; refine (lock_free Yba.muLib ⟨tb, 0, none⟩ _ c0 f0).mono ?_; rintro e w' ⟨rfl, rfl⟩)
  refine leaves_cons (f := 11) (args := #[.pointer (some ⟨tb, 0, none⟩)]) (by simp) (by simp [go_sem]) ?_
  refine (unlock_deferred Yba.muLib ⟨tb, 0, none⟩ .returning _ ?_ ?_).mono ?_
  · exact World.cell?_setCell_same w ⟨tb, 0, none⟩ (.int .i32 1) c0
  · simp [f0]
  rintro e u' w'' ⟨rfl, rfl, rfl⟩
  exact ⟨_, results_tmp2 rfl _ _ _, rfl, setCell_back c0 _⟩

/-- What a call on the table turns: the table's block and its map, both of the law's own, and no other. -/
def Turn (B : Nat) (w w' : World) : Prop :=
  w'.os = w.os ∧ w'.tape = w.tape ∧ w'.output = w.output ∧ w.heap.size ≤ w'.heap.size ∧ (∀ i : Nat, i < B → w'.heap[i]? = w.heap[i]?) ∧
    ∀ (i : Nat) (cs : Array Value) (t : TypeId) (fr : Nat × Nat), w.heap[i]? = some (.cells cs t fr) → t ≠ 33 → w'.heap[i]? = some (.cells cs t fr)

theorem heap_lt {w : World} {i : Nat} {o : Obj} (h : w.heap[i]? = some o) : i < w.heap.size := (Array.getElem?_eq_some_iff.1 h).1

theorem Turn.refl (B : Nat) (w : World) : Turn B w w := ⟨rfl, rfl, rfl, Nat.le_refl _, fun _ _ => rfl, fun _ _ _ _ h _ => h⟩
theorem Turn.trans {B : Nat} {w w1 w2 : World} (h : Turn B w w1) (k : Turn B w1 w2) : Turn B w w2 :=
  ⟨k.1.trans h.1, k.2.1.trans h.2.1, k.2.2.1.trans h.2.2.1, Nat.le_trans h.2.2.2.1 k.2.2.2.1, fun i hi => (k.2.2.2.2.1 i hi).trans (h.2.2.2.2.1 i hi), fun i cs t fr e ht => k.2.2.2.2.2 i cs t fr (h.2.2.2.2.2 i cs t fr e ht) ht⟩
theorem Turn.drew {B : Nat} {w w1 : World} (h : Turn B w w1) : Turn B w w1.drew := h

theorem blk_set {w : World} {g j : Nat} {cs : Array Value} {t : TypeId} {fr : Nat × Nat} (h : w.heap[g]? = some (.cells cs t fr)) (v : Value) : (w.setCell ⟨g, j, none⟩ v).heap[g]? = some (.cells (cs.setIfInBounds j v) t fr) := by
  simp [World.setCell, Array.getElem?_modify, h]

theorem Turn.setCell {B : Nat} {w w1 : World} (h : Turn B w w1) {tb j : Nat} {cs : Array Value} {fr : Nat × Nat} (hB : B ≤ tb) (hb : w1.heap[tb]? = some (.cells cs 33 fr)) (v : Value) : Turn B w (w1.setCell ⟨tb, j, none⟩ v) := by
  refine h.trans ⟨rfl, rfl, rfl, by simp, fun i hi => ?_, fun i cs' t fr' e ht => ?_⟩
  · exact blk_setCell_other _ _ _ _ (by simp; omega)
  · rw [blk_setCell_other _ _ _ _ (by
      intro e2
      simp at e2
      subst e2
      rw [hb] at e
      simp only [Option.some.injEq, Obj.cells.injEq] at e
      exact ht e.2.1.symm)]
    exact e

theorem Turn.turned {B : Nat} {w w1 w2 : World} (h : Turn B w w1) {bm : Nat} (hB : B ≤ bm) (hm : w1.mapTurned w2 bm) : Turn B w w2 := by
  obtain ⟨es, clock, es', clock', hb, rfl⟩ := hm
  refine h.trans ⟨rfl, rfl, rfl, by simp [ChangeMaps.setBlock], fun i hi => ?_, fun i cs' t fr' e ht => ?_⟩
  · simp only [ChangeMaps.setBlock]
    rw [Array.getElem?_setIfInBounds_ne (by omega)]
  · simp only [ChangeMaps.setBlock]
    rw [Array.getElem?_setIfInBounds_ne (by intro e2; subst e2; rw [hb] at e; cases e)]
    exact e

theorem Turn.alloc {B : Nat} {w w1 : World} (h : Turn B w w1) (hB : B ≤ w1.heap.size) (o : Obj) : Turn B w (w1.alloc o) := by
  refine h.trans ⟨rfl, rfl, rfl, by simp, fun i hi => blk_alloc_lt _ _ _ (by omega), fun i cs' t fr' e ht => (blk_alloc_lt _ _ _ (heap_lt e)).trans e⟩

theorem turned_block {w w' : World} {bm i : Nat} (h : w.mapTurned w' bm) (hne : i ≠ bm) : w'.heap[i]? = w.heap[i]? := by
  obtain ⟨es, clock, es', clock', hb, rfl⟩ := h
  simp only [ChangeMaps.setBlock]
  rw [Array.getElem?_setIfInBounds_ne (fun e => hne e.symm)]

theorem cell_turned {w w' : World} {bm : Nat} (h : w.mapTurned w' bm) {a : Addr} {v : Value} (hc : w.cell? a = some v) : w'.cell? a = some v := by
  have hne : a.block ≠ bm := by
    intro e
    obtain ⟨es, clock, es', clock', hb, -⟩ := h
    simp [World.cell?, e, hb] at hc
  simpa [World.cell?, turned_block h hne] using hc

/-- The map is written, at a step of a region that draws its order. -/
theorem step_put {w : World} {ops : Array Oper} {o : Oper} {a : Act} {K : Act → World → Prop} {Q : Exit → Act → World → Prop} {E : Prop} (hgd : o.guard = none) (m x v : Operand) (ho : o.op = Op.mapUpdate 31 m x v)
    (mv kv vv : Value) (hm : a.eval m = mv) (hx : a.eval x = kv) (hv : a.eval v = vv) (w1 : World) (hr : (Instr.mapUpdate 31 mv kv vv).run Yba.prog w = .ok () w1) (h : K (a.put o.dst undef) w1) :
    if Region.wanted o (yielded ops a.tmps) = true then Oper.wp Yba.prog o a w K Q else E := by
  have hw : Region.wanted o (yielded ops a.tmps) = true := by simp [Region.wanted, hgd]
  rw [if_pos hw]
  unfold Oper.wp
  simp [execOp, ho, hm, hx, hv, hr, Result.andThen]
  exact h

/-- An entry is struck, at a step of a region that draws its order. -/
theorem step_del {w : World} {ops : Array Oper} {o : Oper} {a : Act} {K : Act → World → Prop} {Q : Exit → Act → World → Prop} {E : Prop} (hgd : o.guard = none) (m x : Operand) (ho : o.op = Op.call { callee := Callee.builtin Builtin.delete, args := #[m, x], argTypes := #[31, 9] })
    (mv kv : Value) (hm : a.eval m = mv) (hx : a.eval x = kv) (w1 : World) (hr : (Builtin.delete_ #[31, 9] o.type #[mv, kv]).run Yba.prog w = .ok (.tuple #[]) w1) (h : K (a.put o.dst (.tuple #[])) w1) :
    if Region.wanted o (yielded ops a.tmps) = true then Oper.wp Yba.prog o a w K Q else E := by
  have hw : Region.wanted o (yielded ops a.tmps) = true := by simp [Region.wanted, hgd]
  rw [if_pos hw]
  unfold Oper.wp
  simp [execOp, ho, resolve, invoke, builtin, hm, hx, hr, Result.andThen]
  exact h

theorem TabIs.of {B tb c : Nat} {f : ByteArray → Option Nat} {w1 : World} {bm : Nat} {D : DataW Value} (hB : B ≤ tb) (hbm : B ≤ bm) (hne : bm ≠ tb) {x : Value} (hb : w1.heap[tb]? = some (.cells #[x, .int .u32 0, .map (some bm)] 33 (0, 0)))
    (hown : w1.ownsMap Yba.prog 9 asIs bm c D) (hm : MapIs D f) : TabIs B (w1.setCell ⟨tb, 0, none⟩ (.int .i32 0)) tb c f :=
  ⟨hB, some bm, by rw [blk_set hb]; rfl, .inr ⟨bm, D, rfl, hbm, hne, hown.setCell (a := ⟨tb, 0, none⟩) hne _, hm⟩⟩

set_option maxHeartbeats 1600000 in
theorem add_calls (B tb c p : Nat) (f : ByteArray → Option Nat) (h : ByteArray) (w : World) (ht : TabIs B w tb c f) (hs : h.size ≤ maxLen) (hp : w.cell? ⟨p, 5, none⟩ = some (.string h)) (hpt : ¬ tb = p) (hc : c < 2000) (hBw : B ≤ w.heap.size) :
    Calls Yba.prog 5 #[.pointer (some ⟨tb, 0, none⟩), .pointer (some ⟨p, 0, none⟩)] w fun e w' => e = .returned (.tuple #[]) ∧ TabIs B w' tb (c + 1) (upd f h (some p)) ∧ Turn B w w' := by
  obtain ⟨hB, mv, hb, ht⟩ := ht
  have c0 : w.cell? ⟨tb, 0, none⟩ = some (.int .i32 0) := by simp [World.cell?, hb]
  have f0 : w.frozen? ⟨tb, 0, none⟩ = false := by simp [World.frozen?, hb]
  have hb1 := blk_set (j := 0) hb (.int .i32 1)
  have hp1 : (w.setCell ⟨tb, 0, none⟩ (.int .i32 1)).cell? ⟨p, 5, none⟩ = some (.string h) := (World.cell?_setCell_other _ _ _ _ (by simp)).trans hp
  have T1 : Turn B w (w.setCell ⟨tb, 0, none⟩ (.int .i32 1)) := (Turn.refl B w).setCell hB hb _
  have hz1 : B ≤ (w.setCell ⟨tb, 0, none⟩ (.int .i32 1)).heap.size := by simpa using hBw
  have q31 : ∀ (w : World) (r : Option Nat), (binOp .eql 31 (.map r) (.map none)).run Yba.prog w = .ok (.bool r.isNone) w := fun w r => run_eql_map_nil w _ _ _ r Yba.underlying31
  have hown1 : ∀ bm D, bm ≠ tb → w.ownsMap Yba.prog 9 asIs bm c D → (w.setCell ⟨tb, 0, none⟩ (.int .i32 1)).ownsMap Yba.prog 9 asIs bm c D := fun bm D hne ho => ho.setCell (a := ⟨tb, 0, none⟩) hne (.int .i32 1)
  go_enter_defers Yba.func5, Yba.ntmps5
  go_wp2_with fail
  refine (lock_free Yba.muLib ⟨tb, 0, none⟩ _ c0 f0).mono ?_
  rintro e w' ⟨rfl, rfl⟩
  generalize w.setCell ⟨tb, 0, none⟩ (.int .i32 1) = wl at *
  have e1 : wl.heap[tb]? = some (.cells #[.int .i32 1, .int .u32 0, .map mv] 33 (0, 0)) := hb1
  clear hb1
  have d2 : wl.cell? ⟨tb, 2, none⟩ = some (.map mv) := by simp [World.cell?, e1]
  have g2 : wl.frozen? ⟨tb, 2, none⟩ = false := by simp [World.frozen?, e1]
  have e1 : wl.heap[tb]? = some (.cells #[.int .i32 1, .int .u32 0, .map mv] 33 (0, 0)) := e1
  rcases ht with ⟨rfl, rfl⟩ | ⟨bm, D, rfl, hbm, hne, hown, hm⟩
  · have hmk : (Instr.makeMap 31 none).run Yba.prog wl = .ok (.map (some wl.heap.size)) (wl.alloc (.map #[] 0)) := by rfl
    have hmade := World.ownsMap_made wl Yba.prog 9 asIs
    have ea := (blk_alloc_lt wl (.map #[] 0) tb (heap_lt e1)).trans e1
    have pa : (wl.alloc (.map #[] 0)).cell? ⟨p, 5, none⟩ = some (.string h) := (World.cell?_alloc_lt _ _ _ (World.block_lt_of_cell? _ _ hp1)).trans hp1
    have Ta := T1.alloc hz1 (.map #[] 0)
    have hnb : wl.heap.size ≠ tb := by have := heap_lt e1; omega
    generalize wl.alloc (.map #[] 0) = wa at *
    generalize wl.heap.size = bm at *
    have da : wa.cell? ⟨tb, 2, none⟩ = some (.map none) := by simp [World.cell?, ea]
    have fa : wa.frozen? ⟨tb, 2, none⟩ = false := by simp [World.frozen?, ea]
    have eb := blk_set (j := 2) ea (.map (some bm))
    have Tb := Ta.setCell (j := 2) hB ea (.map (some bm))
    have hownb := (hmade.mono (n' := c) (by omega)).setCell (a := ⟨tb, 2, none⟩) hnb (.map (some bm))
    have pb : (wa.setCell ⟨tb, 2, none⟩ (.map (some bm))).cell? ⟨p, 5, none⟩ = some (.string h) := (World.cell?_setCell_other _ _ _ _ (by simp)).trans pa
    go_wp2_with fail
    clear hmk
    generalize wa.setCell ⟨tb, 2, none⟩ (.map (some bm)) = wb at *
    have e1' : wb.heap[tb]? = some (.cells #[.int .i32 1, .int .u32 0, .map (some bm)] 33 (0, 0)) := eb
    have db : wb.cell? ⟨tb, 2, none⟩ = some (.map (some bm)) := by simp [World.cell?, e1']
    obtain ⟨w1, hmu, hown2, hturn⟩ := hownb.drew.store law9 Yba.underlying31 (by simp [maxLen]; omega) (val := .pointer (some ⟨p, 0, none⟩)) (d := .held (.pointer (some ⟨p, 0, none⟩))) (ps := []) (key_of hs) rfl
    have k2 := cell_turned hturn (show wb.drew.cell? ⟨tb, 2, none⟩ = _ from db)
    have kp := cell_turned hturn (show wb.drew.cell? ⟨p, 5, none⟩ = _ from pb)
    have e2 := (turned_block hturn (Ne.symm hnb)).trans e1'
    have T2 := Tb.drew.turned hz1 hturn
    have l0 : w1.cell? ⟨tb, 0, none⟩ = some (.int .i32 1) := by simp [World.cell?, e2]
    have m0 : w1.frozen? ⟨tb, 0, none⟩ = false := by simp [World.frozen?, e2]
    go_region_held3 (fun w' => w'.cell? ⟨tb, 2, none⟩ = some (.map (some bm)) ∧ w'.cell? ⟨p, 5, none⟩ = some (.string h)) (go_keep)
      (refine step_put rfl _ _ _ rfl _ _ _ rfl rfl rfl w1 hmu ?_)
    go_wp2_with fail
    refine leaves_cons (f := 11) (args := #[.pointer (some ⟨tb, 0, none⟩)]) (by simp) (by simp [go_sem]) ?_
    refine (unlock_deferred Yba.muLib ⟨tb, 0, none⟩ .returning _ l0 m0).mono ?_
    rintro e u' w'' ⟨rfl, rfl, rfl⟩
    exact ⟨_, results_none rfl _ _ _, rfl, TabIs.of hB hz1 hnb e2 hown2 (MapIs.empty.put h p), T2.setCell hB e2 _⟩
  · obtain ⟨w1, hmu, hown2, hturn⟩ := (hown1 bm D hne hown).drew.store law9 Yba.underlying31 (by simp [maxLen]; omega) (val := .pointer (some ⟨p, 0, none⟩)) (d := .held (.pointer (some ⟨p, 0, none⟩))) (ps := []) (key_of hs) rfl
    have k2 := cell_turned hturn (show wl.drew.cell? ⟨tb, 2, none⟩ = _ from d2)
    have kp := cell_turned hturn (show wl.drew.cell? ⟨p, 5, none⟩ = _ from hp1)
    have e2 := (turned_block hturn (Ne.symm hne)).trans e1
    have T2 := T1.drew.turned hbm hturn
    have l0 : w1.cell? ⟨tb, 0, none⟩ = some (.int .i32 1) := by simp [World.cell?, e2]
    have m0 : w1.frozen? ⟨tb, 0, none⟩ = false := by simp [World.frozen?, e2]
    go_wp2_with fail
    go_region_held3 (fun w' => w'.cell? ⟨tb, 2, none⟩ = some (.map (some bm)) ∧ w'.cell? ⟨p, 5, none⟩ = some (.string h)) (go_keep)
      (refine step_put rfl _ _ _ rfl _ _ _ rfl rfl rfl w1 hmu ?_)
    go_wp2_with fail
    refine leaves_cons (f := 11) (args := #[.pointer (some ⟨tb, 0, none⟩)]) (by simp) (by simp [go_sem]) ?_
    refine (unlock_deferred Yba.muLib ⟨tb, 0, none⟩ .returning _ l0 m0).mono ?_
    rintro e u' w'' ⟨rfl, rfl, rfl⟩
    exact ⟨_, results_none rfl _ _ _, rfl, TabIs.of hB hbm hne e2 hown2 (hm.put h p), T2.setCell hB e2 _⟩

theorem look_run {w : World} {bm c : Nat} {D : DataW Value} {f : ByteArray → Option Nat} {h : ByteArray} (hown : w.ownsMap Yba.prog 9 asIs bm c D) (hm : MapIs D f) (hs : h.size ≤ maxLen) :
    (Instr.lookup 31 (.map (some bm)) (.string h) false).run Yba.prog w = .ok (.pointer ((f h).map adr)) w := by
  obtain ⟨v, ps, hr, hv⟩ := hown.lookup law9 Yba.underlying31 (zero38 _) (zd := .held (.pointer none)) (zp := []) rfl (key_of hs)
  rw [(hm.2 h).2] at hv
  rw [hr]
  simp only [asIs, Option.some.injEq, Prod.mk.injEq] at hv
  have hv1 := hv.1
  cases hfh : f h with
  | none => rw [hfh] at hv1; simp at hv1; subst hv1; rfl
  | some p => rw [hfh] at hv1; simp at hv1; subst hv1; rfl

theorem upd_self {f : ByteArray → Option Nat} {h : ByteArray} {o : Option Nat} (e : f h = o) : upd f h o = f := by
  funext x
  unfold upd
  split
  · rename_i hx; rw [hx, e]
  · rfl

/-- A peer's box: 31 cells, the sixth its host. -/
def PeerAt (w : World) (p : Nat) (h : ByteArray) : Prop := ∃ cs, w.heap[p]? = some (.cells cs 66 (0, 0)) ∧ cs[5]? = some (.string h)

theorem PeerAt.cell {w : World} {p : Nat} {h : ByteArray} (a : PeerAt w p h) : w.cell? ⟨p, 5, none⟩ = some (.string h) := by
  obtain ⟨cs, h1, h2⟩ := a
  simp [World.cell?, h1, h2]
theorem PeerAt.turn {B : Nat} {w w' : World} {p : Nat} {h : ByteArray} (a : PeerAt w p h) (t : Turn B w w') : PeerAt w' p h := by
  obtain ⟨cs, h1, h2⟩ := a
  exact ⟨cs, t.2.2.2.2.2 _ _ _ _ h1 (by decide), h2⟩
theorem PeerAt.same {w w' : World} {p : Nat} {h : ByteArray} (a : PeerAt w p h) (e : w'.heap[p]? = w.heap[p]?) : PeerAt w' p h := by
  obtain ⟨cs, h1, h2⟩ := a
  exact ⟨cs, e.trans h1, h2⟩

theorem Yba.size66' : (Yba.prog.info? 66).map (·.size) = some 31 := by kernel_rfl

theorem eq_ptr {w : World} {o : Option Nat} {p : Nat} {h : ByteArray} (hp : PeerAt w p h) (ho : ∀ q, o = some q → ∃ x, PeerAt w q x) :
    (binOp .eql 38 (.pointer (o.map adr)) (.pointer (some ⟨p, 0, none⟩))).run Yba.prog w = .ok (.bool (decide (o = some p))) w := by
  obtain ⟨j, hj, hsz⟩ := Option.map_eq_some_iff.1 Yba.size66'
  cases o with
  | none =>
    have hh : ∀ d : Nat, (Op.equalIn (d + 1) 38 (.pointer none) (.pointer (some ⟨p, 0, none⟩))).run Yba.prog w = .ok false w := fun d => by
      simp [Op.equalIn, run_underlying Yba.underlying38]
    simp only [binOp]
    simp [Op.equal, Op.maxDepth, hh 9999]
  | some q =>
    by_cases e : q = p
    · subst e
      simpa [adr] using run_eql_ptr_same w ⟨q, 0, none⟩ Yba.underlying38 hj
    · obtain ⟨cp, h1, -⟩ := hp
      obtain ⟨x, cq, h2, -⟩ := ho q rfl
      have := run_eql_ptr_other (P := Yba.prog) w (a := ⟨q, 0, none⟩) (b := ⟨p, 0, none⟩) Yba.underlying38 hj (by rw [hsz]; decide) (by simp) h2 h1
      simpa [adr, e] using this

/-- What remove makes of the table. -/
def cutOf (f : ByteArray → Option Nat) (h : ByteArray) (p : Nat) : ByteArray → Option Nat := if f h = some p then upd f h none else f

set_option maxHeartbeats 1600000 in
theorem remove_calls (B tb c p : Nat) (f : ByteArray → Option Nat) (h : ByteArray) (w : World) (ht : TabIs B w tb c f) (hs : h.size ≤ maxLen) (hp : PeerAt w p h) (hall : ∀ q, f h = some q → ∃ x, PeerAt w q x) (hBw : B ≤ w.heap.size) :
    Calls Yba.prog 7 #[.pointer (some ⟨tb, 0, none⟩), .pointer (some ⟨p, 0, none⟩)] w fun e w' => e = .returned (.tuple #[]) ∧ TabIs B w' tb c (cutOf f h p) ∧ Turn B w w' := by
  obtain ⟨hB, mv, hb, ht⟩ := ht
  have c0 : w.cell? ⟨tb, 0, none⟩ = some (.int .i32 0) := by simp [World.cell?, hb]
  have f0 : w.frozen? ⟨tb, 0, none⟩ = false := by simp [World.frozen?, hb]
  have hb1 := blk_set (j := 0) hb (.int .i32 1)
  have hbk : (w.setCell ⟨tb, 0, none⟩ (.int .i32 1)).setCell ⟨tb, 0, none⟩ (.int .i32 0) = w := setCell_back c0 _
  have T1 : Turn B w (w.setCell ⟨tb, 0, none⟩ (.int .i32 1)) := (Turn.refl B w).setCell hB hb _
  have hown1 : ∀ bm D, bm ≠ tb → w.ownsMap Yba.prog 9 asIs bm c D → (w.setCell ⟨tb, 0, none⟩ (.int .i32 1)).ownsMap Yba.prog 9 asIs bm c D := fun bm D hne ho => ho.setCell (a := ⟨tb, 0, none⟩) hne (.int .i32 1)
  go_enter_defers Yba.func7, Yba.ntmps7
  go_wp2_with fail
  refine (lock_free Yba.muLib ⟨tb, 0, none⟩ _ c0 f0).mono ?_
  rintro e w' ⟨rfl, rfl⟩
  generalize w.setCell ⟨tb, 0, none⟩ (.int .i32 1) = wl at *
  have e1 : wl.heap[tb]? = some (.cells #[.int .i32 1, .int .u32 0, .map mv] 33 (0, 0)) := hb1
  clear hb1
  have hp1 : PeerAt wl p h := hp.turn T1
  have hpc := hp1.cell
  have heq : (binOp .eql 38 (.pointer ((f h).map adr)) (.pointer (some ⟨p, 0, none⟩))).run Yba.prog wl.drew = .ok (.bool (decide (f h = some p))) wl.drew :=
    eq_ptr (hp1.same rfl) (fun q hq => by obtain ⟨x, hx⟩ := hall q hq; exact ⟨x, (hx.turn T1).same rfl⟩)
  have d2 : wl.cell? ⟨tb, 2, none⟩ = some (.map mv) := by simp [World.cell?, e1]
  have d0 : wl.cell? ⟨tb, 0, none⟩ = some (.int .i32 1) := by simp [World.cell?, e1]
  have g0 : wl.frozen? ⟨tb, 0, none⟩ = false := by simp [World.frozen?, e1]
  have hlk : (Instr.lookup 31 (.map mv) (.string h) false).run Yba.prog wl.drew = .ok (.pointer ((f h).map adr)) wl.drew := by
    rcases ht with ⟨rfl, rfl⟩ | ⟨bm, D, rfl, hbm, hne, hown, hm⟩
    · exact look_nil false law9 Yba.underlying31 (zero38 _) (key_of hs)
    · exact look_run (hown1 bm D hne hown).drew hm hs
  by_cases hfp : f h = some p
  · rcases ht with ⟨rfl, rfl⟩ | ⟨bm, D, rfl, hbm, hne, hown, hm⟩
    · cases hfp
    · rw [decide_eq_true hfp] at heq
      have hcut : cutOf f h p = upd f h none := by unfold cutOf; rw [if_pos hfp]
      clear hfp hall
      generalize (f h).map adr = r at *
      obtain ⟨w1, hdel, hown2, hturn⟩ := (hown1 bm D hne hown).drew.drew.drop law9 Yba.underlying31 (key_of hs) 0
      have k2 := cell_turned hturn (show wl.drew.drew.cell? ⟨tb, 2, none⟩ = _ from d2)
      have kp := cell_turned hturn (show wl.drew.drew.cell? ⟨p, 5, none⟩ = _ from hpc)
      have e2 := (turned_block hturn (Ne.symm hne)).trans e1
      have T2 := T1.drew.drew.turned hbm hturn
      have l0 : w1.cell? ⟨tb, 0, none⟩ = some (.int .i32 1) := by simp [World.cell?, e2]
      have m0 : w1.frozen? ⟨tb, 0, none⟩ = false := by simp [World.frozen?, e2]
      go_wp2_with fail
      go_region_held3 (fun w' => w'.cell? ⟨tb, 2, none⟩ = some (.map (some bm)) ∧ w'.cell? ⟨p, 5, none⟩ = some (.string h) ∧ (binOp .eql 38 (.pointer r) (.pointer (some ⟨p, 0, none⟩))).run Yba.prog w' = .ok (.bool true) w') (go_keep) (fail)
      go_wp2_with fail
      go_region_held3 (fun w' => w'.cell? ⟨tb, 2, none⟩ = some (.map (some bm)) ∧ w'.cell? ⟨p, 5, none⟩ = some (.string h)) (go_keep)
        (refine step_del rfl _ _ rfl _ _ rfl rfl w1 hdel ?_)
      go_wp2_with fail
      refine leaves_cons (f := 11) (args := #[.pointer (some ⟨tb, 0, none⟩)]) (by simp) (by simp [go_sem]) ?_
      refine (unlock_deferred Yba.muLib ⟨tb, 0, none⟩ .returning _ l0 m0).mono ?_
      rintro e u' w'' ⟨rfl, rfl, rfl⟩
      exact ⟨_, results_none rfl _ _ _, rfl, by rw [hcut]; exact TabIs.of hB hbm hne e2 hown2 (hm.del h), T2.setCell hB e2 _⟩
  · rw [decide_eq_false hfp] at heq
    have hcut : cutOf f h p = f := by unfold cutOf; rw [if_neg hfp]
    clear hfp hall
    have hend : TabIs B (wl.drew.setCell ⟨tb, 0, none⟩ (.int .i32 0)) tb c f := by
      have e3 : (wl.drew.setCell ⟨tb, 0, none⟩ (.int .i32 0)).heap = w.heap := by rw [← hbk]; rfl
      refine ⟨hB, mv, by rw [e3]; exact hb, ?_⟩
      rcases ht with ht | ⟨bm, D, h1, hbm, hne, hown, hm⟩
      · exact .inl ht
      · exact .inr ⟨bm, D, h1, hbm, hne, by obtain ⟨es, cl, q1, q2⟩ := hown; exact ⟨es, cl, by rw [e3]; exact q1, q2⟩, hm⟩
    generalize (f h).map adr = r at *
    go_wp2_with fail
    go_region_held3 (fun w' => w'.cell? ⟨tb, 2, none⟩ = some (.map mv) ∧ w'.cell? ⟨p, 5, none⟩ = some (.string h) ∧ (binOp .eql 38 (.pointer r) (.pointer (some ⟨p, 0, none⟩))).run Yba.prog w' = .ok (.bool false) w') (go_keep) (fail)
    go_wp2_with fail
    refine leaves_cons (f := 11) (args := #[.pointer (some ⟨tb, 0, none⟩)]) (by simp) (by simp [go_sem]) ?_
    refine (unlock_deferred Yba.muLib ⟨tb, 0, none⟩ .returning wl.drew d0 g0).mono ?_
    rintro e u' w'' ⟨rfl, rfl, rfl⟩
    exact ⟨_, results_none rfl _ _ _, rfl, by rw [hcut]; exact hend, T1.drew.setCell hB e1 _⟩

end Go.Proofs.Ybulkaroi
