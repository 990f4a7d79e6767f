import Derived.Test.YbulkaroiDoorApp
import Derived.Lib.QuoteBits
set_option linter.unusedVariables false
namespace Go.Proofs.YbulkaroiDoor
open Go.RowKit Go.Deep

theorem andNot_three (i : Nat) (h : i < 9223372036854775807) : bits .andNot .i64 (i : Int) 3 = ((i / 4 * 4 : Nat) : Int) := by
  show IntKind.i64.wrap ((BitVec.ofInt 64 (i : Int) &&& ~~~BitVec.ofInt 64 ((3 : Nat) : Int)).toNat : Int) = _
  rw [BitVec.toNat_and, BitVec.toNat_not, ofInt_u64 i (by omega), ofInt_u64 3 (by omega)]
  have e : 2 ^ 64 - 1 - 3 = 18446744073709551612 := by decide
  rw [e, nat_hi64_2, Nat.mod_eq_of_lt (by omega)]
  exact Lib.wrap_i64_small _ (by omega)

/-- An AVP as data. -/
structure Avp where
  c : Int
  f : Int
  v : Int
  d : List Int

def AvpOk (a : Avp) : Prop := (0 ≤ a.c ∧ a.c < 4294967296) ∧ (0 ≤ a.v ∧ a.v < 4294967296) ∧ FlagOk a.f ∧ a.d.length ≤ 1000000
/-- How many bytes it takes on the wire. -/
def wire (a : Avp) : Nat := (hlen a.f + a.d.length + 3) / 4 * 4
def wires : List Avp → Nat
  | [] => 0
  | a :: r => wire a + wires r
def Avp.bytes (a : Avp) : List Int := avpB a.c a.f a.v a.d
def allB (ls : List Avp) : List Int := ls.flatMap Avp.bytes

/-- An AVP lies in memory at block b from offset o on, its data where its slice leads. -/
def AvpAt (w : World) (b o : Nat) (a : Avp) : Prop :=
  ∃ p k, w.cell? ⟨b, o, none⟩ = some (.int .u32 a.c) ∧ w.cell? ⟨b, o + 1, none⟩ = some (.int .u8 a.f) ∧ w.cell? ⟨b, o + 2, none⟩ = some (.int .u32 a.v) ∧ w.cell? ⟨b, o + 3, none⟩ = some (.slice p a.d.length k) ∧ (p = none → k = 0) ∧ SrcOk w p a.d

theorem AvpAt.later {w w' : World} {b o : Nat} {a : Avp} (h : AvpAt w b o a) (hb : Below w.heap.size w w') : AvpAt w' b o a := by
  obtain ⟨p, k, h0, h1, h2, h3, h4, h5⟩ := h
  exact ⟨p, k, cell_later hb h0, cell_later hb h1, cell_later hb h2, cell_later hb h3, h4, h5.later hb⟩

/-- A row of AVPs at block b. -/
def AvpsAt (w : World) (b : Nat) (ls : List Avp) : Prop := ∀ i a, ls[i]? = some a → AvpAt w b (i * 4) a

theorem AvpsAt.later {w w' : World} {b : Nat} {ls : List Avp} (h : AvpsAt w b ls) (hb : Below w.heap.size w w') : AvpsAt w' b ls := fun i a hi => (h i a hi).later hb

theorem wires_snoc (ls : List Avp) (a : Avp) : wires (ls ++ [a]) = wires ls + wire a := by
  induction ls with
  | nil => simp [wires]
  | cons x r ih => simp [wires, ih]; omega

theorem take_snoc {α : Type} (l : List α) (k : Nat) (a : α) (h : l[k]? = some a) : l.take (k + 1) = l.take k ++ [a] := by
  have hlt := (List.getElem?_eq_some_iff.1 h).1
  rw [List.take_succ_eq_append_getElem hlt]
  rw [List.getElem?_eq_getElem hlt] at h
  cases h
  rfl

theorem wires_take_le (ls : List Avp) (k : Nat) : wires (ls.take k) ≤ wires ls := by
  induction ls generalizing k with
  | nil => simp [wires]
  | cons x r ih =>
    cases k with
    | zero => simp [wires]
    | succ k => simp [wires]; have := ih k; omega

set_option maxHeartbeats 1000000 in
theorem wireLen_calls (b cap : Nat) (ls : List Avp) (w : World) (hat : AvpsAt w b ls) (hok : ∀ a ∈ ls, AvpOk a) (hlen' : ls.length ≤ 100000000) (hw : wires ls ≤ 100000000) :
    Calls Ybad.prog 21 #[.slice (some ⟨b, 0, none⟩) ls.length cap] w fun e w' => e = .returned (.int .i64 (wires ls)) ∧ Below w.heap.size w w' := by
  have HAT : Hid (AvpsAt w b ls) := hat
  have HOK : Hid (∀ a ∈ ls, AvpOk a) := hok
  clear hat hok
  go_enter Ybad.func21, Ybad.ntmps21
  go_wp2_with fail
  go_loopw [3, 8] (fun n i wr => ∃ k : Nat, k ≤ ls.length ∧ i = .int .i64 k ∧ n = .int .i64 (wires (ls.take k)) ∧ Below w.heap.size w wr) (fun _ i _ => ls.length - (intOf i).toNat)
  case atStart => exact ⟨0, Nat.zero_le _, rfl, rfl, Below.refl _ _⟩
  case round =>
    obtain ⟨k, hk, rfl, rfl, hbel⟩ := hrel
    by_cases hlt : k < ls.length
    · have hget : ls[k]? = some ls[k] := List.getElem?_eq_getElem hlt
      have hokk := HOK.out ls[k] (List.getElem_mem hlt)
      obtain ⟨p, kk, c0, c1, c2, c3, hp, hs⟩ := ((HAT.out) k _ hget).later hbel
      have hsn := wires_snoc (ls.take k) ls[k]
      rw [← take_snoc ls k ls[k] hget] at hsn
      have hle := wires_take_le ls (k + 1)
      generalize ls[k] = a at *
      obtain ⟨⟨o1, o2⟩, ⟨o3, o4⟩, hf, hd⟩ := hokk
      have HSN : Hid (wires (ls.take (k + 1)) = wires (ls.take k) + wire a) := hsn
      have hle2 : wires (ls.take k) + wire a ≤ 100000000 := by omega
      clear hsn hget hle
      have hhl : hlen a.f = 8 ∨ hlen a.f = 12 := by unfold hlen; split <;> simp
      have q1 : IntKind.i64.wrap ((hlen a.f : Int) + (a.d.length : Int)) = (hlen a.f : Int) + a.d.length := by rw [IntKind.wrap_i64]; omega
      have q2 : IntKind.i64.wrap ((hlen a.f : Int) + (a.d.length : Int) + 3) = (hlen a.f : Int) + a.d.length + 3 := by rw [IntKind.wrap_i64]; omega
      have q3 : bits BinOp.andNot IntKind.i64 ((hlen a.f : Int) + (a.d.length : Int) + 3) 3 = (wire a : Int) := andNot_three (hlen a.f + a.d.length + 3) (by omega)
      have q4 : IntKind.i64.wrap ((wires (ls.take k) : Int) + (wire a : Int)) = (wires (ls.take k) : Int) + wire a := by rw [IntKind.wrap_i64]; omega
      go_wp2_with fail
      go_region_held3 (fun w' => w'.cell? ⟨wr.heap.size, 0, none⟩ = some (.int .u32 a.c) ∧ w'.cell? ⟨wr.heap.size, 1, none⟩ = some (.int .u8 a.f) ∧ w'.cell? ⟨wr.heap.size, 2, none⟩ = some (.int .u32 a.v) ∧ w'.cell? ⟨wr.heap.size, 3, none⟩ = some (.slice p a.d.length kk)) (go_keep)
        ((go_at_call 26; refine (headerLen_calls _ _ _ _ _ _ _ hf).mono ?_; rintro e w3 ⟨rfl, hbel3⟩; have r3 := cells4 (g := wr.heap.size) ((hbel3.block _ (by simp)).trans (heap_alloc_new wr _))))
      clear r3 q1 q2 q3 q4 c0 c1 c2 c3
      go_wp2_with fail
      go_roundw
      case rel =>
        refine ⟨k + 1, by omega, by go_num, by rw [HSN.out]; go_num, ?_⟩
        exact ((hbel.alloc hbel.size _).drew).trans (hbel3.mono (by have := hbel.size; simp; omega))
      case measure => simp [intOf]; omega
    · have hk' : k = ls.length := by omega
      subst hk'
      go_wp2_with fail
      go_ret
      simp only [List.take_length]
      exact ⟨rfl, hbel⟩

theorem avpB_length (c f v : Int) (d : List Int) : (avpB c f v d).length = (hlen f + d.length + 3) / 4 * 4 := by
  unfold avpB headB be32 be24 zeros padN hlen
  split <;> simp <;> omega

theorem allB_length (ls : List Avp) : (allB ls).length = wires ls := by
  induction ls with
  | nil => rfl
  | cons a r ih =>
    have := avpB_length a.c a.f a.v a.d
    simp only [allB, List.flatMap_cons, List.length_append] at ih ⊢
    simp only [wires, wire]
    rw [ih, Avp.bytes, this]

theorem wires_four (ls : List Avp) : wires ls % 4 = 0 := by
  induction ls with
  | nil => rfl
  | cons a r ih => simp only [wires, wire]; omega

theorem allB_snoc (ls : List Avp) (a : Avp) : allB (ls ++ [a]) = allB ls ++ avpB a.c a.f a.v a.d := by simp [allB, Avp.bytes]

/-- A new AVP as the call gives it back: its value, and where its data lie. -/
def GaveAvp (w : World) (x : Avp) (e : Ending) (w' : World) : Prop :=
  ∃ p k, e = .returned (.agg #[.int .u32 x.c, .int .u8 x.f, .int .u32 x.v, .slice p x.d.length k]) ∧ (p = none → k = 0) ∧ Below w.heap.size w w' ∧ SrcOk w' p x.d

set_option maxHeartbeats 1000000 in
theorem grouped_calls (c v : Int) (m : Bool) (b cap : Nat) (ls : List Avp) (w : World) (hat : AvpsAt w b ls) (hok : ∀ a ∈ ls, AvpOk a) (hll : ls.length ≤ 100000000) (hw : wires ls ≤ 90000000) :
    Calls Ybad.prog 11 #[.agg #[.int .u32 c, .int .u32 v, .bool m], .slice (some ⟨b, 0, none⟩) ls.length cap] w fun e w' => GaveAvp w ⟨c, flagsOf v m, v, allB ls⟩ e w' := by
  have hmk : ∀ W : World, (Instr.makeSlice 27 (.int .i64 0) (.int .i64 (wires ls : Int))).run Ybad.prog W = .ok (.slice (some ⟨W.heap.size, 0, none⟩) 0 (wires ls)) (W.alloc (.cells (madeCells #[.int .u8 0] (wires ls)) 5)) := by
    intro W
    obtain ⟨i, hi, hxx⟩ := Option.map_eq_some_iff.1 Ybad.info5'
    simp only [Prod.mk.injEq] at hxx
    obtain ⟨hz0, hz1, hz2⟩ := hxx
    have hr := run_make (P := Ybad.prog) W 27 5 i (.int .u8 0) Ybad.underlying27 hi hz0 .i64 .i64 0 (wires ls : Int) (by omega) (by omega) (by rw [hz2]; omega) (by omega)
    rw [hz1] at hr
    simpa [Value.cells] using hr
  have HAT : Hid (AvpsAt w b ls) := hat
  have HOK : Hid (∀ a ∈ ls, AvpOk a) := hok
  have hok' := hok
  clear hok
  go_enter Ybad.func11, Ybad.ntmps11
  go_wp2_with fail
  refine (wireLen_calls b cap ls _ (hat.later (((Below.refl _ _).alloc (Nat.le_refl _) _).alloc (by simp) _)) hok' hll (by omega)).mono ?_
  rintro e w1 ⟨rfl, hbel1⟩
  clear hat hok'
  have hBel : Below w.heap.size w w1 := (((Below.refl _ _).alloc (Nat.le_refl _) _).alloc (by simp) _).trans (hbel1.mono (by simp; omega))
  have hzz : w.heap.size + 1 + 1 ≤ w1.heap.size := by have := hbel1.size; simp at this; omega
  go_wp2_with fail
  clear hmk
  go_loopw [5, 13] (fun bv i wr => ∃ k : Nat, k ≤ ls.length ∧ i = .int .i64 k ∧ wr.ownsRow w1.heap.size 5 1 bv (wires (ls.take k)) ((allB (ls.take k)).map u8) ∧ Below w1.heap.size w1 wr) (fun _ i _ => ls.length - (intOf i).toNat)
  case atStart =>
    refine ⟨0, Nat.zero_le _, rfl, ?_, (Below.refl _ _).alloc (Nat.le_refl _) _⟩
    exact World.ownsRow_made w1 _ _ (Nat.le_refl _) (by unfold maxLen; omega) (by simp [size_madeCells])
  case round =>
    obtain ⟨k, hk, rfl, hown, hbel⟩ := hrel
    have hzr := hbel.size
    by_cases hlt : k < ls.length
    · have hget : ls[k]? = some ls[k] := List.getElem?_eq_getElem hlt
      have hokk := HOK.out ls[k] (List.getElem_mem hlt)
      have hat1 := ((HAT.out) k _ hget).later hBel
      obtain ⟨p, kk, c0, c1, c2, c3, hp, hs⟩ := hat1
      have c0' := cell_later hbel c0
      have c1' := cell_later hbel c1
      have c2' := cell_later hbel c2
      have c3' := cell_later hbel c3
      clear c0 c1 c2 c3
      have hsn := wires_snoc (ls.take k) ls[k]
      have hsb := allB_snoc (ls.take k) ls[k]
      rw [← take_snoc ls k ls[k] hget] at hsn hsb
      have hle := wires_take_le ls k
      have h4 := wires_four (ls.take k)
      generalize ls[k] = a at *
      obtain ⟨⟨o1, o2⟩, ⟨o3, o4⟩, hf, hd⟩ := hokk
      have HSN : Hid (wires (ls.take (k + 1)) = wires (ls.take k) + wire a) := hsn
      have HSB : Hid (allB (ls.take (k + 1)) = allB (ls.take k) ++ avpB a.c a.f a.v a.d) := hsb
      clear hsn hsb hget
      go_wp2_with fail
      refine (append_calls w1 w1.heap.size a.c a.f a.v p a.d.length kk a.d _ (wires (ls.take k)) (allB (ls.take k)) _ o1 o2 o3 o4 hf rfl hp (by omega) (by omega) h4 (hown.alloc _) (by simp; omega) (Nat.le_refl _) (hbel.alloc hzr _) hs).mono ?_
      rintro e w2 ⟨b', m', rfl, g2⟩
      go_wp2_with fail
      go_roundw
      case rel =>
        have hm : m' = wires (ls.take (k + 1)) := by
          have := g2.own.1
          simp only [List.length_map, Nat.mul_one] at this
          rw [← this, ← HSB.out, allB_length]
        refine ⟨k + 1, by omega, by go_num, ?_, ?_⟩
        · rw [HSB.out, ← hm]; exact g2.own
        · exact (hbel.alloc hzr _).trans (g2.below (hown.alloc _) (by simp; omega))
      case measure => simp [intOf]; omega
    · have hk' : k = ls.length := by omega
      subst hk'
      simp only [List.take_length] at hown
      obtain ⟨pa, kc, rfl, hl9, hpn, hsrc9⟩ := src_of_own hown
      have k62 := keep3 (hbel1.trans (hbel.mono hbel1.size)) (heap_alloc_old2 w _ _)
      obtain ⟨k62a, k62b, k62c⟩ := k62
      go_wp2_with fail
      refine (avp_calls _ _ _ _ _ _ _).mono ?_
      rintro e w5 ⟨rfl, hbel5⟩
      have r5 := res4 ((hbel1.trans (hbel.mono hbel1.size)).trans (hbel5.mono (by simp; omega))) (heap_alloc_new2 w _ _)
      obtain ⟨⟨z0, z1, z2, z3⟩, y0, y1, y2, y3⟩ := r5
      go_wp2_with fail
      have hW5 : Below w.heap.size w w5 := (hBel.trans (hbel.mono (by omega))).trans (hbel5.mono (by omega))
      refine bodyPost_ret (v := .agg #[.int .u32 c, .int .u8 (flagsOf v m), .int .u32 v, .slice pa (wires ls) kc]) (by simp [results, Ybad.results11, go_sem, z0, z1, z2, z3]) rfl ?_
      refine ⟨pa, kc, ?_, hpn, hW5.grown (grown_set4 _ _ _ _ _ _) hW5.size (fun k e => by cases e; omega), ?_⟩
      · simp only [allB_length]
      · refine (hsrc9.later hbel5).grown (grown_set4 _ _ _ _ _ _) (fun ad e => ?_)
        have := (hown.lt ad.block (by rw [e]; rfl)).1
        omega

end Go.Proofs.YbulkaroiDoor
