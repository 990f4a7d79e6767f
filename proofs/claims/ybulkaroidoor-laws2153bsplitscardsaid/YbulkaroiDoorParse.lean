import Derived.Test.YbulkaroiDoorSpl
set_option linter.unusedVariables false
namespace Go.Proofs.YbulkaroiDoor
open Go.RowKit Go.Deep

def sliceLen : Value → Nat
  | .slice _ n _ => n
  | _ => 0

set_option maxRecDepth 100000 in
/-- 'b[12:L:L]'. -/
theorem slice_data (g f D kk L n : Nat) (hL : L = 12 + n) (h1 : L ≤ D) (h2 : D ≤ kk) :
    ∃ ad, ad = (if n = 0 then (⟨g, f, none⟩ : Addr) else ⟨g, f + 12, none⟩) ∧ ∀ W : World, (Instr.sliceAt 27 (.slice (some ⟨g, f, none⟩) D kk) (some (.int .i64 12)) (some (.int .i64 L)) (some (.int .i64 L))).run Ybad.prog W = .ok (.slice (some ad) n n) W := by
  refine ⟨_, rfl, fun W => ?_⟩
  have e1 : (L : Int) ≤ kk := by omega
  have e2 : (12 : Int) ≤ L := by omega
  have e3 : L - 12 = n := by omega
  have e5 : (0 : Int) ≤ L := by omega
  have e6 : L = 12 ↔ n = 0 := by omega
  by_cases hn : n = 0
  · rw [if_pos hn]
    have e4 : L = 12 := by omega
    subst hn
    clear hL e6 e3
    have e7 : (12 : Int) ≤ kk := by omega
    subst e4
    go_simp
  · rw [if_neg hn]
    have e4 : ¬ L = 12 := by omega
    clear hL e6 hn
    go_simp

/-- 'b[m:]'. -/
theorem slice_rest (g f D kk m : Nat) (h1 : m ≤ D) (h2 : D ≤ kk) :
    ∃ ad, (0 < D - m → ad = (⟨g, f + m, none⟩ : Addr)) ∧ ∀ W : World, (Instr.sliceAt 27 (.slice (some ⟨g, f, none⟩) D kk) (some (.int .i64 m)) none none).run Ybad.prog W = .ok (.slice (some ad) (D - m) (kk - m)) W := by
  refine ⟨if kk = m then ⟨g, f, none⟩ else ⟨g, f + m, none⟩, fun h => by rw [if_neg (by omega)], fun W => ?_⟩
  have e1 : (m : Int) ≤ D := by omega
  by_cases hk : kk = m
  · rw [if_pos hk]
    go_simp
  · rw [if_neg hk]
    go_simp

theorem below_set {B : Nat} {a w : World} (h : Below B a w) {b j : Nat} (hb : B ≤ b) (hB : B ≤ w.heap.size) (v : Value) : Below B a (w.setCell ⟨b, j, none⟩ v) := h.grown (grown_set w b j v) hB (fun k e => by cases e; exact hb)

def PInv (base g o : Nat) (w : World) (ls : List Avp) (v b : Value) (wr : World) : Prop :=
  ∃ (i : Nat) (ad : Option Addr) (kk : Nat), i ≤ ls.length ∧ b = .slice ad (wires (ls.drop i)) kk ∧ wires (ls.drop i) ≤ kk ∧ (0 < wires (ls.drop i) → ad = some ⟨g, o + wires (ls.take i), none⟩) ∧ RowX wr base v (rsAt g o (ls.take i)) ∧ Below base w wr

set_option maxRecDepth 100000 in
set_option maxHeartbeats 4000000 in
theorem parse_calls (base g o K : Nat) (p : Option Addr) (ls : List Avp) (v : Value) (w : World) (hB : base ≤ w.heap.size) (hg : g < base) (hrow : RowX w base v []) (hby : Bytes w g o (allB ls))
    (hp : 0 < wires ls → p = some ⟨g, o, none⟩) (hK : wires ls ≤ K) (hok : ∀ a ∈ ls, AvpOk a) (hf : ∀ a ∈ ls, a.f = 192) (hn : ls.length ≤ 256) (hw : wires ls ≤ 90000000) :
    Calls Ybad.prog 28 #[v, .slice p (wires ls) K] w fun e w' => ∃ v', e = .returned (.tuple #[v', .nilIface]) ∧ Below base w w' ∧ RowX w' base v' (rsAt g o ls) := by
  have HBY : Hid (Bytes w g o (allB ls)) := hby
  have HOK : Hid (∀ a ∈ ls, AvpOk a) := hok
  have HF : Hid (∀ a ∈ ls, a.f = 192) := hf
  have HI : Hid (PInv base g o w ls v (.slice p (wires ls) K) w) := ⟨0, p, K, Nat.zero_le _, rfl, hK, by simpa [wires] using hp, by simpa [rsAt] using hrow, Below.refl _ _⟩
  clear hby hok hf hrow
  go_enter Ybad.func28, Ybad.ntmps28
  go_wp2_with fail
  go_loopw [0, 1] (fun v b wr => PInv base g o w ls v b wr) (fun _ b _ => sliceLen b)
  case atStart => exact HI.out
  case round =>
    obtain ⟨i, ad, kk, hi, rfl, hkk, had, hrow, hbel⟩ := hrel
    have hBr : base ≤ wr.heap.size := Nat.le_trans hB hbel.size
    by_cases hlt : i < ls.length
    · have hget : ls[i]? = some ls[i] := List.getElem?_eq_getElem hlt
      have hoka := HOK.out ls[i] (List.getElem_mem hlt)
      have hfa := HF.out ls[i] (List.getElem_mem hlt)
      obtain ⟨hs1, hs2⟩ := wires_split ls i ls[i] hget
      have hba := (HBY.out.at_ hget).keep hbel hg
      have hsn := take_snoc ls i ls[i] hget
      generalize ls[i] = a at *
      obtain ⟨⟨o1, o2⟩, ⟨o3, o4⟩, hfo, hd⟩ := hoka
      have hhl : hlen a.f = 12 := by unfold hlen; rw [hfa]; rfl
      have hwa : wire a = (12 + a.d.length + 3) / 4 * 4 := by unfold wire; rw [hhl]
      have had' := had (by omega)
      subst had'
      have HROW : Hid (RowX wr base u0 (rsAt g o (ls.take i))) := hrow
      have HSN : Hid (ls.take (i + 1) = ls.take i ++ [a] ∧ wires (ls.take (i + 1)) = wires (ls.take i) + wire a ∧ wires (ls.drop i) = wire a + wires (ls.drop (i + 1))) := ⟨hsn, hs2, hs1⟩
      clear hrow hsn hs2 had
      generalize hDD : wires (ls.drop i) = D at *
      have HDD : Hid (wires (ls.drop i) = D) := hDD
      clear hDD
      have hwt := wires_take_le ls i
      generalize hff : o + wires (ls.take i) = f at *
      have HFF : Hid (o + wires (ls.take i) = f) := hff
      clear hff
      have hbytes : a.bytes = [a.c / 16777216, a.c / 65536 % 256, a.c / 256 % 256, a.c % 256, a.f, ((12 + a.d.length : Nat) : Int) / 65536, ((12 + a.d.length : Nat) : Int) / 256 % 256, ((12 + a.d.length : Nat) : Int) % 256, a.v / 16777216, a.v / 65536 % 256, a.v / 256 % 256, a.v % 256] ++ (a.d ++ zeros (padN (12 + a.d.length))) := by
        simp only [Avp.bytes, avpB, headB, be32, be24, hhl]
        rw [if_pos (by rw [hfa]; decide)]
        simp
      have hcell : ∀ (j : Nat) (y : Int), j < 12 → [a.c / 16777216, a.c / 65536 % 256, a.c / 256 % 256, a.c % 256, a.f, ((12 + a.d.length : Nat) : Int) / 65536, ((12 + a.d.length : Nat) : Int) / 256 % 256, ((12 + a.d.length : Nat) : Int) % 256, a.v / 16777216, a.v / 65536 % 256, a.v / 256 % 256, a.v % 256][j]? = some y → ∀ W, Below base wr W → W.cell? ⟨g, f + j, none⟩ = some (.int .u8 y) := by
        intro j y hj hy W hW
        exact (hba.keep hW hg) j y (by rw [hbytes, List.getElem?_append_left (by simpa using hj)]; exact hy)
      have HC : Hid (∀ (j : Nat) (y : Int), j < 12 → [a.c / 16777216, a.c / 65536 % 256, a.c / 256 % 256, a.c % 256, a.f, ((12 + a.d.length : Nat) : Int) / 65536, ((12 + a.d.length : Nat) : Int) / 256 % 256, ((12 + a.d.length : Nat) : Int) % 256, a.v / 16777216, a.v / 65536 % 256, a.v / 256 % 256, a.v % 256][j]? = some y → ∀ W, Below base wr W → W.cell? ⟨g, f + j, none⟩ = some (.int .u8 y)) := hcell
      clear hcell hba hbytes
      generalize hLL : 12 + a.d.length = L at *
      obtain ⟨dA, hdA, hslA⟩ := slice_data g f D kk L a.d.length hLL.symm (by omega) hkk
      obtain ⟨dB, hdB, hslB⟩ := slice_rest g f D kk (wire a) (by omega) hkk
      have D0 : (8 : Int) ≤ D := by omega
      have D1 : (12 : Int) ≤ D := by omega
      have D2 : (12 : Int) ≤ L := by omega
      have D3 : (L : Int) ≤ D := by omega
      have D4 : ¬ kk = 5 := by omega
      have D5 : ¬ kk = 8 := by omega
      have D6 : (8 : Int) ≤ kk := by omega
      have D7 : (12 : Int) ≤ kk := by omega
      have D8 : (4 : Int) < D := by omega
      have D9 : (0 : Int) < D := by omega
      have q2 : IntKind.i64.wrap ((L : Int) + 3) = (L : Int) + 3 := by rw [IntKind.wrap_i64]; omega
      have q3 : bits BinOp.andNot IntKind.i64 ((L : Int) + 3) 3 = (wire a : Int) := by rw [hwa]; exact andNot_three (L + 3) (by omega)
      have q4 : (wire a : Int) ≤ D := by omega
      have ng : ¬ wr.heap.size = g := by omega
      have hDw : D - wire a = wires (ls.drop (i + 1)) := by omega
      have HDW : Hid (D - wire a = wires (ls.drop (i + 1))) := hDw
      have hL12 : (hlen a.f : Int) = 12 := by rw [hhl]; rfl
      have hLb : L < 16777216 := by omega
      have hwp : 0 < wire a := by omega
      have hwD : wire a ≤ D := by omega
      have HHL : Hid (hlen a.f = 12) := hhl
      have HLL : Hid (12 + a.d.length = L) := hLL
      have HFA : Hid (a.f = 192) := hfa
      have HDA : Hid (dA = if a.d.length = 0 then (⟨g, f, none⟩ : Addr) else ⟨g, f + 12, none⟩) := hdA
      clear hs1 hwa hLL hDw hhl hfa hdA
      have BA : Below wr.heap.size wr (wr.alloc (.cells #[.int .u32 0, .int .u8 0, .int .u32 0, .slice none 0 0] 29)) := (Below.refl _ _).alloc (Nat.le_refl _) _
      have HNB : Hid ((wr.alloc (.cells #[.int .u32 0, .int .u8 0, .int .u32 0, .slice none 0 0] 29)).heap[wr.heap.size]? = some (.cells #[.int .u32 0, .int .u8 0, .int .u32 0, .slice none 0 0] 29)) := heap_alloc_new wr _
      go_wp2_with fail
      refine (uint32_calls g f D kk a.c _ (by omega) (HC.out 0 _ (by omega) rfl _ (BA.mono hBr)) (HC.out 1 _ (by omega) rfl _ (BA.mono hBr)) (HC.out 2 _ (by omega) rfl _ (BA.mono hBr)) (HC.out 3 _ (by omega) rfl _ (BA.mono hBr)) o1 o2).mono ?_
      rintro e w1 ⟨rfl, b1⟩
      have B1 : Below wr.heap.size wr w1 := BA.trans (b1.mono (by simp))
      have e1 : w1.heap[wr.heap.size]? = some (.cells #[.int .u32 0, .int .u8 0, .int .u32 0, .slice none 0 0] 29 (0, 0)) := (b1.block _ (by simp)).trans HNB.out
      clear b1 BA HNB
      obtain ⟨z0, z1, z2, z3⟩ := cells4 e1
      have y0 : w1.frozen? ⟨wr.heap.size, 0, none⟩ = false := by simp [World.frozen?, e1]
      have y1 : w1.frozen? ⟨wr.heap.size, 1, none⟩ = false := by simp [World.frozen?, e1]
      have d4 := HC.out 4 _ (by omega) rfl _ (B1.mono hBr)
      have hz1 := heap_lt e1
      have e2 : ((w1.setCell ⟨wr.heap.size, 0, none⟩ (.int .u32 a.c)).setCell ⟨wr.heap.size, 1, none⟩ (.int .u8 a.f)).heap[wr.heap.size]? = some (.cells #[.int .u32 a.c, .int .u8 a.f, .int .u32 0, .slice none 0 0] 29 (0, 0)) := heap_setCell_same _ _ _ _ _ _ (heap_setCell_same _ _ _ _ _ _ e1)
      have B2 : Below wr.heap.size wr ((w1.setCell ⟨wr.heap.size, 0, none⟩ (.int .u32 a.c)).setCell ⟨wr.heap.size, 1, none⟩ (.int .u8 a.f)) := below_set (below_set B1 (Nat.le_refl _) (by omega) _) (Nat.le_refl _) (by simp; omega) _
      have HE2 : Hid (((w1.setCell ⟨wr.heap.size, 0, none⟩ (.int .u32 a.c)).setCell ⟨wr.heap.size, 1, none⟩ (.int .u8 a.f)).heap[wr.heap.size]? = some (.cells #[.int .u32 a.c, .int .u8 a.f, .int .u32 0, .slice none 0 0] 29 (0, 0))) := e2
      clear e2 e1
      go_wp2_with fail
      clear z0 z1 z2 z3 y0 y1 d4
      generalize (w1.setCell ⟨wr.heap.size, 0, none⟩ (.int .u32 a.c)).setCell ⟨wr.heap.size, 1, none⟩ (.int .u8 a.f) = w2 at *
      refine (uint24_calls g (f + 5) 3 _ L w2 (by omega) (HC.out 5 _ (by omega) rfl _ (B2.mono hBr)) (HC.out 6 _ (by omega) rfl _ (B2.mono hBr)) (HC.out 7 _ (by omega) rfl _ (B2.mono hBr)) (by omega) (by omega)).mono ?_
      rintro e w3 ⟨rfl, b3⟩
      have B3 : Below wr.heap.size wr w3 := B2.trans (b3.mono B2.size)
      have e3 : w3.heap[wr.heap.size]? = some (.cells #[.int .u32 a.c, .int .u8 a.f, .int .u32 0, .slice none 0 0] 29 (0, 0)) := (b3.block _ (heap_lt HE2.out)).trans HE2.out
      clear b3 HE2 B2
      have HE3 : Hid (w3.heap[wr.heap.size]? = some (.cells #[.int .u32 a.c, .int .u8 a.f, .int .u32 0, .slice none 0 0] 29 (0, 0))) := e3
      obtain ⟨z0, z1, z2, z3⟩ := cells4 e3
      clear e3
      go_wp2_with fail
      clear z0 z1 z2 z3
      refine (headerLen_calls a.c a.f 0 none 0 0 w3 hfo).mono ?_
      rintro e w4 ⟨rfl, b4⟩
      have B4 : Below wr.heap.size wr w4 := B3.trans (b4.mono B3.size)
      have e4 : w4.heap[wr.heap.size]? = some (.cells #[.int .u32 a.c, .int .u8 a.f, .int .u32 0, .slice none 0 0] 29 (0, 0)) := (b4.block _ (heap_lt HE3.out)).trans HE3.out
      clear b4 HE3 B3
      have HE4 : Hid (w4.heap[wr.heap.size]? = some (.cells #[.int .u32 a.c, .int .u8 a.f, .int .u32 0, .slice none 0 0] 29 (0, 0))) := e4
      clear e4
      rw [hL12]
      go_wp2_with fail
      go_region_held3 (fun _ => True) (trivial)
        (first | (go_at_call 29; (with_reducible refine (uint32_calls g (f + 8) 4 _ a.v _ (by omega) ?_ ?_ ?_ ?_ o3 o4).mono ?_); (exact HC.out 8 _ (by omega) rfl _ (B4.drew.mono hBr)); (exact HC.out 9 _ (by omega) rfl _ (B4.drew.mono hBr)); (exact HC.out 10 _ (by omega) rfl _ (B4.drew.mono hBr)); (exact HC.out 11 _ (by omega) rfl _ (B4.drew.mono hBr)); rintro e w5 ⟨rfl, b5⟩; have B5 : Below wr.heap.size wr w5 := B4.drew.trans (b5.mono B4.size); have e5 : w5.heap[wr.heap.size]? = some (.cells #[.int .u32 a.c, .int .u8 a.f, .int .u32 0, .slice none 0 0] 29 (0, 0)) := (b5.block _ (heap_lt HE4.out)).trans HE4.out; obtain ⟨z0, z1, z2, z3⟩ := cells4 e5; have y2 : w5.frozen? ⟨wr.heap.size, 2, none⟩ = false := (by simp [World.frozen?, e5]); have y3 : w5.frozen? ⟨wr.heap.size, 3, none⟩ = false := (by simp [World.frozen?, e5])))
      have hz5 := heap_lt e5
      have B6 : Below wr.heap.size wr ((w5.setCell ⟨wr.heap.size, 2, none⟩ (.int .u32 a.v)).setCell ⟨wr.heap.size, 3, none⟩ (.slice (some dA) a.d.length a.d.length)) := below_set (below_set B5 (Nat.le_refl _) (by omega) _) (Nat.le_refl _) (by simp; omega) _
      have hlr : (rsAt g o (ls.take i)).length ≤ 1000 := by rw [rsAt_length, List.length_take]; omega
      clear e5 b5
      go_wp2_with (at_builtin; refine push_avp ?_ (.tmp 73) (.tmp 75) ?_ base u0 (rsAt g o (ls.take i)) ?_ ?_ ⟨a, some dA, a.d.length⟩ w5.heap.size ?_ ?_ ?_ hlr ?_; rfl; rfl; rfl; exact HROW.out.keep B6; (simp); rfl; (simp; omega); intro v7 w7 hrow7 hb7)
      go_roundw
      case rel =>
        refine ⟨i + 1, some dB, kk - wire a, by omega, by rw [← HDW.out], by rw [← HDW.out]; omega, fun h => ?_, ?_, hbel.trans ((B6.mono hBr).trans hb7)⟩
        · rw [HSN.out.2.1, ← Nat.add_assoc, HFF.out, hdB (by rw [HDW.out]; exact h)]
        · rw [HSN.out.1, rsAt_snoc, HFF.out, ← HDA.out]
          exact hrow7
      case measure => simp [sliceLen]; omega
    · have hi' : i = ls.length := by omega
      subst hi'
      rw [List.take_length] at hrow
      have h0 : wires (ls.drop ls.length) = 0 := by rw [List.drop_length]; rfl
      rw [h0]
      go_wp2_with fail
      refine bodyPost_ret (v := .tuple #[u0, .nilIface]) (by simp [results, Ybad.results28, go_sem]) rfl ?_
      exact ⟨_, rfl, hbel, hrow⟩

end Go.Proofs.YbulkaroiDoor
