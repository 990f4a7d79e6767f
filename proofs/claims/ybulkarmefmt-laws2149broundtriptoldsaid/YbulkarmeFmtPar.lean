import Derived.Test.YbulkarmeFmtTake
import Derived.Deep.AppendLies
set_option linter.unusedVariables false
namespace Go.Proofs.YbulkarmeFmt
open Go.RowKit Go.Extern.Stop Go.Stop Go.Extern

/-- 'parameter' failed: a zero Parameter, an error that is not nil; of old memory only the decoder's block may have turned, and its offset is off'. -/
def ParErr (b : Nat) (off' : Int) (w : World) (e : Ending) (w' : World) : Prop :=
  ∃ a, e = .returned (.tuple #[.agg #[.int .u8 0, .slice none 0 0], .iface 44 (.pointer (some a))]) ∧ w.grownBy w' (some b) ∧ w'.cell? ⟨b, 1, none⟩ = some (.int .i64 off')

/-- 'parameter' answered. -/
def ParOk (g b : Nat) (off n id : Int) (w : World) (e : Ending) (w' : World) : Prop :=
  ∃ o : Nat, (0 < n → o = off.toNat + 2) ∧ e = .returned (.tuple #[.agg #[.int .u8 id, .slice (some ⟨g, o, none⟩) n.toNat n.toNat], .nilIface]) ∧ w.grownBy w' (some b) ∧ w'.cell? ⟨b, 1, none⟩ = some (.int .i64 (off + 2 + n))

theorem bcell {W w1 : World} (hb : Below W.heap.size W w1) : (∀ b o, b < W.heap.size → w1.cell? ⟨b, o, none⟩ = W.cell? ⟨b, o, none⟩) ∧ (∀ b o, b < W.heap.size → w1.frozen? ⟨b, o, none⟩ = W.frozen? ⟨b, o, none⟩) :=
  ⟨fun b o h => hb.cell (p := ⟨b, o, none⟩) h, fun b o h => hb.frozen (p := ⟨b, o, none⟩) h⟩

theorem grown_of_below {w w' : World} (h : Below w.heap.size w w') (row : Option Nat) : w.grownBy w' row := ⟨h.os, h.tape, h.output, h.size, fun k hk _ => h.block k hk⟩

theorem grown_trans {a b c : World} {k : Nat} (h : a.grownBy b (some k)) (h' : b.grownBy c (some k)) : a.grownBy c (some k) :=
  ⟨h'.os.trans h.os, h'.tape.trans h.tape, h'.output.trans h.output, Nat.le_trans h.size h'.size, fun i hi hne => (h'.block i (Nat.lt_of_lt_of_le hi h.size) hne).trans (h.block i hi hne)⟩

/-- behind a growth that may write row k, another that writes a block that was not there ahead of the first. -/
theorem grown_then {a b c : World} {k : Option Nat} (h : a.grownBy b k) (h' : b.grownBy c (some a.heap.size)) : a.grownBy c k :=
  ⟨h'.os.trans h.os, h'.tape.trans h.tape, h'.output.trans h.output, Nat.le_trans h.size h'.size, fun i hi hne => (h'.block i (Nat.lt_of_lt_of_le hi h.size) (by simp; omega)).trans (h.block i hi hne)⟩

theorem grown_set (w : World) (k o : Nat) (v : Value) : w.grownBy (w.setCell ⟨k, o, none⟩ v) (some k) :=
  ⟨rfl, rfl, rfl, by simp [World.setCell], fun i _ hne => Below.heap_setCell _ _ _ _ (fun e => hne (by simp at e; simp [e]))⟩

theorem took_grown {w w1 : World} {b k : Nat} {off v : Int} (hf : w.frozen? ⟨b, 1, none⟩ = false) (h1 : w.cell? ⟨b, 1, none⟩ = some (.int .i64 off)) (hw : w1 = (w.drew.drewN k).setCell ⟨b, 1, none⟩ (.int .i64 v)) :
    w.grownBy w1 (some b) ∧ w1.cell? ⟨b, 1, none⟩ = some (.int .i64 v) := by
  subst hw
  exact ⟨grown_trans (grown_of_below (below_drewN (Below.refl _ w).drew k) _) (grown_set _ _ _ _), World.cell?_setCell_same _ _ _ (u := .int .i64 off) h1⟩

set_option maxHeartbeats 400000 in
theorem par_short (F : Interp) (b g len cap : Nat) (off first : Int) (s : ByteArray) (w : World) (hF : F.answers w.tape)
    (hc0 : w.cell? ⟨b, 0, none⟩ = some (.slice (some ⟨g, 0, none⟩) len cap)) (hc1 : w.cell? ⟨b, 1, none⟩ = some (.int .i64 off))
    (hc2 : w.cell? ⟨b, 2, none⟩ = some (.int .i64 first)) (hc3 : w.cell? ⟨b, 3, none⟩ = some (.string s))
    (hb : b < w.heap.size) (hl : len ≤ 4000) (h0 : 0 ≤ off) (h1 : off ≤ len) (hlt : (len : Int) - off < 2) :
    Calls Ybaf.prog 5 #[.pointer (some ⟨b, 0, none⟩)] w fun e w' => ParErr b off w e w' := by
  go_enter Ybaf.func5, Ybaf.ntmps5
  go_wp2_with fail
  refine (take_err F b g len cap off first 2 s _ ?_ ?_ ?_ ?_ ?_ ?_ hl h0 h1 (by decide) (by decide) hlt).mono ?_
  · exact hF
  · go_simp
  · go_simp
  · go_simp
  · go_simp
  · simp; omega
  rintro e w1 ⟨⟨a, rfl⟩, hbel⟩
  obtain ⟨hc, hf⟩ := bcell hbel
  go_wp2_with fail
  refine bodyPost_ret (v := .tuple #[.agg #[.int .u8 0, .slice none 0 0], .iface 44 (.pointer (some a))]) (by simp [results, Ybaf.results5, go_sem, hc]) rfl ?_
  have hB : Below w.heap.size w ((w1.setCell ⟨w.heap.size, 0, none⟩ (.int .u8 0)).setCell ⟨w.heap.size, 1, none⟩ (.slice none 0 0)) :=
    ((((Below.refl _ _).alloc (Nat.le_refl _) _).trans (hbel.mono (by simp))).setCell (Nat.le_refl _) _).setCell (Nat.le_refl _) _
  exact ⟨a, rfl, grown_of_below hB _, (hB.cell (p := ⟨b, 1, none⟩) hb).trans hc1⟩

set_option maxHeartbeats 400000 in
theorem par_cut (F : Interp) (b g len cap : Nat) (off first n : Int) (s : ByteArray) (w : World) (hF : F.answers w.tape)
    (hc0 : w.cell? ⟨b, 0, none⟩ = some (.slice (some ⟨g, 0, none⟩) len cap)) (hc1 : w.cell? ⟨b, 1, none⟩ = some (.int .i64 off))
    (hc2 : w.cell? ⟨b, 2, none⟩ = some (.int .i64 first)) (hc3 : w.cell? ⟨b, 3, none⟩ = some (.string s))
    (hfz : w.frozen? ⟨b, 1, none⟩ = false) (hn : w.cell? ⟨g, off.toNat + 1, none⟩ = some (.int .u8 n)) (hg : g < w.heap.size) (hgb : g ≠ b)
    (hb : b < w.heap.size) (hl : len ≤ 4000) (hcap : len ≤ cap) (h0 : 0 ≤ off) (h1 : off ≤ len) (hge : 2 ≤ (len : Int) - off) (hn0 : 0 ≤ n) (hn1 : n ≤ 255) (hlt : (len : Int) - (off + 2) < n) :
    Calls Ybaf.prog 5 #[.pointer (some ⟨b, 0, none⟩)] w fun e w' => ParErr b (off + 2) w e w' := by
  go_enter Ybaf.func5, Ybaf.ntmps5
  go_wp2_with fail
  refine (take_ok b g len cap off 2 _ ?_ ?_ ?_ hl hcap h0 h1 (by decide) (by decide) hge).mono ?_
  · go_simp
  · go_simp
  · go_simp
  rintro e w1 ⟨o, k, ho, rfl, rfl⟩
  have ho' := ho (by decide)
  subst ho'
  clear ho
  have q0 : (((w.alloc (.cells #[.int .u8 0, .slice none 0 0] 30)).drewN k).setCell ⟨b, 1, none⟩ (.int .i64 (off + 2))).cell? ⟨b, 0, none⟩ = some (.slice (some ⟨g, 0, none⟩) len cap) := by go_simp
  have q1 : (((w.alloc (.cells #[.int .u8 0, .slice none 0 0] 30)).drewN k).setCell ⟨b, 1, none⟩ (.int .i64 (off + 2))).cell? ⟨b, 1, none⟩ = some (.int .i64 (off + 2)) := by go_simp
  have q2 : (((w.alloc (.cells #[.int .u8 0, .slice none 0 0] 30)).drewN k).setCell ⟨b, 1, none⟩ (.int .i64 (off + 2))).cell? ⟨b, 2, none⟩ = some (.int .i64 first) := by go_simp
  have q3 : (((w.alloc (.cells #[.int .u8 0, .slice none 0 0] 30)).drewN k).setCell ⟨b, 1, none⟩ (.int .i64 (off + 2))).cell? ⟨b, 3, none⟩ = some (.string s) := by go_simp
  have qn : (((w.alloc (.cells #[.int .u8 0, .slice none 0 0] 30)).drewN k).setCell ⟨b, 1, none⟩ (.int .i64 (off + 2))).cell? ⟨g, off.toNat + 1, none⟩ = some (.int .u8 n) := by go_simp
  have qr : (((w.alloc (.cells #[.int .u8 0, .slice none 0 0] 30)).drewN k).setCell ⟨b, 1, none⟩ (.int .i64 (off + 2))).frozen? ⟨w.heap.size, 0, none⟩ = false := by go_simp
  have qg : w.grownBy (((w.alloc (.cells #[.int .u8 0, .slice none 0 0] 30)).drewN k).setCell ⟨b, 1, none⟩ (.int .i64 (off + 2))) (some b) :=
    grown_trans (grown_of_below (below_drewN ((Below.refl _ _).alloc (Nat.le_refl _) _) _) _) (grown_set _ _ _ _)
  have qF : F.answers (((w.alloc (.cells #[.int .u8 0, .slice none 0 0] 30)).drewN k).setCell ⟨b, 1, none⟩ (.int .i64 (off + 2))).tape := hF
  have qz : w.heap.size < (((w.alloc (.cells #[.int .u8 0, .slice none 0 0] 30)).drewN k).setCell ⟨b, 1, none⟩ (.int .i64 (off + 2))).heap.size := by simp
  have qc0 : (((w.alloc (.cells #[.int .u8 0, .slice none 0 0] 30)).drewN k).setCell ⟨b, 1, none⟩ (.int .i64 (off + 2))).cell? ⟨w.heap.size, 0, none⟩ = some (.int .u8 0) := by go_simp
  have qc1 : (((w.alloc (.cells #[.int .u8 0, .slice none 0 0] 30)).drewN k).setCell ⟨b, 1, none⟩ (.int .i64 (off + 2))).cell? ⟨w.heap.size, 1, none⟩ = some (.slice none 0 0) := by go_simp
  have qr1 : (((w.alloc (.cells #[.int .u8 0, .slice none 0 0] 30)).drewN k).setCell ⟨b, 1, none⟩ (.int .i64 (off + 2))).frozen? ⟨w.heap.size, 1, none⟩ = false := by go_simp
  go_wp2_with fail

  generalize (((w.alloc (.cells #[.int .u8 0, .slice none 0 0] 30)).drewN k).setCell ⟨b, 1, none⟩ (.int .i64 (off + 2))) = w2 at *

  go_region_held3 (fun w' => w'.cell? ⟨g, off.toNat + 1, none⟩ = some (.int .u8 n)) (go_keep)
    ((go_at_call 6; rw [show IntKind.i64.wrap n = n from by rw [IntKind.wrap_i64]; omega]; refine (take_err F b g len cap (off + 2) first n s _ ?_ ?_ ?_ ?_ ?_ ?_ hl ?_ ?_ ?_ ?_ ?_).mono ?_; (exact qF); (exact q0); (exact q1); (exact q2); (exact q3); (exact Nat.lt_trans hb qz); (omega); (omega); (omega); (omega); (omega); rintro e w1 ⟨⟨a, rfl⟩, hbel⟩; have hS : w1.cell? ⟨g, off.toNat + 1, none⟩ = some (.int .u8 n) := (hbel.cell (p := ⟨g, off.toNat + 1, none⟩) (Nat.lt_trans hg qz)).trans qn))
  have z0 : w1.cell? ⟨w.heap.size, 0, none⟩ = some (.int .u8 0) := (hbel.cell (p := ⟨w.heap.size, 0, none⟩) qz).trans qc0
  have z1 : w1.cell? ⟨w.heap.size, 1, none⟩ = some (.slice none 0 0) := (hbel.cell (p := ⟨w.heap.size, 1, none⟩) qz).trans qc1
  have y0 : w1.frozen? ⟨w.heap.size, 0, none⟩ = false := (hbel.frozen (p := ⟨w.heap.size, 0, none⟩) qz).trans qr
  have y1 : w1.frozen? ⟨w.heap.size, 1, none⟩ = false := (hbel.frozen (p := ⟨w.heap.size, 1, none⟩) qz).trans qr1
  go_wp2_with fail
  refine bodyPost_ret (v := .tuple #[.agg #[.int .u8 0, .slice none 0 0], .iface 44 (.pointer (some a))]) (by simp [results, Ybaf.results5, go_sem, z0, z1]) rfl ?_
  have hB : w2.grownBy ((w1.setCell ⟨w.heap.size, 0, none⟩ (.int .u8 0)).setCell ⟨w.heap.size, 1, none⟩ (.slice none 0 0)) (some w.heap.size) :=
    grown_trans (grown_trans (grown_of_below (((Below.refl _ w2).drew).trans hbel) _) (grown_set _ _ _ _)) (grown_set _ _ _ _)
  exact ⟨a, rfl, grown_then qg hB, (hB.cell_far ⟨b, 1, none⟩ (Nat.lt_trans hb qz) (by simp; omega)).trans q1⟩

set_option maxHeartbeats 400000 in
theorem par_ok (b g len cap : Nat) (off n id : Int) (w : World)
    (hc0 : w.cell? ⟨b, 0, none⟩ = some (.slice (some ⟨g, 0, none⟩) len cap)) (hc1 : w.cell? ⟨b, 1, none⟩ = some (.int .i64 off))
    (hid : w.cell? ⟨g, off.toNat, none⟩ = some (.int .u8 id))
    (hfz : w.frozen? ⟨b, 1, none⟩ = false) (hn : w.cell? ⟨g, off.toNat + 1, none⟩ = some (.int .u8 n)) (hg : g < w.heap.size) (hgb : g ≠ b)
    (hb : b < w.heap.size) (hl : len ≤ 4000) (hcap : len ≤ cap) (h0 : 0 ≤ off) (h1 : off ≤ len) (hge : 2 ≤ (len : Int) - off) (hn0 : 0 ≤ n) (hn1 : n ≤ 255) (hlt : n ≤ (len : Int) - (off + 2)) :
    Calls Ybaf.prog 5 #[.pointer (some ⟨b, 0, none⟩)] w fun e w' => ParOk g b off n id w e w' := by
  go_enter Ybaf.func5, Ybaf.ntmps5
  go_wp2_with fail
  refine (take_ok b g len cap off 2 _ ?_ ?_ ?_ hl hcap h0 h1 (by decide) (by decide) hge).mono ?_
  · go_simp
  · go_simp
  · go_simp
  rintro e w1 ⟨o, k, ho, rfl, rfl⟩
  have ho' := ho (by decide)
  subst ho'
  clear ho
  have q0 : (((w.alloc (.cells #[.int .u8 0, .slice none 0 0] 30)).drewN k).setCell ⟨b, 1, none⟩ (.int .i64 (off + 2))).cell? ⟨b, 0, none⟩ = some (.slice (some ⟨g, 0, none⟩) len cap) := by go_simp
  have q1 : (((w.alloc (.cells #[.int .u8 0, .slice none 0 0] 30)).drewN k).setCell ⟨b, 1, none⟩ (.int .i64 (off + 2))).cell? ⟨b, 1, none⟩ = some (.int .i64 (off + 2)) := by go_simp
  have qn : (((w.alloc (.cells #[.int .u8 0, .slice none 0 0] 30)).drewN k).setCell ⟨b, 1, none⟩ (.int .i64 (off + 2))).cell? ⟨g, off.toNat + 1, none⟩ = some (.int .u8 n) := by go_simp
  have qi : (((w.alloc (.cells #[.int .u8 0, .slice none 0 0] 30)).drewN k).setCell ⟨b, 1, none⟩ (.int .i64 (off + 2))).cell? ⟨g, off.toNat, none⟩ = some (.int .u8 id) := by go_simp
  have qf : (((w.alloc (.cells #[.int .u8 0, .slice none 0 0] 30)).drewN k).setCell ⟨b, 1, none⟩ (.int .i64 (off + 2))).frozen? ⟨b, 1, none⟩ = false := by go_simp
  have qr : (((w.alloc (.cells #[.int .u8 0, .slice none 0 0] 30)).drewN k).setCell ⟨b, 1, none⟩ (.int .i64 (off + 2))).frozen? ⟨w.heap.size, 0, none⟩ = false := by go_simp
  have qg : w.grownBy (((w.alloc (.cells #[.int .u8 0, .slice none 0 0] 30)).drewN k).setCell ⟨b, 1, none⟩ (.int .i64 (off + 2))) (some b) :=
    grown_trans (grown_of_below (below_drewN ((Below.refl _ _).alloc (Nat.le_refl _) _) _) _) (grown_set _ _ _ _)
  have qz : w.heap.size < (((w.alloc (.cells #[.int .u8 0, .slice none 0 0] 30)).drewN k).setCell ⟨b, 1, none⟩ (.int .i64 (off + 2))).heap.size := by simp
  have qc0 : (((w.alloc (.cells #[.int .u8 0, .slice none 0 0] 30)).drewN k).setCell ⟨b, 1, none⟩ (.int .i64 (off + 2))).cell? ⟨w.heap.size, 0, none⟩ = some (.int .u8 0) := by go_simp
  have qc1 : (((w.alloc (.cells #[.int .u8 0, .slice none 0 0] 30)).drewN k).setCell ⟨b, 1, none⟩ (.int .i64 (off + 2))).cell? ⟨w.heap.size, 1, none⟩ = some (.slice none 0 0) := by go_simp
  have qr1 : (((w.alloc (.cells #[.int .u8 0, .slice none 0 0] 30)).drewN k).setCell ⟨b, 1, none⟩ (.int .i64 (off + 2))).frozen? ⟨w.heap.size, 1, none⟩ = false := by go_simp
  go_wp2_with fail

  generalize (((w.alloc (.cells #[.int .u8 0, .slice none 0 0] 30)).drewN k).setCell ⟨b, 1, none⟩ (.int .i64 (off + 2))) = w2 at *

  go_region_held3 (fun w' => w'.cell? ⟨g, off.toNat + 1, none⟩ = some (.int .u8 n)) (go_keep)
    ((go_at_call 6; rw [show IntKind.i64.wrap n = n from by rw [IntKind.wrap_i64]; omega]; refine (take_ok b g len cap (off + 2) n _ ?_ ?_ ?_ hl hcap ?_ ?_ ?_ ?_ ?_).mono ?_; (exact q0); (exact q1); (exact qf); (omega); (omega); (omega); (omega); (omega); rintro e w1 ⟨o2, k2, ho2, rfl, hw1⟩; have hg1 := took_grown qf q1 hw1; have hS : w1.cell? ⟨g, off.toNat + 1, none⟩ = some (.int .u8 n) := (hg1.1.cell_far ⟨g, off.toNat + 1, none⟩ (Nat.lt_trans hg qz) (by simp; omega)).trans qn; clear hw1))
  obtain ⟨hg1, hoff⟩ := hg1
  have zi : w1.cell? ⟨g, off.toNat, none⟩ = some (.int .u8 id) := (hg1.cell_far ⟨g, off.toNat, none⟩ (Nat.lt_trans hg qz) (by simp; omega)).trans qi
  have z0 : w1.cell? ⟨w.heap.size, 0, none⟩ = some (.int .u8 0) := (hg1.cell_far ⟨w.heap.size, 0, none⟩ qz (by simp; omega)).trans qc0
  have z1 : w1.cell? ⟨w.heap.size, 1, none⟩ = some (.slice none 0 0) := (hg1.cell_far ⟨w.heap.size, 1, none⟩ qz (by simp; omega)).trans qc1
  have y0 : w1.frozen? ⟨w.heap.size, 0, none⟩ = false := (hg1.frozen_far ⟨w.heap.size, 0, none⟩ qz (by simp; omega)).trans qr
  have y1 : w1.frozen? ⟨w.heap.size, 1, none⟩ = false := (hg1.frozen_far ⟨w.heap.size, 1, none⟩ qz (by simp; omega)).trans qr1
  go_wp2_with fail
  refine bodyPost_ret (v := .tuple #[.agg #[.int .u8 id, .slice (some ⟨g, o2, none⟩) n.toNat n.toNat], .nilIface]) (by simp [results, Ybaf.results5, go_sem, z0, z1]) rfl ?_
  have hB : w1.grownBy ((w1.setCell ⟨w.heap.size, 0, none⟩ (.int .u8 id)).setCell ⟨w.heap.size, 1, none⟩ (.slice (some ⟨g, o2, none⟩) n.toNat n.toNat)) (some w.heap.size) :=
    grown_trans (grown_set _ _ _ _) (grown_set _ _ _ _)
  exact ⟨o2, fun h => by have := ho2 h; omega, rfl, grown_then (grown_trans qg hg1) hB, (hB.cell_far ⟨b, 1, none⟩ (Nat.lt_of_lt_of_le (Nat.lt_trans hb qz) hg1.size) (by simp; omega)).trans hoff⟩

end Go.Proofs.YbulkarmeFmt
