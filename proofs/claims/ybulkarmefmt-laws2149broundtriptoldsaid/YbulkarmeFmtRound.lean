import Derived.Test.YbulkarmeFmtSpec
import Derived.Deep.AppendSrc
set_option linter.unusedVariables false
namespace Go.Proofs.YbulkarmeFmt
open Go.RowKit Go.Extern.Stop Go.Stop Go.Extern Go.Deep

/-- What is known of a slice of bytes that is read: its numbers lie behind its address. -/
def SrcOk (w : World) (sp : Option Addr) (ys : List Int) : Prop :=
  (sp = none → ys = []) ∧ ∀ ad, sp = some ad → ∀ j v, (ys.map (Value.int .u8))[j]? = some v → w.cell? (ad.add j) = some v

theorem SrcOk.later {w w' : World} {sp : Option Addr} {ys : List Int} (h : SrcOk w sp ys) (hb : Below w.heap.size w w') : SrcOk w' sp ys :=
  ⟨h.1, fun ad e j v hj => cell_later hb (h.2 ad e j v hj)⟩

theorem SrcOk.at_ {w : World} {sp : Option Addr} {ys : List Int} (h : SrcOk w sp ys) (j : Nat) (v : Int) (hj : ys[j]? = some v) : ∃ b o, sp = some ⟨b, o, none⟩ ∧ w.cell? ⟨b, o + j, none⟩ = some (.int .u8 v) := by
  cases sp with
  | none => rw [h.1 rfl] at hj; simp at hj
  | some ad =>
    have hlt : j < ys.length := by
      rcases Nat.lt_or_ge j ys.length with h' | h'
      · exact h'
      · rw [List.getElem?_eq_none h'] at hj; cases hj
    have h0 := h.2 ad rfl 0 (.int .u8 ys[0]) (by simp)
    have hs : ad.spot = none := by simpa [Addr.add] using World.cell?_spot h0
    have h1 := h.2 ad rfl j (.int .u8 v) (by simp [hj])
    obtain ⟨b, o, spot⟩ := ad
    simp at hs
    subst hs
    refine ⟨b, o, rfl, ?_⟩
    unfold Addr.add at h1
    split at h1
    · rename_i e; subst e; simpa using h1
    · exact h1

/-- The buffer: block g holds xs, then some rest, cap cells in all. -/
def Buf (w : World) (g cap : Nat) (xs : List Int) : Prop :=
  ∃ rest : List Value, w.heap[g]? = some (.cells (xs.map (Value.int .u8) ++ rest).toArray 5 (0, 0)) ∧ xs.length + rest.length = cap

theorem Buf.cell {w : World} {g cap j : Nat} {xs : List Int} {v : Int} (h : Buf w g cap xs) (hj : xs[j]? = some v) : w.cell? ⟨g, j, none⟩ = some (.int .u8 v) := by
  obtain ⟨rest, hb, _⟩ := h
  have hlt : j < xs.length := by
    rcases Nat.lt_or_ge j xs.length with h | h
    · exact h
    · rw [List.getElem?_eq_none h] at hj; cases hj
  rw [List.getElem?_eq_getElem hlt] at hj
  cases hj
  simp [World.cell?, hb, List.getElem?_append_left, hlt]

theorem append_step (w : World) (g cap c : Nat) (xs ys : List Int) (sp : Option Addr) (hsrc : SrcOk w sp ys) (hbuf : Buf w g cap xs) (hroom : xs.length + ys.length ≤ cap) :
    ∃ w', (Builtin.append_ #[22, 22] 22 #[.slice (some ⟨g, 0, none⟩) xs.length cap, .slice sp ys.length c]).run Ybaf.prog w = .ok (.slice (some ⟨g, 0, none⟩) (xs.length + ys.length) cap) w' ∧
      Buf w' g cap (xs ++ ys) ∧ w.grownBy w' (some g) ∧ w'.heap.size = w.heap.size := by
  obtain ⟨i, hi, hx⟩ := Option.map_eq_some_iff.1 Ybaf.info5'
  simp only [Prod.mk.injEq] at hx
  obtain ⟨hz0, hz1, hz2⟩ := hx
  cases sp with
  | none =>
    obtain rfl := hsrc.1 rfl
    refine ⟨w, ?_, by simpa using hbuf, ⟨rfl, rfl, rfl, Nat.le_refl _, fun _ _ _ => rfl⟩, rfl⟩
    exact run_append_room_src (P := Ybaf.prog) w 22 22 22 5 i Ybaf.underlying22 hi g 0 xs.length cap (.slice none 0 c) 0 [] (Src.ofNil w Ybaf.underlying22 c) (by simpa using hroom) (by simp) (by simp)
  | some ad =>
    obtain ⟨rest, hb, hl⟩ := hbuf
    have hr := run_append_room (P := Ybaf.prog) w 22 22 5 i Ybaf.underlying22 hi g xs.length cap _ hb ad ys.length c (ys.map (Value.int .u8)) (by simp [hz1]) (hsrc.2 ad rfl) (by simp [Value.oneCell']) (by omega) (by simp [hz1]; omega)
    have e1 : (List.take (xs.length * i.size) (xs.map (Value.int .u8) ++ rest).toArray.toList ++ ys.map (Value.int .u8) ++ List.drop (xs.length * i.size + (ys.map (Value.int .u8)).length) (xs.map (Value.int .u8) ++ rest).toArray.toList).toArray
        = ((xs ++ ys).map (Value.int .u8) ++ rest.drop ys.length).toArray := by
      have h1 : xs.length + ys.length - xs.length = ys.length := by omega
      simp [hz1, List.drop_append, h1]
    rw [e1] at hr
    refine ⟨_, hr, ⟨_, setRow_heap _ _ _ _ 5 _ hb, by simp; omega⟩, ⟨rfl, rfl, rfl, by simp [World.setRow], fun k hk hne => setRow_other w g k _ (fun e => hne (by rw [e]))⟩, by simp [World.setRow]⟩

theorem src_two (w : World) (a b : Int) (g : Nat) (hg : w.heap.size = g) : SrcOk (w.alloc (.cells #[.int .u8 a, .int .u8 b] 5)) (some ⟨g, 0, none⟩) [a, b] := by
  subst hg
  refine ⟨fun e => (by cases e), fun ad e j v hj => ?_⟩
  cases e
  match j, hj with
  | 0, hj => simp at hj; subst hj; simp [Addr.add]
  | 1, hj => simp at hj; subst hj; simp [Addr.add]
  | (j + 2), hj => simp at hj

/-- An append whose run is known. -/
theorem wpList_append_eq {P : Program} {w : World} {ops : Array Oper} {rest : List Oper} {o : Oper} {a : Act} {Q : Exit → Act → World → Prop} (hgd : o.guard = none) (s x : Operand) (t : TypeId)
    (ho : o.op = .call { callee := .builtin .append, args := #[s, x], argTypes := #[t, t] }) (v1 v2 v : Value) (w' : World) (hs : a.eval s = v1) (hx : a.eval x = v2)
    (hrun : (Builtin.append_ #[t, t] o.type #[v1, v2]).run P w = .ok v w') (h : wpList P ops Q rest (a.put o.dst v) w') : wpList P ops Q (o :: rest) a w := by
  refine wpList_plain hgd fun K hK => ?_
  unfold Oper.wp
  simp [execOp, ho, resolve, invoke, builtin, hs, hx, hrun, Result.andThen]
  exact hK _ _ h

set_option maxHeartbeats 400000 in
theorem round_long (id : Int) (s1 s2 : Option Addr) (n1 n2 c1 c2 : Nat) (w : World) (hl : 255 < n1 ∨ 1024 < n2) (hn1 : n1 ≤ maxLen) (hn2 : n2 ≤ maxLen) :
    Calls Ybaf.prog 4 #[.int .u8 id, .slice s1 n1 c1, .slice s2 n2 c2] w fun e w' => e = .returned (.bool true) ∧ w' = w := by
  unfold maxLen at hn1 hn2
  by_cases h1 : 255 < n1
  · have h1' : (255 : Int) < n1 := by omega
    go_enter Ybaf.func4, Ybaf.ntmps4
    go_wp2
    go_ret
    exact ⟨rfl, rfl⟩
  · have h1' : decide ((255 : Int) < n1) = false := by simp; omega
    have h2' : (1024 : Int) < n2 := by omega
    go_enter Ybaf.func4, Ybaf.ntmps4
    go_wp2
    go_ret
    exact ⟨rfl, rfl⟩

theorem buf_get (id : Int) (xs ys : List Int) (j : Nat) (v : Int) (h : xs[j]? = some v) : ([id, (xs.length : Int)] ++ xs ++ ys)[2 + j]? = some v := by
  have hlt : j < xs.length := by
    rcases Nat.lt_or_ge j xs.length with h' | h'
    · exact h'
    · rw [List.getElem?_eq_none h'] at h; cases h
  rw [List.getElem?_append_left (by simp; omega), List.getElem?_append_right (by simp)]
  simpa using h

set_option maxHeartbeats 400000 in
theorem round_ok (id : Int) (s1 s2 : Option Addr) (c1 c2 : Nat) (xs ys : List Int) (w : World) (hx : SrcOk w s1 xs) (hy : SrcOk w s2 ys) (h1 : xs.length ≤ 255) (h2 : ys.length ≤ 1024) :
    Calls Ybaf.prog 4 #[.int .u8 id, .slice s1 xs.length c1, .slice s2 ys.length c2] w fun e w' => e = .returned (.bool true) ∧ Below w.heap.size w w' := by
  have hmk : ∀ W : World, (Instr.makeSlice 22 (.int .i64 0) (.int .i64 (2 + (xs.length : Int) + ys.length))).run Ybaf.prog W = .ok (.slice (some ⟨W.heap.size, 0, none⟩) 0 (2 + xs.length + ys.length)) (W.alloc (.cells (madeCells #[.int .u8 0] (2 + xs.length + ys.length)) 5)) := by
    intro W
    obtain ⟨i, hi, hxx⟩ := Option.map_eq_some_iff.1 Ybaf.info5'
    simp only [Prod.mk.injEq] at hxx
    obtain ⟨hz0, hz1, hz2⟩ := hxx
    have hr := run_make (P := Ybaf.prog) W 22 5 i (.int .u8 0) Ybaf.underlying22 hi hz0 .i64 .i64 0 (2 + (xs.length : Int) + ys.length) (by omega) (by omega) (by rw [hz2]; omega) (by omega)
    have e1 : (2 + (xs.length : Int) + ys.length).toNat = 2 + xs.length + ys.length := by omega
    rw [e1, hz1] at hr
    simpa [Value.cells] using hr
  have d1 : decide ((255 : Int) < xs.length) = false := by simp; omega
  have d2 : decide ((1024 : Int) < ys.length) = false := by simp; omega
  obtain ⟨w1, hap1, hbuf1, hgr1, hsz1⟩ : ∃ w1, (Builtin.append_ #[22, 22] 22 #[.slice (some ⟨w.heap.size, 0, none⟩) 0 (2 + xs.length + ys.length), .slice (some ⟨w.heap.size + 1, 0, none⟩) 2 2]).run Ybaf.prog
      ((w.alloc (.cells (madeCells #[.int .u8 0] (2 + xs.length + ys.length)) 5)).alloc (.cells #[.int .u8 id, .int .u8 xs.length] 5)) = .ok (.slice (some ⟨w.heap.size, 0, none⟩) 2 (2 + xs.length + ys.length)) w1 ∧
      Buf w1 w.heap.size (2 + xs.length + ys.length) [id, (xs.length : Int)] ∧ Below w.heap.size w w1 ∧ w1.heap.size = w.heap.size + 2 := by
    obtain ⟨w1, h1, h2, h3, h4⟩ := append_step ((w.alloc (.cells (madeCells #[.int .u8 0] (2 + xs.length + ys.length)) 5)).alloc (.cells #[.int .u8 id, .int .u8 xs.length] 5)) w.heap.size (2 + xs.length + ys.length) 2 [] [id, (xs.length : Int)] (some ⟨w.heap.size + 1, 0, none⟩)
      (src_two _ _ _ _ (by simp))
      ⟨(madeCells #[.int .u8 0] (2 + xs.length + ys.length)).toList, by
        rw [Below.heap_alloc _ _ _ (by simp), heap_alloc_new]; simp, by simp [size_madeCells]⟩ (by simp; omega)
    refine ⟨w1, h1, h2, ?_, by rw [h4]; simp⟩
    exact (((Below.refl _ _).alloc (Nat.le_refl _) _).alloc (by simp) _).grown h3 (by simp; omega) (fun k e => by cases e; exact Nat.le_refl _)
  obtain ⟨w2, hap2, hbuf2, hgr2, hsz2⟩ := append_step w1 w.heap.size (2 + xs.length + ys.length) c1 [id, (xs.length : Int)] xs s1 (hx.later hgr1) hbuf1 (by simp)
  have hbel2 : Below w.heap.size w w2 := hgr1.grown hgr2 (by omega) (fun k e => by cases e; exact Nat.le_refl _)
  obtain ⟨w3, hap3, hbuf3, hgr3, hsz3⟩ := append_step w2 w.heap.size (2 + xs.length + ys.length) c2 ([id, (xs.length : Int)] ++ xs) ys s2 (hy.later hbel2) hbuf2 (by simp; omega)
  have hbel3 : Below w.heap.size w w3 := hbel2.grown hgr3 (by omega) (fun k e => by cases e; exact Nat.le_refl _)
  have hz3 : w3.heap.size = w.heap.size + 2 := by omega
  have hap2' : (Builtin.append_ #[22, 22] 22 #[.slice (some ⟨w.heap.size, 0, none⟩) 2 (2 + xs.length + ys.length), .slice s1 xs.length c1]).run Ybaf.prog w1 = .ok (.slice (some ⟨w.heap.size, 0, none⟩) (2 + xs.length) (2 + xs.length + ys.length)) w2 := hap2
  have hap3' : (Builtin.append_ #[22, 22] 22 #[.slice (some ⟨w.heap.size, 0, none⟩) (2 + xs.length) (2 + xs.length + ys.length), .slice s2 ys.length c2]).run Ybaf.prog w2 = .ok (.slice (some ⟨w.heap.size, 0, none⟩) (2 + xs.length + ys.length) (2 + xs.length + ys.length)) w3 := by
    have e : ([id, (xs.length : Int)] ++ xs).length = 2 + xs.length := by simp; omega
    rw [e] at hap3
    exact hap3
  clear hap2 hap3
  clear hgr2 hgr3 hsz1 hsz2 hsz3
  have HX : Hid (SrcOk w s1 xs) := hx
  have HB : Hid (Buf w3 w.heap.size (2 + xs.length + ys.length) ([id, (xs.length : Int)] ++ xs ++ ys)) := hbuf3
  have HZ : Hid (w3.heap.size = w.heap.size + 2) := hz3
  have hz3' : w.heap.size < w3.heap.size := by omega
  have hcn : w3.cell? ⟨w.heap.size, 1, none⟩ = some (.int .u8 xs.length) := hbuf3.cell (by simp)
  have hci : w3.cell? ⟨w.heap.size, 0, none⟩ = some (.int .u8 id) := hbuf3.cell (by simp)
  clear hx hy hbuf1 hbuf2 hbuf3 hz3 hgr1 hbel2
  go_enter Ybaf.func4, Ybaf.ntmps4
  go_wp2_with (first
    | (at_builtin; refine wpList_append_eq ?_ (.tmp 27) (.tmp 32) 22 ?_ (.slice (some ⟨w.heap.size, 0, none⟩) 0 (2 + xs.length + ys.length)) (.slice (some ⟨w.heap.size + 1, 0, none⟩) 2 2) _ _ ?_ ?_ hap1 ?_; rfl; rfl; rfl; rfl)
    | (at_builtin; refine wpList_append_eq ?_ (.tmp 34) (.tmp 35) 22 ?_ (.slice (some ⟨w.heap.size, 0, none⟩) 2 (2 + xs.length + ys.length)) (.slice s1 xs.length c1) _ _ ?_ ?_ hap2' ?_; rfl; rfl; rfl; rfl)
    | (at_builtin; refine wpList_append_eq ?_ (.tmp 37) (.tmp 38) 22 ?_ (.slice (some ⟨w.heap.size, 0, none⟩) (2 + xs.length) (2 + xs.length + ys.length)) (.slice s2 ys.length c2) _ _ ?_ ?_ hap3' ?_; rfl; rfl; rfl; rfl))
  clear hap1 hap2' hap3' hmk
  refine (par_ok w3.heap.size w.heap.size (2 + xs.length + ys.length) (2 + xs.length + ys.length) 0 xs.length id _ ?_ ?_ ?_ ?_ ?_ ?_ ?_ ?_ (by omega) (Nat.le_refl _) (by omega) (by omega) (by omega) (by omega) (by omega) (by omega)).mono ?_
  · go_simp
  · go_simp
  · simpa using (World.cell?_alloc_lt _ _ _ hz3').trans hci
  · go_simp
  · simpa using (World.cell?_alloc_lt _ _ _ hz3').trans hcn
  · simp; omega
  · omega
  · simp
  rintro e w4 ⟨o2, ho2, rfl, hg4, hoff⟩
  rw [Int.toNat_natCast]
  have HO : Hid ((0 : Int) < xs.length → o2 = (0 : Int).toNat + 2) := ho2
  clear ho2
  have hz4 : w3.heap.size < w4.heap.size := by have := hg4.size; simp at this; omega
  have hz5 : w.heap.size < w4.heap.size := by omega
  have hb4 := below_par hbel3 hg4
  have HC : Hid (∀ j v, xs[j]? = some v → w4.cell? ⟨w.heap.size, 2 + j, none⟩ = some (.int .u8 v)) := fun j v h =>
    (hg4.cell_far ⟨w.heap.size, 2 + j, none⟩ (by simp; omega) (by simp; omega)).trans ((World.cell?_alloc_lt _ _ _ hz3').trans (HB.out.cell (buf_get id xs ys j v h)))
  go_wp2_with fail
  have hb5 : Below w.heap.size w (w4.alloc (.cells #[.int .u8 id, .slice (some ⟨w.heap.size, o2, none⟩) xs.length xs.length] 30)) := hb4.alloc hb4.size _
  have hp5 : (w4.alloc (.cells #[.int .u8 id, .slice (some ⟨w.heap.size, o2, none⟩) xs.length xs.length] 30)).cell? ⟨w4.heap.size, 1, none⟩ = some (.slice (some ⟨w.heap.size, o2, none⟩) xs.length xs.length) := by go_simp
  have HC5 : Hid (∀ j v, xs[j]? = some v → (w4.alloc (.cells #[.int .u8 id, .slice (some ⟨w.heap.size, o2, none⟩) xs.length xs.length] 30)).cell? ⟨w.heap.size, 2 + j, none⟩ = some (.int .u8 v)) := fun j v h => (World.cell?_alloc_lt w4 _ _ hz5).trans (HC.out j v h)
  generalize w4.alloc (.cells #[.int .u8 id, .slice (some ⟨w.heap.size, o2, none⟩) xs.length xs.length] 30) = w5 at *
  clear hcn hci hbel3 hg4 hoff HB
  go_loopw [11] (fun i wr => ∃ j q : Nat, j ≤ xs.length ∧ i = .int .i64 j ∧ wr = w5.drewN q) (fun i _ => xs.length - (intOf i).toNat)
  case atStart => exact ⟨0, 0, Nat.zero_le _, rfl, rfl⟩
  case round =>
    obtain ⟨j, q, hj, rfl, rfl⟩ := hrel
    by_cases hjm : j < xs.length
    · have ho : o2 = 2 := HO.out (by omega)
      have hget : xs[j]? = some xs[j] := List.getElem?_eq_getElem hjm
      have hcell := HC5.out _ _ hget
      obtain ⟨b1, o1, hs1, hcell1⟩ := HX.out.at_ j xs[j] hget
      have hcell2 := cell_later hb5 hcell1
      generalize xs[j] = v at *
      clear hget hcell1
      subst ho
      subst hs1
      go_wp2_with fail
      go_quiet (fail)
      go_wp2_with fail
      go_roundw
      case rel => exact ⟨j + 1, _, by omega, by go_num, rfl⟩
      case measure => simp [intOf]; omega
    · have hjm' : j = xs.length := by omega
      subst hjm'
      go_wp2_with fail
      go_ret
      exact ⟨rfl, below_drewN hb5 _⟩

end Go.Proofs.YbulkarmeFmt
