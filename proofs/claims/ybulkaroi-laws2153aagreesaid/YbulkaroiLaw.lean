import Derived.Test.YbulkaroiSt
import Derived.OwnWalk
import Derived.Deep.AppendLies
import Derived.Deep.DeepAppendRoom
set_option linter.unusedVariables false
namespace Go.Proofs.Ybulkaroi
open Go.RowKit Go.Maps Go.Deep Go.MuLone

/-- The steps that came in. -/
def OpsAt (w : World) (sp : Option Addr) (ops : List (Int × Int)) : Prop :=
  ∀ i o h, ops[i]? = some (o, h) → (0 ≤ o ∧ o ≤ 255) ∧ (0 ≤ h ∧ h ≤ 255) ∧ ∃ b off, sp = some ⟨b, off, none⟩ ∧ b < w.heap.size ∧ w.cell? ⟨b, off + i * 2, none⟩ = some (.int .u8 o) ∧ w.cell? ⟨b, off + i * 2 + 1, none⟩ = some (.int .u8 h)

def LoopInv (B : Nat) (w0 : World) (hb tb n : Nat) (v7 v8 v9 i : Value) (w : World) : Prop :=
  ∃ (k c : Nat) (f : ByteArray → Option Nat) (kv : List (ByteArray × Nat)) (made : List (Nat × ByteArray)), k ≤ n ∧ i = .int .i64 k ∧ c ≤ k ∧ kv.length ≤ k ∧ made.length ≤ k ∧ Env B w0 w hb tb c f made ∧ Rows3 B w v7 v8 v9 kv made ∧ Plain f kv made

theorem row_nil (w : World) (B : Nat) (t : TypeId) : w.ownsRow B t 1 (.slice none 0 0) 0 [] := ⟨rfl, .inl ⟨rfl, rfl⟩⟩

theorem tab_new (w : World) (B tb : Nat) (hB : B ≤ w.heap.size) (hz : w.heap.size = tb) : TabIs B (w.alloc (.cells #[.int .i32 0, .int .u32 0, .map none] 33)) tb 0 (fun _ => none) := by
  subst hz
  exact ⟨hB, none, heap_alloc_new w _, .inl ⟨rfl, rfl⟩⟩

theorem peer_new (w : World) (cs : Array Value) (ob : Obj) (p : Nat) (h : ByteArray) (hz : w.heap.size = p) (hc : cs[5]? = some (.string h)) : PeerAt ((w.alloc (.cells cs 66)).alloc ob) p h := by
  subst hz
  exact ⟨cs, (blk_alloc_lt _ _ _ (by simp)).trans (heap_alloc_new w _), hc⟩

theorem Yba.info38' : (Yba.prog.info? 38).map (fun i => (i.zero, i.size, i.bytes)) = some (some (.pointer none), 1, 8) := by kernel_rfl
theorem Yba.info9' : (Yba.prog.info? 9).map (fun i => (i.zero, i.size, i.bytes)) = some (some (.string ⟨#[]⟩), 1, 16) := by kernel_rfl

/-- 's[i+1:]' of a row of the law's own. -/
theorem slice_tail34 (g i n cap : Nat) (hin : i < n) (hnc : n ≤ cap) :
    ∃ ad, (∀ W : World, (Instr.sliceAt 34 (.slice (some ⟨g, 0, none⟩) n cap) (some (.int .i64 ((i : Int) + 1))) none none).run Yba.prog W = .ok (.slice (some ad) (n - (i + 1)) (cap - (i + 1))) W) ∧ (i + 1 < n → ad = ⟨g, i + 1, none⟩) := by
  refine ⟨if cap = i + 1 then ⟨g, 0, none⟩ else ⟨g, i + 1, none⟩, fun W => ?_, fun h => by rw [if_neg (by omega)]⟩
  have h1 : (i : Int) + 1 ≤ n := by omega
  have h0 : (0 : Int) ≤ (i : Int) + 1 := by omega
  by_cases hc : cap = i + 1
  · rw [if_pos hc]
    go_simp
  · rw [if_neg hc]
    go_simp

/-- 's[i+1:]' of a row of the law's own. -/
theorem slice_tail35 (g i n cap : Nat) (hin : i < n) (hnc : n ≤ cap) :
    ∃ ad, (∀ W : World, (Instr.sliceAt 35 (.slice (some ⟨g, 0, none⟩) n cap) (some (.int .i64 ((i : Int) + 1))) none none).run Yba.prog W = .ok (.slice (some ad) (n - (i + 1)) (cap - (i + 1))) W) ∧ (i + 1 < n → ad = ⟨g, i + 1, none⟩) := by
  refine ⟨if cap = i + 1 then ⟨g, 0, none⟩ else ⟨g, i + 1, none⟩, fun W => ?_, fun h => by rw [if_neg (by omega)]⟩
  have h1 : (i : Int) + 1 ≤ n := by omega
  have h0 : (0 : Int) ≤ (i : Int) + 1 := by omega
  by_cases hc : cap = i + 1
  · rw [if_pos hc]
    go_simp
  · rw [if_neg hc]
    go_simp

theorem take_of {xs cur : List Value} {n i : Nat} (h : cur.take (n * 1) = xs) (hin : i < n) : cur.take (i * 1) = xs.take i := by
  subst h
  rw [List.take_take]
  congr 1
  omega

/-- The i-th element is struck out of a row, at a step of a region that draws its order. -/
theorem step_erase (t e : TypeId) (ht : Yba.prog.underlying t = some (.slice e)) (hsi : (Yba.prog.info? e).map (·.size) = some 1) {w : World} {ops : Array Oper} {o : Oper} {a : Act} {K : Act → World → Prop} {Q : Exit → Act → World → Prop} {E : Prop}
    (hgd : o.guard = none) (s x : Operand) (ho : o.op = .call { callee := .builtin .append, args := #[s, x], argTypes := #[t, t] }) (B g n cap i c2 : Nat) (xs : List Value) (ad : Addr)
    (hown : w.ownsRow B e 1 (.slice (some ⟨g, 0, none⟩) n cap) n xs) (hin : i < n) (hs : a.eval s = .slice (some ⟨g, 0, none⟩) i cap) (hx : a.eval x = .slice (some ad) (n - (i + 1)) c2) (had : i + 1 < n → ad = ⟨g, i + 1, none⟩) (h1 : ∀ u ∈ xs, u.oneCell' = true)
    (h : ∀ w', w'.ownsRow B e 1 (.slice (some ⟨g, 0, none⟩) (n - 1) cap) (n - 1) (xs.eraseIdx i) → w.grownBy w' (some g) → K (a.put o.dst (.slice (some ⟨g, 0, none⟩) (n - 1) cap)) w') :
    if Region.wanted o (yielded ops a.tmps) = true then Oper.wp Yba.prog o a w K Q else E := by
  obtain ⟨j, hj, hsz⟩ := Option.map_eq_some_iff.1 hsi
  have hw : Region.wanted o (yielded ops a.tmps) = true := by simp [Region.wanted, hgd]
  rw [if_pos hw]
  have hxl : xs.length = n := by have := hown.1; omega
  have hcap : n ≤ cap := by
    rcases hown.2 with ⟨h0, -⟩ | ⟨g', cap', cur, h0, -, -, hnc, -⟩
    · cases h0
    · cases h0; exact hnc
  have howni : w.ownsRow B e 1 (.slice (some ⟨g, 0, none⟩) i cap) i (xs.take i) := by
    refine ⟨by simp; omega, ?_⟩
    rcases hown.2 with ⟨h0, -⟩ | ⟨g', cap', cur, h0, q1, q2, q3, q4, q5, q6⟩
    · cases h0
    · cases h0
      exact .inr ⟨g, cap, cur, rfl, q1, q2, by omega, q4, q5, take_of q6 hin⟩
  have hr : (xs.take i ++ xs.drop (i + 1)) = xs.eraseIdx i := (List.eraseIdx_eq_take_drop_succ xs i).symm
  refine wp_append_own_spare w s x t ho B e j 1 ht hj hsz g i cap (xs.take i) hs howni ad (n - (i + 1)) c2 (xs.drop (i + 1)) hx (by simp; omega) (fun q u hu => ?_) (fun u hu => h1 u (List.mem_of_mem_drop hu)) (by omega) (fun w' h2 h3 => ?_)
  · rw [List.getElem?_drop] at hu
    have hql := (List.getElem?_eq_some_iff.1 hu).1
    rw [had (by omega), Addr.add_lit, show i + 1 + q = i + 1 + q from rfl, hown.cellAt _ (by omega)]
    exact hu
  · rw [hr] at h2
    have e1 : i + (n - (i + 1)) = n - 1 := by omega
    rw [e1] at h2
    have := h w' h2 h3
    rw [e1]
    exact this

theorem cap_of {w : World} {B g n cap : Nat} {t : TypeId} {xs : List Value} (h : w.ownsRow B t 1 (.slice (some ⟨g, 0, none⟩) n cap) n xs) : n ≤ cap := by
  rcases h.2 with ⟨h0, -⟩ | ⟨g', cap', cur, h0, -, -, hnc, -⟩
  · cases h0
  · cases h0; exact hnc

theorem Yba.size38' : (Yba.prog.info? 38).map (·.size) = some 1 := by kernel_rfl
theorem Yba.size9' : (Yba.prog.info? 9).map (·.size) = some 1 := by kernel_rfl

section
variable {w : World} {ops : Array Oper} {rest : List Oper} {o : Oper} {a : Act} {Q : Exit → Act → World → Prop}

/-- One pointer more behind a row of the law's own. -/
theorem push_ptr (hgd : o.guard = none) (s x : Operand) (ho : o.op = .call { callee := .builtin .append, args := #[s, x], argTypes := #[35, 35] }) (B : Nat) (v : Value) (n : Nat) (xs : List Value) (hs : a.eval s = v) (u : Value)
    (hown : w.ownsRow B 38 1 v n xs) (G : Nat) (hG : w.heap.size = G) (hx : a.eval x = .slice (some ⟨G, 0, none⟩) 1 1) (h1 : u.oneCell' = true) (hn : n ≤ 2000) (hB : B ≤ w.heap.size)
    (h : ∀ v' w', w'.ownsRow B 38 1 v' (n + 1) (xs ++ [u]) → (w.alloc (.cells #[u] 38)).grownBy w' v.ownBlock → (v'.ownBlock = v.ownBlock ∨ v'.ownBlock = some (w.alloc (.cells #[u] 38)).heap.size) → wpList Yba.prog ops Q rest (a.put o.dst v') w') :
    wpList Yba.prog ops Q (o :: rest) a (w.alloc (.cells #[u] 38)) := by
  subst hG
  obtain ⟨i, hi, hxx⟩ := Option.map_eq_some_iff.1 Yba.info38'
  simp only [Prod.mk.injEq] at hxx
  obtain ⟨hz0, hz1, hz2⟩ := hxx
  exact wpList_append_own_at _ hgd s x 35 ho B 38 i (.pointer none) 1 8 Yba.underlying35 hi hz0 hz1 hz2 rfl (by decide) v n xs hs (hown.alloc _) ⟨w.heap.size, 0, none⟩ 1 1 [u] hx rfl (cell_one_new _ _ _) (by simpa using h1) (by unfold maxLen; omega) (by omega) (by simp; omega) (fun v' w' h2 h3 _ h5 => h v' w' h2 h3 h5)

/-- One string more. -/
theorem push_str (hgd : o.guard = none) (s x : Operand) (ho : o.op = .call { callee := .builtin .append, args := #[s, x], argTypes := #[34, 34] }) (B : Nat) (v : Value) (n : Nat) (xs : List Value) (hs : a.eval s = v) (u : Value)
    (hown : w.ownsRow B 9 1 v n xs) (G : Nat) (hG : w.heap.size = G) (hx : a.eval x = .slice (some ⟨G, 0, none⟩) 1 1) (h1 : u.oneCell' = true) (hn : n ≤ 2000) (hB : B ≤ w.heap.size)
    (h : ∀ v' w', w'.ownsRow B 9 1 v' (n + 1) (xs ++ [u]) → (w.alloc (.cells #[u] 9)).grownBy w' v.ownBlock → (v'.ownBlock = v.ownBlock ∨ v'.ownBlock = some (w.alloc (.cells #[u] 9)).heap.size) → wpList Yba.prog ops Q rest (a.put o.dst v') w') :
    wpList Yba.prog ops Q (o :: rest) a (w.alloc (.cells #[u] 9)) := by
  subst hG
  obtain ⟨i, hi, hxx⟩ := Option.map_eq_some_iff.1 Yba.info9'
  simp only [Prod.mk.injEq] at hxx
  obtain ⟨hz0, hz1, hz2⟩ := hxx
  exact wpList_append_own_at _ hgd s x 34 ho B 9 i (.string ⟨#[]⟩) 1 16 Yba.underlying34 hi hz0 hz1 hz2 rfl (by decide) v n xs hs (hown.alloc _) ⟨w.heap.size, 0, none⟩ 1 1 [u] hx rfl (cell_one_new _ _ _) (by simpa using h1) (by unfold maxLen; omega) (by omega) (by simp; omega) (fun v' w' h2 h3 _ h5 => h v' w' h2 h3 h5)
end

set_option maxRecDepth 100000 in
set_option maxHeartbeats 4000000 in
theorem agree_calls (sp : Option Addr) (cap : Nat) (ops : List (Int × Int)) (q : ByteArray) (w : World) (hat : OpsAt w sp ops) (hq : q.size ≤ maxLen) :
    Calls Yba.prog 3 #[.slice sp ops.length cap, .string q] w fun e w' => e = .returned (.bool true) ∧ Below w.heap.size w w' := by
  have HAT : Hid (OpsAt w sp ops) := hat
  clear hat
  go_enter Yba.func3, Yba.ntmps3
  by_cases hbig : 1024 < ops.length
  · have hbig' : (1024 : Int) < ops.length := by omega
    go_wp2_with fail
    go_ret
    exact ⟨rfl, Below.refl _ _⟩
  · go_wp2_with fail
    have E0 : Env w.heap.size w ((w.alloc (.cells #[.string ⟨#[]⟩, .string ⟨#[112, 99, 101, 102, 49]⟩, .string ⟨#[112, 99, 101, 102, 50]⟩, .string ⟨#[97, 102, 46, 101, 120, 97, 109, 112, 108, 101]⟩] 23)).alloc (.cells #[.int .i32 0, .int .u32 0, .map none] 33)) w.heap.size (w.heap.size + 1) 0 (fun _ => none) [] :=
      ⟨((Below.refl _ _).alloc (Nat.le_refl _) _).alloc (by simp) _, by simp; omega, (blk_alloc_lt _ _ _ (by simp)).trans (heap_alloc_new w _), tab_new _ _ _ (by simp) (by simp), fun x hx => by simp at hx⟩
    generalize ((w.alloc (.cells #[.string ⟨#[]⟩, .string ⟨#[112, 99, 101, 102, 49]⟩, .string ⟨#[112, 99, 101, 102, 50]⟩, .string ⟨#[97, 102, 46, 101, 120, 97, 109, 112, 108, 101]⟩] 23)).alloc (.cells #[.int .i32 0, .int .u32 0, .map none] 33)) = w1 at *
    have hBt : ¬ w.heap.size = w.heap.size + 1 := by omega
    generalize w.heap.size + 1 = tb at *
    generalize hBB : w.heap.size = B at *
    have HB : Hid (w.heap.size = B) := hBB
    have R0 : Rows3 B w1 (.slice none 0 0) (.slice none 0 0) (.slice none 0 0) [] [] := ⟨row_nil _ _ _, row_nil _ _ _, row_nil _ _ _, .inl rfl⟩
    have P0 : Plain (fun _ => none) [] [] := ⟨⟨fun k p h => by simp at h, fun h _ => rfl⟩, by simp, fun x hx => by simp at hx, fun x hx => by simp at hx⟩
    have HI : Hid (LoopInv B w B tb ops.length (.slice none 0 0) (.slice none 0 0) (.slice none 0 0) (.int .i64 0) w1) := ⟨0, 0, _, [], [], Nat.zero_le _, rfl, Nat.le_refl _, Nat.le_refl _, Nat.le_refl _, E0, R0, P0⟩
    clear E0 R0 P0 hBB
    go_loopw [7, 8, 9, 23] (fun v7 v8 v9 i wr => LoopInv B w B tb ops.length v7 v8 v9 i wr) (fun _ _ _ i _ => ops.length - (intOf i).toNat)
    case atStart => exact HI.out
    case round =>
      obtain ⟨k, c, f, kv, made, hk, rfl, hc, hkv, hmd, hE, hR, hP⟩ := hrel
      have HE : Hid (Env B w wr B tb c f made) := hE
      have HP : Hid (Plain f kv made) := hP
      clear hE hP
      by_cases hlt : k < ops.length
      · have hget : ops[k]? = some ops[k] := List.getElem?_eq_getElem hlt
        generalize ops[k] = oh at *
        obtain ⟨o, x⟩ := oh
        obtain ⟨⟨ho0, ho1⟩, ⟨hx0, hx1⟩, sb, so, hsp, hsb, hc0, hc1⟩ := HAT.out k o x hget
        subst hsp
        rw [HB.out] at hsb
        have ca : wr.cell? ⟨sb, so + k * 2, none⟩ = some (.int .u8 o) := (HE.out.1.cell hsb).trans hc0
        have cb : wr.cell? ⟨sb, so + k * 2 + 1, none⟩ = some (.int .u8 x) := (HE.out.1.cell hsb).trans hc1
        clear hc0 hc1 hget
        obtain ⟨a7, k7, e7, -⟩ := rowSlice hR.1
        obtain ⟨a8, k8, e8, -⟩ := rowSlice hR.2.1
        obtain ⟨a9, k9, e9, -⟩ := rowSlice hR.2.2.1
        subst e7 e8 e9
        have HR : Hid (Rows3 B wr (.slice a7 kv.length k7) (.slice a8 kv.length k8) (.slice a9 made.length k9) kv made) := hR
        clear hR
        by_cases ho : o % 2 = 0
        · skip
          have hch := ((HE.out.alloc (.cells #[.int .u8 o, .int .u8 x] 37)).2.2.1).cell (x % 4).toNat (by omega)
          have hhs := hostOf_size (x % 4).toNat
          generalize hostOf (x % 4).toNat = hh at hch hhs
          have hj0 : 0 ≤ x % 4 := by omega
          have hj1 : x % 4 < 4 := by omega
          have htb : tb < wr.heap.size := by obtain ⟨-, mv, h9, -⟩ := HE.out.2.2.2.1; exact heap_lt h9
          go_wp2_with (at_builtin; refine push_ptr ?_ (.tmp 44) (.tmp 46) ?_ B (.slice a9 made.length k9) made.length (made.map fun x => ptr x.1) ?_ (ptr (wr.heap.size + 1)) ?_ (wr.heap.size + 1 + 1) ?_ ?_ rfl (by omega) ?_ ?_; rfl; rfl; rfl; exact (((HR.out.alloc _).alloc _).2.2.1); (simp); rfl; (have := HE.out.2.1; simp; omega); intro v9 wm ho9 hg9 hat9)
          clear hch
          obtain ⟨E1, R1⟩ := push9 (((HE.out.alloc _).alloc _).alloc _) (((HR.out.alloc _).alloc _).alloc _) ho9 hg9 hat9 (peer_new _ _ _ _ hh (by simp) rfl)
          clear ho9 hg9 hat9
          have hpt : ¬ tb = wr.heap.size + 1 := by omega
          have P1 : Plain f kv (made ++ [(wr.heap.size + 1, hh)]) := HP.out.more hhs
          have hpc := (E1.2.2.2.2 (wr.heap.size + 1, hh) (by simp))
          have hlm : (made ++ [(wr.heap.size + 1, hh)]).length = made.length + 1 := by simp
          have hmem : (wr.heap.size + 1, hh) ∈ made ++ [(wr.heap.size + 1, hh)] := by simp
          have HMEM : Hid ((wr.heap.size + 1, hh) ∈ made ++ [(wr.heap.size + 1, hh)]) := hmem
          clear hmem
          generalize made ++ [(wr.heap.size + 1, hh)] = made1 at *
          generalize wr.heap.size + 1 = p at *
          have HE1 : Hid (Env B w wm B tb c f made1) := E1
          have HR1 : Hid (Rows3 B wm (.slice a7 kv.length k7) (.slice a8 kv.length k8) v9 kv made1) := R1
          have HP1 : Hid (Plain f kv made1) := P1
          have HPC : Hid (PeerAt wm p hh) := hpc
          clear E1 R1 P1 hpc
          refine (add_calls B tb c p f hh wm HE1.out.2.2.2.1 hhs HPC.out.cell hpt (by omega) HE1.out.2.1).mono ?_
          rintro e wa ⟨rfl, ht2, T2⟩
          have HE2 : Hid (Env B w wa B tb (c + 1) (upd f hh (some p)) made1) := HE1.out.turn T2 ht2
          have HR2 : Hid (Rows3 B wa (.slice a7 kv.length k7) (.slice a8 kv.length k8) v9 kv made1) := HR1.out.turn T2
          have hpc2 : wa.cell? ⟨p, 5, none⟩ = some (.string hh) := (HPC.out.turn T2).cell
          clear ht2 T2
          go_wp2_with fail
          refine (idx_calls B _ (kv.map (·.1)) hh wa (by rw [List.length_map]; exact HR2.out.1) (by simp; omega)).mono ?_
          rintro e wb ⟨r, rfl, hwb, hi⟩
          subst hwb
          rcases hi with ⟨rfl, hno⟩ | ⟨i, rfl, hgi⟩
          · have HNO : Hid (hh ∉ kv.map (·.1)) := hno
            clear hno
            have hB2 : B ≤ wb.heap.size := HE2.out.2.1
            go_wp2_with (first
              | (at_builtin; refine push_str ?_ (.tmp 58) (.tmp 63) ?_ B (.slice a7 kv.length k7) kv.length ((kv.map (·.1)).map Value.string) ?_ (.string hh) ?_ wb.heap.size rfl ?_ rfl (by omega) ?_ ?_; rfl; rfl; rfl; exact HR2.out.1; rfl; exact hB2; intro v7 wc ho7 hg7 hat7; obtain ⟨E3, r8, r9⟩ := push7 (HE2.out.alloc _) (HR2.out.alloc _) ho7 hg7; have hB3 : B ≤ wc.heap.size := E3.2.1)
              | (at_builtin; refine push_ptr ?_ (.tmp 65) (.tmp 67) ?_ B (.slice a8 kv.length k8) kv.length (kv.map fun x => ptr x.2) ?_ (ptr p) ?_ wc.heap.size rfl ?_ rfl (by omega) ?_ ?_; rfl; rfl; rfl; exact r8; rfl; exact hB3; intro v8 wd ho8 hg8 hat8))
            go_roundw
            case rel =>
              have r4 := HR2.out.2.2.2
              have hb8 : v9.ownBlock = none ∨ v9.ownBlock ≠ (Value.slice a8 kv.length k8).ownBlock := by
                rcases r4 with h0 | h0
                · cases hv : v9.ownBlock with
                  | none => exact .inl rfl
                  | some g => rw [h0]; exact .inr (by simp)
                · exact .inr (Ne.symm h0)
              refine ⟨k + 1, c + 1, upd f hh (some p), kv ++ [(hh, p)], made1, by omega, by go_num, by omega, by simp; omega, by omega, (E3.alloc _).grown hg8 (tag_of (r8.alloc _) (.inr rfl)), ⟨?_, ?_, ?_, ?_⟩, HP1.out.snoc HNO.out HMEM.out⟩
              · have h1 := (ho7.alloc (.cells #[ptr p] 38)).kept hg8 (rows_apart ho7 r8 (by decide))
                simpa using h1
              · simpa using ho8
              · exact (r9.alloc _).kept hg8 hb8
              · rcases hat8 with h1 | h1
                · rw [h1]; exact r4
                · rw [h1]
                  refine .inr fun e2 => ?_
                  obtain ⟨-, cs, h2⟩ := row_tag (r9.alloc (.cells #[ptr p] 38)) _ e2.symm
                  exact Nat.lt_irrefl _ (heap_lt h2)
            case measure => simp [intOf]; omega
          · simp only [List.getElem?_map, Option.map_eq_some_iff] at hgi
            obtain ⟨⟨kk, p0⟩, hgi, rfl⟩ := hgi
            have hil := (List.getElem?_eq_some_iff.1 hgi).1
            obtain ⟨g8, c8, e8, hBg, -⟩ := HR2.out.2.1.form (by omega)
            simp only [Value.slice.injEq, true_and] at e8
            obtain ⟨rfl, rfl⟩ := e8
            have s8 := HR2.out.2.1.cellAt i (by omega)
            rw [List.getElem?_map, hgi] at s8
            simp only [Option.map_some, ptr] at s8
            have z8 := HR2.out.2.1.frozenAt i
            have st8 := HR2.out.2.1.stored i (ptr p)
            have HGI : Hid (kv[i]? = some (kk, p0)) := hgi
            have HST : Hid ((wb.setCell ⟨g8, i, none⟩ (ptr p)).ownsRow B 38 1 (.slice (some ⟨g8, 0, none⟩) kv.length k8) kv.length ((kv.map fun x => ptr x.2).set i (ptr p)) ∧ wb.grownBy (wb.setCell ⟨g8, i, none⟩ (ptr p)) (some g8)) := st8
            clear hgi st8
            go_wp2_with fail
            go_roundw
            case rel =>
              have r4 := HR2.out.2.2.2
              have hg8 := HST.out.2
              have hb9 : v9.ownBlock = none ∨ v9.ownBlock ≠ some g8 := by
                rcases r4 with h0 | h0
                · cases h0
                · exact .inr (Ne.symm h0)
              have hks : (kv.set i (kk, p)).map (·.1) = kv.map (·.1) := by
                rw [List.map_set]
                refine List.ext_getElem? fun j => ?_
                rw [List.getElem?_set]
                split
                · rename_i e9; subst e9
                  split
                  · simp [HGI.out]
                  · rename_i hl; rw [List.getElem?_eq_none (by omega)]
                · rfl
              refine ⟨k + 1, c + 1, upd f kk (some p), kv.set i (kk, p), made1, by omega, by go_num, by omega, by simp; omega, by omega, HE2.out.grown hg8 (tag_of HR2.out.2.1 (.inr rfl)), ⟨?_, ?_, ?_, r4⟩, HP1.out.set HGI.out HMEM.out⟩
              · rw [hks, List.length_set]
                exact HR2.out.1.kept hg8 (rows_apart HR2.out.1 HR2.out.2.1 (by decide))
              · have h1 := HST.out.1
                rw [List.length_set, List.map_set]
                exact h1
              · exact HR2.out.2.2.1.kept hg8 hb9
            case measure => simp [intOf]; omega
        · have hob : (o % 2 == 0) = false := by simpa using ho
          by_cases hme : made.length = 0
          · have hmb : ((made.length : Int) == 0) = true := by simp [hme]
            clear hme
            skip
            have hch := ((HE.out.alloc (.cells #[.int .u8 o, .int .u8 x] 37)).2.2.1).cell (x % 4).toNat (by omega)
            have hhs := hostOf_size (x % 4).toNat
            generalize hostOf (x % 4).toNat = hh at hch hhs
            have hj0 : 0 ≤ x % 4 := by omega
            have hj1 : x % 4 < 4 := by omega
            have htb : tb < wr.heap.size := by obtain ⟨-, mv, h9, -⟩ := HE.out.2.2.2.1; exact heap_lt h9
            go_wp2_with (at_builtin; refine push_ptr ?_ (.tmp 44) (.tmp 46) ?_ B (.slice a9 made.length k9) made.length (made.map fun x => ptr x.1) ?_ (ptr (wr.heap.size + 1)) ?_ (wr.heap.size + 1 + 1) ?_ ?_ rfl (by omega) ?_ ?_; rfl; rfl; rfl; exact (((HR.out.alloc _).alloc _).2.2.1); (simp); rfl; (have := HE.out.2.1; simp; omega); intro v9 wm ho9 hg9 hat9)
            clear hch
            obtain ⟨E1, R1⟩ := push9 (((HE.out.alloc _).alloc _).alloc _) (((HR.out.alloc _).alloc _).alloc _) ho9 hg9 hat9 (peer_new _ _ _ _ hh (by simp) rfl)
            clear ho9 hg9 hat9
            have hpt : ¬ tb = wr.heap.size + 1 := by omega
            have P1 : Plain f kv (made ++ [(wr.heap.size + 1, hh)]) := HP.out.more hhs
            have hpc := (E1.2.2.2.2 (wr.heap.size + 1, hh) (by simp))
            have hlm : (made ++ [(wr.heap.size + 1, hh)]).length = made.length + 1 := by simp
            have hmem : (wr.heap.size + 1, hh) ∈ made ++ [(wr.heap.size + 1, hh)] := by simp
            have HMEM : Hid ((wr.heap.size + 1, hh) ∈ made ++ [(wr.heap.size + 1, hh)]) := hmem
            clear hmem
            generalize made ++ [(wr.heap.size + 1, hh)] = made1 at *
            generalize wr.heap.size + 1 = p at *
            have HE1 : Hid (Env B w wm B tb c f made1) := E1
            have HR1 : Hid (Rows3 B wm (.slice a7 kv.length k7) (.slice a8 kv.length k8) v9 kv made1) := R1
            have HP1 : Hid (Plain f kv made1) := P1
            have HPC : Hid (PeerAt wm p hh) := hpc
            clear E1 R1 P1 hpc
            refine (add_calls B tb c p f hh wm HE1.out.2.2.2.1 hhs HPC.out.cell hpt (by omega) HE1.out.2.1).mono ?_
            rintro e wa ⟨rfl, ht2, T2⟩
            have HE2 : Hid (Env B w wa B tb (c + 1) (upd f hh (some p)) made1) := HE1.out.turn T2 ht2
            have HR2 : Hid (Rows3 B wa (.slice a7 kv.length k7) (.slice a8 kv.length k8) v9 kv made1) := HR1.out.turn T2
            have hpc2 : wa.cell? ⟨p, 5, none⟩ = some (.string hh) := (HPC.out.turn T2).cell
            clear ht2 T2
            go_wp2_with fail
            refine (idx_calls B _ (kv.map (·.1)) hh wa (by rw [List.length_map]; exact HR2.out.1) (by simp; omega)).mono ?_
            rintro e wb ⟨r, rfl, hwb, hi⟩
            subst hwb
            rcases hi with ⟨rfl, hno⟩ | ⟨i, rfl, hgi⟩
            · have HNO : Hid (hh ∉ kv.map (·.1)) := hno
              clear hno
              have hB2 : B ≤ wb.heap.size := HE2.out.2.1
              go_wp2_with (first
                | (at_builtin; refine push_str ?_ (.tmp 58) (.tmp 63) ?_ B (.slice a7 kv.length k7) kv.length ((kv.map (·.1)).map Value.string) ?_ (.string hh) ?_ wb.heap.size rfl ?_ rfl (by omega) ?_ ?_; rfl; rfl; rfl; exact HR2.out.1; rfl; exact hB2; intro v7 wc ho7 hg7 hat7; obtain ⟨E3, r8, r9⟩ := push7 (HE2.out.alloc _) (HR2.out.alloc _) ho7 hg7; have hB3 : B ≤ wc.heap.size := E3.2.1)
                | (at_builtin; refine push_ptr ?_ (.tmp 65) (.tmp 67) ?_ B (.slice a8 kv.length k8) kv.length (kv.map fun x => ptr x.2) ?_ (ptr p) ?_ wc.heap.size rfl ?_ rfl (by omega) ?_ ?_; rfl; rfl; rfl; exact r8; rfl; exact hB3; intro v8 wd ho8 hg8 hat8))
              go_roundw
              case rel =>
                have r4 := HR2.out.2.2.2
                have hb8 : v9.ownBlock = none ∨ v9.ownBlock ≠ (Value.slice a8 kv.length k8).ownBlock := by
                  rcases r4 with h0 | h0
                  · cases hv : v9.ownBlock with
                    | none => exact .inl rfl
                    | some g => rw [h0]; exact .inr (by simp)
                  · exact .inr (Ne.symm h0)
                refine ⟨k + 1, c + 1, upd f hh (some p), kv ++ [(hh, p)], made1, by omega, by go_num, by omega, by simp; omega, by omega, (E3.alloc _).grown hg8 (tag_of (r8.alloc _) (.inr rfl)), ⟨?_, ?_, ?_, ?_⟩, HP1.out.snoc HNO.out HMEM.out⟩
                · have h1 := (ho7.alloc (.cells #[ptr p] 38)).kept hg8 (rows_apart ho7 r8 (by decide))
                  simpa using h1
                · simpa using ho8
                · exact (r9.alloc _).kept hg8 hb8
                · rcases hat8 with h1 | h1
                  · rw [h1]; exact r4
                  · rw [h1]
                    refine .inr fun e2 => ?_
                    obtain ⟨-, cs, h2⟩ := row_tag (r9.alloc (.cells #[ptr p] 38)) _ e2.symm
                    exact Nat.lt_irrefl _ (heap_lt h2)
              case measure => simp [intOf]; omega
            · simp only [List.getElem?_map, Option.map_eq_some_iff] at hgi
              obtain ⟨⟨kk, p0⟩, hgi, rfl⟩ := hgi
              have hil := (List.getElem?_eq_some_iff.1 hgi).1
              obtain ⟨g8, c8, e8, hBg, -⟩ := HR2.out.2.1.form (by omega)
              simp only [Value.slice.injEq, true_and] at e8
              obtain ⟨rfl, rfl⟩ := e8
              have s8 := HR2.out.2.1.cellAt i (by omega)
              rw [List.getElem?_map, hgi] at s8
              simp only [Option.map_some, ptr] at s8
              have z8 := HR2.out.2.1.frozenAt i
              have st8 := HR2.out.2.1.stored i (ptr p)
              have HGI : Hid (kv[i]? = some (kk, p0)) := hgi
              have HST : Hid ((wb.setCell ⟨g8, i, none⟩ (ptr p)).ownsRow B 38 1 (.slice (some ⟨g8, 0, none⟩) kv.length k8) kv.length ((kv.map fun x => ptr x.2).set i (ptr p)) ∧ wb.grownBy (wb.setCell ⟨g8, i, none⟩ (ptr p)) (some g8)) := st8
              clear hgi st8
              go_wp2_with fail
              go_roundw
              case rel =>
                have r4 := HR2.out.2.2.2
                have hg8 := HST.out.2
                have hb9 : v9.ownBlock = none ∨ v9.ownBlock ≠ some g8 := by
                  rcases r4 with h0 | h0
                  · cases h0
                  · exact .inr (Ne.symm h0)
                have hks : (kv.set i (kk, p)).map (·.1) = kv.map (·.1) := by
                  rw [List.map_set]
                  refine List.ext_getElem? fun j => ?_
                  rw [List.getElem?_set]
                  split
                  · rename_i e9; subst e9
                    split
                    · simp [HGI.out]
                    · rename_i hl; rw [List.getElem?_eq_none (by omega)]
                  · rfl
                refine ⟨k + 1, c + 1, upd f kk (some p), kv.set i (kk, p), made1, by omega, by go_num, by omega, by simp; omega, by omega, HE2.out.grown hg8 (tag_of HR2.out.2.1 (.inr rfl)), ⟨?_, ?_, ?_, r4⟩, HP1.out.set HGI.out HMEM.out⟩
                · rw [hks, List.length_set]
                  exact HR2.out.1.kept hg8 (rows_apart HR2.out.1 HR2.out.2.1 (by decide))
                · have h1 := HST.out.1
                  rw [List.length_set, List.map_set]
                  exact h1
                · exact HR2.out.2.2.1.kept hg8 hb9
              case measure => simp [intOf]; omega
          · skip
            have hml : 0 < made.length := by omega
            have hmb : ((made.length : Int) == 0) = false := beq_eq_false_iff_ne.2 (by omega)
            have hj0 : 0 ≤ x % (made.length : Int) := Int.emod_nonneg _ (by omega)
            have hj1 : x % (made.length : Int) < made.length := Int.emod_lt_of_pos _ (by omega)
            obtain ⟨g9, c9, e9, hBg9, -⟩ := HR.out.2.2.1.form hml
            simp only [Value.slice.injEq, true_and] at e9
            obtain ⟨rfl, rfl⟩ := e9
            obtain ⟨j, hj⟩ := Int.eq_ofNat_of_zero_le hj0
            have hjl : j < made.length := by omega
            have hgj : made[j]? = some made[j] := List.getElem?_eq_getElem hjl
            have s9 := (HR.out.2.2.1.alloc (.cells #[.int .u8 o, .int .u8 x] 37)).cellAt j (by omega)
            rw [List.getElem?_map, hgj] at s9
            have hmem := List.getElem_mem hjl
            generalize made[j] = ph at *
            obtain ⟨p, hh⟩ := ph
            simp only [Option.map_some, ptr] at s9
            have HPC : Hid (PeerAt (wr.alloc (.cells #[.int .u8 o, .int .u8 x] 37)) p hh) := (HE.out.alloc _).2.2.2.2 _ hmem
            have hhs := HP.out.2.2.2 _ hmem
            have hml' : ¬ ((made.length : Int) = 0) := by omega
            clear hgj
            go_wp2_with fail
            refine (remove_calls B tb c p f hh _ (HE.out.alloc _).2.2.2.1 hhs HPC.out (fun q hq => by obtain ⟨y, hy⟩ := HP.out.2.2.1 _ (HP.out.1.some hq); exact ⟨y, (HE.out.alloc _).2.2.2.2 _ hy⟩) (HE.out.alloc _).2.1).mono ?_
            rintro e wa ⟨rfl, ht2, T2⟩
            have HE2 : Hid (Env B w wa B tb c (cutOf f hh p) made) := (HE.out.alloc _).turn T2 ht2
            have HR2 : Hid (Rows3 B wa (.slice a7 kv.length k7) (.slice a8 kv.length k8) (.slice (some ⟨g9, 0, none⟩) made.length k9) kv made) := (HR.out.alloc _).turn T2
            have HPC2 : Hid (PeerAt wa p hh) := HPC.out.turn T2
            have hpc2 : wa.cell? ⟨p, 5, none⟩ = some (.string hh) := HPC2.out.cell
            clear ht2 T2
            go_wp2_with fail
            refine (idx_calls B _ (kv.map (·.1)) hh wa (by rw [List.length_map]; exact HR2.out.1) (by simp; omega)).mono ?_
            rintro e wb ⟨r, rfl, hwb, hi⟩
            subst hwb
            rcases hi with ⟨rfl, hno⟩ | ⟨i, rfl, hgi⟩
            · have HNO : Hid (hh ∉ kv.map (·.1)) := hno
              clear hno
              go_wp2_with fail
              go_roundw
              case rel => exact ⟨k + 1, c, cutOf f hh p, kv, made, by omega, by go_num, by omega, by omega, by omega, HE2.out, HR2.out, HP.out.keep (by rw [HP.out.1.2 _ HNO.out]; simp)⟩
              case measure => simp [intOf]; omega
            · simp only [List.getElem?_map, Option.map_eq_some_iff] at hgi
              obtain ⟨⟨kk, p0⟩, hgi, rfl⟩ := hgi
              have hil := (List.getElem?_eq_some_iff.1 hgi).1
              obtain ⟨g8, c8, e8, hBg, -⟩ := HR2.out.2.1.form (by omega)
              simp only [Value.slice.injEq, true_and] at e8
              obtain ⟨rfl, rfl⟩ := e8
              obtain ⟨g7, c7, e7, hBg7, -⟩ := HR2.out.1.form (by omega)
              simp only [Value.slice.injEq, true_and] at e7
              obtain ⟨rfl, rfl⟩ := e7
              have s8 := HR2.out.2.1.cellAt i (by omega)
              rw [List.getElem?_map, hgi] at s8
              simp only [Option.map_some, ptr] at s8
              have HGI : Hid (kv[i]? = some (kk, p0)) := hgi
              have heq : (binOp .eql 38 (.pointer (some ⟨p0, 0, none⟩)) (.pointer (some ⟨p, 0, none⟩))).run Yba.prog wb = .ok (.bool (decide (some p0 = some p))) wb :=
                eq_ptr (o := some p0) HPC2.out (fun q hq => by cases hq; obtain ⟨y, hy⟩ := HP.out.2.2.1 _ (List.mem_of_getElem? hgi); exact ⟨y, HE2.out.2.2.2.2 _ hy⟩)
              clear hgi
              by_cases hpp : p0 = p
              · subst hpp
                rw [decide_eq_true rfl] at heq
                have hi0 : (0 : Int) ≤ i := by omega
                have hi1 : (i : Int) ≤ kv.length := by omega
                have hi2 : (i : Int) + 1 ≤ kv.length := by omega
                have hw1 : IntKind.i64.wrap ((i : Int) + 1) = i + 1 := by rw [IntKind.wrap_i64] <;> omega
                have hcap7 := cap_of HR2.out.1
                have hcap8 := cap_of HR2.out.2.1
                obtain ⟨ad7, hsl7, had7⟩ := slice_tail34 g7 i kv.length k7 hil hcap7
                obtain ⟨ad8, hsl8, had8⟩ := slice_tail35 g8 i kv.length k8 hil hcap8
                have hik7 : (i : Int) ≤ k7 := by omega
                have hik8 : (i : Int) ≤ k8 := by omega
                go_wp2_with fail
                go_region_held3 (fun _ => True) (trivial) (first | (refine step_erase 34 9 Yba.underlying34 Yba.size9' rfl _ _ rfl B g7 kv.length k7 i _ ((kv.map (·.1)).map Value.string) ad7 HR2.out.1.drew hil rfl rfl had7 ?_ ?_; (intro u hu; obtain ⟨y, -, rfl⟩ := List.mem_map.1 hu; rfl); intro wc ho7 hg7))
                have r8 := HR2.out.2.1.drew.kept hg7 (rows_apart HR2.out.2.1 HR2.out.1 (by decide))
                have r9 := HR2.out.2.2.1.drew.kept hg7 (rows_apart HR2.out.2.2.1 HR2.out.1 (by decide))
                have E3 := HE2.out.drew.grown hg7 (tag_of HR2.out.1.drew (.inl rfl))
                go_wp2_with fail
                go_region_held3 (fun _ => True) (trivial) (first | (refine step_erase 35 38 Yba.underlying35 Yba.size38' rfl _ _ rfl B g8 kv.length k8 i _ (kv.map fun x => ptr x.2) ad8 r8.drew hil rfl rfl had8 ?_ ?_; (intro u hu; obtain ⟨y, -, rfl⟩ := List.mem_map.1 hu; rfl); intro wd ho8 hg8))
                go_wp2_with fail
                go_roundw
                case rel =>
                  have r4 := HR2.out.2.2.2
                  have hb9 : (Value.slice (some ⟨g9, 0, none⟩) made.length k9).ownBlock = none ∨ (Value.slice (some ⟨g9, 0, none⟩) made.length k9).ownBlock ≠ some g8 := by
                    rcases r4 with h0 | h0
                    · cases h0
                    · exact .inr (Ne.symm h0)
                  have hle : (kv.eraseIdx i).length = kv.length - 1 := List.length_eraseIdx_of_lt hil
                  refine ⟨k + 1, c, cutOf f kk p0, kv.eraseIdx i, made, by omega, by go_num, by omega, by omega, by omega, E3.drew.grown hg8 (tag_of r8.drew (.inr rfl)), ⟨?_, ?_, r9.drew.kept hg8 hb9, r4⟩, HP.out.cut HGI.out⟩
                  · have h1 := ho7.drew.kept hg8 (rows_apart ho7 r8 (by decide))
                    rw [hle]
                    simpa [List.eraseIdx_eq_take_drop_succ] using h1
                  · rw [hle]
                    simpa [List.eraseIdx_eq_take_drop_succ] using ho8
                case measure => simp [intOf]; omega
              · rw [decide_eq_false (by simpa using hpp)] at heq
                go_wp2_with fail
                go_roundw
                case rel => exact ⟨k + 1, c, cutOf f kk p, kv, made, by omega, by go_num, by omega, by omega, by omega, HE2.out, HR2.out, HP.out.keep (by rw [HP.out.1.1 kk p0 (List.mem_of_getElem? HGI.out)]; simpa using hpp)⟩
                case measure => simp [intOf]; omega
      · have hk' : k = ops.length := by omega
        subst hk'
        have HR : Hid (Rows3 B wr u7 u8 u9 kv made) := hR
        clear hR
        have hpk : ∀ x ∈ kv, ∃ h, PeerAt wr x.2 h := fun x hx => by obtain ⟨y, hy⟩ := HP.out.2.2.1 x hx; exact ⟨y, HE.out.2.2.2.2 _ hy⟩
        have HPK : Hid (∀ x ∈ kv, ∃ h, PeerAt wr x.2 h) := hpk
        clear hpk
        have hck : ∀ h : ByteArray, h.size ≤ maxLen → Calls Yba.prog 8 #[.pointer (some ⟨tb, 0, none⟩), u7, u8, .string h] wr fun e w' => e = .returned (.bool true) ∧ w' = wr :=
          fun h hs => check_calls B tb c f u7 u8 kv h wr HE.out.2.2.2.1 hs (by omega) (by rw [List.length_map]; exact HR.out.1) HR.out.2.1 HP.out.1 HPK.out
        have HCK : Hid (∀ h : ByteArray, h.size ≤ maxLen → Calls Yba.prog 8 #[.pointer (some ⟨tb, 0, none⟩), u7, u8, .string h] wr fun e w' => e = .returned (.bool true) ∧ w' = wr) := hck
        clear hck
        go_wp2_with fail
        go_loop [16] (fun i => ∃ j : Nat, j ≤ 4 ∧ i = .int .i64 j) (fun i => 4 - (intOf i).toNat)
        case atStart => exact ⟨0, by omega, rfl⟩
        case round =>
          obtain ⟨j, hj, rfl⟩ := hrel
          by_cases hj4 : j < 4
          · have hcell := HE.out.2.2.1.cell j hj4
            have hjI : (j : Int) < 4 := by omega
            have hjs := hostOf_size j
            generalize hostOf j = hh at *
            go_wp2_with fail
            refine (HCK.out hh hjs).mono ?_
            rintro e w9 ⟨rfl, hw9⟩
            have hw8 := hw9.symm
            clear hw9
            subst hw8
            go_wp2_with fail
            go_round
            case rel => exact ⟨j + 1, by omega, by go_num⟩
            case measure => simp [intOf]; omega
          · have hj5 : j = 4 := by omega
            subst hj5
            go_wp2_with fail
            refine (HCK.out q hq).mono ?_
            rintro e w9 ⟨rfl, hw9⟩
            have hw8 := hw9.symm
            clear hw9
            subst hw8
            go_wp2_with fail
            refine (HCK.out q hq).mono ?_
            rintro e w9 ⟨rfl, hw9⟩
            have hw8 := hw9.symm
            clear hw9
            subst hw8
            go_wp2_with fail
            go_ret
            exact ⟨rfl, by rw [HB.out]; exact HE.out.1⟩

end Go.Proofs.Ybulkaroi
