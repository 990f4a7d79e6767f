import Derived.Test.YbulkarscState
set_option linter.unusedVariables false
namespace Go.Proofs.Ybulkarsc
open Go.RowKit Go.Deep

/-- The steps that came in. -/
def OpsAt (w : World) (sp : Option Addr) (ops : List (Int × Int)) : Prop :=
  ∀ i o h, ops[i]? = some (o, h) → (0 ≤ o ∧ o ≤ 255) ∧ (0 ≤ h ∧ h ≤ 65535) ∧ ∃ b off, sp = some ⟨b, off, none⟩ ∧ b < w.heap.size ∧ w.cell? ⟨b, off + i * 2, none⟩ = some (.int .u8 o) ∧ w.cell? ⟨b, off + i * 2 + 1, none⟩ = some (.int .u16 h)

/-- What holds ahead of every step. -/
def LInv (B : Nat) (w0 : World) (qb lb n : Nat) (v5 v6 v7 v8 : Value) (w : World) : Prop :=
  ∃ (k mh nx : Nat) (vl : Value) (tv : Nat → Value), k ≤ n ∧ v8 = .int .i64 k ∧ v6 = .int .i64 mh ∧ v7 = .int .i64 nx ∧ nx ≤ 1141 * k ∧ St B w0 w qb lb tv mh nx mh nx vl v5

/-- What holds ahead of every push. -/
def PInv (B : Nat) (w0 : World) (qb lb cnt mh nx : Nat) (vl v5 v7 v11 : Value) (w : World) : Prop :=
  ∃ (j n : Nat) (tv : Nat → Value), j ≤ cnt ∧ v11 = .int .i64 j ∧ v7 = .int .i64 n ∧ n = nx + j ∧ St B w0 w qb lb tv mh n mh n vl v5

/-- What holds ahead of every pop. -/
def OInv (B : Nat) (w0 : World) (qb lb cnt nx : Nat) (tv : Nat → Value) (v5 v6 v12 : Value) (w : World) : Prop :=
  ∃ (j mh : Nat) (vl : Value), j ≤ cnt ∧ v12 = .int .i64 j ∧ v6 = .int .i64 mh ∧ St B w0 w qb lb tv mh nx mh nx vl v5

theorem row_slice {w : World} {B n : Nat} {v : Value} {xs : List Value} (h : w.ownsRow B 3 1 v n xs) : ∃ p c, v = .slice p n c := by
  rcases h.2 with ⟨rfl, e⟩ | ⟨g, cap, cur, rfl, -⟩
  · exact ⟨_, _, by rw [e]⟩
  · exact ⟨_, _, rfl⟩

theorem neq_nil (w : World) : (binOp .neq 71 .nilFunc .nilFunc).run Yba.prog w = .ok (.bool false) w := by
  have h : ∀ d : Nat, (Op.equalIn (d + 1) 71 .nilFunc .nilFunc).run Yba.prog w = .ok true w := fun d => by
    simp [Op.equalIn, run_underlying Yba.underlying71]
  simp only [binOp]
  simp [Op.equal, Op.maxDepth, h 9999]
theorem eql_func (fn : Fn) (x y : Array Value) (w : World) : (binOp .eql 71 (.func fn x y) .nilFunc).run Yba.prog w = .ok (.bool false) w := by
  have h : ∀ d : Nat, (Op.equalIn (d + 1) 71 (.func fn x y) .nilFunc).run Yba.prog w = .ok false w := fun d => by
    simp [Op.equalIn, run_underlying Yba.underlying71]
  simp only [binOp]
  simp [Op.equal, Op.maxDepth, h 9999]

set_option maxRecDepth 100000 in
set_option maxHeartbeats 4000000 in
theorem fifo_walk (sp : Option Addr) (cap : Nat) (ops : List (Int × Int)) (w : World) (hat : OpsAt w sp ops) :
    Calls Yba.prog 7 #[.slice sp ops.length cap] w fun e w' => e = .returned (.bool true) ∧ Below w.heap.size w w' := by
  have HAT : Hid (OpsAt w sp ops) := hat
  clear hat
  go_enter Yba.func7, Yba.ntmps7
  by_cases hbig : 256 < ops.length
  · have hbig' : (256 : Int) < ops.length := by omega
    go_wp2_with fail
    go_ret
    exact ⟨rfl, Below.refl _ _⟩
  · have hn : ops.length ≤ 256 := by omega
    go_wp2_with fail
    have S0 : St w.heap.size w ((w.alloc (.cells (qcells none none 0 0 0) 56)).alloc (.cells #[.slice none 0 0] 78)) w.heap.size (w.heap.size + 1) (fun _ => .nilFunc) 0 0 0 0 (.slice none 0 0) (.slice none 0 0) := by
      refine ⟨((Below.refl _ _).alloc (Nat.le_refl _) _).alloc (by simp) _, by simp; omega, by omega, .inl ⟨Nat.le_refl _, rfl, rfl, ?_⟩, fun id h1 h2 => by omega, ?_, ⟨rfl, .inl ⟨rfl, rfl⟩⟩, ⟨rfl, .inl ⟨rfl, rfl⟩⟩, fun b e => by cases e⟩
      · exact (blk_alloc_lt _ _ _ (by simp)).trans (blk_alloc_new _ _)
      · have := blk_alloc_new (w.alloc (.cells (qcells none none 0 0 0) 56)) (.cells #[.slice none 0 0] 78)
        rw [World.size_alloc] at this
        exact this
    have HI : Hid (LInv w.heap.size w w.heap.size (w.heap.size + 1) ops.length (.slice none 0 0) (.int .i64 0) (.int .i64 0) (.int .i64 0) ((w.alloc (.cells #[.pointer none, .pointer none, .int .i64 0, .int .i64 0, .int .i64 0] 56)).alloc (.cells #[.slice none 0 0] 78))) := ⟨0, 0, 0, _, _, Nat.zero_le _, rfl, rfl, rfl, Nat.zero_le _, S0⟩
    clear S0
    generalize ((w.alloc (.cells #[.pointer none, .pointer none, .int .i64 0, .int .i64 0, .int .i64 0] 56)).alloc (.cells #[.slice none 0 0] 78)) = w1 at *
    generalize hBB : w.heap.size = B at *
    have HB : Hid (w.heap.size = B) := hBB
    clear hBB
    generalize B + 1 = lb at *
    go_loopw [5, 6, 7, 8] (fun v5 v6 v7 v8 wr => LInv B w B lb ops.length v5 v6 v7 v8 wr) (fun _ _ _ v8 _ => ops.length - (intOf v8).toNat)
    case atStart => exact HI.out
    case round =>
      clear HI
      obtain ⟨k, mh, nx, vl, tv, hk, rfl, rfl, rfl, hnx, hS⟩ := hrel
      by_cases hlt : k < ops.length
      · have hget : ops[k]? = some ops[k] := List.getElem?_eq_getElem hlt
        generalize ops[k] = oh at *
        obtain ⟨o, x⟩ := oh
        obtain ⟨⟨ho0, ho1⟩, ⟨hx0, hx1⟩, sb, so, hsp, hsb, hc0, hc1⟩ := HAT.out k o x hget
        subst hsp
        rw [HB.out] at hsb
        have ca : wr.cell? ⟨sb, so + k * 2, none⟩ = some (.int .u8 o) := (hS.bel.cell hsb).trans hc0
        have cb : wr.cell? ⟨sb, so + k * 2 + 1, none⟩ = some (.int .u16 x) := (hS.bel.cell hsb).trans hc1
        clear hc0 hc1 hget
        obtain ⟨cnt, hcnt, hcl⟩ : ∃ c : Nat, x % 20 * 60 + 1 = (c : Int) ∧ c ≤ 1141 := ⟨(x % 20 * 60 + 1).toNat, by omega, by omega⟩
        have HCNT : Hid (x % 20 * 60 + 1 = (cnt : Int)) := hcnt
        clear hcnt
        have HS : Hid (St B w wr B lb tv mh nx mh nx vl u5) := hS
        clear hS
        have wx : IntKind.i64.wrap x = x := by rw [IntKind.wrap_i64]; omega
        obtain ⟨wo, rfl⟩ : ∃ wo : World, wo = wr := ⟨_, rfl⟩
        by_cases ho : o % 2 = 0
        · go_wp2_with fail
          rw [HCNT.out]
          clear ho
          go_loopw [5, 7, 11] (fun v5 v7 v11 wr => PInv B w B lb cnt mh nx vl v5 v7 v11 wr) (fun _ _ v11 _ => cnt - (intOf v11).toNat)
          case atStart => exact ⟨0, nx, tv, Nat.zero_le _, rfl, rfl, rfl, HS.out.alloc _⟩
          case round =>
            clear HS
            obtain ⟨j, n, tv1, hj, rfl, rfl, hjn, hS⟩ := hrel
            have hnb : n ≤ 300000 := by omega
            have HJN : Hid (n = nx + j) := hjn
            clear hjn
            by_cases hjl : j < cnt
            · have hjI : (j : Int) < cnt := by omega
              obtain ⟨tv2, e2, S2, T2⟩ := hS.made
              clear hS
              have HE2 : Hid (tv2 n = task wr.heap.size (wr.heap.size + 1)) := e2
              have HS2 : Hid (St B w ((wr.alloc (.cells #[.pointer (some ⟨lb, 0, none⟩)] 84)).alloc (.cells #[.int .i64 (n : Nat)] 3)) B lb tv2 mh n mh n vl u5) := S2
              have HT2 : Hid (TaskAt ((wr.alloc (.cells #[.pointer (some ⟨lb, 0, none⟩)] 84)).alloc (.cells #[.int .i64 (n : Nat)] 3)) lb vl u5 n (tv2 n)) := T2
              clear e2 S2 T2
              go_wp2_with fail
              refine (cmk_calls lb n wr).mono ?_
              rintro e w2 ⟨rfl, rfl⟩
              go_wp2_with fail
              refine (push_chunks B B mh n tv2 (Fn.func 31) #[] _ _ HS2.out.ch HE2.out (by omega) HS2.out.bs).mono ?_
              rintro e w2 ⟨rfl, hc, T⟩
              have S3 : St B w w2 B lb tv2 mh (n + 1) mh n vl u5 := HS2.out.turn T hc (fun id h1 h2 => by
                by_cases h3 : id < n
                · exact HS2.out.ts id h1 h3
                · have h4 : id = n := by omega
                  subst h4
                  exact HT2.out)
              clear hc T HS2 HT2 HE2
              obtain ⟨v', w3, hr, hp⟩ := run_push 78 B u5 n (ints n) (.int .i64 n) w2.heap.size (w2.alloc (.cells #[.int .i64 n] 3)) (S3.om.alloc _) (blk_alloc_new w2 _) rfl (by omega) (S3.alloc _).bs
              have HS4 : Hid (St B w w3 B lb tv2 mh (n + 1) mh (n + 1) vl v') := S3.model hp
              clear S3 hp
              have wn : IntKind.i64.wrap ((n : Int) + 1) = (n : Int) + 1 := by rw [IntKind.wrap_i64]; omega
              go_wp2_with (at_builtin; refine list_push rfl (.tmp 46) (.tmp 48) rfl u5 (.slice (some ⟨w2.heap.size, 0, none⟩) 1 1) rfl rfl v' w3 hr ?_)
              go_roundw
              case rel => first | exact ⟨j + 1, n + 1, tv2, by omega, by go_num, by go_num, by have := HJN.out; omega, HS4.out⟩ | ((repeat apply Exists.intro); exact ⟨⟨j + 1, n + 1, tv2, by omega, by go_num, by go_num, by have := HJN.out; omega, HS4.out⟩, rfl⟩)
              case measure => simp [intOf]; omega
            · have hj' : j = cnt := by omega
              subst hj'
              have hle := hS.ch.le
              obtain ⟨p5, c5, e5⟩ := row_slice hS.om
              subst e5
              have HS : Hid (St B w wr B lb tv1 mh n mh n vl (.slice p5 n c5)) := hS
              clear hS
              have wn : IntKind.i64.wrap ((n : Int) - mh) = ((n - mh : Nat) : Int) := by rw [IntKind.wrap_i64]; omega
              obtain ⟨ph, pt, a, e, hq⟩ := HS.out.ch.cells
              go_wp2_with fail
              refine (len_calls B a e (n - mh) ph pt _ hq).mono ?_
              rintro e w2 ⟨rfl, rfl⟩
              go_wp2_with fail
              go_roundw
              case rel => exact ⟨k + 1, mh, n, vl, tv1, by omega, by go_num, rfl, rfl, by have := HJN.out; omega, HS.out⟩
              case measure => simp [intOf]; omega
        · have ho2 : (o % 2 == 0) = false := beq_eq_false_iff_ne.2 ho
          clear ho
          go_wp2_with fail
          rw [HCNT.out]
          clear ho2
          obtain ⟨p5, c5, e5⟩ := row_slice HS.out.om
          subst e5
          go_loopw [6, 12] (fun v6 v12 wr => OInv B w B lb cnt nx tv (.slice p5 nx c5) v6 v12 wr) (fun _ v12 _ => cnt - (intOf v12).toNat)
          case atStart => exact ⟨0, mh, vl, Nat.zero_le _, rfl, rfl, HS.out.alloc _⟩
          case round =>
            clear HS
            obtain ⟨j, m, vl1, hj, rfl, rfl, hS⟩ := hrel
            have hle := hS.ch.le
            have hnb : nx ≤ 300000 := by omega
            by_cases hjl : j < cnt
            · have hjI : (j : Int) < cnt := by omega
              by_cases hm : m = nx
              · obtain ⟨ph, pt, a, e, hq⟩ := hS.ch.cells
                rw [hm, Nat.sub_self] at hq
                have hmq : ((m : Int) == nx) = true := by rw [hm]; exact beq_self_eq_true _
                have HS : Hid (St B w wr B lb tv m nx m nx vl1 (.slice p5 nx c5)) := hS
                clear hS hm
                go_wp2_with fail
                refine (pop_none B a e ph pt wr hq).mono ?_
                rintro e w2 ⟨rfl, rfl⟩
                have hnn := neq_nil w2
                go_wp2_with fail
                go_roundw
                case rel => first | exact ⟨j + 1, m, vl1, by omega, by go_num, rfl, HS.out⟩ | ((repeat apply Exists.intro); exact ⟨⟨j + 1, m, vl1, by omega, by go_num, rfl, HS.out⟩, rfl⟩)
                case measure => simp [intOf]; omega
              · have hml : m < nx := by omega
                go_wp2_with fail
                refine (pop_chunks B B m nx tv wr hS.ch hml (by omega)).mono ?_
                rintro e w2 ⟨rfl, hc, T⟩
                obtain ⟨xb, ib, et, q2, q3, q4, q5⟩ := (hS.ts m (Nat.le_refl _) hml).turn T
                have S3 : St B w w2 B lb tv (m + 1) nx m nx vl1 (.slice p5 nx c5) := hS.turn T hc (fun id h1 h2 => hS.ts id (by omega) h2)
                clear hS hc T
                rw [et]
                unfold task
                have hef := eql_func (Fn.func 31) #[] #[.pointer (some ⟨xb, 0, none⟩), .pointer (some ⟨ib, 0, none⟩)] w2
                obtain ⟨p4, c4, e4⟩ := row_slice S3.ol
                subst e4
                have cl : w2.cell? ⟨lb, 0, none⟩ = some (.slice p4 m c4) := by simp [World.cell?, S3.lg]
                have hne : ((m : Int) == nx) = false := beq_eq_false_iff_ne.2 (by omega)
                have HQ : Hid (w2.heap[xb]? = some (.cells #[.pointer (some ⟨lb, 0, none⟩)] 84 (0, 0)) ∧ w2.heap[ib]? = some (.cells #[.int .i64 m] 3 (0, 0))) := ⟨q2, q3⟩
                have HS3 : Hid (St B w w2 B lb tv (m + 1) nx m nx (.slice p4 m c4) (.slice p5 nx c5)) := S3
                clear S3 q2 q3 q4 q5 et
                go_wp2_with fail
                refine (run_calls B lb xb ib m m (.slice p4 m c4) (ints m) w2 HQ.out.1 HQ.out.2 HS3.out.lg HS3.out.ol (by omega) HS3.out.bs).mono ?_
                rintro e w3 ⟨rfl, v', w4, hp, rfl⟩
                have S5 := HS3.out.log hp
                clear hp HQ HS3 cl hef
                obtain ⟨g4, d4, e4, -⟩ := S5.ol.form (by omega)
                subst e4
                obtain ⟨g5, d5, e5, -⟩ := S5.om.form (by omega)
                simp only [Value.slice.injEq, true_and] at e5
                obtain ⟨rfl, rfl⟩ := e5
                have k1 : (w4.setCell ⟨lb, 0, none⟩ (.slice (some ⟨g4, 0, none⟩) (m + 1) d4)).cell? ⟨lb, 0, none⟩ = some (.slice (some ⟨g4, 0, none⟩) (m + 1) d4) := by simp [World.cell?, S5.lg]
                have k2 : (w4.setCell ⟨lb, 0, none⟩ (.slice (some ⟨g4, 0, none⟩) (m + 1) d4)).cell? ⟨g4, m, none⟩ = some (.int .i64 m) := by
                  rw [S5.ol.cellAt m (by omega), ints_get (by omega)]
                have k3 : (w4.setCell ⟨lb, 0, none⟩ (.slice (some ⟨g4, 0, none⟩) (m + 1) d4)).cell? ⟨g5, m, none⟩ = some (.int .i64 m) := by
                  rw [S5.om.cellAt m (by omega), ints_get (by omega)]
                have wm : IntKind.i64.wrap ((m : Int) + 1) = (m : Int) + 1 := by rw [IntKind.wrap_i64]; omega
                have hm1 : (m : Int) < nx := by omega
                have HS5 : Hid (St B w (w4.setCell ⟨lb, 0, none⟩ (.slice (some ⟨g4, 0, none⟩) (m + 1) d4)) B lb tv (m + 1) nx (m + 1) nx (.slice (some ⟨g4, 0, none⟩) (m + 1) d4) (.slice (some ⟨g5, 0, none⟩) nx c5)) := S5
                clear S5
                generalize w4.setCell ⟨lb, 0, none⟩ (.slice (some ⟨g4, 0, none⟩) (m + 1) d4) = w5 at *
                go_wp2_with fail
                go_quiet (fail)
                go_wp2_with fail
                go_roundw
                case rel => first | exact ⟨j + 1, m + 1, _, by omega, by go_num, by go_num, HS5.out.drewN _⟩ | ((repeat apply Exists.intro); exact ⟨⟨j + 1, m + 1, _, by omega, by go_num, by go_num, HS5.out.drewN _⟩, rfl⟩)
                case measure => simp [intOf]; omega
            · have hj' : j = cnt := by omega
              subst hj'
              have HS : Hid (St B w wr B lb tv m nx m nx vl1 (.slice p5 nx c5)) := hS
              clear hS
              have wn : IntKind.i64.wrap ((nx : Int) - m) = ((nx - m : Nat) : Int) := by rw [IntKind.wrap_i64]; omega
              obtain ⟨ph, pt, a, e, hq⟩ := HS.out.ch.cells
              go_wp2_with fail
              refine (len_calls B a e (nx - m) ph pt _ hq).mono ?_
              rintro e w2 ⟨rfl, rfl⟩
              go_wp2_with fail
              go_roundw
              case rel => exact ⟨k + 1, m, nx, vl1, tv, by omega, by go_num, rfl, rfl, by omega, HS.out⟩
              case measure => simp [intOf]; omega
      · have hk' : k = ops.length := by omega
        subst hk'
        have HS : Hid (Below B w wr) := hS.bel
        clear hS
        go_wp2_with fail
        go_ret
        exact ⟨rfl, by rw [HB.out]; exact HS.out⟩

end Go.Proofs.Ybulkarsc
