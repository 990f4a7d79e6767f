import Derived.Test.YbulkaroiDoorRule
set_option linter.unusedVariables false
namespace Go.Proofs.YbulkaroiDoor
open Go.RowKit Go.Deep

/-- Which Filter-Install a rule's flows carry. -/
def markOf (feat dq da : Int) (r : Rule) : Option Int :=
  if (bits BinOp.and IntKind.u32 feat 1 == 0) = true then none else if r.media = false then none else some (if r.qci = dq ∧ r.arp = some da then 1 else 0)

/-- What a function that gives back such a mark leaves. -/
def GaveMark (w : World) (o : Option Int) (e : Ending) (w' : World) : Prop :=
  ∃ a, e = .returned (.pointer a) ∧ OptU w' w'.heap.size (.pointer a) o ∧ Below w.heap.size w w'

set_option maxHeartbeats 1000000 in
theorem sess_calls (feat dq da : Int) (w : World) :
    Calls Ybad.prog 8 #[.int .u32 feat, .int .u32 dq, .int .u32 da] w fun e w' =>
      e = .returned (.agg #[.string ⟨#[]⟩, .pointer (some ⟨w.heap.size + 1, 0, none⟩), .int .u32 feat, .int .u64 0, .int .u64 0, .pointer none, .int .u64 0, .int .u64 0, .pointer none, .int .u8 0, .string ⟨#[]⟩, .string ⟨#[]⟩, .string ⟨#[]⟩, .bool false, .pointer none, .pointer none, .slice none 0 0]) ∧ Below w.heap.size w w' ∧ w'.cell? ⟨w.heap.size + 1, 0, none⟩ = some (.int .u32 dq) ∧ w'.cell? ⟨w.heap.size + 1, 1, none⟩ = some (.int .u32 da) := by
  go_enter Ybad.func8, Ybad.ntmps8
  go_wp2_with fail
  refine bodyPost_ret (v := .agg #[.string ⟨#[]⟩, .pointer (some ⟨w.heap.size + 1, 0, none⟩), .int .u32 feat, .int .u64 0, .int .u64 0, .pointer none, .int .u64 0, .int .u64 0, .pointer none, .int .u8 0, .string ⟨#[]⟩, .string ⟨#[]⟩, .string ⟨#[]⟩, .bool false, .pointer none, .pointer none, .slice none 0 0]) (by simp [results, Ybad.results8, go_sem]) rfl ?_
  refine ⟨rfl, ((Below.refl _ _).alloc (Nat.le_refl _) _).alloc (by simp) _, ?_, ?_⟩
  · go_simp
  · go_simp

set_option maxHeartbeats 2000000 in
theorem filter_calls (r : Rule) (feat dq da : Int) (b : Nat) (afs aarp amu amd agu agd ared : Option Addr) (fp : Option Addr) (fk : Nat) (w : World) (hb0 : w.cell? ⟨b, 0, none⟩ = some (.int .u32 dq)) (hb1 : w.cell? ⟨b, 1, none⟩ = some (.int .u32 da)) (harp : OptU w w.heap.size (.pointer aarp) r.arp) :
    Calls Ybad.prog 15 #[.agg #[.string ⟨#[]⟩, .pointer (some ⟨b, 0, none⟩), .int .u32 feat, .int .u64 0, .int .u64 0, .pointer none, .int .u64 0, .int .u64 0, .pointer none, .int .u8 0, .string ⟨#[]⟩, .string ⟨#[]⟩, .string ⟨#[]⟩, .bool false, .pointer none, .pointer none, .slice none 0 0], .agg #[.string r.name, .int .u32 r.prec, .int .u32 r.rg, .slice fp r.flows.length fk, .bool r.media, .pointer afs, .int .u32 r.qci, .pointer aarp, .pointer amu, .pointer amd, .pointer agu, .pointer agd, .pointer ared]] w fun e w' => GaveMark w (markOf feat dq da r) e w' := by
  have l0 : b < w.heap.size := block_lt_of_cell hb0
  have l1 : b < w.heap.size + 1 := by omega
  have l2 : b < w.heap.size + 1 + 1 := by omega
  have l3 : b < w.heap.size + 1 + 1 + 1 := by omega
  cases htb : (bits BinOp.and IntKind.u32 feat 1 == 0)
  · cases hmd : r.media
    · have hm : markOf feat dq da r = none := by unfold markOf; rw [htb, hmd]; rfl
      have HM : Hid (markOf feat dq da r = none) := hm
      clear hm
      go_enter Ybad.func15, Ybad.ntmps15
      go_wp2_with fail
      go_ret
      exact ⟨none, rfl, .inl ⟨HM.out, rfl⟩, by repeat (first | exact Below.refl _ _ | exact ((Below.refl _ _).alloc (Nat.le_refl _) _).alloc (by simp) _)⟩
    · have hm : markOf feat dq da r = some (if r.qci = dq ∧ r.arp = some da then 1 else 0) := by unfold markOf; rw [htb, hmd]; rfl
      have HM : Hid (markOf feat dq da r = some (if r.qci = dq ∧ r.arp = some da then 1 else 0)) := hm
      clear hm
      by_cases hq : r.qci = dq
      · have hqb : (r.qci == dq) = true := by simpa using hq
        have HQ : Hid (r.qci = dq) := hq
        clear hq
        rcases harp with ⟨hn, hp⟩ | ⟨ab, ax, hn, hp, c0, c1, c2, c3⟩ <;> (simp only [Value.pointer.injEq] at hp; subst hp)
        · have HN : Hid (r.arp = none) := hn
          clear hn
          go_enter Ybad.func15, Ybad.ntmps15
          go_wp2_with fail
          go_quiet (fail)
          go_wp2_with fail
          go_ret
          exact ⟨some ⟨w.heap.size + 1 + 1, 0, none⟩, rfl, .inr ⟨w.heap.size + 1 + 1, 0, by rw [HM.out, HN.out]; simp, rfl, by go_simp, by simp, by decide, by decide⟩, below_drewN ((((Below.refl _ _).alloc (Nat.le_refl _) _).alloc (by simp) _).alloc (by simp; omega) _ |>.alloc (by simp; omega) _) _⟩
        · have HN : Hid (r.arp = some ax) := hn
          have a1 : ab < w.heap.size + 1 := by omega
          have a2 : ab < w.heap.size + 1 + 1 := by omega
          have a3 : ab < w.heap.size + 1 + 1 + 1 := by omega
          clear hn
          by_cases hx : ax = da
          · have hxb : (ax == da) = true := by simpa using hx
            have HX : Hid (ax = da) := hx
            clear hx
            go_enter Ybad.func15, Ybad.ntmps15
            go_wp2_with fail
            go_quiet (fail)
            go_wp2_with fail
            go_ret
            exact ⟨some ⟨w.heap.size + 1 + 1, 0, none⟩, rfl, .inr ⟨w.heap.size + 1 + 1, 1, by rw [HM.out, HN.out, HX.out]; simp [HQ.out], rfl, by go_simp, by simp, by decide, by decide⟩, (below_drewN ((((Below.refl _ _).alloc (Nat.le_refl _) _).alloc (by simp) _).alloc (by simp; omega) _ |>.alloc (by simp; omega) _) _).setCell (by simp; omega) _⟩
          · have hxb : (ax == da) = false := by simpa using hx
            have HX : Hid (¬ ax = da) := hx
            clear hx
            go_enter Ybad.func15, Ybad.ntmps15
            go_wp2_with fail
            go_quiet (fail)
            go_wp2_with fail
            go_ret
            exact ⟨some ⟨w.heap.size + 1 + 1, 0, none⟩, rfl, .inr ⟨w.heap.size + 1 + 1, 0, by rw [HM.out, HN.out]; simp [HX.out], rfl, by go_simp, by simp, by decide, by decide⟩, below_drewN ((((Below.refl _ _).alloc (Nat.le_refl _) _).alloc (by simp) _).alloc (by simp; omega) _ |>.alloc (by simp; omega) _) _⟩
      · have hqb : (r.qci == dq) = false := by simpa using hq
        have HQ : Hid (¬ r.qci = dq) := hq
        clear hq
        go_enter Ybad.func15, Ybad.ntmps15
        go_wp2_with fail
        go_quiet (fail)
        go_wp2_with fail
        go_ret
        exact ⟨some ⟨w.heap.size + 1 + 1, 0, none⟩, rfl, .inr ⟨w.heap.size + 1 + 1, 0, by rw [HM.out]; simp [HQ.out], rfl, by go_simp, by simp, by decide, by decide⟩, below_drewN ((((Below.refl _ _).alloc (Nat.le_refl _) _).alloc (by simp) _).alloc (by simp; omega) _ |>.alloc (by simp; omega) _) _⟩
  · have hm : markOf feat dq da r = none := by unfold markOf; rw [htb]; rfl
    have HM : Hid (markOf feat dq da r = none) := hm
    clear hm
    go_enter Ybad.func15, Ybad.ntmps15
    go_wp2_with fail
    go_ret
    exact ⟨none, rfl, .inl ⟨HM.out, rfl⟩, by repeat (first | exact Below.refl _ _ | exact ((Below.refl _ _).alloc (Nat.le_refl _) _).alloc (by simp) _)⟩

set_option maxHeartbeats 2000000 in
theorem mark_calls (r : Rule) (feat dq da : Int) (b : Nat) (afs aarp amu amd agu agd ared : Option Addr) (fp : Option Addr) (fk : Nat) (w : World) (harp : OptU w w.heap.size (.pointer aarp) r.arp) :
    Calls Ybad.prog 10 #[.int .u32 feat, .int .u32 dq, .int .u32 da, .agg #[.string r.name, .int .u32 r.prec, .int .u32 r.rg, .slice fp r.flows.length fk, .bool r.media, .pointer afs, .int .u32 r.qci, .pointer aarp, .pointer amu, .pointer amd, .pointer agu, .pointer agd, .pointer ared]] w fun e w' => GaveMark w (markOf feat dq da r) e w' := by
  cases htb : (bits BinOp.and IntKind.u32 feat 1 == 0)
  · cases hmd : r.media
    · have hm : markOf feat dq da r = none := by unfold markOf; rw [htb, hmd]; rfl
      have HM : Hid (markOf feat dq da r = none) := hm
      clear hm
      go_enter Ybad.func10, Ybad.ntmps10
      go_wp2_with fail
      go_ret
      exact ⟨none, rfl, .inl ⟨HM.out, rfl⟩, (Below.refl _ _).alloc (Nat.le_refl _) _⟩
    · have hm : markOf feat dq da r = some (if r.qci = dq ∧ r.arp = some da then 1 else 0) := by unfold markOf; rw [htb, hmd]; rfl
      have HM : Hid (markOf feat dq da r = some (if r.qci = dq ∧ r.arp = some da then 1 else 0)) := hm
      clear hm
      by_cases hq : r.qci = dq
      · have hqb : (r.qci == dq) = true := by simpa using hq
        have HQ : Hid (r.qci = dq) := hq
        clear hq
        rcases harp with ⟨hn, hp⟩ | ⟨ab, ax, hn, hp, c0, c1, c2, c3⟩ <;> (simp only [Value.pointer.injEq] at hp; subst hp)
        · have HN : Hid (r.arp = none) := hn
          clear hn
          go_enter Ybad.func10, Ybad.ntmps10
          go_wp2_with fail
          skip
          go_ret
          exact ⟨some ⟨w.heap.size + 1, 0, none⟩, rfl, .inr ⟨w.heap.size + 1, 0, by rw [HM.out, HN.out]; simp, rfl, by go_simp, by simp, by decide, by decide⟩, ((Below.refl _ _).alloc (Nat.le_refl _) _).alloc (by simp) _⟩
        · have HN : Hid (r.arp = some ax) := hn
          have a1 : ab < w.heap.size + 1 := by omega
          have a2 : ab < w.heap.size + 1 + 1 := by omega
          have a3 : ab < w.heap.size + 1 + 1 + 1 := by omega
          clear hn
          by_cases hx : ax = da
          · have hxb : (ax == da) = true := by simpa using hx
            have HX : Hid (ax = da) := hx
            clear hx
            go_enter Ybad.func10, Ybad.ntmps10
            go_wp2_with fail
            skip
            go_ret
            exact ⟨some ⟨w.heap.size + 1, 0, none⟩, rfl, .inr ⟨w.heap.size + 1, 1, by rw [HM.out, HN.out, HX.out]; simp [HQ.out], rfl, by go_simp, by simp, by decide, by decide⟩, ((Below.refl _ _).alloc (Nat.le_refl _) _).alloc (by simp) _⟩
          · have hxb : (ax == da) = false := by simpa using hx
            have HX : Hid (¬ ax = da) := hx
            clear hx
            go_enter Ybad.func10, Ybad.ntmps10
            go_wp2_with fail
            skip
            go_ret
            exact ⟨some ⟨w.heap.size + 1, 0, none⟩, rfl, .inr ⟨w.heap.size + 1, 0, by rw [HM.out, HN.out]; simp [HX.out], rfl, by go_simp, by simp, by decide, by decide⟩, ((Below.refl _ _).alloc (Nat.le_refl _) _).alloc (by simp) _⟩
      · have hqb : (r.qci == dq) = false := by simpa using hq
        have HQ : Hid (¬ r.qci = dq) := hq
        clear hq
        go_enter Ybad.func10, Ybad.ntmps10
        go_wp2_with fail
        skip
        go_ret
        exact ⟨some ⟨w.heap.size + 1, 0, none⟩, rfl, .inr ⟨w.heap.size + 1, 0, by rw [HM.out]; simp [HQ.out], rfl, by go_simp, by simp, by decide, by decide⟩, ((Below.refl _ _).alloc (Nat.le_refl _) _).alloc (by simp) _⟩
  · have hm : markOf feat dq da r = none := by unfold markOf; rw [htb]; rfl
    have HM : Hid (markOf feat dq da r = none) := hm
    clear hm
    go_enter Ybad.func10, Ybad.ntmps10
    go_wp2_with fail
    go_ret
    exact ⟨none, rfl, .inl ⟨HM.out, rfl⟩, (Below.refl _ _).alloc (Nat.le_refl _) _⟩


end Go.Proofs.YbulkaroiDoor
