import Derived.Test.YbulkaroiDoorArp
set_option linter.unusedVariables false
namespace Go.Proofs.YbulkaroiDoor
open Go.RowKit Go.Deep

/-- What a Redirect-Information of a redirection is. -/
def redA (s : ByteArray) (su : Bool) : Avp := mk 22 (allB ([mk 18 (be32 1), mk 19 (be32 2), mk 20 (strB s)] ++ if su then [mk 21 (be32 1)] else []))

set_option maxHeartbeats 1000000 in
theorem red_calls (b : Nat) (s : ByteArray) (su : Bool) (w : World) (hG : Globals w) (hu : w.cell? ⟨b, 1, none⟩ = some (.string s)) (hsu : w.cell? ⟨b, 2, none⟩ = some (.bool su)) (hs : s.size ≤ 100000) :
    Calls Ybad.prog 20 #[.pointer (some ⟨b, 0, none⟩)] w fun e w' => GaveAvp w (redA s su) e w' := by
  obtain ⟨g18a, g18b, g18c⟩ := hG 18 (by decide) (by decide); obtain ⟨g19a, g19b, g19c⟩ := hG 19 (by decide) (by decide); obtain ⟨g20a, g20b, g20c⟩ := hG 20 (by decide) (by decide)
  have HG : Hid (Globals w) := hG
  have HU : Hid (w.cell? ⟨b, 1, none⟩ = some (.string s)) := hu
  have HSU : Hid (w.cell? ⟨b, 2, none⟩ = some (.bool su)) := hsu
  have n22 : (22 : Nat) < w.heap.size := block_lt_of_cell (hG 22 (by decide) (by decide)).1
  have hbl : b < w.heap.size := block_lt_of_cell hu
  clear hG
  go_enter Ybad.func20, Ybad.ntmps20
  go_wp2_with fail
  go_region_held3 (fun w' => w'.cell? ⟨18, 0, none⟩ = some (.int .u32 (gc 18)) ∧ w'.cell? ⟨18, 1, none⟩ = some (.int .u32 (gv 18)) ∧ w'.cell? ⟨18, 2, none⟩ = some (.bool (gm 18)) ∧ w'.cell? ⟨19, 0, none⟩ = some (.int .u32 (gc 19)) ∧ w'.cell? ⟨19, 1, none⟩ = some (.int .u32 (gv 19)) ∧ w'.cell? ⟨19, 2, none⟩ = some (.bool (gm 19)) ∧ w'.cell? ⟨20, 0, none⟩ = some (.int .u32 (gc 20)) ∧ w'.cell? ⟨20, 1, none⟩ = some (.int .u32 (gv 20)) ∧ w'.cell? ⟨20, 2, none⟩ = some (.bool (gm 20)) ∧ w'.cell? ⟨b, 1, none⟩ = some (.string s)) (go_keep)
    (first
      | (go_at_call 17; (with_reducible refine (unsigned32_gave 18 1 _ (by decide) (by decide)).mono ?_); rintro e w1 ⟨p1, k1, rfl, hp1, hbel1, hs1⟩; have B1 : Below w.heap.size w w1 := (((Below.refl _ _).alloc (Nat.le_refl _) _).drew).trans (hbel1.mono (by simp)); have C1 : Below (w.alloc (.cells #[.int .u32 0, .int .u8 0, .int .u32 0, .slice none 0 0] 29)).heap.size (w.alloc (.cells #[.int .u32 0, .int .u8 0, .int .u32 0, .slice none 0 0] 29)) w1 := (Below.refl _ _).drew.trans hbel1; have G1 := HG.out.later B1; obtain ⟨g118a, g118b, g118c⟩ := G1 18 (by decide) (by decide); obtain ⟨g119a, g119b, g119c⟩ := G1 19 (by decide) (by decide); obtain ⟨g120a, g120b, g120c⟩ := G1 20 (by decide) (by decide); have uu1 := cell_later B1 HU.out)
      | (go_at_call 17; (with_reducible refine (unsigned32_gave 19 2 _ (by decide) (by decide)).mono ?_); rintro e w2 ⟨p2, k2, rfl, hp2, hbel2, hs2⟩; have B2 : Below w.heap.size w w2 := B1.trans (hbel2.mono B1.size); have C2 : Below (w.alloc (.cells #[.int .u32 0, .int .u8 0, .int .u32 0, .slice none 0 0] 29)).heap.size (w.alloc (.cells #[.int .u32 0, .int .u8 0, .int .u32 0, .slice none 0 0] 29)) w2 := C1.trans (hbel2.mono C1.size); have G2 := HG.out.later B2; obtain ⟨g218a, g218b, g218c⟩ := G2 18 (by decide) (by decide); obtain ⟨g219a, g219b, g219c⟩ := G2 19 (by decide) (by decide); obtain ⟨g220a, g220b, g220c⟩ := G2 20 (by decide) (by decide); have uu2 := cell_later B2 HU.out)
      | (go_at_call 16; (with_reducible refine (octetString_gave 20 s _).mono ?_); rintro e w3 ⟨p3, k3, rfl, hp3, hbel3, hs3⟩; have B3 : Below w.heap.size w w3 := B2.trans (hbel3.mono B2.size); have C3 : Below (w.alloc (.cells #[.int .u32 0, .int .u8 0, .int .u32 0, .slice none 0 0] 29)).heap.size (w.alloc (.cells #[.int .u32 0, .int .u8 0, .int .u32 0, .slice none 0 0] 29)) w3 := C2.trans (hbel3.mono C2.size); have G3 := HG.out.later B3; obtain ⟨g318a, g318b, g318c⟩ := G3 18 (by decide) (by decide); obtain ⟨g319a, g319b, g319c⟩ := G3 19 (by decide) (by decide); obtain ⟨g320a, g320b, g320c⟩ := G3 20 (by decide) (by decide); have uu3 := cell_later B3 HU.out))
  have O3 : Lst (w3.alloc (.cells #[.int .u32 (mk 18 (be32 1)).c, .int .u8 (mk 18 (be32 1)).f, .int .u32 (mk 18 (be32 1)).v, .slice p1 (mk 18 (be32 1)).d.length k1, .int .u32 (mk 19 (be32 2)).c, .int .u8 (mk 19 (be32 2)).f, .int .u32 (mk 19 (be32 2)).v, .slice p2 (mk 19 (be32 2)).d.length k2, .int .u32 (mk 20 (strB s)).c, .int .u8 (mk 20 (strB s)).f, .int .u32 (mk 20 (strB s)).v, .slice p3 (mk 20 (strB s)).d.length k3] 29)) w3.heap.size (.slice (some ⟨w3.heap.size, 0, none⟩) 3 3) [mk 18 (be32 1), mk 19 (be32 2), mk 20 (strB s)] :=
    lst_of_alloc w3 _ [⟨mk 18 (be32 1), p1, k1⟩, ⟨mk 19 (be32 2), p2, k2⟩, ⟨mk 20 (strB s), p3, k3⟩] _ _ 3 rfl rfl rfl (Nat.le_refl _) (by
      intro r hr
      simp at hr
      rcases hr with rfl | rfl | rfl
      · exact ⟨hp1, (hs1.later hbel2).later hbel3⟩
      · exact ⟨hp2, hs2.later hbel3⟩
      · exact ⟨hp3, hs3⟩) (by decide)
  have B4 := B3.alloc B3.size (.cells #[.int .u32 (mk 18 (be32 1)).c, .int .u8 (mk 18 (be32 1)).f, .int .u32 (mk 18 (be32 1)).v, .slice p1 (mk 18 (be32 1)).d.length k1, .int .u32 (mk 19 (be32 2)).c, .int .u8 (mk 19 (be32 2)).f, .int .u32 (mk 19 (be32 2)).v, .slice p2 (mk 19 (be32 2)).d.length k2, .int .u32 (mk 20 (strB s)).c, .int .u8 (mk 20 (strB s)).f, .int .u32 (mk 20 (strB s)).v, .slice p3 (mk 20 (strB s)).d.length k3] 29)
  have C4 := C3.alloc C3.size (.cells #[.int .u32 (mk 18 (be32 1)).c, .int .u8 (mk 18 (be32 1)).f, .int .u32 (mk 18 (be32 1)).v, .slice p1 (mk 18 (be32 1)).d.length k1, .int .u32 (mk 19 (be32 2)).c, .int .u8 (mk 19 (be32 2)).f, .int .u32 (mk 19 (be32 2)).v, .slice p2 (mk 19 (be32 2)).d.length k2, .int .u32 (mk 20 (strB s)).c, .int .u8 (mk 20 (strB s)).f, .int .u32 (mk 20 (strB s)).v, .slice p3 (mk 20 (strB s)).d.length k3] 29)
  generalize hw4 : w3.alloc (.cells #[.int .u32 (mk 18 (be32 1)).c, .int .u8 (mk 18 (be32 1)).f, .int .u32 (mk 18 (be32 1)).v, .slice p1 (mk 18 (be32 1)).d.length k1, .int .u32 (mk 19 (be32 2)).c, .int .u8 (mk 19 (be32 2)).f, .int .u32 (mk 19 (be32 2)).v, .slice p2 (mk 19 (be32 2)).d.length k2, .int .u32 (mk 20 (strB s)).c, .int .u8 (mk 20 (strB s)).f, .int .u32 (mk 20 (strB s)).v, .slice p3 (mk 20 (strB s)).d.length k3] 29) = w4 at *
  have hB3s := B3.size
  have hz34 : w3.heap.size < w4.heap.size := by rw [← hw4]; simp
  clear hw4
  have G4 := HG.out.later B4
  obtain ⟨m21a, m21b, m21c⟩ := G4 21 (by decide) (by decide)
  obtain ⟨m22a, m22b, m22c⟩ := G4 22 (by decide) (by decide)
  have su4 := cell_later B4 HSU.out
  have hw22 : wires [mk 18 (be32 1), mk 19 (be32 2), mk 20 (strB s)] ≤ 200000 := by
    have h1 := wire_le (mk 18 (be32 1))
    have h2 := wire_le (mk 19 (be32 2))
    have h3 := wire_le (mk 20 (strB s))
    rw [mk_len, be32_len] at h1 h2
    rw [mk_len, strB_len] at h3
    simp only [wires_cons, wires_nil]; omega
  have hok3 : ∀ a ∈ [mk 18 (be32 1), mk 19 (be32 2), mk 20 (strB s)], AvpOk a := by
    intro a ha
    simp at ha
    rcases ha with rfl | rfl | rfl
    · exact mk_ok _ _ (by simp [be32])
    · exact mk_ok _ _ (by simp [be32])
    · exact mk_ok _ _ (by rw [strB_len]; omega)
  generalize hL3 : [mk 18 (be32 1), mk 19 (be32 2), mk 20 (strB s)] = L3 at *
  have hl3 : L3.length = 3 := by rw [← hL3]; rfl
  have HL3 : Hid ([mk 18 (be32 1), mk 19 (be32 2), mk 20 (strB s)] = L3) := hL3
  clear hL3
  have HL : Hid (L3.length = 3) := hl3
  cases su
  · clear hl3
    go_wp2_with fail
    have at4 : AvpsAt w4 w3.heap.size L3 := by
      obtain ⟨g', cap, e, h, _⟩ := O3.at_ (by rw [HL.out]; decide)
      simp only [Value.slice.injEq, Option.some.injEq, Addr.mk.injEq] at e
      obtain ⟨⟨rfl, _⟩, _⟩ := e
      exact h
    rw [show (3 : Nat) = L3.length from HL.out.symm]
    refine (grouped_gave 22 w3.heap.size _ L3 w4 at4 hok3 (by rw [HL.out]; decide) (by omega)).mono ?_
    rintro e w8 ⟨p8, k8, rfl, hp8, hbel8, hs8⟩
    have B8 : Below w.heap.size w w8 := B4.trans (hbel8.mono B4.size)
    have C8 := C4.trans (hbel8.mono C4.size)
    have r8 := res4 C8 (heap_alloc_new w _)
    obtain ⟨⟨z0, z1, z2, z3⟩, y0, y1, y2, y3⟩ := r8
    go_wp2_with fail
    have hr : redA s false = mk 22 (allB L3) := by rw [← HL3.out]; rfl
    rw [hr]
    refine bodyPost_ret (v := .agg #[.int .u32 (mk 22 (allB L3)).c, .int .u8 (mk 22 (allB L3)).f, .int .u32 (mk 22 (allB L3)).v, .slice p8 (mk 22 (allB L3)).d.length k8]) (by simp [results, Ybad.results20, go_sem, z0, z1, z2, z3]) rfl ?_
    exact gave_end B8 (Nat.le_refl _) ((C8.block _ (by simp)).trans (heap_alloc_new w _)) hp8 hs8 _ _ _ _
  · clear hl3
    go_wp2_with fail
    with_reducible refine (unsigned32_gave 21 1 _ (by decide) (by decide)).mono ?_
    rintro e w5 ⟨p5, k5, rfl, hp5, hbel5, hs5⟩
    have O5 := O3.later hbel5
    have B5 : Below w.heap.size w w5 := B4.trans (hbel5.mono B4.size)
    have C5 := C4.trans (hbel5.mono C4.size)
    have hz5 := hbel5.size
    go_wp2_with (at_builtin; refine wpList_append_avps ?_ (.tmp 19) (.tmp 22) ?_ w3.heap.size (.slice (some ⟨w3.heap.size, 0, none⟩) 3 3) L3 ?_ ?_ ⟨w5.heap.size, 0, none⟩ 1 1 [⟨mk 21 (be32 1), p5, k5⟩] ?_ ?_ ?_ ?_ ?_ ?_ ?_; rfl; rfl; rfl; exact O5.later ((Below.refl _ _).alloc (Nat.le_refl _) _); rfl; rfl; exact news_of_alloc w5 [⟨mk 21 (be32 1), p5, k5⟩] _ _ rfl rfl; (intro r hr; simp at hr; subst hr; exact ⟨hp5, hs5.later ((Below.refl _ _).alloc (Nat.le_refl _) _)⟩); (rw [HL.out]; omega); (simp; omega); intro v6 w6 O6g; have O6 := O6g.lst; have B6 := O6g.below (O5.later ((Below.refl _ _).alloc (Nat.le_refl _) _)) (by simp; omega); have B7 : Below w.heap.size w w6 := (B5.alloc B5.size _).trans (B6.mono (by omega)); have G7 := HG.out.later B7; obtain ⟨t22a, t22b, t22c⟩ := G7 22 (by decide) (by decide))
    have C7 := (C5.alloc C5.size _).trans (B6.mono (by have := C3.size; omega))
    obtain ⟨g6, cap6, hv6, at6, hg6, _⟩ := O6.at_ (by simp)
    subst hv6
    refine (grouped_gave 22 g6 cap6 _ w6 at6 ?_ ?_ ?_).mono ?_
    · intro a ha
      rcases List.mem_append.1 ha with ha | ha
      · exact hok3 a ha
      · simp at ha; subst ha; exact mk_ok _ _ (by simp [be32])
    · simp [HL.out]
    · rw [wires_append]
      have h1 := wire_le (mk 21 (be32 1))
      rw [mk_len, be32_len] at h1
      simp only [List.map_cons, List.map_nil, wires_cons, wires_nil]; omega
    rintro e w8 ⟨p8, k8, rfl, hp8, hbel8, hs8⟩
    have B8 : Below w.heap.size w w8 := B7.trans (hbel8.mono B7.size)
    have C8 := C7.trans (hbel8.mono C7.size)
    have r8 := res4 C8 (heap_alloc_new w _)
    obtain ⟨⟨z0, z1, z2, z3⟩, y0, y1, y2, y3⟩ := r8
    go_wp2_with fail
    have hr : redA s true = mk 22 (allB (L3 ++ [mk 21 (be32 1)])) := by rw [← HL3.out]; rfl
    rw [hr]
    refine bodyPost_ret (v := .agg #[.int .u32 (mk 22 (allB (L3 ++ [mk 21 (be32 1)]))).c, .int .u8 (mk 22 (allB (L3 ++ [mk 21 (be32 1)]))).f, .int .u32 (mk 22 (allB (L3 ++ [mk 21 (be32 1)]))).v, .slice p8 (mk 22 (allB (L3 ++ [mk 21 (be32 1)]))).d.length k8]) (by simp [results, Ybad.results20, go_sem, z0, z1, z2, z3]) rfl ?_
    exact gave_end B8 (Nat.le_refl _) ((C8.block _ (by simp)).trans (heap_alloc_new w _)) hp8 hs8 _ _ _ _

end Go.Proofs.YbulkaroiDoor
