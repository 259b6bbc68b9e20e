/-
  THE WALK OF FnRollSplitAgreesWithWhole.
-/
import Derived.Test.Qxb6628689aIn8
namespace Go.Proofs.Qxb6628689a
open Go.RowKit
open Go.Maps (Keyed)

theorem info9_parts : ∃ i, Try.prog.info? 9 = some i ∧ i.zero = some (.string ⟨#[]⟩) ∧ i.size = 1 ∧ i.bytes = 16 := by
  cases hq : Try.prog.info? 9 with
  | none => have := info9; rw [hq] at this; cases this
  | some i =>
    have := info9
    rw [hq] at this
    simp only [Option.map_some, Option.some.injEq, Prod.mk.injEq] at this
    exact ⟨i, rfl, this⟩

set_option maxRecDepth 100000 in
set_option maxHeartbeats 12800000 in
theorem split_any (w : World) (k0 v0 k1 v1 d1 : Value) (n0 m0 n1 m1 nd : Nat) (V0 V1 : Nat → ByteArray) (E0 E1 : Nat → Value) (Z0 Z1 : Nat → List Int) (D : Nat → Bool) (cut : Int) (h : Arg w k0 v0 k1 v1 d1 n0 m0 n1 m1 nd V0 V1 E0 E1 Z0 Z1 D) :
    Calls Try.prog 4 #[k0, v0, k1, v1, d1, .int .i64 cut] w fun e w' => e = .returned (.bool true) ∧ Below w.heap.size w w' := by
  have HARG := hid h
  have H5 := hid (bytes20 w k0 v0 k1 v1 d1 n0 m0 n1 m1 nd V0 V1 E0 E1 Z0 Z1 D cut h)
  obtain ⟨ad, cd, rfl, hdl, _⟩ := h.a4
  clear h
  unfold maxLen at hdl
  have hmk : ∀ (t : TypeId) (w : World), (Instr.makeMap t none).run Try.prog w = .ok (.map (some w.heap.size)) (w.alloc (.map #[] 0)) := fun _ _ => rfl
  go_enter Try.func4, Try.ntmps4
  go_wp2_with fail
  refine H5.out.mono ?_
  rintro e w' ⟨⟨bv, rfl, hfine⟩, hw'⟩; obtain rfl := hw'.symm; clear hw' H5
  have HF0 := hid hfine
  clear hfine
  cases bv
  · go_wp2
    go_ret
    exact ⟨rfl, Below.refl _ _⟩
  have HF := hid (HF0.out (by first | trivial | rfl))
  clear HF0
  have hnd := HF.out.l4
  go_wp2_with fail
  refine (count6 0 k0 n0 V0 w (by omega) HF.out.l0 HARG.out.a0 HF.out.f0).mono ?_
  rintro e w' ⟨⟨q1, hq1, rfl⟩, hw'⟩; obtain rfl := hw'.symm; clear hw'
  by_cases hb1 : 1048576 < q1
  · go_wp2
    go_ret
    exact ⟨rfl, Below.refl _ _⟩
  go_wp2_with fail
  refine (count7 q1 v0 m0 E0 Z0 w (by omega) HF.out.l1 HARG.out.a1 (fun i hi => ⟨HF.out.f1 i hi, HARG.out.z0 i hi⟩)).mono ?_
  rintro e w' ⟨⟨q2, hq2, rfl⟩, hw'⟩; obtain rfl := hw'.symm; clear hw'
  by_cases hb2 : 1048576 < q2
  · go_wp2
    go_ret
    exact ⟨rfl, Below.refl _ _⟩
  go_wp2_with fail
  refine (count6 q2 k1 n1 V1 w (by omega) HF.out.l2 HARG.out.a2 HF.out.f2).mono ?_
  rintro e w' ⟨⟨q3, hq3, rfl⟩, hw'⟩; obtain rfl := hw'.symm; clear hw'
  by_cases hb3 : 1048576 < q3
  · go_wp2
    go_ret
    exact ⟨rfl, Below.refl _ _⟩
  go_wp2_with fail
  refine (count7 q3 v1 m1 E1 Z1 w (by omega) HF.out.l3 HARG.out.a3 (fun i hi => ⟨HF.out.f3 i hi, HARG.out.z1 i hi⟩)).mono ?_
  rintro e w' ⟨⟨q4, hq4, rfl⟩, hw'⟩; obtain rfl := hw'.symm; clear hw'
  by_cases hb4 : 1048576 < q4
  · go_wp2
    go_ret
    exact ⟨rfl, Below.refl _ _⟩
  by_cases hb5 : 1048576 < q4 + nd
  · go_wp2
    go_ret
    exact ⟨rfl, Below.refl _ _⟩
  go_wp2_with fail
  refine (clone8 k0 n0 V0 w (by have := HF.out.l0; omega) HARG.out.a0).mono ?_
  rintro e wA ⟨k0', rfl, hk0, hbA⟩
  have HK0 := hid hk0.row
  have HBA := hid hbA
  clear hk0 hbA
  go_wp2_with fail
  refine (clone9 v0 m0 E0 Z0 wA (by have := HF.out.l1; omega) (HARG.out.below HBA.out).a1 (fun i hi => ⟨HF.out.f1 i hi, (HARG.out.below HBA.out).z0 i hi⟩)).mono ?_
  rintro e wB ⟨v0', E0', rfl, hv0, hz0, hbB⟩
  have HV0 := hid hv0.row
  have HZ0 := hid hz0
  have HK0b := hid (HK0.out.below hbB)
  have HBB := hid (HBA.out.trans (hbB.mono HBA.out.size))
  clear hv0 hz0 hbB HK0 HBA
  go_wp2_with fail
  refine (clone8 k1 n1 V1 wB (by have := HF.out.l2; omega) (HARG.out.below HBB.out).a2).mono ?_
  rintro e wC ⟨k1', rfl, hk1, hbC⟩
  have HK1 := hid hk1.row
  have HC0 := hid (And.intro (HK0b.out.below hbC) (And.intro (HV0.out.below hbC) (fun i hi => (HZ0.out i hi).below hbC)))
  have HBC := hid (HBB.out.trans (hbC.mono HBB.out.size))
  clear hk1 hbC HK0b HV0 HZ0 HBB
  go_wp2_with fail
  refine (clone9 v1 m1 E1 Z1 wC (by have := HF.out.l3; omega) (HARG.out.below HBC.out).a3 (fun i hi => ⟨HF.out.f3 i hi, (HARG.out.below HBC.out).z1 i hi⟩)).mono ?_
  rintro e wD ⟨v1', E1', rfl, hv1, hz1, hbD⟩
  have HC1 := hid (And.intro (HK1.out.below hbD) (And.intro hv1.row hz1))
  have HC0d := hid (And.intro (HC0.out.1.below hbD) (And.intro (HC0.out.2.1.below hbD) (fun i hi => (HC0.out.2.2 i hi).below hbD)))
  have HBD := hid (HBC.out.trans (hbD.mono HBC.out.size))
  clear hv1 hz1 hbD HK1 HC0 HBC
  go_wp2_with fail
  refine (clone10 _ nd D wD (by have := HF.out.l4; omega) (HARG.out.below HBD.out).a4).mono ?_
  rintro e wE ⟨d1', rfl, hd1, hbE⟩
  have HCST : Hid (Cst wE k0' v0' k1' v1' d1' n0 m0 n1 m1 nd V0 V1 E0' E1' Z0 Z1 D) :=
    ⟨HC0d.out.1.below hbE, HC0d.out.2.1.below hbE, HC1.out.1.below hbE, HC1.out.2.1.below hbE, hd1.row, fun i hi => (HC0d.out.2.2 i hi).below hbE, fun i hi => (HC1.out.2.2 i hi).below hbE⟩
  have HBE := hid (HBD.out.trans (hbE.mono HBD.out.size))
  clear hd1 hbE HC0d HC1 HBD HARG hq1 hq2 hq3 hq4 hb1 hb2 hb3 hb4 hb5
  obtain ⟨a0, c0, rfl, hl0, _⟩ := id HCST.out.a0
  obtain ⟨a2, c2, rfl, hl2, _⟩ := id HCST.out.a2
  obtain ⟨a4, c4, rfl, hl4, _⟩ := id HCST.out.a4
  clear hl0 hl2 hl4
  have hn0 := HF.out.l0
  have hn1 := HF.out.l2
  have HMI := hid (MapIs.made Try.prog wE 9 Value.string)
  have HBEm : Hid (Below wE.heap.size wE (wE.alloc (.map #[] 0))) := (Below.refl _ _).alloc (Nat.le_refl _) _
  go_wp2_with fail
  go_loopw [15, 16] (fun v i wr => ∃ k : Nat, k ≤ n0 ∧ i = .int .i64 k ∧ Hid (Names wr wE.heap.size v (addN [] V0 k) ∧ Below wE.heap.size wE wr)) (fun _ i _ => n0 - (intOf i).toNat)
  case atStart => exact ⟨0, Nat.zero_le _, rfl, Names.start HMI.out, HBEm.out⟩
  case round =>
  obtain ⟨k, hk, rfl, HI⟩ := hrel
  by_cases hlt : k < n0
  · obtain ⟨_, _, e0, _, hr0⟩ := HCST.out.below HI.out.2 |>.a0
    cases e0
    obtain ⟨b, arr, rfl, hh, hc⟩ := hr0 (by omega)
    have cc : wr.cell? ⟨b, k, none⟩ = some (.string (V0 k)) := by rw [cell_of_row wr b k arr 9 (0, 0) hh]; exact hc k hlt
    have hi0 : (0 : Int) ≤ (k : Int) := Int.natCast_nonneg _
    have hi1 : (k : Int) < (n0 : Int) := by omega
    clear hh hc hr0
    go_wp2_with fail
    refine (add11 (V0 k) (addN [] V0 k) _ _ wr (HF.out.f0 k hlt) (by have := addN_length [] V0 k; simp at this; omega) HI.out.1).mono ?_
    rintro e w1 ⟨v', rfl, hN, hb⟩
    have HN := hid hN
    have HBn := hid (HI.out.2.trans hb)
    clear hN hb
    go_wp2
    go_roundw
    case rel => exact ⟨k + 1, by omega, by go_num, HN.out, HBn.out⟩
    case measure => simp [intOf]; omega
  obtain rfl : k = n0 := by omega
  clear hlt hk
  go_wp2
  go_loopw [15, 17] (fun v i wr => ∃ j : Nat, j ≤ n1 ∧ i = .int .i64 j ∧ Hid (Names wr wE.heap.size v (addN (addN [] V0 k) V1 j) ∧ Below wE.heap.size wE wr)) (fun _ i _ => n1 - (intOf i).toNat)
  case atStart => exact ⟨0, Nat.zero_le _, rfl, HI.out⟩
  case round =>
  clear HI
  obtain ⟨j, hj, rfl, HI⟩ := hrel
  by_cases hlt : j < n1
  · obtain ⟨_, _, e0, _, hr0⟩ := HCST.out.below HI.out.2 |>.a2
    cases e0
    obtain ⟨b, arr, rfl, hh, hc⟩ := hr0 (by omega)
    have cc : wr.cell? ⟨b, j, none⟩ = some (.string (V1 j)) := by rw [cell_of_row wr b j arr 9 (0, 0) hh]; exact hc j hlt
    have hi0 : (0 : Int) ≤ (j : Int) := Int.natCast_nonneg _
    have hi1 : (j : Int) < (n1 : Int) := by omega
    clear hh hc hr0
    go_wp2_with fail
    refine (add11 (V1 j) (addN (addN [] V0 k) V1 j) _ _ wr (HF.out.f2 j hlt) (by have := addN_length [] V0 k; have := addN_length (addN [] V0 k) V1 j; simp at *; omega) HI.out.1).mono ?_
    rintro e w1 ⟨v', rfl, hN, hb⟩
    have HN := hid hN
    have HBn := hid (HI.out.2.trans hb)
    clear hN hb
    go_wp2
    go_roundw
    case rel => exact ⟨j + 1, by omega, by go_num, HN.out, HBn.out⟩
    case measure => simp [intOf]; omega
  obtain rfl : j = n1 := by omega
  clear hlt hj
  have HNM : Hid (Names wr wE.heap.size _ (allU V0 V1 k j)) := HI.out.1
  have HBN := hid HI.out.2
  have HUU := hid (all_uni HNM.out.nd hn0 hn1 HF.out.f0 HF.out.f2)
  have HM0 : Hid (∀ i, i < k → V0 i ∈ allU V0 V1 k j) := fun i hi => mem_all0 hi
  have HM1 : Hid (∀ i, i < j → V1 i ∈ allU V0 V1 k j) := fun i hi => mem_all1 hi
  clear HI HMI HBEm
  generalize allU V0 V1 k j = U at HNM HUU HM0 HM1
  have hul := HUU.out.few
  obtain ⟨aN, cN, rfl, _, _⟩ := id HNM.out.rowOf
  have hmk1 := mk24 wr U.length (by omega)
  have hmk2 := mk23 (wr.alloc (.cells (madeCells #[.bool false] U.length) 4)) U.length (by omega)
  obtain ⟨wN, rfl⟩ : ∃ wN, wN = wr := ⟨_, rfl⟩
  go_wp2_with fail
  refine (new12 _ U).mono ?_
  rintro e w2 ⟨sA, mA, lA, rfl, hsto, l1, l2, l3, hb⟩
  have hsz2 : ((wN.alloc (Obj.cells (madeCells #[Value.bool false] U.length) 4)).alloc (Obj.cells (madeCells #[Value.slice none 0 0] U.length) 35)).heap.size = wN.heap.size + 2 := by simp
  rw [hsz2] at l1 l2 l3
  have hbN : Below wN.heap.size wN w2 := (((Below.refl _ _).alloc (Nat.le_refl _) _).alloc (by simp) _).trans (hb.mono (by rw [hsz2]; omega))
  have hbh : w2.heap[wN.heap.size]? = some (.cells (madeCells #[.bool false] U.length) 4 (0, 0)) := by
    rw [hb.block _ (by rw [hsz2]; omega)]
    show ((wN.heap.push _).push _)[wN.heap.size]? = _
    rw [Array.getElem?_push, if_neg (by simp), Array.getElem?_push, if_pos rfl]
  have hbv : w2.heap[wN.heap.size + 1]? = some (.cells (madeCells #[.slice none 0 0] U.length) 35 (0, 0)) := by
    rw [hb.block _ (by rw [hsz2]; omega)]
    show ((wN.heap.push _).push _)[wN.heap.size + 1]? = _
    rw [Array.getElem?_push, if_pos (by simp)]
  have HI1 := hid (And.intro hbN (And.intro hsto (Mem.made hbh hbv)))
  have HLOA : Hid (wN.heap.size ≤ mA ∧ wN.heap.size ≤ lA) := by constructor <;> omega
  clear hsz2 hbN hbh hbv hsto l1 l2 l3 hb hmk1 hmk2
  go_wp2_with fail
  refine (new12 w2 U).mono ?_
  rintro e w3 ⟨sB, mB, lB, rfl, hstoB, l1, l2, l3, hb⟩
  have HI0 : Hid (BiStep wN w3 U sA mA lA sB mB lB (fill V0 m0 Z0 0) (fill V0 m0 Z0 0) (fill V0 m0 Z0 0)) := ⟨HI1.out.1.trans (hb.mono HI1.out.1.size), HI1.out.2.1.below hb, hstoB, HI1.out.2.2.below hb⟩
  have HFOUR : Hid (Four mA lA mB lB) := by
    have := HI1.out.2.1.lt
    refine ⟨?_, ?_, ?_, ?_⟩ <;> omega
  have HLOB : Hid (wN.heap.size ≤ mB ∧ wN.heap.size ≤ lB) := by have := HI1.out.1.size; constructor <;> omega
  clear hstoB l1 l2 l3 hb HI1
  go_wp2_with fail
  go_loopw [22] (fun i wr => ∃ q : Nat, q ≤ k ∧ i = .int .i64 q ∧ Hid (BiStep wN wr U sA mA lA sB mB lB (fill V0 m0 Z0 q) (fill V0 m0 Z0 q) (fill V0 m0 Z0 q))) (fun i _ => k - (intOf i).toNat)
  case atStart => exact ⟨0, Nat.zero_le _, rfl, HI0.out⟩
  case round =>
  clear HI0
  obtain ⟨q, hq, rfl, HI⟩ := hrel
  by_cases hlt : q < k
  · have HCq := hid (HCST.out.below (HBN.out.trans (HI.out.bel.mono HBN.out.size)))
    obtain ⟨_, _, e0, _, hr0⟩ := HCq.out.a0
    cases e0
    obtain ⟨b, arr, rfl, hh, hc⟩ := hr0 (by omega)
    have cc : wr.cell? ⟨b, q, none⟩ = some (.string (V0 q)) := by rw [cell_of_row wr b q arr 9 (0, 0) hh]; exact hc q hlt
    have hi0 : (0 : Int) ≤ (q : Int) := Int.natCast_nonneg _
    have hi1 : (q : Int) < (k : Int) := by omega
    have HME := hid (HM0.out q hlt)
    have HVAL := hid (zAt_bytes HCq.out.z0 q)
    have hzl := zAt_len HF.out.f1 q
    obtain ⟨sa, sc, he, _, _⟩ := id HVAL.out
    have H13 := hid (value13 v0' m0 q E0' wr (by omega) HCq.out.a1.at)
    rw [he] at HVAL H13
    clear hh hc hr0 he HCq
    generalize hxs : zAt m0 Z0 q = xs at HVAL H13 hzl
    have HXS := hid hxs
    clear hxs
    go_wp2_with fail
    refine H13.out.mono ?_
    rintro e w' ⟨rfl, hw'⟩; obtain rfl := hw'.symm; clear hw' H13
    go_wp2_with fail
    go_region_held3 (fun w' => w'.cell? ⟨b, q, none⟩ = some (.string (V0 q)))
      (go_keep)
      (first
        | (go_at_call 15; refine (clone15 _ xs _ hzl HVAL.out.drew.at).mono ?_; rintro e wa ⟨sl, rfl, hby, hba⟩; have ca := cell_kept (Below.of_drew hba) cc; have HBY := hid hby; have HBA := hid (Below.of_drew hba); clear hby hba)
        | (go_at_call 14; refine (set14 (V0 q) sl xs U sA mA lA _ wa HUU.out HME.out HBY.out (HI.out.a.below HBA.out)).mono ?_; rintro e wb ⟨rfl, hsb, hbb⟩; have HSB := hid hsb; have HBB := hid hbb; have cb : wb.cell? ⟨b, q, none⟩ = some (.string (V0 q)) := cell_two (HI.out.a.below HBA.out) hbb ca; clear hsb hbb))
    have HIb := hid ((HI.out.below HBA.out).setA HFOUR.out HLOA.out HSB.out HBB.out)
    have HVALb := hid ((HVAL.out.below HBA.out).kept HBB.out (fun q e => ((HI.out.a.below HBA.out).two_apart 0 q e).1))
    clear cc ca
    go_wp2_with fail
    go_region_held3 (fun w' => w'.cell? ⟨b, q, none⟩ = some (.string (V0 q)))
      (go_keep)
      (first
        | (go_at_call 15; refine (clone15 _ xs _ hzl HVALb.out.drew.at).mono ?_; rintro e wc ⟨sl2, rfl, hby, hba⟩; have cc2 := cell_kept (Below.of_drew hba) cb; have HBY2 := hid hby; have HBC := hid (Below.of_drew hba); clear hby hba)
        | (go_at_call 14; refine (set14 (V0 q) sl2 xs U sB mB lB _ wc HUU.out HME.out HBY2.out (HIb.out.b.below HBC.out)).mono ?_; rintro e wd ⟨rfl, hsb, hbb⟩; have HSD := hid hsb; have HBD := hid hbb; have cd2 : wd.cell? ⟨b, q, none⟩ = some (.string (V0 q)) := cell_two (HIb.out.b.below HBC.out) hbb cc2; clear hsb hbb))
    have HId := hid ((HIb.out.below HBC.out).setB HFOUR.out HLOB.out HSD.out HBD.out)
    have HVALd := hid ((HVALb.out.below HBC.out).kept HBD.out (fun q e => ((HIb.out.b.below HBC.out).two_apart 0 q e).1))
    have HMOD := hid (HId.out.model HUU.out HME.out (o := some xs) HVALd.out)
    have hlk := (HNM.out.below HId.out.bel).look HUU.out HME.out
    obtain ⟨jx, hjx⟩ : ∃ jx, jx = U.idxOf (V0 q) := ⟨_, rfl⟩
    have hjl : jx < U.length := hjx ▸ idx_lt HME.out
    obtain ⟨d0, f0, _, _⟩ := HId.out.mem.at hjl
    obtain ⟨u, d1, f1⟩ := HId.out.mem.val_behind hjl (.bool true)
    rw [← hjx] at hlk
    have hj0 : (0 : Int) ≤ (jx : Int) := Int.natCast_nonneg _
    have hj1 : (jx : Int) < (U.length : Int) := by omega
    have HJX := hid hjx
    clear cb cc2 hjx hmk
    go_wp2
    go_roundw
    case rel =>
      have hst := HMOD.out.1
      rw [← HJX.out] at hst
      refine ⟨q + 1, by omega, by go_num, ?_⟩
      rw [fill, HXS.out]; exact hst
    case measure => simp [intOf]; omega
  obtain rfl : q = k := by omega
  clear hlt hq
  have HSL := hid (fill_slim (V := V0) HF.out.f1 q)
  generalize fill V0 m0 Z0 q = σ0 at HI HSL
  obtain ⟨wQ, rfl⟩ : ∃ wQ, wQ = wr := ⟨_, rfl⟩
  go_wp2_with fail
  obtain ⟨i0, hi9, hz9, hs9, hb9⟩ := info9_parts
  have HI9 := hid (And.intro hi9 (And.intro hz9 (And.intro hs9 hb9)))
  clear hi9 hz9 hs9 hb9
  go_loopw [25, 27] (fun v i wr => ∃ (p : Nat) (O : List ByteArray) (R : Rm), p ≤ j ∧ i = .int .i64 p ∧ Hid (In6 wQ wr U O v R none) ∧ O.length ≤ p) (fun _ i _ => j - (intOf i).toNat)
  case atStart => exact ⟨0, [], _, Nat.zero_le _, rfl, In6.start wQ U, Nat.le_refl _⟩
  case round =>
  obtain ⟨p, O, R, hp, rfl, HI6, hol⟩ := hrel
  by_cases hlt : p < j
  · have HLW := hid (HI.out.bel.trans (HI6.out.bel.mono HI.out.bel.size))
    have HCq := hid (HCST.out.below (HBN.out.trans (HLW.out.mono HBN.out.size)))
    obtain ⟨_, _, e2, _, hr2⟩ := HCq.out.a2
    cases e2
    obtain ⟨b, arr, rfl, hh, hc⟩ := hr2 (by omega)
    have cc : wr.cell? ⟨b, p, none⟩ = some (.string (V1 p)) := by rw [cell_of_row wr b p arr 9 (0, 0) hh]; exact hc p hlt
    have hi0 : (0 : Int) ≤ (p : Int) := Int.natCast_nonneg _
    have hi1 : (p : Int) < (j : Int) := by omega
    have HME := hid (HM1.out p hlt)
    clear hh hc hr2 hmk
    generalize V1 p = key at cc HME
    obtain ⟨pv, hrl, _, _⟩ := HI6.out.rp.look HUU.out HME.out
    rcases hRk : R key with _ | o
    · rw [hRk] at hrl
      simp only [Option.isSome_none] at hrl
      have HRK := hid hRk
      clear hRk
      go_wp2_with (at_builtin; refine wpList_append_own_at _ rfl _ _ 22 rfl (wQ.heap.size + 1) 9 i0 (.string ⟨#[]⟩) 1 16 Try.underlying22 HI9.out.1 HI9.out.2.1 HI9.out.2.2.1 HI9.out.2.2.2 rfl (by decide) _ _ _ rfl (World.ownsRow.alloc HI6.out.ord _) ⟨wr.heap.size, 0, none⟩ 1 1 [.string key] rfl rfl ?c1 ?c2 ?c3 ?c4 ?c5 ?_)
      case c1 =>
        intro jj u hj
        match jj, hj with
        | 0, hj =>
          simp at hj; subst hj
          show (wr.alloc _).cell? ⟨wr.heap.size, 0, none⟩ = _
          rw [cell_new2]; rfl
        | n + 1, hj => simp at hj
      case c2 => first | rfl | (intro u hu; simp at hu; subst hu; rfl)
      case c3 => unfold maxLen; omega
      case c4 => omega
      case c5 => have := HI6.out.rp.lt; simp; omega
      intro v' w1 hown' hgrow _ hblk
      have H6 := hid (HI6.out.push HME.out HRK.out hown' hgrow)
      clear hown' hgrow hblk hrl cc
      have HLd := hid (HI.out.bel.trans (H6.out.bel.mono HI.out.bel.size))
      have HCd := hid (HCST.out.below (HBN.out.trans (HLd.out.mono HBN.out.size)))
      by_cases hd : p < nd
      · obtain ⟨_, _, e4, _, hr4⟩ := HCd.out.a4
        cases e4
        obtain ⟨bd, arrd, rfl, hhd, hcd⟩ := hr4 (by omega)
        have cd' : w1.cell? ⟨bd, p, none⟩ = some (.bool (D p)) := by rw [cell_of_row _ bd p arrd 4 (0, 0) hhd]; exact hcd p hd
        have hd1 : (p : Int) < (nd : Int) := by omega
        clear hhd hcd hr4
        cases hD : D p
        · rw [hD] at cd'
          have HVAL := hid (zAt_bytes HCd.out.z1 p)
          have hzl := zAt_len HF.out.f3 p
          obtain ⟨sa, sc, he, _, _⟩ := id HVAL.out
          have H13 := hid (value13 v1' m1 p E1' w1 (by omega) HCd.out.a3.at)
          rw [he] at HVAL H13
          clear he
          generalize zAt m1 Z1 p = ys at HVAL H13 hzl
          go_wp2_with fail
          refine H13.out.mono ?_
          rintro e w' ⟨rfl, hw'⟩; obtain rfl := hw'.symm; clear hw' H13
          go_wp2_with fail
          refine (clone15 _ ys w1 hzl HVAL.out.at).mono ?_
          rintro e wy ⟨sly, rfl, hby, hba⟩
          obtain ⟨sa1, sc1, rfl, _, _⟩ := id hby
          have hbS : Below w1.heap.size w1 (wy.alloc (.cells #[.slice sa1 ys.length sc1] 35)) := hba.alloc hba.size _
          obtain ⟨wc, hmu, h6⟩ := (H6.out.below hbS).put HUU.out HME.out (u := .pointer (some ⟨wy.heap.size, 0, none⟩)) (x := some ys)
            ⟨wy.heap.size, _, rfl, Nat.lt_of_lt_of_le H6.out.rp.lt hba.size, heap_last _ _, hby.below ((Below.refl _ _).alloc (Nat.le_refl _) _)⟩ (fun xs e => by cases e; exact hzl)
          have H6c := hid h6
          clear h6 hbS hby hba
          go_wp2
          go_roundw
          case rel => exact ⟨p + 1, _, _, by omega, by go_num, H6c.out, by first | omega | (simp; omega)⟩
          case measure => simp [intOf]; omega
        · rw [hD] at cd'
          obtain ⟨wc, hmu, h6⟩ := H6.out.put HUU.out HME.out (u := .pointer none) (x := none) rfl (fun xs e => by cases e)
          have H6c := hid h6
          clear h6
          go_wp2
          go_roundw
          case rel => exact ⟨p + 1, _, _, by omega, by go_num, H6c.out, by first | omega | (simp; omega)⟩
          case measure => simp [intOf]; omega
      · have hd1 : ((p : Int) < (nd : Int)) = False := by simp; omega
        have HVAL := hid (zAt_bytes HCd.out.z1 p)
        have hzl := zAt_len HF.out.f3 p
        obtain ⟨sa, sc, he, _, _⟩ := id HVAL.out
        have H13 := hid (value13 v1' m1 p E1' w1 (by omega) HCd.out.a3.at)
        rw [he] at HVAL H13
        clear he
        generalize zAt m1 Z1 p = ys at HVAL H13 hzl
        go_wp2_with fail
        refine H13.out.mono ?_
        rintro e w' ⟨rfl, hw'⟩; obtain rfl := hw'.symm; clear hw' H13
        go_wp2_with fail
        refine (clone15 _ ys w1 hzl HVAL.out.at).mono ?_
        rintro e wy ⟨sly, rfl, hby, hba⟩
        obtain ⟨sa1, sc1, rfl, _, _⟩ := id hby
        have hbS : Below w1.heap.size w1 (wy.alloc (.cells #[.slice sa1 ys.length sc1] 35)) := hba.alloc hba.size _
        obtain ⟨wc, hmu, h6⟩ := (H6.out.below hbS).put HUU.out HME.out (u := .pointer (some ⟨wy.heap.size, 0, none⟩)) (x := some ys)
          ⟨wy.heap.size, _, rfl, Nat.lt_of_lt_of_le H6.out.rp.lt hba.size, heap_last _ _, hby.below ((Below.refl _ _).alloc (Nat.le_refl _) _)⟩ (fun xs e => by cases e; exact hzl)
        have H6c := hid h6
        clear h6 hbS hby hba
        go_wp2
        go_roundw
        case rel => exact ⟨p + 1, _, _, by omega, by go_num, H6c.out, by first | omega | (simp; omega)⟩
        case measure => simp [intOf]; omega
    · rw [hRk] at hrl
      simp only [Option.isSome_some] at hrl
      have H6 := hid (HI6.out.seen (k := key) (by rw [hRk]; rfl))
      have HRK := hid hRk
      clear hRk
      have HLd := hid (HI.out.bel.trans (H6.out.bel.mono HI.out.bel.size))
      have HCd := hid (HCST.out.below (HBN.out.trans (HLd.out.mono HBN.out.size)))
      by_cases hd : p < nd
      · obtain ⟨_, _, e4, _, hr4⟩ := HCd.out.a4
        cases e4
        obtain ⟨bd, arrd, rfl, hhd, hcd⟩ := hr4 (by omega)
        have cd' : wr.cell? ⟨bd, p, none⟩ = some (.bool (D p)) := by rw [cell_of_row _ bd p arrd 4 (0, 0) hhd]; exact hcd p hd
        have hd1 : (p : Int) < (nd : Int) := by omega
        clear hhd hcd hr4
        cases hD : D p
        · rw [hD] at cd'
          have HVAL := hid (zAt_bytes HCd.out.z1 p)
          have hzl := zAt_len HF.out.f3 p
          obtain ⟨sa, sc, he, _, _⟩ := id HVAL.out
          have H13 := hid (value13 v1' m1 p E1' wr (by omega) HCd.out.a3.at)
          rw [he] at HVAL H13
          clear he
          generalize zAt m1 Z1 p = ys at HVAL H13 hzl
          go_wp2_with fail
          refine H13.out.mono ?_
          rintro e w' ⟨rfl, hw'⟩; obtain rfl := hw'.symm; clear hw' H13
          go_wp2_with fail
          refine (clone15 _ ys wr hzl HVAL.out.at).mono ?_
          rintro e wy ⟨sly, rfl, hby, hba⟩
          obtain ⟨sa1, sc1, rfl, _, _⟩ := id hby
          have hbS : Below wr.heap.size wr (wy.alloc (.cells #[.slice sa1 ys.length sc1] 35)) := hba.alloc hba.size _
          obtain ⟨wc, hmu, h6⟩ := (H6.out.below hbS).put HUU.out HME.out (u := .pointer (some ⟨wy.heap.size, 0, none⟩)) (x := some ys)
            ⟨wy.heap.size, _, rfl, Nat.lt_of_lt_of_le H6.out.rp.lt hba.size, heap_last _ _, hby.below ((Below.refl _ _).alloc (Nat.le_refl _) _)⟩ (fun xs e => by cases e; exact hzl)
          have H6c := hid h6
          clear h6 hbS hby hba
          go_wp2
          go_roundw
          case rel => exact ⟨p + 1, _, _, by omega, by go_num, H6c.out, by first | omega | (simp; omega)⟩
          case measure => simp [intOf]; omega
        · rw [hD] at cd'
          obtain ⟨wc, hmu, h6⟩ := H6.out.put HUU.out HME.out (u := .pointer none) (x := none) rfl (fun xs e => by cases e)
          have H6c := hid h6
          clear h6
          go_wp2
          go_roundw
          case rel => exact ⟨p + 1, _, _, by omega, by go_num, H6c.out, by first | omega | (simp; omega)⟩
          case measure => simp [intOf]; omega
      · have hd1 : ((p : Int) < (nd : Int)) = False := by simp; omega
        have HVAL := hid (zAt_bytes HCd.out.z1 p)
        have hzl := zAt_len HF.out.f3 p
        obtain ⟨sa, sc, he, _, _⟩ := id HVAL.out
        have H13 := hid (value13 v1' m1 p E1' wr (by omega) HCd.out.a3.at)
        rw [he] at HVAL H13
        clear he
        generalize zAt m1 Z1 p = ys at HVAL H13 hzl
        go_wp2_with fail
        refine H13.out.mono ?_
        rintro e w' ⟨rfl, hw'⟩; obtain rfl := hw'.symm; clear hw' H13
        go_wp2_with fail
        refine (clone15 _ ys wr hzl HVAL.out.at).mono ?_
        rintro e wy ⟨sly, rfl, hby, hba⟩
        obtain ⟨sa1, sc1, rfl, _, _⟩ := id hby
        have hbS : Below wr.heap.size wr (wy.alloc (.cells #[.slice sa1 ys.length sc1] 35)) := hba.alloc hba.size _
        obtain ⟨wc, hmu, h6⟩ := (H6.out.below hbS).put HUU.out HME.out (u := .pointer (some ⟨wy.heap.size, 0, none⟩)) (x := some ys)
          ⟨wy.heap.size, _, rfl, Nat.lt_of_lt_of_le H6.out.rp.lt hba.size, heap_last _ _, hby.below ((Below.refl _ _).alloc (Nat.le_refl _) _)⟩ (fun xs e => by cases e; exact hzl)
        have H6c := hid h6
        clear h6 hbS hby hba
        go_wp2
        go_roundw
        case rel => exact ⟨p + 1, _, _, by omega, by go_num, H6c.out, by first | omega | (simp; omega)⟩
        case measure => simp [intOf]; omega
  obtain rfl : p = j := by omega
  clear hlt hp
  obtain ⟨aO, cO, rfl, _, _⟩ := id HI6.out.ord.rowOf
  obtain ⟨wT, rfl⟩ : ∃ wT, wT = wr := ⟨_, rfl⟩
  by_cases hc0 : cut < 0
  · have HST := hid (In7.start 0 HI.out HI6.out)
    go_wp2_with fail
    go_loopw [36] (fun i wr => ∃ kk : Nat, kk ≤ O.length ∧ i = .int .i64 kk ∧ Hid (In7 wN wQ wT wr U O (.slice aO O.length cO) R (part R (O.take kk)) (part R (s1 O 0 kk)) (part R (s2 O 0 kk)) sA mA lA sB mB lB σ0 (over σ0 (part R (O.take kk))))) (fun i _ => O.length - (intOf i).toNat)
    case atStart => exact ⟨0, Nat.zero_le _, rfl, HST.out⟩
    case round =>
    clear HST
    obtain ⟨kk, hkk, rfl, HI7⟩ := hrel
    by_cases hlt : kk < O.length
    · obtain ⟨_, _, eo, _, hro⟩ := HI7.out.ord.rowOf
      cases eo
      obtain ⟨b, arr, rfl, hh, hc⟩ := hro (by omega)
      have cc : wr.cell? ⟨b, kk, none⟩ = some (.string (nm O kk)) := by rw [cell_of_row wr b kk arr 9 (0, 0) hh]; exact hc kk hlt
      have hi0 : (0 : Int) ≤ (kk : Int) := Int.natCast_nonneg _
      have hi1 : (kk : Int) < (O.length : Int) := by omega
      have HMO := hid (nm_mem hlt)
      generalize hkey : nm O kk = key at cc HMO
      have HKEY := hid hkey
      have HME := hid (HI6.out.sub key HMO.out)
      have HRS : Hid ((R key).isSome = true) := by
        rcases (HI6.out.dom key HME.out).1 HMO.out with e | e
        · exact e
        · cases e
      obtain ⟨pv, _, hrl, hra⟩ := HI7.out.rp.look HUU.out HME.out
      have hra := hra HRS.out
      obtain ⟨x, hRx⟩ := Option.isSome_iff_exists.1 HRS.out
      rw [hRx] at hra
      have HRK := hid hRx
      obtain ⟨⟨wa, hmu1, h71, hra1⟩, _, _⟩ := HI7.out.put HUU.out HME.out hra
      have HI7a := hid h71
      have HRA1 := hid hra1
      obtain ⟨jx, hjx⟩ : ∃ jx, jx = U.idxOf key := ⟨_, rfl⟩
      have hjl : jx < U.length := hjx ▸ idx_lt HME.out
      have hj0 : (0 : Int) ≤ (jx : Int) := Int.natCast_nonneg _
      have hj1 : (jx : Int) < (U.length : Int) := by omega
      have HJX := hid hjx
      clear hh hc hro hkey hra hRx h71 hra1 hjx hmk
      have hkc : ¬ kk < 0 := by omega
      have hkcI : ((kk : Int) < 0) = False := by simp
      obtain ⟨_, _, ⟨wb, hmu2, h72, hra2⟩⟩ := HI7a.out.put HUU.out HME.out HRA1.out
      have hmu2' : (Instr.mapUpdate 39 (.map (some (wT.heap.size + 1 + 1))) (.string key) pv).run Try.prog wa = .ok () wb := hmu2
      have HI7b := hid h72
      have HLB := hid h72.bi.bel
      have hlk := (HNM.out.below HLB.out).look HUU.out HME.out
      rw [← HJX.out] at hlk
      obtain ⟨d0, f0, _, _⟩ := HI7b.out.bi.mem.at hjl
      clear hmu2 h72
      rcases x with _ | xs
      · have hpv : pv = .pointer none := Option.some.inj hra2
        subst hpv
        have HMOD := hid (HI7b.out.model HUU.out HME.out (o := none) (sl := .slice none 0 0) (Below.refl _ _) (nil_bytes _))
        obtain ⟨u, d1, f1⟩ := HI7b.out.bi.mem.val_behind hjl (.bool false)
        clear hra2
        go_wp2
        go_roundw
        case rel =>
          generalize hx0 : (Option.none : Option (List Int)) = x at HMOD HRK
          have e1 : part R (O.take (kk + 1)) = rput (part R (O.take kk)) key x := by rw [take_snoc hlt, HKEY.out, part_snoc HRK.out]
          have e2 : part R (s1 O 0 (kk + 1)) = part R (s1 O 0 kk) := by rw [s1_ge hkc]
          have e3 : part R (s2 O 0 (kk + 1)) = rput (part R (s2 O 0 kk)) key x := by rw [s2_ge hlt hkc, HKEY.out, part_snoc HRK.out]
          have e4 : over σ0 (part R (O.take (kk + 1))) = sput (over σ0 (part R (O.take kk))) key x := by rw [take_snoc hlt, HKEY.out, over_snoc HRK.out]
          refine ⟨kk + 1, by omega, by go_num, ?_⟩
          have hm := HMOD.out
          rw [← HJX.out] at hm
          rw [e4, e1, e2, e3, ← hx0]
          rw [← hx0] at hm
          exact hm
        case measure => simp [intOf]; omega
      · obtain ⟨pb, sl, hpv, hlo, hpb, hby⟩ := hra2
        obtain rfl := Option.some.inj hpv
        obtain ⟨sa, sc, rfl, _, _⟩ := id hby
        have hxl : xs.length ≤ 1048576 := HI6.out.slim key HME.out xs HRK.out
        have hpne : pb ≠ wN.heap.size := by have := HI7b.out.low; omega
        have hbP : But (Pair wN.heap.size (wN.heap.size + 1)) wb (wb.setCell ⟨wN.heap.size, jx, none⟩ (.bool true)) := (But.refl (Pair wN.heap.size (wN.heap.size + 1)) wb).setCell (p := ⟨wN.heap.size, jx, none⟩) (Or.inl rfl) _
        have HBP := hid (hby.kept hbP HI7b.out.bi.mem.no_row)
        have cp : (wb.setCell ⟨wN.heap.size, jx, none⟩ (.bool true)).cell? ⟨pb, 0, none⟩ = some (.slice sa xs.length sc) := by
          have := hbP.heap hpb (fun e => by have := HI7b.out.low; rcases e with e | e <;> omega)
          simp [World.cell?, this]
        obtain ⟨u, d1, f1⟩ := HI7b.out.bi.mem.val_behind hjl (.bool true)
        have HD1 := hid d1
        have HF1 := hid f1
        clear hpv hlo hpb hby hbP hpne d1 f1
        go_wp2_with fail
        refine (clone15 _ xs _ hxl HBP.out.at).mono ?_
        rintro e wg ⟨slg, rfl, hbg, hbb⟩
        obtain ⟨sa2, sc2, rfl, _, _⟩ := id hbg
        have d2 := cell_kept hbb HD1.out
        have f2 := (hbb.frozen (p := ⟨wN.heap.size + 1, jx, none⟩) (lt_of_cell HD1.out)).trans HF1.out
        have hbb2 : Below (wb.setCell ⟨wN.heap.size, U.idxOf key, none⟩ (.bool (some xs).isSome)).heap.size (wb.setCell ⟨wN.heap.size, U.idxOf key, none⟩ (.bool (some xs).isSome)) wg := by
          rw [← HJX.out, Option.isSome_some]; exact hbb
        have hm := HI7b.out.model HUU.out HME.out (o := some xs) (sl := .slice sa2 xs.length sc2) hbb2 hbg
        rw [← HJX.out] at hm
        have HMOD := hid hm
        clear hm hbb2
        clear hbg hbb d0 f0 cp
        go_wp2
        go_roundw
        case rel =>
          generalize hx0 : some xs = x at HMOD HRK
          have e1 : part R (O.take (kk + 1)) = rput (part R (O.take kk)) key x := by rw [take_snoc hlt, HKEY.out, part_snoc HRK.out]
          have e2 : part R (s1 O 0 (kk + 1)) = part R (s1 O 0 kk) := by rw [s1_ge hkc]
          have e3 : part R (s2 O 0 (kk + 1)) = rput (part R (s2 O 0 kk)) key x := by rw [s2_ge hlt hkc, HKEY.out, part_snoc HRK.out]
          have e4 : over σ0 (part R (O.take (kk + 1))) = sput (over σ0 (part R (O.take kk))) key x := by rw [take_snoc hlt, HKEY.out, over_snoc HRK.out]
          refine ⟨kk + 1, by omega, by go_num, ?_⟩
          have hm := HMOD.out
          rw [e4, e1, e2, e3, ← hx0]
          rw [← hx0] at hm
          exact hm
        case measure => simp [intOf]; omega
    obtain rfl : kk = O.length := by omega
    clear hlt hkk
    have HDOM : Hid (∀ x ∈ U, x ∈ O → (R x).isSome = true) := fun x hx hm => by
      rcases (HI6.out.dom x hx).1 hm with e | e
      · exact e
      · cases e
    go_wp2_with fail
    refine (undo17 sA wT.heap.size wr).mono ?_
    rintro e wu ⟨rfl, hwu⟩
    have hbu : Below wr.heap.size wr wu := by rw [hwu]; exact (Below.refl _ _).alloc (Nat.le_refl _) _
    have HUN : Hid (wu.heap[wr.heap.size]? = some (.cells #[.pointer (some ⟨sA, 0, none⟩), .map (some wT.heap.size)] 55 (0, 0))) := by rw [hwu]; exact heap_last _ _
    have HIU := hid (HI7.out.below hbu)
    clear hwu hbu HI7
    generalize wr.heap.size = un at HUN ⊢
    go_wp2_with fail
    refine (roll_any U sA mA lA un wT.heap.size (wQ.heap.size + 1) σ0 _ wu HUU.out HUN.out HIU.out.w (by have := HIU.out.low; omega) (by have := HIU.out.low; omega) HIU.out.bi.a).mono ?_
    rintro e wv ⟨rfl, hsv, hbv⟩
    have HFV := hid (HIU.out.fin.rollA HFOUR.out HLOA.out hsv hbv)
    clear hsv hbv HUN HIU
    go_wp2_with fail
    refine (undo17 sB (wT.heap.size + 1) wv).mono ?_
    rintro e wu2 ⟨rfl, hwu⟩
    have hbu : Below wv.heap.size wv wu2 := by rw [hwu]; exact (Below.refl _ _).alloc (Nat.le_refl _) _
    have HUN : Hid (wu2.heap[wv.heap.size]? = some (.cells #[.pointer (some ⟨sB, 0, none⟩), .map (some (wT.heap.size + 1))] 55 (0, 0))) := by rw [hwu]; exact heap_last _ _
    have HIU := hid (HFV.out.below hbu)
    clear hwu hbu HFV
    generalize wv.heap.size = un2 at HUN ⊢
    go_wp2_with fail
    refine (roll_any U sB mB lB un2 (wT.heap.size + 1) (wQ.heap.size + 1) σ0 _ wu2 HUU.out HUN.out HIU.out.p1 (by have := HIU.out.low; omega) (by have := HIU.out.low; omega) HIU.out.bi.b).mono ?_
    rintro e wx ⟨rfl, hsv, hbv⟩
    have HFV := hid (HIU.out.rollB HFOUR.out HLOB.out hsv hbv)
    clear hsv hbv HUN HIU
    go_wp2_with fail
    refine (undo17 sB (wT.heap.size + 2) wx).mono ?_
    rintro e wu3 ⟨rfl, hwu⟩
    have hbu : Below wx.heap.size wx wu3 := by rw [hwu]; exact (Below.refl _ _).alloc (Nat.le_refl _) _
    have HUN : Hid (wu3.heap[wx.heap.size]? = some (.cells #[.pointer (some ⟨sB, 0, none⟩), .map (some (wT.heap.size + 2))] 55 (0, 0))) := by rw [hwu]; exact heap_last _ _
    have HIU := hid (HFV.out.below hbu)
    clear hwu hbu HFV
    generalize wx.heap.size = un3 at HUN ⊢
    go_wp2_with fail
    refine (roll_any U sB mB lB un3 (wT.heap.size + 2) (wQ.heap.size + 1) _ _ wu3 HUU.out HUN.out HIU.out.p2 (by have := HIU.out.low; omega) (by have := HIU.out.low; omega) HIU.out.bi.b).mono ?_
    rintro e wy ⟨rfl, hsv, hbv⟩
    have HFV := hid (HIU.out.rollB HFOUR.out HLOB.out hsv hbv)
    clear hsv hbv HUN HIU
    go_wp2_with fail
    refine (HFV.out.bi.mem.is HUU.out HFV.out.bi.a (fun x _ => rfl) HNM.out HFV.out.bi.bel).mono ?_
    rintro e wz ⟨rfl, hbz⟩
    have HFZ := hid (HFV.out.below hbz)
    clear hbz HFV
    go_wp2_with fail
    refine (HFZ.out.bi.mem.is HUU.out HFZ.out.bi.b (split_over HDOM.out) HNM.out HFZ.out.bi.bel).mono ?_
    rintro e wz2 ⟨rfl, hbz⟩
    have HBZ := hid hbz
    clear hbz
    go_wp2
    go_ret
    have h1 : Below w.heap.size w wN := HBE.out.trans (HBN.out.mono HBE.out.size)
    have h2 : Below w.heap.size w wz := h1.trans (HFZ.out.bi.bel.mono h1.size)
    exact ⟨rfl, h2.trans (HBZ.out.mono h2.size)⟩
  by_cases hc1 : (O.length : Int) < cut
  · have HST := hid (In7.start O.length HI.out HI6.out)
    go_wp2_with fail
    go_loopw [36] (fun i wr => ∃ kk : Nat, kk ≤ O.length ∧ i = .int .i64 kk ∧ Hid (In7 wN wQ wT wr U O (.slice aO O.length cO) R (part R (O.take kk)) (part R (s1 O O.length kk)) (part R (s2 O O.length kk)) sA mA lA sB mB lB σ0 (over σ0 (part R (O.take kk))))) (fun i _ => O.length - (intOf i).toNat)
    case atStart => exact ⟨0, Nat.zero_le _, rfl, HST.out⟩
    case round =>
    clear HST
    obtain ⟨kk, hkk, rfl, HI7⟩ := hrel
    by_cases hlt : kk < O.length
    · obtain ⟨_, _, eo, _, hro⟩ := HI7.out.ord.rowOf
      cases eo
      obtain ⟨b, arr, rfl, hh, hc⟩ := hro (by omega)
      have cc : wr.cell? ⟨b, kk, none⟩ = some (.string (nm O kk)) := by rw [cell_of_row wr b kk arr 9 (0, 0) hh]; exact hc kk hlt
      have hi0 : (0 : Int) ≤ (kk : Int) := Int.natCast_nonneg _
      have hi1 : (kk : Int) < (O.length : Int) := by omega
      have HMO := hid (nm_mem hlt)
      generalize hkey : nm O kk = key at cc HMO
      have HKEY := hid hkey
      have HME := hid (HI6.out.sub key HMO.out)
      have HRS : Hid ((R key).isSome = true) := by
        rcases (HI6.out.dom key HME.out).1 HMO.out with e | e
        · exact e
        · cases e
      obtain ⟨pv, _, hrl, hra⟩ := HI7.out.rp.look HUU.out HME.out
      have hra := hra HRS.out
      obtain ⟨x, hRx⟩ := Option.isSome_iff_exists.1 HRS.out
      rw [hRx] at hra
      have HRK := hid hRx
      obtain ⟨⟨wa, hmu1, h71, hra1⟩, _, _⟩ := HI7.out.put HUU.out HME.out hra
      have HI7a := hid h71
      have HRA1 := hid hra1
      obtain ⟨jx, hjx⟩ : ∃ jx, jx = U.idxOf key := ⟨_, rfl⟩
      have hjl : jx < U.length := hjx ▸ idx_lt HME.out
      have hj0 : (0 : Int) ≤ (jx : Int) := Int.natCast_nonneg _
      have hj1 : (jx : Int) < (U.length : Int) := by omega
      have HJX := hid hjx
      clear hh hc hro hkey hra hRx h71 hra1 hjx hmk
      have hkc : kk < O.length := hlt
      obtain ⟨_, ⟨wb, hmu2, h72, hra2⟩, _⟩ := HI7a.out.put HUU.out HME.out HRA1.out
      have hmu2' : (Instr.mapUpdate 39 (.map (some (wT.heap.size + 1))) (.string key) pv).run Try.prog wa = .ok () wb := hmu2
      have HI7b := hid h72
      have HLB := hid h72.bi.bel
      have hlk := (HNM.out.below HLB.out).look HUU.out HME.out
      rw [← HJX.out] at hlk
      obtain ⟨d0, f0, _, _⟩ := HI7b.out.bi.mem.at hjl
      clear hmu2 h72
      rcases x with _ | xs
      · have hpv : pv = .pointer none := Option.some.inj hra2
        subst hpv
        have HMOD := hid (HI7b.out.model HUU.out HME.out (o := none) (sl := .slice none 0 0) (Below.refl _ _) (nil_bytes _))
        obtain ⟨u, d1, f1⟩ := HI7b.out.bi.mem.val_behind hjl (.bool false)
        clear hra2
        go_wp2
        go_roundw
        case rel =>
          generalize hx0 : (Option.none : Option (List Int)) = x at HMOD HRK
          have e1 : part R (O.take (kk + 1)) = rput (part R (O.take kk)) key x := by rw [take_snoc hlt, HKEY.out, part_snoc HRK.out]
          have e2 : part R (s1 O O.length (kk + 1)) = rput (part R (s1 O O.length kk)) key x := by rw [s1_lt hlt hkc, HKEY.out, part_snoc HRK.out]
          have e3 : part R (s2 O O.length (kk + 1)) = part R (s2 O O.length kk) := by rw [s2_lt hkc]
          have e4 : over σ0 (part R (O.take (kk + 1))) = sput (over σ0 (part R (O.take kk))) key x := by rw [take_snoc hlt, HKEY.out, over_snoc HRK.out]
          refine ⟨kk + 1, by omega, by go_num, ?_⟩
          have hm := HMOD.out
          rw [← HJX.out] at hm
          rw [e4, e1, e2, e3, ← hx0]
          rw [← hx0] at hm
          exact hm
        case measure => simp [intOf]; omega
      · obtain ⟨pb, sl, hpv, hlo, hpb, hby⟩ := hra2
        obtain rfl := Option.some.inj hpv
        obtain ⟨sa, sc, rfl, _, _⟩ := id hby
        have hxl : xs.length ≤ 1048576 := HI6.out.slim key HME.out xs HRK.out
        have hpne : pb ≠ wN.heap.size := by have := HI7b.out.low; omega
        have hbP : But (Pair wN.heap.size (wN.heap.size + 1)) wb (wb.setCell ⟨wN.heap.size, jx, none⟩ (.bool true)) := (But.refl (Pair wN.heap.size (wN.heap.size + 1)) wb).setCell (p := ⟨wN.heap.size, jx, none⟩) (Or.inl rfl) _
        have HBP := hid (hby.kept hbP HI7b.out.bi.mem.no_row)
        have cp : (wb.setCell ⟨wN.heap.size, jx, none⟩ (.bool true)).cell? ⟨pb, 0, none⟩ = some (.slice sa xs.length sc) := by
          have := hbP.heap hpb (fun e => by have := HI7b.out.low; rcases e with e | e <;> omega)
          simp [World.cell?, this]
        obtain ⟨u, d1, f1⟩ := HI7b.out.bi.mem.val_behind hjl (.bool true)
        have HD1 := hid d1
        have HF1 := hid f1
        clear hpv hlo hpb hby hbP hpne d1 f1
        go_wp2_with fail
        refine (clone15 _ xs _ hxl HBP.out.at).mono ?_
        rintro e wg ⟨slg, rfl, hbg, hbb⟩
        obtain ⟨sa2, sc2, rfl, _, _⟩ := id hbg
        have d2 := cell_kept hbb HD1.out
        have f2 := (hbb.frozen (p := ⟨wN.heap.size + 1, jx, none⟩) (lt_of_cell HD1.out)).trans HF1.out
        have hbb2 : Below (wb.setCell ⟨wN.heap.size, U.idxOf key, none⟩ (.bool (some xs).isSome)).heap.size (wb.setCell ⟨wN.heap.size, U.idxOf key, none⟩ (.bool (some xs).isSome)) wg := by
          rw [← HJX.out, Option.isSome_some]; exact hbb
        have hm := HI7b.out.model HUU.out HME.out (o := some xs) (sl := .slice sa2 xs.length sc2) hbb2 hbg
        rw [← HJX.out] at hm
        have HMOD := hid hm
        clear hm hbb2
        clear hbg hbb d0 f0 cp
        go_wp2
        go_roundw
        case rel =>
          generalize hx0 : some xs = x at HMOD HRK
          have e1 : part R (O.take (kk + 1)) = rput (part R (O.take kk)) key x := by rw [take_snoc hlt, HKEY.out, part_snoc HRK.out]
          have e2 : part R (s1 O O.length (kk + 1)) = rput (part R (s1 O O.length kk)) key x := by rw [s1_lt hlt hkc, HKEY.out, part_snoc HRK.out]
          have e3 : part R (s2 O O.length (kk + 1)) = part R (s2 O O.length kk) := by rw [s2_lt hkc]
          have e4 : over σ0 (part R (O.take (kk + 1))) = sput (over σ0 (part R (O.take kk))) key x := by rw [take_snoc hlt, HKEY.out, over_snoc HRK.out]
          refine ⟨kk + 1, by omega, by go_num, ?_⟩
          have hm := HMOD.out
          rw [e4, e1, e2, e3, ← hx0]
          rw [← hx0] at hm
          exact hm
        case measure => simp [intOf]; omega
    obtain rfl : kk = O.length := by omega
    clear hlt hkk
    have HDOM : Hid (∀ x ∈ U, x ∈ O → (R x).isSome = true) := fun x hx hm => by
      rcases (HI6.out.dom x hx).1 hm with e | e
      · exact e
      · cases e
    go_wp2_with fail
    refine (undo17 sA wT.heap.size wr).mono ?_
    rintro e wu ⟨rfl, hwu⟩
    have hbu : Below wr.heap.size wr wu := by rw [hwu]; exact (Below.refl _ _).alloc (Nat.le_refl _) _
    have HUN : Hid (wu.heap[wr.heap.size]? = some (.cells #[.pointer (some ⟨sA, 0, none⟩), .map (some wT.heap.size)] 55 (0, 0))) := by rw [hwu]; exact heap_last _ _
    have HIU := hid (HI7.out.below hbu)
    clear hwu hbu HI7
    generalize wr.heap.size = un at HUN ⊢
    go_wp2_with fail
    refine (roll_any U sA mA lA un wT.heap.size (wQ.heap.size + 1) σ0 _ wu HUU.out HUN.out HIU.out.w (by have := HIU.out.low; omega) (by have := HIU.out.low; omega) HIU.out.bi.a).mono ?_
    rintro e wv ⟨rfl, hsv, hbv⟩
    have HFV := hid (HIU.out.fin.rollA HFOUR.out HLOA.out hsv hbv)
    clear hsv hbv HUN HIU
    go_wp2_with fail
    refine (undo17 sB (wT.heap.size + 1) wv).mono ?_
    rintro e wu2 ⟨rfl, hwu⟩
    have hbu : Below wv.heap.size wv wu2 := by rw [hwu]; exact (Below.refl _ _).alloc (Nat.le_refl _) _
    have HUN : Hid (wu2.heap[wv.heap.size]? = some (.cells #[.pointer (some ⟨sB, 0, none⟩), .map (some (wT.heap.size + 1))] 55 (0, 0))) := by rw [hwu]; exact heap_last _ _
    have HIU := hid (HFV.out.below hbu)
    clear hwu hbu HFV
    generalize wv.heap.size = un2 at HUN ⊢
    go_wp2_with fail
    refine (roll_any U sB mB lB un2 (wT.heap.size + 1) (wQ.heap.size + 1) σ0 _ wu2 HUU.out HUN.out HIU.out.p1 (by have := HIU.out.low; omega) (by have := HIU.out.low; omega) HIU.out.bi.b).mono ?_
    rintro e wx ⟨rfl, hsv, hbv⟩
    have HFV := hid (HIU.out.rollB HFOUR.out HLOB.out hsv hbv)
    clear hsv hbv HUN HIU
    go_wp2_with fail
    refine (undo17 sB (wT.heap.size + 2) wx).mono ?_
    rintro e wu3 ⟨rfl, hwu⟩
    have hbu : Below wx.heap.size wx wu3 := by rw [hwu]; exact (Below.refl _ _).alloc (Nat.le_refl _) _
    have HUN : Hid (wu3.heap[wx.heap.size]? = some (.cells #[.pointer (some ⟨sB, 0, none⟩), .map (some (wT.heap.size + 2))] 55 (0, 0))) := by rw [hwu]; exact heap_last _ _
    have HIU := hid (HFV.out.below hbu)
    clear hwu hbu HFV
    generalize wx.heap.size = un3 at HUN ⊢
    go_wp2_with fail
    refine (roll_any U sB mB lB un3 (wT.heap.size + 2) (wQ.heap.size + 1) _ _ wu3 HUU.out HUN.out HIU.out.p2 (by have := HIU.out.low; omega) (by have := HIU.out.low; omega) HIU.out.bi.b).mono ?_
    rintro e wy ⟨rfl, hsv, hbv⟩
    have HFV := hid (HIU.out.rollB HFOUR.out HLOB.out hsv hbv)
    clear hsv hbv HUN HIU
    go_wp2_with fail
    refine (HFV.out.bi.mem.is HUU.out HFV.out.bi.a (fun x _ => rfl) HNM.out HFV.out.bi.bel).mono ?_
    rintro e wz ⟨rfl, hbz⟩
    have HFZ := hid (HFV.out.below hbz)
    clear hbz HFV
    go_wp2_with fail
    refine (HFZ.out.bi.mem.is HUU.out HFZ.out.bi.b (split_over HDOM.out) HNM.out HFZ.out.bi.bel).mono ?_
    rintro e wz2 ⟨rfl, hbz⟩
    have HBZ := hid hbz
    clear hbz
    go_wp2
    go_ret
    have h1 : Below w.heap.size w wN := HBE.out.trans (HBN.out.mono HBE.out.size)
    have h2 : Below w.heap.size w wz := h1.trans (HFZ.out.bi.bel.mono h1.size)
    exact ⟨rfl, h2.trans (HBZ.out.mono h2.size)⟩
  obtain ⟨c, rfl⟩ : ∃ c : Nat, cut = c := ⟨cut.toNat, by omega⟩
  have HST := hid (In7.start c HI.out HI6.out)
  go_wp2_with fail
  go_loopw [36] (fun i wr => ∃ kk : Nat, kk ≤ O.length ∧ i = .int .i64 kk ∧ Hid (In7 wN wQ wT wr U O (.slice aO O.length cO) R (part R (O.take kk)) (part R (s1 O c kk)) (part R (s2 O c kk)) sA mA lA sB mB lB σ0 (over σ0 (part R (O.take kk))))) (fun i _ => O.length - (intOf i).toNat)
  case atStart => exact ⟨0, Nat.zero_le _, rfl, HST.out⟩
  case round =>
  clear HST
  obtain ⟨kk, hkk, rfl, HI7⟩ := hrel
  by_cases hlt : kk < O.length
  · obtain ⟨_, _, eo, _, hro⟩ := HI7.out.ord.rowOf
    cases eo
    obtain ⟨b, arr, rfl, hh, hc⟩ := hro (by omega)
    have cc : wr.cell? ⟨b, kk, none⟩ = some (.string (nm O kk)) := by rw [cell_of_row wr b kk arr 9 (0, 0) hh]; exact hc kk hlt
    have hi0 : (0 : Int) ≤ (kk : Int) := Int.natCast_nonneg _
    have hi1 : (kk : Int) < (O.length : Int) := by omega
    have HMO := hid (nm_mem hlt)
    generalize hkey : nm O kk = key at cc HMO
    have HKEY := hid hkey
    have HME := hid (HI6.out.sub key HMO.out)
    have HRS : Hid ((R key).isSome = true) := by
      rcases (HI6.out.dom key HME.out).1 HMO.out with e | e
      · exact e
      · cases e
    obtain ⟨pv, _, hrl, hra⟩ := HI7.out.rp.look HUU.out HME.out
    have hra := hra HRS.out
    obtain ⟨x, hRx⟩ := Option.isSome_iff_exists.1 HRS.out
    rw [hRx] at hra
    have HRK := hid hRx
    obtain ⟨⟨wa, hmu1, h71, hra1⟩, _, _⟩ := HI7.out.put HUU.out HME.out hra
    have HI7a := hid h71
    have HRA1 := hid hra1
    obtain ⟨jx, hjx⟩ : ∃ jx, jx = U.idxOf key := ⟨_, rfl⟩
    have hjl : jx < U.length := hjx ▸ idx_lt HME.out
    have hj0 : (0 : Int) ≤ (jx : Int) := Int.natCast_nonneg _
    have hj1 : (jx : Int) < (U.length : Int) := by omega
    have HJX := hid hjx
    clear hh hc hro hkey hra hRx h71 hra1 hjx hmk
    by_cases hkc : kk < c
    · have hkcI : (kk : Int) < (c : Int) := by omega
      obtain ⟨_, ⟨wb, hmu2, h72, hra2⟩, _⟩ := HI7a.out.put HUU.out HME.out HRA1.out
      have hmu2' : (Instr.mapUpdate 39 (.map (some (wT.heap.size + 1))) (.string key) pv).run Try.prog wa = .ok () wb := hmu2
      have HI7b := hid h72
      have HLB := hid h72.bi.bel
      have hlk := (HNM.out.below HLB.out).look HUU.out HME.out
      rw [← HJX.out] at hlk
      obtain ⟨d0, f0, _, _⟩ := HI7b.out.bi.mem.at hjl
      clear hmu2 h72
      rcases x with _ | xs
      · have hpv : pv = .pointer none := Option.some.inj hra2
        subst hpv
        have HMOD := hid (HI7b.out.model HUU.out HME.out (o := none) (sl := .slice none 0 0) (Below.refl _ _) (nil_bytes _))
        obtain ⟨u, d1, f1⟩ := HI7b.out.bi.mem.val_behind hjl (.bool false)
        clear hra2
        go_wp2
        go_roundw
        case rel =>
          generalize hx0 : (Option.none : Option (List Int)) = x at HMOD HRK
          have e1 : part R (O.take (kk + 1)) = rput (part R (O.take kk)) key x := by rw [take_snoc hlt, HKEY.out, part_snoc HRK.out]
          have e2 : part R (s1 O c (kk + 1)) = rput (part R (s1 O c kk)) key x := by rw [s1_lt hlt hkc, HKEY.out, part_snoc HRK.out]
          have e3 : part R (s2 O c (kk + 1)) = part R (s2 O c kk) := by rw [s2_lt hkc]
          have e4 : over σ0 (part R (O.take (kk + 1))) = sput (over σ0 (part R (O.take kk))) key x := by rw [take_snoc hlt, HKEY.out, over_snoc HRK.out]
          refine ⟨kk + 1, by omega, by go_num, ?_⟩
          have hm := HMOD.out
          rw [← HJX.out] at hm
          rw [e4, e1, e2, e3, ← hx0]
          rw [← hx0] at hm
          exact hm
        case measure => simp [intOf]; omega
      · obtain ⟨pb, sl, hpv, hlo, hpb, hby⟩ := hra2
        obtain rfl := Option.some.inj hpv
        obtain ⟨sa, sc, rfl, _, _⟩ := id hby
        have hxl : xs.length ≤ 1048576 := HI6.out.slim key HME.out xs HRK.out
        have hpne : pb ≠ wN.heap.size := by have := HI7b.out.low; omega
        have hbP : But (Pair wN.heap.size (wN.heap.size + 1)) wb (wb.setCell ⟨wN.heap.size, jx, none⟩ (.bool true)) := (But.refl (Pair wN.heap.size (wN.heap.size + 1)) wb).setCell (p := ⟨wN.heap.size, jx, none⟩) (Or.inl rfl) _
        have HBP := hid (hby.kept hbP HI7b.out.bi.mem.no_row)
        have cp : (wb.setCell ⟨wN.heap.size, jx, none⟩ (.bool true)).cell? ⟨pb, 0, none⟩ = some (.slice sa xs.length sc) := by
          have := hbP.heap hpb (fun e => by have := HI7b.out.low; rcases e with e | e <;> omega)
          simp [World.cell?, this]
        obtain ⟨u, d1, f1⟩ := HI7b.out.bi.mem.val_behind hjl (.bool true)
        have HD1 := hid d1
        have HF1 := hid f1
        clear hpv hlo hpb hby hbP hpne d1 f1
        go_wp2_with fail
        refine (clone15 _ xs _ hxl HBP.out.at).mono ?_
        rintro e wg ⟨slg, rfl, hbg, hbb⟩
        obtain ⟨sa2, sc2, rfl, _, _⟩ := id hbg
        have d2 := cell_kept hbb HD1.out
        have f2 := (hbb.frozen (p := ⟨wN.heap.size + 1, jx, none⟩) (lt_of_cell HD1.out)).trans HF1.out
        have hbb2 : Below (wb.setCell ⟨wN.heap.size, U.idxOf key, none⟩ (.bool (some xs).isSome)).heap.size (wb.setCell ⟨wN.heap.size, U.idxOf key, none⟩ (.bool (some xs).isSome)) wg := by
          rw [← HJX.out, Option.isSome_some]; exact hbb
        have hm := HI7b.out.model HUU.out HME.out (o := some xs) (sl := .slice sa2 xs.length sc2) hbb2 hbg
        rw [← HJX.out] at hm
        have HMOD := hid hm
        clear hm hbb2
        clear hbg hbb d0 f0 cp
        go_wp2
        go_roundw
        case rel =>
          generalize hx0 : some xs = x at HMOD HRK
          have e1 : part R (O.take (kk + 1)) = rput (part R (O.take kk)) key x := by rw [take_snoc hlt, HKEY.out, part_snoc HRK.out]
          have e2 : part R (s1 O c (kk + 1)) = rput (part R (s1 O c kk)) key x := by rw [s1_lt hlt hkc, HKEY.out, part_snoc HRK.out]
          have e3 : part R (s2 O c (kk + 1)) = part R (s2 O c kk) := by rw [s2_lt hkc]
          have e4 : over σ0 (part R (O.take (kk + 1))) = sput (over σ0 (part R (O.take kk))) key x := by rw [take_snoc hlt, HKEY.out, over_snoc HRK.out]
          refine ⟨kk + 1, by omega, by go_num, ?_⟩
          have hm := HMOD.out
          rw [e4, e1, e2, e3, ← hx0]
          rw [← hx0] at hm
          exact hm
        case measure => simp [intOf]; omega
    · have hkcI : ((kk : Int) < (c : Int)) = False := by simp; omega
      obtain ⟨_, _, ⟨wb, hmu2, h72, hra2⟩⟩ := HI7a.out.put HUU.out HME.out HRA1.out
      have hmu2' : (Instr.mapUpdate 39 (.map (some (wT.heap.size + 1 + 1))) (.string key) pv).run Try.prog wa = .ok () wb := hmu2
      have HI7b := hid h72
      have HLB := hid h72.bi.bel
      have hlk := (HNM.out.below HLB.out).look HUU.out HME.out
      rw [← HJX.out] at hlk
      obtain ⟨d0, f0, _, _⟩ := HI7b.out.bi.mem.at hjl
      clear hmu2 h72
      rcases x with _ | xs
      · have hpv : pv = .pointer none := Option.some.inj hra2
        subst hpv
        have HMOD := hid (HI7b.out.model HUU.out HME.out (o := none) (sl := .slice none 0 0) (Below.refl _ _) (nil_bytes _))
        obtain ⟨u, d1, f1⟩ := HI7b.out.bi.mem.val_behind hjl (.bool false)
        clear hra2
        go_wp2
        go_roundw
        case rel =>
          generalize hx0 : (Option.none : Option (List Int)) = x at HMOD HRK
          have e1 : part R (O.take (kk + 1)) = rput (part R (O.take kk)) key x := by rw [take_snoc hlt, HKEY.out, part_snoc HRK.out]
          have e2 : part R (s1 O c (kk + 1)) = part R (s1 O c kk) := by rw [s1_ge hkc]
          have e3 : part R (s2 O c (kk + 1)) = rput (part R (s2 O c kk)) key x := by rw [s2_ge hlt hkc, HKEY.out, part_snoc HRK.out]
          have e4 : over σ0 (part R (O.take (kk + 1))) = sput (over σ0 (part R (O.take kk))) key x := by rw [take_snoc hlt, HKEY.out, over_snoc HRK.out]
          refine ⟨kk + 1, by omega, by go_num, ?_⟩
          have hm := HMOD.out
          rw [← HJX.out] at hm
          rw [e4, e1, e2, e3, ← hx0]
          rw [← hx0] at hm
          exact hm
        case measure => simp [intOf]; omega
      · obtain ⟨pb, sl, hpv, hlo, hpb, hby⟩ := hra2
        obtain rfl := Option.some.inj hpv
        obtain ⟨sa, sc, rfl, _, _⟩ := id hby
        have hxl : xs.length ≤ 1048576 := HI6.out.slim key HME.out xs HRK.out
        have hpne : pb ≠ wN.heap.size := by have := HI7b.out.low; omega
        have hbP : But (Pair wN.heap.size (wN.heap.size + 1)) wb (wb.setCell ⟨wN.heap.size, jx, none⟩ (.bool true)) := (But.refl (Pair wN.heap.size (wN.heap.size + 1)) wb).setCell (p := ⟨wN.heap.size, jx, none⟩) (Or.inl rfl) _
        have HBP := hid (hby.kept hbP HI7b.out.bi.mem.no_row)
        have cp : (wb.setCell ⟨wN.heap.size, jx, none⟩ (.bool true)).cell? ⟨pb, 0, none⟩ = some (.slice sa xs.length sc) := by
          have := hbP.heap hpb (fun e => by have := HI7b.out.low; rcases e with e | e <;> omega)
          simp [World.cell?, this]
        obtain ⟨u, d1, f1⟩ := HI7b.out.bi.mem.val_behind hjl (.bool true)
        have HD1 := hid d1
        have HF1 := hid f1
        clear hpv hlo hpb hby hbP hpne d1 f1
        go_wp2_with fail
        refine (clone15 _ xs _ hxl HBP.out.at).mono ?_
        rintro e wg ⟨slg, rfl, hbg, hbb⟩
        obtain ⟨sa2, sc2, rfl, _, _⟩ := id hbg
        have d2 := cell_kept hbb HD1.out
        have f2 := (hbb.frozen (p := ⟨wN.heap.size + 1, jx, none⟩) (lt_of_cell HD1.out)).trans HF1.out
        have hbb2 : Below (wb.setCell ⟨wN.heap.size, U.idxOf key, none⟩ (.bool (some xs).isSome)).heap.size (wb.setCell ⟨wN.heap.size, U.idxOf key, none⟩ (.bool (some xs).isSome)) wg := by
          rw [← HJX.out, Option.isSome_some]; exact hbb
        have hm := HI7b.out.model HUU.out HME.out (o := some xs) (sl := .slice sa2 xs.length sc2) hbb2 hbg
        rw [← HJX.out] at hm
        have HMOD := hid hm
        clear hm hbb2
        clear hbg hbb d0 f0 cp
        go_wp2
        go_roundw
        case rel =>
          generalize hx0 : some xs = x at HMOD HRK
          have e1 : part R (O.take (kk + 1)) = rput (part R (O.take kk)) key x := by rw [take_snoc hlt, HKEY.out, part_snoc HRK.out]
          have e2 : part R (s1 O c (kk + 1)) = part R (s1 O c kk) := by rw [s1_ge hkc]
          have e3 : part R (s2 O c (kk + 1)) = rput (part R (s2 O c kk)) key x := by rw [s2_ge hlt hkc, HKEY.out, part_snoc HRK.out]
          have e4 : over σ0 (part R (O.take (kk + 1))) = sput (over σ0 (part R (O.take kk))) key x := by rw [take_snoc hlt, HKEY.out, over_snoc HRK.out]
          refine ⟨kk + 1, by omega, by go_num, ?_⟩
          have hm := HMOD.out
          rw [e4, e1, e2, e3, ← hx0]
          rw [← hx0] at hm
          exact hm
        case measure => simp [intOf]; omega
  obtain rfl : kk = O.length := by omega
  clear hlt hkk
  have HDOM : Hid (∀ x ∈ U, x ∈ O → (R x).isSome = true) := fun x hx hm => by
    rcases (HI6.out.dom x hx).1 hm with e | e
    · exact e
    · cases e
  go_wp2_with fail
  refine (undo17 sA wT.heap.size wr).mono ?_
  rintro e wu ⟨rfl, hwu⟩
  have hbu : Below wr.heap.size wr wu := by rw [hwu]; exact (Below.refl _ _).alloc (Nat.le_refl _) _
  have HUN : Hid (wu.heap[wr.heap.size]? = some (.cells #[.pointer (some ⟨sA, 0, none⟩), .map (some wT.heap.size)] 55 (0, 0))) := by rw [hwu]; exact heap_last _ _
  have HIU := hid (HI7.out.below hbu)
  clear hwu hbu HI7
  generalize wr.heap.size = un at HUN ⊢
  go_wp2_with fail
  refine (roll_any U sA mA lA un wT.heap.size (wQ.heap.size + 1) σ0 _ wu HUU.out HUN.out HIU.out.w (by have := HIU.out.low; omega) (by have := HIU.out.low; omega) HIU.out.bi.a).mono ?_
  rintro e wv ⟨rfl, hsv, hbv⟩
  have HFV := hid (HIU.out.fin.rollA HFOUR.out HLOA.out hsv hbv)
  clear hsv hbv HUN HIU
  go_wp2_with fail
  refine (undo17 sB (wT.heap.size + 1) wv).mono ?_
  rintro e wu2 ⟨rfl, hwu⟩
  have hbu : Below wv.heap.size wv wu2 := by rw [hwu]; exact (Below.refl _ _).alloc (Nat.le_refl _) _
  have HUN : Hid (wu2.heap[wv.heap.size]? = some (.cells #[.pointer (some ⟨sB, 0, none⟩), .map (some (wT.heap.size + 1))] 55 (0, 0))) := by rw [hwu]; exact heap_last _ _
  have HIU := hid (HFV.out.below hbu)
  clear hwu hbu HFV
  generalize wv.heap.size = un2 at HUN ⊢
  go_wp2_with fail
  refine (roll_any U sB mB lB un2 (wT.heap.size + 1) (wQ.heap.size + 1) σ0 _ wu2 HUU.out HUN.out HIU.out.p1 (by have := HIU.out.low; omega) (by have := HIU.out.low; omega) HIU.out.bi.b).mono ?_
  rintro e wx ⟨rfl, hsv, hbv⟩
  have HFV := hid (HIU.out.rollB HFOUR.out HLOB.out hsv hbv)
  clear hsv hbv HUN HIU
  go_wp2_with fail
  refine (undo17 sB (wT.heap.size + 2) wx).mono ?_
  rintro e wu3 ⟨rfl, hwu⟩
  have hbu : Below wx.heap.size wx wu3 := by rw [hwu]; exact (Below.refl _ _).alloc (Nat.le_refl _) _
  have HUN : Hid (wu3.heap[wx.heap.size]? = some (.cells #[.pointer (some ⟨sB, 0, none⟩), .map (some (wT.heap.size + 2))] 55 (0, 0))) := by rw [hwu]; exact heap_last _ _
  have HIU := hid (HFV.out.below hbu)
  clear hwu hbu HFV
  generalize wx.heap.size = un3 at HUN ⊢
  go_wp2_with fail
  refine (roll_any U sB mB lB un3 (wT.heap.size + 2) (wQ.heap.size + 1) _ _ wu3 HUU.out HUN.out HIU.out.p2 (by have := HIU.out.low; omega) (by have := HIU.out.low; omega) HIU.out.bi.b).mono ?_
  rintro e wy ⟨rfl, hsv, hbv⟩
  have HFV := hid (HIU.out.rollB HFOUR.out HLOB.out hsv hbv)
  clear hsv hbv HUN HIU
  go_wp2_with fail
  refine (HFV.out.bi.mem.is HUU.out HFV.out.bi.a (fun x _ => rfl) HNM.out HFV.out.bi.bel).mono ?_
  rintro e wz ⟨rfl, hbz⟩
  have HFZ := hid (HFV.out.below hbz)
  clear hbz HFV
  go_wp2_with fail
  refine (HFZ.out.bi.mem.is HUU.out HFZ.out.bi.b (split_over HDOM.out) HNM.out HFZ.out.bi.bel).mono ?_
  rintro e wz2 ⟨rfl, hbz⟩
  have HBZ := hid hbz
  clear hbz
  go_wp2
  go_ret
  have h1 : Below w.heap.size w wN := HBE.out.trans (HBN.out.mono HBE.out.size)
  have h2 : Below w.heap.size w wz := h1.trans (HFZ.out.bi.bel.mono h1.size)
  exact ⟨rfl, h2.trans (HBZ.out.mono h2.size)⟩
end Go.Proofs.Qxb6628689a
