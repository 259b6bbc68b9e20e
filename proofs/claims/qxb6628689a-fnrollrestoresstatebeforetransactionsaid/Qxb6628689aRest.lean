/-
  THE WALK OF FnRollRestoresStateBeforeTransaction.
-/
import Derived.Test.Qxb6628689aIn4
namespace Go.Proofs.Qxb6628689a
open Go.RowKit
open Go.Maps (Keyed)

set_option maxRecDepth 100000 in
set_option maxHeartbeats 6400000 in
theorem restores_any (w : World) (k0 v0 k1 v1 d1 : Value) (n0 m0 n1 m1 nd : Nat) (V0 V1 : Nat → ByteArray) (E0 E1 : Nat → Value) (Z0 Z1 : Nat → List Int) (D : Nat → Bool) (h : Arg w k0 v0 k1 v1 d1 n0 m0 n1 m1 nd V0 V1 E0 E1 Z0 Z1 D) :
    Calls Try.prog 3 #[k0, v0, k1, v1, d1] w fun e w' => e = .returned (.bool true) ∧ Below w.heap.size w w' := by
  have HARG := hid h
  have H5 := hid (bytes5 w k0 v0 k1 v1 d1 n0 m0 n1 m1 nd V0 V1 E0 E1 Z0 Z1 D h)
  obtain ⟨ad, cd, rfl, hdl, _⟩ := h.a4
  clear h
  unfold maxLen at hdl
  have hmk : ∀ (t : TypeId) (w : World), (Instr.makeMap t none).run Try.prog w = .ok (.map (some w.heap.size)) (w.alloc (.map #[] 0)) := fun _ _ => rfl
  go_enter Try.func3, Try.ntmps3
  go_wp2_with fail
  refine H5.out.mono ?_
  rintro e w' ⟨⟨bv, rfl, hfine⟩, hw'⟩; obtain rfl := hw'.symm; clear hw' H5
  have HF0 := hid hfine
  clear hfine
  cases bv
  · go_wp2
    go_ret
    exact ⟨rfl, Below.refl _ _⟩
  have HF := hid (HF0.out (by first | trivial | rfl))
  clear HF0
  have hnd := HF.out.l4
  go_wp2_with fail
  refine (count6 0 k0 n0 V0 w (by omega) HF.out.l0 HARG.out.a0 HF.out.f0).mono ?_
  rintro e w' ⟨⟨q1, hq1, rfl⟩, hw'⟩; obtain rfl := hw'.symm; clear hw'
  by_cases hb1 : 1048576 < q1
  · go_wp2
    go_ret
    exact ⟨rfl, Below.refl _ _⟩
  go_wp2_with fail
  refine (count7 q1 v0 m0 E0 Z0 w (by omega) HF.out.l1 HARG.out.a1 (fun i hi => ⟨HF.out.f1 i hi, HARG.out.z0 i hi⟩)).mono ?_
  rintro e w' ⟨⟨q2, hq2, rfl⟩, hw'⟩; obtain rfl := hw'.symm; clear hw'
  by_cases hb2 : 1048576 < q2
  · go_wp2
    go_ret
    exact ⟨rfl, Below.refl _ _⟩
  go_wp2_with fail
  refine (count6 q2 k1 n1 V1 w (by omega) HF.out.l2 HARG.out.a2 HF.out.f2).mono ?_
  rintro e w' ⟨⟨q3, hq3, rfl⟩, hw'⟩; obtain rfl := hw'.symm; clear hw'
  by_cases hb3 : 1048576 < q3
  · go_wp2
    go_ret
    exact ⟨rfl, Below.refl _ _⟩
  go_wp2_with fail
  refine (count7 q3 v1 m1 E1 Z1 w (by omega) HF.out.l3 HARG.out.a3 (fun i hi => ⟨HF.out.f3 i hi, HARG.out.z1 i hi⟩)).mono ?_
  rintro e w' ⟨⟨q4, hq4, rfl⟩, hw'⟩; obtain rfl := hw'.symm; clear hw'
  by_cases hb4 : 1048576 < q4
  · go_wp2
    go_ret
    exact ⟨rfl, Below.refl _ _⟩
  by_cases hb5 : 1048576 < q4 + nd
  · go_wp2
    go_ret
    exact ⟨rfl, Below.refl _ _⟩
  go_wp2_with fail
  refine (clone8 k0 n0 V0 w (by have := HF.out.l0; omega) HARG.out.a0).mono ?_
  rintro e wA ⟨k0', rfl, hk0, hbA⟩
  have HK0 := hid hk0.row
  have HBA := hid hbA
  clear hk0 hbA
  go_wp2_with fail
  refine (clone9 v0 m0 E0 Z0 wA (by have := HF.out.l1; omega) (HARG.out.below HBA.out).a1 (fun i hi => ⟨HF.out.f1 i hi, (HARG.out.below HBA.out).z0 i hi⟩)).mono ?_
  rintro e wB ⟨v0', E0', rfl, hv0, hz0, hbB⟩
  have HV0 := hid hv0.row
  have HZ0 := hid hz0
  have HK0b := hid (HK0.out.below hbB)
  have HBB := hid (HBA.out.trans (hbB.mono HBA.out.size))
  clear hv0 hz0 hbB HK0 HBA
  go_wp2_with fail
  refine (clone8 k1 n1 V1 wB (by have := HF.out.l2; omega) (HARG.out.below HBB.out).a2).mono ?_
  rintro e wC ⟨k1', rfl, hk1, hbC⟩
  have HK1 := hid hk1.row
  have HC0 := hid (And.intro (HK0b.out.below hbC) (And.intro (HV0.out.below hbC) (fun i hi => (HZ0.out i hi).below hbC)))
  have HBC := hid (HBB.out.trans (hbC.mono HBB.out.size))
  clear hk1 hbC HK0b HV0 HZ0 HBB
  go_wp2_with fail
  refine (clone9 v1 m1 E1 Z1 wC (by have := HF.out.l3; omega) (HARG.out.below HBC.out).a3 (fun i hi => ⟨HF.out.f3 i hi, (HARG.out.below HBC.out).z1 i hi⟩)).mono ?_
  rintro e wD ⟨v1', E1', rfl, hv1, hz1, hbD⟩
  have HC1 := hid (And.intro (HK1.out.below hbD) (And.intro hv1.row hz1))
  have HC0d := hid (And.intro (HC0.out.1.below hbD) (And.intro (HC0.out.2.1.below hbD) (fun i hi => (HC0.out.2.2 i hi).below hbD)))
  have HBD := hid (HBC.out.trans (hbD.mono HBC.out.size))
  clear hv1 hz1 hbD HK1 HC0 HBC
  go_wp2_with fail
  refine (clone10 _ nd D wD (by have := HF.out.l4; omega) (HARG.out.below HBD.out).a4).mono ?_
  rintro e wE ⟨d1', rfl, hd1, hbE⟩
  have HCST : Hid (Cst wE k0' v0' k1' v1' d1' n0 m0 n1 m1 nd V0 V1 E0' E1' Z0 Z1 D) :=
    ⟨HC0d.out.1.below hbE, HC0d.out.2.1.below hbE, HC1.out.1.below hbE, HC1.out.2.1.below hbE, hd1.row, fun i hi => (HC0d.out.2.2 i hi).below hbE, fun i hi => (HC1.out.2.2 i hi).below hbE⟩
  have HBE := hid (HBD.out.trans (hbE.mono HBD.out.size))
  clear hd1 hbE HC0d HC1 HBD HARG hq1 hq2 hq3 hq4 hb1 hb2 hb3 hb4 hb5
  obtain ⟨a0, c0, rfl, hl0, _⟩ := id HCST.out.a0
  obtain ⟨a2, c2, rfl, hl2, _⟩ := id HCST.out.a2
  obtain ⟨a4, c4, rfl, hl4, _⟩ := id HCST.out.a4
  clear hl0 hl2 hl4
  have hn0 := HF.out.l0
  have hn1 := HF.out.l2
  have HMI := hid (MapIs.made Try.prog wE 9 Value.string)
  have HBEm : Hid (Below wE.heap.size wE (wE.alloc (.map #[] 0))) := (Below.refl _ _).alloc (Nat.le_refl _) _
  go_wp2_with fail
  go_loopw [13, 14] (fun v i wr => ∃ k : Nat, k ≤ n0 ∧ i = .int .i64 k ∧ Hid (Names wr wE.heap.size v (addN [] V0 k) ∧ Below wE.heap.size wE wr)) (fun _ i _ => n0 - (intOf i).toNat)
  case atStart => exact ⟨0, Nat.zero_le _, rfl, Names.start HMI.out, HBEm.out⟩
  case round =>
  obtain ⟨k, hk, rfl, HI⟩ := hrel
  by_cases hlt : k < n0
  · obtain ⟨_, _, e0, _, hr0⟩ := HCST.out.below HI.out.2 |>.a0
    cases e0
    obtain ⟨b, arr, rfl, hh, hc⟩ := hr0 (by omega)
    have cc : wr.cell? ⟨b, k, none⟩ = some (.string (V0 k)) := by rw [cell_of_row wr b k arr 9 (0, 0) hh]; exact hc k hlt
    have hi0 : (0 : Int) ≤ (k : Int) := Int.natCast_nonneg _
    have hi1 : (k : Int) < (n0 : Int) := by omega
    clear hh hc hr0
    go_wp2_with fail
    refine (add11 (V0 k) (addN [] V0 k) _ _ wr (HF.out.f0 k hlt) (by have := addN_length [] V0 k; simp at this; omega) HI.out.1).mono ?_
    rintro e w1 ⟨v', rfl, hN, hb⟩
    have HN := hid hN
    have HBn := hid (HI.out.2.trans hb)
    clear hN hb
    go_wp2
    go_roundw
    case rel => exact ⟨k + 1, by omega, by go_num, HN.out, HBn.out⟩
    case measure => simp [intOf]; omega
  obtain rfl : k = n0 := by omega
  clear hlt hk
  go_wp2
  go_loopw [13, 15] (fun v i wr => ∃ j : Nat, j ≤ n1 ∧ i = .int .i64 j ∧ Hid (Names wr wE.heap.size v (addN (addN [] V0 k) V1 j) ∧ Below wE.heap.size wE wr)) (fun _ i _ => n1 - (intOf i).toNat)
  case atStart => exact ⟨0, Nat.zero_le _, rfl, HI.out⟩
  case round =>
  clear HI
  obtain ⟨j, hj, rfl, HI⟩ := hrel
  by_cases hlt : j < n1
  · obtain ⟨_, _, e0, _, hr0⟩ := HCST.out.below HI.out.2 |>.a2
    cases e0
    obtain ⟨b, arr, rfl, hh, hc⟩ := hr0 (by omega)
    have cc : wr.cell? ⟨b, j, none⟩ = some (.string (V1 j)) := by rw [cell_of_row wr b j arr 9 (0, 0) hh]; exact hc j hlt
    have hi0 : (0 : Int) ≤ (j : Int) := Int.natCast_nonneg _
    have hi1 : (j : Int) < (n1 : Int) := by omega
    clear hh hc hr0
    go_wp2_with fail
    refine (add11 (V1 j) (addN (addN [] V0 k) V1 j) _ _ wr (HF.out.f2 j hlt) (by have := addN_length [] V0 k; have := addN_length (addN [] V0 k) V1 j; simp at *; omega) HI.out.1).mono ?_
    rintro e w1 ⟨v', rfl, hN, hb⟩
    have HN := hid hN
    have HBn := hid (HI.out.2.trans hb)
    clear hN hb
    go_wp2
    go_roundw
    case rel => exact ⟨j + 1, by omega, by go_num, HN.out, HBn.out⟩
    case measure => simp [intOf]; omega
  obtain rfl : j = n1 := by omega
  clear hlt hj
  have HNM : Hid (Names wr wE.heap.size _ (allU V0 V1 k j)) := HI.out.1
  have HBN := hid HI.out.2
  have HUU := hid (all_uni HNM.out.nd hn0 hn1 HF.out.f0 HF.out.f2)
  have HM0 : Hid (∀ i, i < k → V0 i ∈ allU V0 V1 k j) := fun i hi => mem_all0 hi
  have HM1 : Hid (∀ i, i < j → V1 i ∈ allU V0 V1 k j) := fun i hi => mem_all1 hi
  clear HI HMI HBEm
  generalize allU V0 V1 k j = U at HNM HUU HM0 HM1
  have hul := HUU.out.few
  obtain ⟨aN, cN, rfl, _, _⟩ := id HNM.out.rowOf
  have hmk1 := mk24 wr U.length (by omega)
  have hmk2 := mk23 (wr.alloc (.cells (madeCells #[.bool false] U.length) 4)) U.length (by omega)
  obtain ⟨wN, rfl⟩ : ∃ wN, wN = wr := ⟨_, rfl⟩
  go_wp2_with fail
  refine (new12 _ U).mono ?_
  rintro e w2 ⟨st, ms, ml, rfl, hsto, l1, l2, l3, hb⟩
  have hsz2 : ((wN.alloc (Obj.cells (madeCells #[Value.bool false] U.length) 4)).alloc (Obj.cells (madeCells #[Value.slice none 0 0] U.length) 35)).heap.size = wN.heap.size + 2 := by simp
  rw [hsz2] at l1 l2 l3
  have hbN : Below wN.heap.size wN w2 := (((Below.refl _ _).alloc (Nat.le_refl _) _).alloc (by simp) _).trans (hb.mono (by rw [hsz2]; omega))
  have hbh : w2.heap[wN.heap.size]? = some (.cells (madeCells #[.bool false] U.length) 4 (0, 0)) := by
    rw [hb.block _ (by rw [hsz2]; omega)]
    show ((wN.heap.push _).push _)[wN.heap.size]? = _
    rw [Array.getElem?_push, if_neg (by simp), Array.getElem?_push, if_pos rfl]
  have hbv : w2.heap[wN.heap.size + 1]? = some (.cells (madeCells #[.slice none 0 0] U.length) 35 (0, 0)) := by
    rw [hb.block _ (by rw [hsz2]; omega)]
    show ((wN.heap.push _).push _)[wN.heap.size + 1]? = _
    rw [Array.getElem?_push, if_pos (by simp)]
  have HI0 : Hid (Below wN.heap.size wN w2 ∧ Sto w2 U st ms ml (fill V0 m0 Z0 0) ∧ Mem w2 U (fill V0 m0 Z0 0) wN.heap.size (wN.heap.size + 1)) := ⟨hbN, hsto, Mem.made hbh hbv⟩
  have HLO := hid (And.intro l1 (And.intro l2 l3))
  clear hsz2 hbN hbh hbv hsto l1 l2 l3 hb hmk1 hmk2
  go_wp2_with fail
  go_loopw [19] (fun i wr => ∃ q : Nat, q ≤ k ∧ i = .int .i64 q ∧ Hid (Below wN.heap.size wN wr ∧ Sto wr U st ms ml (fill V0 m0 Z0 q) ∧ Mem wr U (fill V0 m0 Z0 q) wN.heap.size (wN.heap.size + 1))) (fun i _ => k - (intOf i).toNat)
  case atStart => exact ⟨0, Nat.zero_le _, rfl, HI0.out⟩
  case round =>
  clear HI0
  obtain ⟨q, hq, rfl, HI⟩ := hrel
  by_cases hlt : q < k
  · have HCq := hid (HCST.out.below (HBN.out.trans (HI.out.1.mono HBN.out.size)))
    obtain ⟨_, _, e0, _, hr0⟩ := HCq.out.a0
    cases e0
    obtain ⟨b, arr, rfl, hh, hc⟩ := hr0 (by omega)
    have cc : wr.cell? ⟨b, q, none⟩ = some (.string (V0 q)) := by rw [cell_of_row wr b q arr 9 (0, 0) hh]; exact hc q hlt
    have hi0 : (0 : Int) ≤ (q : Int) := Int.natCast_nonneg _
    have hi1 : (q : Int) < (k : Int) := by omega
    have HME := hid (HM0.out q hlt)
    have HVAL := hid (zAt_bytes HCq.out.z0 q)
    have hzl := zAt_len HF.out.f1 q
    obtain ⟨sa, sc, he, _, _⟩ := id HVAL.out
    have H13 := hid (value13 v0' m0 q E0' wr (by omega) HCq.out.a1.at)
    rw [he] at HVAL H13
    clear hh hc hr0 he HCq
    generalize hxs : zAt m0 Z0 q = xs at HVAL H13 hzl
    have HXS := hid hxs
    clear hxs
    go_wp2_with fail
    refine H13.out.mono ?_
    rintro e w' ⟨rfl, hw'⟩; obtain rfl := hw'.symm; clear hw' H13
    go_wp2_with fail
    go_region_held3 (fun w' => w'.cell? ⟨b, q, none⟩ = some (.string (V0 q)))
      (go_keep)
      (first
        | (go_at_call 15; refine (clone15 _ xs _ hzl HVAL.out.drew.at).mono ?_; rintro e wa ⟨sl, rfl, hby, hba⟩; have ca := cell_kept (Below.of_drew hba) cc; have HBY := hid hby; have HBA := hid (Below.of_drew hba); clear hby hba)
        | (go_at_call 14; refine (set14 (V0 q) sl xs U st ms ml _ wa HUU.out HME.out HBY.out (HI.out.2.1.below HBA.out)).mono ?_; rintro e wb ⟨rfl, hsb, hbb⟩; have HSB := hid hsb; have HBB := hid hbb; have cb : wb.cell? ⟨b, q, none⟩ = some (.string (V0 q)) := cell_two (HI.out.2.1.below HBA.out) hbb ca; clear hsb hbb))
    have HSTEP := hid (step_both HUU.out HME.out (o := some xs) (HI.out.2.2.below HBA.out) (HI.out.2.1.below HBA.out) HSB.out HBB.out (HVAL.out.below HBA.out))
    have hla : Below wN.heap.size wN wa := HI.out.1.trans (HBA.out.mono HI.out.1.size)
    have HLB := hid (But.lowBelow hla hla.size HBB.out (fun q e => by have := HLO.out; rcases e with e | e <;> omega))
    have hlk := (HNM.out.below HLB.out).look HUU.out HME.out
    obtain ⟨jx, hjx⟩ : ∃ jx, jx = U.idxOf (V0 q) := ⟨_, rfl⟩
    have hjl : jx < U.length := hjx ▸ idx_lt HME.out
    obtain ⟨d0, f0, _, _⟩ := HSTEP.out.1.at hjl
    obtain ⟨u, d1, f1⟩ := HSTEP.out.1.val_behind hjl (.bool true)
    rw [← hjx] at hlk
    have hj0 : (0 : Int) ≤ (jx : Int) := Int.natCast_nonneg _
    have hj1 : (jx : Int) < (U.length : Int) := by omega
    have HJX := hid hjx
    clear cc ca hla hjx hmk
    go_wp2
    go_roundw
    case rel =>
      have hst := HSTEP.out
      rw [← HJX.out] at hst
      refine ⟨q + 1, by omega, by go_num, But.lowBelow HLB.out HLB.out.size hst.2.2.2 (fun q e => by rcases e with e | e <;> omega), ?_, ?_⟩
      · rw [fill, HXS.out]; exact hst.2.1
      · rw [fill, HXS.out]; exact hst.2.2.1
    case measure => simp [intOf]; omega
  obtain rfl : q = k := by omega
  clear hlt hq
  have HSL := hid (fill_slim (V := V0) HF.out.f1 q)
  generalize fill V0 m0 Z0 q = σ0 at HI HSL
  go_wp2_with fail
  refine (clone10 _ U.length (fun i => (σ0 (nm U i)).isSome) wr (by omega) (HI.out.2.2.hasAt hul _)).mono ?_
  rintro e wP ⟨vh, rfl, hvh, hbP⟩
  have HVH := hid hvh
  have HIP : Hid (Below wN.heap.size wN wP ∧ Sto wP U st ms ml σ0 ∧ Mem wP U σ0 wN.heap.size (wN.heap.size + 1)) := ⟨HI.out.1.trans (hbP.mono HI.out.1.size), HI.out.2.1.below hbP, HI.out.2.2.below hbP⟩
  have HWS : Hid (wN.heap.size + 1 < wr.heap.size ∧ ms < wr.heap.size ∧ ml < wr.heap.size) := ⟨HI.out.2.2.lt.2, HI.out.2.1.lt.2.1, HI.out.2.1.lt.2.2⟩
  have HWP : Hid (wr.heap.size ≤ wP.heap.size) := hbP.size
  clear hvh hbP HI
  generalize wr.heap.size = BH at HVH HWS HWP
  obtain ⟨Ev, hEv, hEb⟩ := HIP.out.2.2.valAt hul U.length
  have HEV := hid hEv
  have HEB := hid hEb
  clear hEv hEb
  go_wp2_with fail
  refine (clone9 _ U.length Ev (fun i => (σ0 (nm U i)).getD []) wP (by omega) HEV.out (fun i hi => ⟨HSL.out.getD _, (HEB.out i hi).at⟩)).mono ?_
  rintro e wQ ⟨vv, Ew, rfl, hvv, hvb, hbQ⟩
  have HVV := hid hvv
  have HVB := hid hvb
  have HVH2 := hid (HVH.out.kept (X := fun _ => False) (But.of_below hbQ) (fun _ h => h.elim))
  have HIQ : Hid (Below wN.heap.size wN wQ ∧ Sto wQ U st ms ml σ0 ∧ Mem wQ U σ0 wN.heap.size (wN.heap.size + 1)) := ⟨HIP.out.1.trans (hbQ.mono HIP.out.1.size), HIP.out.2.1.below hbQ, HIP.out.2.2.below hbQ⟩
  have HWQ : Hid (wP.heap.size ≤ wQ.heap.size) := hbQ.size
  clear hvv hvb hbQ HVH HIP HEV HEB
  generalize wP.heap.size = BV at HVV HWP HWQ
  have HST := hid (In4.start HIQ.out.1 (by have := HLO.out; omega) HIQ.out.2.1 HIQ.out.2.2 HSL.out)
  go_wp2_with fail
  --LOOP4
  have HNR : Hid (∀ q, (Two ms ml q ∨ Pair wN.heap.size (wN.heap.size + 1) q) → ¬ Rowish wQ q) := fun q e => e.elim (fun e => (HIQ.out.2.1.two_apart 0 q e).1) (HIQ.out.2.2.no_row q)
  clear HIQ
  go_loopw [25] (fun i wr => ∃ (p : Nat) (σ : St) (R : Rm), p ≤ j ∧ i = .int .i64 p ∧ Hid (In4 wN wQ wr U st ms ml σ0 σ R)) (fun i _ => j - (intOf i).toNat)
  case atStart => exact ⟨0, σ0, _, Nat.zero_le _, rfl, HST.out⟩
  case round =>
  clear HST
  obtain ⟨p, σ, R, hp, rfl, HI⟩ := hrel
  by_cases hlt : p < j
  · have HCq := hid (HCST.out.below (HBN.out.trans (HI.out.bel.mono HBN.out.size)))
    obtain ⟨_, _, e2, _, hr2⟩ := HCq.out.a2
    cases e2
    obtain ⟨b, arr, rfl, hh, hc⟩ := hr2 (by omega)
    have cc : wr.cell? ⟨b, p, none⟩ = some (.string (V1 p)) := by rw [cell_of_row wr b p arr 9 (0, 0) hh]; exact hc p hlt
    have hi0 : (0 : Int) ≤ (p : Int) := Int.natCast_nonneg _
    have hi1 : (p : Int) < (j : Int) := by omega
    have HME := hid (HM1.out p hlt)
    clear hh hc hr2
    generalize V1 p = key at cc HME
    have hlk := (HNM.out.below HI.out.bel).look HUU.out HME.out
    obtain ⟨jx, hjx⟩ : ∃ jx, jx = U.idxOf key := ⟨_, rfl⟩
    have hjl : jx < U.length := hjx ▸ idx_lt HME.out
    have hjn : nm U jx = key := by rw [hjx]; exact nm_idx HME.out
    rw [← hjx] at hlk
    have hj0 : (0 : Int) ≤ (jx : Int) := Int.natCast_nonneg _
    have hj1 : (jx : Int) < (U.length : Int) := by omega
    have HJX := hid hjx
    have HJN := hid hjn
    clear hjx hjn hmk
    obtain ⟨pv, hrl, _, _⟩ := HI.out.rp.look HUU.out HME.out
    rcases hRk : R key with _ | o
    · rw [hRk] at hrl
      simp only [Option.isSome_none] at hrl
      obtain ⟨d0, _, _, sl, d1, hby⟩ := HI.out.mem.at hjl
      rw [HJN.out] at d0 hby
      rcases hσ : σ key with _ | xs
      · rw [hσ] at d0
        simp only [Option.isSome_none] at d0
        obtain ⟨wc, hmu, h4⟩ := HI.out.note HUU.out HME.out (v := .pointer none) (by rw [hσ]; rfl) hRk
        have H4 := hid h4
        have HRS := hid (rput_some R key (σ key))
        have HSG := hid hσ
        have HRK := hid hRk
        clear h4 hσ hRk hby d1
        have HCd := hid (HCST.out.below (HBN.out.trans (H4.out.bel.mono HBN.out.size)))
        by_cases hd : p < nd
        · obtain ⟨_, _, e4, _, hr4⟩ := HCd.out.a4
          cases e4
          obtain ⟨bd, arrd, rfl, hhd, hcd⟩ := hr4 (by omega)
          have cd' : wc.cell? ⟨bd, p, none⟩ = some (.bool (D p)) := by rw [cell_of_row _ bd p arrd 4 (0, 0) hhd]; exact hcd p hd
          have hd1 : (p : Int) < (nd : Int) := by omega
          clear hhd hcd hr4
          cases hD : D p
          · rw [hD] at cd'
            have HVAL := hid (zAt_bytes HCd.out.z1 p)
            have hzl := zAt_len HF.out.f3 p
            obtain ⟨sa, sc, he, _, _⟩ := id HVAL.out
            have H13 := hid (value13 v1' m1 p E1' wc (by omega) HCd.out.a3.at)
            rw [he] at HVAL H13
            clear he
            generalize zAt m1 Z1 p = ys at HVAL H13 hzl
            go_wp2_with fail
            refine H13.out.mono ?_
            rintro e w' ⟨rfl, hw'⟩; obtain rfl := hw'.symm; clear hw' H13
            go_wp2_with fail
            refine (clone15 _ ys wc hzl HVAL.out.at).mono ?_
            rintro e wy ⟨sly, rfl, hby, hba⟩
            have HBY := hid hby
            have HBA := hid hba
            clear hby hba
            go_wp2_with fail
            refine (set14 key sly ys U st ms ml σ wy HUU.out HME.out HBY.out (H4.out.sto.below HBA.out)).mono ?_
            rintro e wb ⟨rfl, hsb, hbb⟩
            have HT := hid ((H4.out.below HBA.out).turn HUU.out HME.out HRS.out (o := some ys) hsb hbb (HVAL.out.below HBA.out) (fun xs e => by cases e; exact hzl))
            clear hsb hbb
            obtain ⟨g0, gf0, _, _⟩ := HT.out.2.1.at hjl
            obtain ⟨u, g1, gf1⟩ := HT.out.2.1.val_behind hjl (.bool true)
            go_wp2
            go_roundw
            case rel => exact ⟨p + 1, _, _, by omega, by go_num, by have := HT.out.2.2; rw [← HJX.out] at this; exact this⟩
            case measure => simp [intOf]; omega
          · rw [hD] at cd'
            go_wp2_with fail
            refine (remove16 key U st ms ml σ wc HUU.out HME.out H4.out.sto).mono ?_
            rintro e wb ⟨rfl, hsb, hbb⟩
            have HT := hid (H4.out.turn HUU.out HME.out HRS.out (o := none) (sl := .slice none 0 0) hsb hbb (nil_bytes _) (fun xs e => by cases e))
            clear hsb hbb
            obtain ⟨g0, gf0, _, _⟩ := HT.out.2.1.at hjl
            obtain ⟨u, g1, gf1⟩ := HT.out.2.1.val_behind hjl (.bool false)
            go_wp2
            go_roundw
            case rel => exact ⟨p + 1, _, _, by omega, by go_num, by have := HT.out.2.2; rw [← HJX.out] at this; exact this⟩
            case measure => simp [intOf]; omega
        · have hd1 : ((p : Int) < (nd : Int)) = False := by simp; omega
          have HVAL := hid (zAt_bytes HCd.out.z1 p)
          have hzl := zAt_len HF.out.f3 p
          obtain ⟨sa, sc, he, _, _⟩ := id HVAL.out
          have H13 := hid (value13 v1' m1 p E1' wc (by omega) HCd.out.a3.at)
          rw [he] at HVAL H13
          clear he
          generalize zAt m1 Z1 p = ys at HVAL H13 hzl
          go_wp2_with fail
          refine H13.out.mono ?_
          rintro e w' ⟨rfl, hw'⟩; obtain rfl := hw'.symm; clear hw' H13
          go_wp2_with fail
          refine (clone15 _ ys wc hzl HVAL.out.at).mono ?_
          rintro e wy ⟨sly, rfl, hby, hba⟩
          have HBY := hid hby
          have HBA := hid hba
          clear hby hba
          go_wp2_with fail
          refine (set14 key sly ys U st ms ml σ wy HUU.out HME.out HBY.out (H4.out.sto.below HBA.out)).mono ?_
          rintro e wb ⟨rfl, hsb, hbb⟩
          have HT := hid ((H4.out.below HBA.out).turn HUU.out HME.out HRS.out (o := some ys) hsb hbb (HVAL.out.below HBA.out) (fun xs e => by cases e; exact hzl))
          clear hsb hbb
          obtain ⟨g0, gf0, _, _⟩ := HT.out.2.1.at hjl
          obtain ⟨u, g1, gf1⟩ := HT.out.2.1.val_behind hjl (.bool true)
          go_wp2
          go_roundw
          case rel => exact ⟨p + 1, _, _, by omega, by go_num, by have := HT.out.2.2; rw [← HJX.out] at this; exact this⟩
          case measure => simp [intOf]; omega
      · rw [hσ] at d0 hby
        simp only [Option.isSome_some, Option.getD_some] at d0 hby
        have hxl := HI.out.slim key xs hσ
        obtain ⟨sa0, sc0, rfl, _, _⟩ := id hby
        have HBY0 := hid hby
        have HSG := hid hσ
        have HRK := hid hRk
        clear hby hσ hRk
        go_wp2_with fail
        refine (clone15 _ xs wr hxl HBY0.out.at).mono ?_
        rintro e wa ⟨sl', rfl, hby', hba⟩
        obtain ⟨sa1, sc1, rfl, _, _⟩ := id hby'
        have HB1 := hid hby'
        have HBA1 := hid hba
        clear hby' hba
        have hbS : Below wr.heap.size wr (wa.alloc (.cells #[.slice sa1 xs.length sc1] 35)) := HBA1.out.alloc HBA1.out.size _
        obtain ⟨wc, hmu, h4⟩ := (HI.out.below hbS).note HUU.out HME.out (v := .pointer (some ⟨wa.heap.size, 0, none⟩)) (by
          rw [HSG.out]
          exact ⟨wa.heap.size, _, rfl, Nat.lt_of_lt_of_le HI.out.rp.lt HBA1.out.size, heap_last _ _, HB1.out.below ((Below.refl _ _).alloc (Nat.le_refl _) _)⟩) HRK.out
        have H4 := hid h4
        have HRS := hid (rput_some R key (σ key))
        clear h4 hbS
        have HCd := hid (HCST.out.below (HBN.out.trans (H4.out.bel.mono HBN.out.size)))
        by_cases hd : p < nd
        · obtain ⟨_, _, e4, _, hr4⟩ := HCd.out.a4
          cases e4
          obtain ⟨bd, arrd, rfl, hhd, hcd⟩ := hr4 (by omega)
          have cd' : wc.cell? ⟨bd, p, none⟩ = some (.bool (D p)) := by rw [cell_of_row _ bd p arrd 4 (0, 0) hhd]; exact hcd p hd
          have hd1 : (p : Int) < (nd : Int) := by omega
          clear hhd hcd hr4
          cases hD : D p
          · rw [hD] at cd'
            have HVAL := hid (zAt_bytes HCd.out.z1 p)
            have hzl := zAt_len HF.out.f3 p
            obtain ⟨sa, sc, he, _, _⟩ := id HVAL.out
            have H13 := hid (value13 v1' m1 p E1' wc (by omega) HCd.out.a3.at)
            rw [he] at HVAL H13
            clear he
            generalize zAt m1 Z1 p = ys at HVAL H13 hzl
            go_wp2_with fail
            refine H13.out.mono ?_
            rintro e w' ⟨rfl, hw'⟩; obtain rfl := hw'.symm; clear hw' H13
            go_wp2_with fail
            refine (clone15 _ ys wc hzl HVAL.out.at).mono ?_
            rintro e wy ⟨sly, rfl, hby, hba⟩
            have HBY := hid hby
            have HBA := hid hba
            clear hby hba
            go_wp2_with fail
            refine (set14 key sly ys U st ms ml σ wy HUU.out HME.out HBY.out (H4.out.sto.below HBA.out)).mono ?_
            rintro e wb ⟨rfl, hsb, hbb⟩
            have HT := hid ((H4.out.below HBA.out).turn HUU.out HME.out HRS.out (o := some ys) hsb hbb (HVAL.out.below HBA.out) (fun xs e => by cases e; exact hzl))
            clear hsb hbb
            obtain ⟨g0, gf0, _, _⟩ := HT.out.2.1.at hjl
            obtain ⟨u, g1, gf1⟩ := HT.out.2.1.val_behind hjl (.bool true)
            go_wp2
            go_roundw
            case rel => exact ⟨p + 1, _, _, by omega, by go_num, by have := HT.out.2.2; rw [← HJX.out] at this; exact this⟩
            case measure => simp [intOf]; omega
          · rw [hD] at cd'
            go_wp2_with fail
            refine (remove16 key U st ms ml σ wc HUU.out HME.out H4.out.sto).mono ?_
            rintro e wb ⟨rfl, hsb, hbb⟩
            have HT := hid (H4.out.turn HUU.out HME.out HRS.out (o := none) (sl := .slice none 0 0) hsb hbb (nil_bytes _) (fun xs e => by cases e))
            clear hsb hbb
            obtain ⟨g0, gf0, _, _⟩ := HT.out.2.1.at hjl
            obtain ⟨u, g1, gf1⟩ := HT.out.2.1.val_behind hjl (.bool false)
            go_wp2
            go_roundw
            case rel => exact ⟨p + 1, _, _, by omega, by go_num, by have := HT.out.2.2; rw [← HJX.out] at this; exact this⟩
            case measure => simp [intOf]; omega
        · have hd1 : ((p : Int) < (nd : Int)) = False := by simp; omega
          have HVAL := hid (zAt_bytes HCd.out.z1 p)
          have hzl := zAt_len HF.out.f3 p
          obtain ⟨sa, sc, he, _, _⟩ := id HVAL.out
          have H13 := hid (value13 v1' m1 p E1' wc (by omega) HCd.out.a3.at)
          rw [he] at HVAL H13
          clear he
          generalize zAt m1 Z1 p = ys at HVAL H13 hzl
          go_wp2_with fail
          refine H13.out.mono ?_
          rintro e w' ⟨rfl, hw'⟩; obtain rfl := hw'.symm; clear hw' H13
          go_wp2_with fail
          refine (clone15 _ ys wc hzl HVAL.out.at).mono ?_
          rintro e wy ⟨sly, rfl, hby, hba⟩
          have HBY := hid hby
          have HBA := hid hba
          clear hby hba
          go_wp2_with fail
          refine (set14 key sly ys U st ms ml σ wy HUU.out HME.out HBY.out (H4.out.sto.below HBA.out)).mono ?_
          rintro e wb ⟨rfl, hsb, hbb⟩
          have HT := hid ((H4.out.below HBA.out).turn HUU.out HME.out HRS.out (o := some ys) hsb hbb (HVAL.out.below HBA.out) (fun xs e => by cases e; exact hzl))
          clear hsb hbb
          obtain ⟨g0, gf0, _, _⟩ := HT.out.2.1.at hjl
          obtain ⟨u, g1, gf1⟩ := HT.out.2.1.val_behind hjl (.bool true)
          go_wp2
          go_roundw
          case rel => exact ⟨p + 1, _, _, by omega, by go_num, by have := HT.out.2.2; rw [← HJX.out] at this; exact this⟩
          case measure => simp [intOf]; omega
    · rw [hRk] at hrl
      simp only [Option.isSome_some] at hrl
      have H4 := hid HI.out
      have HRS : Hid ((R key).isSome = true) := by rw [hRk]; rfl
      have HRK := hid hRk
      clear hRk
      have HCd := hid (HCST.out.below (HBN.out.trans (H4.out.bel.mono HBN.out.size)))
      by_cases hd : p < nd
      · obtain ⟨_, _, e4, _, hr4⟩ := HCd.out.a4
        cases e4
        obtain ⟨bd, arrd, rfl, hhd, hcd⟩ := hr4 (by omega)
        have cd' : wr.cell? ⟨bd, p, none⟩ = some (.bool (D p)) := by rw [cell_of_row _ bd p arrd 4 (0, 0) hhd]; exact hcd p hd
        have hd1 : (p : Int) < (nd : Int) := by omega
        clear hhd hcd hr4
        cases hD : D p
        · rw [hD] at cd'
          have HVAL := hid (zAt_bytes HCd.out.z1 p)
          have hzl := zAt_len HF.out.f3 p
          obtain ⟨sa, sc, he, _, _⟩ := id HVAL.out
          have H13 := hid (value13 v1' m1 p E1' wr (by omega) HCd.out.a3.at)
          rw [he] at HVAL H13
          clear he
          generalize zAt m1 Z1 p = ys at HVAL H13 hzl
          go_wp2_with fail
          refine H13.out.mono ?_
          rintro e w' ⟨rfl, hw'⟩; obtain rfl := hw'.symm; clear hw' H13
          go_wp2_with fail
          refine (clone15 _ ys wr hzl HVAL.out.at).mono ?_
          rintro e wy ⟨sly, rfl, hby, hba⟩
          have HBY := hid hby
          have HBA := hid hba
          clear hby hba
          go_wp2_with fail
          refine (set14 key sly ys U st ms ml σ wy HUU.out HME.out HBY.out (H4.out.sto.below HBA.out)).mono ?_
          rintro e wb ⟨rfl, hsb, hbb⟩
          have HT := hid ((H4.out.below HBA.out).turn HUU.out HME.out HRS.out (o := some ys) hsb hbb (HVAL.out.below HBA.out) (fun xs e => by cases e; exact hzl))
          clear hsb hbb
          obtain ⟨g0, gf0, _, _⟩ := HT.out.2.1.at hjl
          obtain ⟨u, g1, gf1⟩ := HT.out.2.1.val_behind hjl (.bool true)
          go_wp2
          go_roundw
          case rel => exact ⟨p + 1, _, _, by omega, by go_num, by have := HT.out.2.2; rw [← HJX.out] at this; exact this⟩
          case measure => simp [intOf]; omega
        · rw [hD] at cd'
          go_wp2_with fail
          refine (remove16 key U st ms ml σ wr HUU.out HME.out H4.out.sto).mono ?_
          rintro e wb ⟨rfl, hsb, hbb⟩
          have HT := hid (H4.out.turn HUU.out HME.out HRS.out (o := none) (sl := .slice none 0 0) hsb hbb (nil_bytes _) (fun xs e => by cases e))
          clear hsb hbb
          obtain ⟨g0, gf0, _, _⟩ := HT.out.2.1.at hjl
          obtain ⟨u, g1, gf1⟩ := HT.out.2.1.val_behind hjl (.bool false)
          go_wp2
          go_roundw
          case rel => exact ⟨p + 1, _, _, by omega, by go_num, by have := HT.out.2.2; rw [← HJX.out] at this; exact this⟩
          case measure => simp [intOf]; omega
      · have hd1 : ((p : Int) < (nd : Int)) = False := by simp; omega
        have HVAL := hid (zAt_bytes HCd.out.z1 p)
        have hzl := zAt_len HF.out.f3 p
        obtain ⟨sa, sc, he, _, _⟩ := id HVAL.out
        have H13 := hid (value13 v1' m1 p E1' wr (by omega) HCd.out.a3.at)
        rw [he] at HVAL H13
        clear he
        generalize zAt m1 Z1 p = ys at HVAL H13 hzl
        go_wp2_with fail
        refine H13.out.mono ?_
        rintro e w' ⟨rfl, hw'⟩; obtain rfl := hw'.symm; clear hw' H13
        go_wp2_with fail
        refine (clone15 _ ys wr hzl HVAL.out.at).mono ?_
        rintro e wy ⟨sly, rfl, hby, hba⟩
        have HBY := hid hby
        have HBA := hid hba
        clear hby hba
        go_wp2_with fail
        refine (set14 key sly ys U st ms ml σ wy HUU.out HME.out HBY.out (H4.out.sto.below HBA.out)).mono ?_
        rintro e wb ⟨rfl, hsb, hbb⟩
        have HT := hid ((H4.out.below HBA.out).turn HUU.out HME.out HRS.out (o := some ys) hsb hbb (HVAL.out.below HBA.out) (fun xs e => by cases e; exact hzl))
        clear hsb hbb
        obtain ⟨g0, gf0, _, _⟩ := HT.out.2.1.at hjl
        obtain ⟨u, g1, gf1⟩ := HT.out.2.1.val_behind hjl (.bool true)
        go_wp2
        go_roundw
        case rel => exact ⟨p + 1, _, _, by omega, by go_num, by have := HT.out.2.2; rw [← HJX.out] at this; exact this⟩
        case measure => simp [intOf]; omega
  obtain rfl : p = j := by omega
  clear hlt hp
  go_wp2_with fail
  refine (undo17 st wQ.heap.size wr).mono ?_
  rintro e wu ⟨rfl, hwu⟩
  have hbu : Below wr.heap.size wr wu := by rw [hwu]; exact (Below.refl _ _).alloc (Nat.le_refl _) _
  have HUN : Hid (wu.heap[wr.heap.size]? = some (.cells #[.pointer (some ⟨st, 0, none⟩), .map (some wQ.heap.size)] 55 (0, 0))) := by rw [hwu]; exact heap_last _ _
  have HIU := hid (HI.out.below hbu)
  clear hwu hbu HI
  generalize wr.heap.size = un at HUN ⊢
  go_wp2_with fail
  refine (roll_any U st ms ml un wQ.heap.size (wQ.heap.size + 1) σ R wu HUU.out HUN.out HIU.out.rp (by have := HIU.out.hi; omega) (by have := HIU.out.hi; omega) HIU.out.sto).mono ?_
  rintro e wv ⟨rfl, hsv, hbv⟩
  have HFV := hid (HIU.out.rolled HUN.out hsv hbv)
  clear hsv hbv HUN HIU
  go_wp2_with fail
  refine (HFV.out.is HUU.out HNM.out HVH2.out HVV.out HVB.out HWS.out HWP.out HNR.out).mono ?_
  rintro e wx ⟨rfl, hbx⟩
  have HFX := hid (HFV.out.below hbx)
  clear hbx HFV
  go_wp2_with fail
  refine (roll_any U st ms ml un wQ.heap.size (wQ.heap.size + 1) σ0 R wx HUU.out HFX.out.und HFX.out.rp HFX.out.nes.1 HFX.out.nes.2 HFX.out.sto).mono ?_
  rintro e wy ⟨rfl, hsv, hbv⟩
  have HFY := hid (HFX.out.rolled hsv hbv)
  clear hsv hbv HFX
  go_wp2_with fail
  refine (HFY.out.is HUU.out HNM.out HVH2.out HVV.out HVB.out HWS.out HWP.out HNR.out).mono ?_
  rintro e wz ⟨rfl, hbz⟩
  have HBZ := hid hbz
  clear hbz
  go_wp2
  go_ret
  have h1 : Below w.heap.size w wN := HBE.out.trans (HBN.out.mono HBE.out.size)
  have h2 : Below w.heap.size w wy := h1.trans (HFY.out.bel.mono h1.size)
  exact ⟨rfl, h2.trans (HBZ.out.mono h2.size)⟩
end Go.Proofs.Qxb6628689a
