/-
  zzStoreIs (19): it answers true where the store holds what the three lists say.
-/
import Derived.Test.Qxb6628689aSeen
namespace Go.Proofs.Qxb6628689a
open Go.RowKit
open Go.Maps (Keyed)

def nm (U : List ByteArray) (i : Nat) : ByteArray := U.getD i ⟨#[]⟩
theorem nm_mem {U : List ByteArray} {i : Nat} (h : i < U.length) : nm U i ∈ U := by
  simp [nm, h]
theorem cnt_take {U : List ByteArray} {σ : St} {i : Nat} (h : i < U.length) : cnt (U.take (i + 1)) σ = cnt (U.take i) σ + if (σ (nm U i)).isSome then 1 else 0 := by
  have e : U.take (i + 1) = U.take i ++ [nm U i] := by
    rw [List.take_add_one, List.getElem?_eq_getElem h]; simp [nm, h]
  unfold cnt
  rw [e, List.countP_append, List.countP_cons, List.countP_nil]
  simp
theorem bcells_get (xs : List Int) (i : Nat) (h : i < 23) : (bcells xs)[i]? = some (.int .u8 (vb xs i)) := by
  have e : (bcells xs).toList = (List.range 23).map (fun i => Value.int .u8 (vb xs i)) := rfl
  have e2 : (bcells xs)[i]? = (bcells xs).toList[i]? := by simp
  rw [e2, e, List.getElem?_map, List.getElem?_range h]; rfl
theorem zero35 (w : World) : (zeroValue 35).run Try.prog w = .ok (.slice none 0 0) w := by kernel_rfl

/-- what zzStoreIs reads -/
structure Told (w : World) (U : List ByteArray) (σ : St) (bn bh bv : Nat) : Prop where
  name : ∀ i, i < U.length → w.cell? ⟨bn, i, none⟩ = some (.string (nm U i))
  has : ∀ i, i < U.length → w.cell? ⟨bh, i, none⟩ = some (.bool (σ (nm U i)).isSome)
  val : ∀ i, i < U.length → ∀ xs, σ (nm U i) = some xs → ∃ sl, w.cell? ⟨bv, i, none⟩ = some sl ∧ Bytes w sl xs
theorem lt_of_cell {w : World} {a : Addr} {v : Value} (h : w.cell? a = some v) : a.block < w.heap.size := World.block_lt_of_cell? w a h
theorem cell_kept {w w' : World} (hb : Below w.heap.size w w') {a : Addr} {v : Value} (h : w.cell? a = some v) : w'.cell? a = some v := (hb.cell (lt_of_cell h)).trans h
theorem Bytes.below {w w' : World} {v : Value} {xs : List Int} (h : Bytes w v xs) (hb : Below w.heap.size w w') : Bytes w' v xs := h.kept (X := fun _ => False) (But.of_below hb) (fun _ h => h.elim)
theorem Told.below {w w' : World} {U : List ByteArray} {σ : St} {bn bh bv : Nat} (h : Told w U σ bn bh bv) (hb : Below w.heap.size w w') : Told w' U σ bn bh bv :=
  ⟨fun i hi => cell_kept hb (h.name i hi), fun i hi => cell_kept hb (h.has i hi), fun i hi xs hx => by obtain ⟨sl, h1, h2⟩ := h.val i hi xs hx; exact ⟨sl, cell_kept hb h1, h2.below hb⟩⟩

set_option maxRecDepth 100000 in
set_option maxHeartbeats 3200000 in
theorem is19 (U : List ByteArray) (st ms ml : Nat) (σ : St) (w : World) (an ah av : Option Addr) (bn bh bv cn ch cv : Nat) (hU : Uni U) (h : Sto w U st ms ml σ) (hn : 0 < U.length → an = some ⟨bn, 0, none⟩) (hh : 0 < U.length → ah = some ⟨bh, 0, none⟩) (hv : 0 < U.length → av = some ⟨bv, 0, none⟩) (hT : Told w U σ bn bh bv) :
    Calls Try.prog 19 #[.pointer (some ⟨st, 0, none⟩), .slice an U.length cn, .slice ah U.length ch, .slice av U.length cv] w fun e w' => e = .returned (.bool true) ∧ Below w.heap.size w w' := by
  have hlen := hU.few
  have HU := hid hU
  have H := hid h
  have HN := hid hn
  have HH := hid hh
  have HV := hid hv
  have HT := hid hT
  obtain ⟨_, _, S, L, NS, NL, hS, hL, hC, hA⟩ := h
  have HS := hid hS
  have HL := hid hL
  have HC := hid hC
  have HA := hid hA
  have H23 := hid (large23 U st ms ml σ w H.out)
  clear hU hn hh hv hT hS hL hC hA
  go_enter Try.func19, Try.ntmps19
  go_wp2_with fail
  refine H23.out.mono ?_
  rintro e w' ⟨rfl, hw'⟩; obtain rfl := hw'.symm; clear hw' H23
  go_wp2
  go_loopw [10, 11] (fun c j wr => ∃ k : Nat, k ≤ U.length ∧ j = .int .i64 k ∧ c = .int .i64 (cnt (U.take k) σ) ∧ Hid (Below w.heap.size w wr)) (fun _ j _ => U.length - (intOf j).toNat)
  case atStart => exact ⟨0, Nat.zero_le _, rfl, by simp [cnt], Below.refl _ _⟩
  case round =>
    obtain ⟨k, hk, rfl, rfl, HB⟩ := hrel
    have hcle : cnt (U.take k) σ ≤ U.length := Nat.le_trans (cnt_le _ _) (by simp; omega)
    by_cases hlt : k < U.length
    · obtain rfl := HN.out (by omega)
      obtain rfl := HH.out (by omega)
      obtain rfl := HV.out (by omega)
      have HK := hid (nm_mem hlt)
      have HCT := hid (cnt_take (σ := σ) hlt)
      have hcn := (HT.out.below HB.out).name k hlt
      have HHS := hid (HT.out.has k hlt)
      have HVL := hid (HT.out.val k hlt)
      have HAK := hid (HA.out _ (nm_mem hlt))
      have hks := HU.out.short _ (nm_mem hlt)
      have hi0 : (0 : Int) ≤ (k : Int) := Int.natCast_nonneg _
      have hi1 : (k : Int) < (U.length : Int) := by omega
      have HLK : Hid (∀ wx, Below w.heap.size w wx → (Instr.lookup 49 (.map (some ml)) (.string (nm U k)) true).run Try.prog wx = .ok (.tuple #[(L (nm U k)).getD (.slice none 0 0), .bool (L (nm U k)).isSome]) wx) := fun wx hx =>
        (HL.out.of_block (hx.block ml HL.out.lt)).look_ok lawS Try.underlying49 (zero35 _) (str_key _ (by unfold maxLen; omega))
      generalize nm U k = key at *
      generalize hgc : cnt (U.take k) σ = c at *
      clear hgc
      by_cases hfit : 31 < key.size
      · have hbo : ∀ o, Below w.heap.size w (wr.alloc o) := fun o => HB.out.alloc HB.out.size o
        have HBO := hid hbo
        clear hbo
        rcases hσ : σ key with _ | xs
        · have hLk := HAK.out.2
          rw [hσ] at hLk
          simp only at hLk
          have hlk := fun o => HLK.out (wr.alloc o) (HBO.out o)
          rw [hLk] at hlk
          have hhs0 := HHS.out
          rw [hσ] at hhs0
          have hhs := fun o => cell_kept (HBO.out o) hhs0
          clear hhs0
          simp only [Option.isSome_none, Option.getD_none] at hlk hhs
          have HSG := hid hσ
          clear hLk hσ
          go_wp2
          go_roundw
          case rel => exact ⟨k + 1, by omega, by go_num, by rw [HCT.out, HSG.out]; simp, HBO.out _⟩
          case measure => simp [intOf]; omega
        · have hLk := HAK.out.2
          rw [hσ] at hLk
          simp only at hLk
          rw [if_neg (by omega)] at hLk
          obtain ⟨sl', hLk, hby'⟩ := hLk
          obtain ⟨sl, hsl, hby⟩ := HVL.out xs hσ
          have hlk := fun o => HLK.out (wr.alloc o) (HBO.out o)
          rw [hLk] at hlk
          have hhs0 := HHS.out
          rw [hσ] at hhs0
          have hhs := fun o => cell_kept (HBO.out o) hhs0
          clear hhs0
          simp only [Option.isSome_some, Option.getD_some] at hlk hhs
          have hvl := fun o => cell_kept (HBO.out o) hsl
          have HSG := hid hσ
          have HBY := hid hby
          have HBY' := hid hby'
          obtain ⟨sa, scap, rfl, hxm, _⟩ := hby
          unfold maxLen at hxm
          clear hLk hσ hby' hsl
          go_wp2_with fail
          refine (same26 _ _ xs _ (HBY'.out.below (HBO.out _)) (HBY.out.below (HBO.out _))).mono ?_
          rintro e w5 ⟨rfl, hb5⟩
          have HB5 := hid ((HBO.out _).trans (hb5.mono (HBO.out _).size))
          clear hb5 hlk hvl hhs
          go_wp2
          go_roundw
          case rel => exact ⟨k + 1, by omega, by go_num, by rw [HCT.out, HSG.out]; simp, HB5.out⟩
          case measure => simp [intOf]; omega
      · have hf31 : key.size ≤ 31 := by omega
        have hf : (key.size : Int) ≤ 31 := by omega
        rcases hσ : σ key with _ | xs
        · have hSk := HAK.out.1 hf31
          have hLk := HAK.out.2
          rw [hσ] at hSk hLk
          simp only at hSk hLk

          have HX0 : Hid ((S ⟨key, hf31⟩).getD (.agg (vcells0 0)) = .agg (vcells [])) := by rw [hSk]; rfl
          have HOK : Hid ((S ⟨key, hf31⟩).isSome = false) := by rw [hSk]; rfl
          have HSK := hid hSk
          have HLK2 := hid hLk
          have HSG := hid hσ
          clear hSk hLk hσ
          go_wp2_with fail
          refine (small24 key _ hfit).mono ?_
          rintro e w1 ⟨rfl, hb1⟩
          have hbr1 : Below wr.heap.size wr w1 := ((Below.refl _ _).alloc (Nat.le_refl _) _).trans (hb1.mono (by simp))
          have hG1 : w1.heap[wr.heap.size]? = some (.cells bzero 57 (0, 0)) := by
            rw [hb1.block wr.heap.size (by simp)]
            show (wr.heap.push _)[wr.heap.size]? = _
            rw [Array.getElem?_push, if_pos rfl]; rfl
          have HBR1 := hid hbr1
          have HG1 := hid hG1
          clear hb1 hbr1 hG1 hcn
          go_wp2_with (first
            | (with_reducible show wpList _ _ _ ({ dst := _, op := Op.store 60 _ _, type := _, pos := _, after := _, guard := _ } :: _) _ _; refine wpList_store_row rfl (.tmp 16) (.tmp 40) 60 rfl w1.heap.size 60 zeros32 (kcells key) ?f1 ?f2 ?f3 ?f4 ?f5 (kcells_all key) ?_))
          case f1 => rfl
          case f2 => rfl
          case f3 =>
            show (w1.heap.push _)[w1.heap.size]? = _
            rw [Array.getElem?_push, if_pos rfl]; rfl
          case f4 => exact info60
          case f5 => rfl
          intro w2 hw2
          have hg : w2.heap[w1.heap.size]? = some (.cells (kcells key) 60 (0, 0)) := by
            rw [hw2.out]
            refine setRow_heap _ _ zeros32 _ _ _ ?_
            show (w1.heap.push _)[w1.heap.size]? = _
            rw [Array.getElem?_push, if_pos rfl]; rfl
          have hb12 : Below w1.heap.size w1 w2 := by
            rw [hw2.out]
            exact below_setRow ((Below.refl _ _).alloc (Nat.le_refl _) _) (Nat.le_refl _) _
          have HG := hid hg
          have HG2 := hid ((hb12.block _ (lt_of_heap HG1.out)).trans HG1.out)
          have HBR2 := hid (HBR1.out.trans (hb12.mono HBR1.out.size))
          clear hg hw2 hb12 HG1 HBR1
          generalize w1.heap.size = B at HG ⊢
          go_wp2_with (first
            | (with_reducible show wpList _ _ _ ({ dst := _, op := Op.load 60 _, type := _, pos := _, after := _, guard := _ } :: _) _ _; refine wpList_load_row rfl (.tmp 16) 60 rfl B 60 (kcells key) (0, 0) _ ?f1 ?f2 Try.underlying60 rfl ?f3 ?_))
          case f1 => rfl
          case f2 => exact HG.out
          case f3 => exact info60
          go_wp2_with fail
          refine (at25 key [] false U st ms ml NS S σ w2 hf31 (H.out.below (HB.out.trans (HBR2.out.mono HB.out.size))) (HS.out.of_block ((HB.out.trans (HBR2.out.mono HB.out.size)).block ms HS.out.lt)) HX0.out HOK.out).mono ?_
          rintro e w3 ⟨rfl, hb3⟩
          have HG3 := hid ((hb3.block _ (lt_of_heap HG2.out)).trans HG2.out)
          have HBR3 := hid (HBR2.out.trans (hb3.mono HBR2.out.size))
          clear hb3 HG HG2 HBR2
          go_wp2_with (first
            | (with_reducible show wpList _ _ _ ({ dst := _, op := Op.store 57 _ _, type := _, pos := _, after := _, guard := _ } :: _) _ _; refine wpList_store_row rfl (.tmp 15) (.tmp 49) 57 rfl wr.heap.size 57 bzero (bcells []) ?f1 ?f2 ?f3 ?f4 ?f5 (bcells_all _) ?_))
          case f1 => rfl
          case f2 => rfl
          case f3 => exact HG3.out
          case f4 => exact info57
          case f5 => rfl
          intro w4 hw4
          have HG4 : Hid (w4.heap[wr.heap.size]? = some (.cells (bcells []) 57 (0, 0))) := by
            rw [hw4.out]
            exact setRow_heap _ _ bzero _ _ _ HG3.out
          have HB4 : Hid (Below w.heap.size w w4) := by
            rw [hw4.out]
            exact below_setRow (HB.out.trans (HBR3.out.mono HB.out.size)) HB.out.size _
          clear hw4 HG3 HBR3
          have hlk := HLK.out w4 HB4.out
          rw [HLK2.out] at hlk
          have hhs := cell_kept HB4.out HHS.out
          rw [HSG.out] at hhs
          simp only [Option.isSome_none, Option.getD_none] at hlk hhs
          generalize wr.heap.size = G at HG4 ⊢
          go_wp2_with fail
          go_roundw
          case rel => exact ⟨k + 1, by omega, by go_num, by rw [HCT.out, HSG.out]; simp, HB4.out⟩
          case measure => simp [intOf]; omega
        · have hSk := HAK.out.1 hf31
          have hLk := HAK.out.2
          rw [hσ] at hSk hLk
          simp only at hSk hLk
          obtain ⟨sl, hsl, hby⟩ := HVL.out xs hσ
          have HSL := hid hsl
          have HBY := hid hby
          obtain ⟨sa, scap, rfl, hxm, hsrc⟩ := hby
          have HSRC := hid hsrc
          unfold maxLen at hxm
          clear hsl hsrc
          by_cases hxs : 23 < xs.length
          · rw [if_neg (by omega)] at hSk hLk
            obtain ⟨sl', hLk, hby'⟩ := hLk
            have HBY' := hid hby'
            clear hby'

            have HX0 : Hid ((S ⟨key, hf31⟩).getD (.agg (vcells0 0)) = .agg (vcells [])) := by rw [hSk]; rfl
            have HOK : Hid ((S ⟨key, hf31⟩).isSome = false) := by rw [hSk]; rfl
            have HSK := hid hSk
            have HLK2 := hid hLk
            have HSG := hid hσ
            clear hSk hLk hσ
            go_wp2_with fail
            refine (small24 key _ hfit).mono ?_
            rintro e w1 ⟨rfl, hb1⟩
            have hbr1 : Below wr.heap.size wr w1 := ((Below.refl _ _).alloc (Nat.le_refl _) _).trans (hb1.mono (by simp))
            have hG1 : w1.heap[wr.heap.size]? = some (.cells bzero 57 (0, 0)) := by
              rw [hb1.block wr.heap.size (by simp)]
              show (wr.heap.push _)[wr.heap.size]? = _
              rw [Array.getElem?_push, if_pos rfl]; rfl
            have HBR1 := hid hbr1
            have HG1 := hid hG1
            clear hb1 hbr1 hG1 hcn
            go_wp2_with (first
              | (with_reducible show wpList _ _ _ ({ dst := _, op := Op.store 60 _ _, type := _, pos := _, after := _, guard := _ } :: _) _ _; refine wpList_store_row rfl (.tmp 16) (.tmp 40) 60 rfl w1.heap.size 60 zeros32 (kcells key) ?f1 ?f2 ?f3 ?f4 ?f5 (kcells_all key) ?_))
            case f1 => rfl
            case f2 => rfl
            case f3 =>
              show (w1.heap.push _)[w1.heap.size]? = _
              rw [Array.getElem?_push, if_pos rfl]; rfl
            case f4 => exact info60
            case f5 => rfl
            intro w2 hw2
            have hg : w2.heap[w1.heap.size]? = some (.cells (kcells key) 60 (0, 0)) := by
              rw [hw2.out]
              refine setRow_heap _ _ zeros32 _ _ _ ?_
              show (w1.heap.push _)[w1.heap.size]? = _
              rw [Array.getElem?_push, if_pos rfl]; rfl
            have hb12 : Below w1.heap.size w1 w2 := by
              rw [hw2.out]
              exact below_setRow ((Below.refl _ _).alloc (Nat.le_refl _) _) (Nat.le_refl _) _
            have HG := hid hg
            have HG2 := hid ((hb12.block _ (lt_of_heap HG1.out)).trans HG1.out)
            have HBR2 := hid (HBR1.out.trans (hb12.mono HBR1.out.size))
            clear hg hw2 hb12 HG1 HBR1
            generalize w1.heap.size = B at HG ⊢
            go_wp2_with (first
              | (with_reducible show wpList _ _ _ ({ dst := _, op := Op.load 60 _, type := _, pos := _, after := _, guard := _ } :: _) _ _; refine wpList_load_row rfl (.tmp 16) 60 rfl B 60 (kcells key) (0, 0) _ ?f1 ?f2 Try.underlying60 rfl ?f3 ?_))
            case f1 => rfl
            case f2 => exact HG.out
            case f3 => exact info60
            go_wp2_with fail
            refine (at25 key [] false U st ms ml NS S σ w2 hf31 (H.out.below (HB.out.trans (HBR2.out.mono HB.out.size))) (HS.out.of_block ((HB.out.trans (HBR2.out.mono HB.out.size)).block ms HS.out.lt)) HX0.out HOK.out).mono ?_
            rintro e w3 ⟨rfl, hb3⟩
            have HG3 := hid ((hb3.block _ (lt_of_heap HG2.out)).trans HG2.out)
            have HBR3 := hid (HBR2.out.trans (hb3.mono HBR2.out.size))
            clear hb3 HG HG2 HBR2
            go_wp2_with (first
              | (with_reducible show wpList _ _ _ ({ dst := _, op := Op.store 57 _ _, type := _, pos := _, after := _, guard := _ } :: _) _ _; refine wpList_store_row rfl (.tmp 15) (.tmp 49) 57 rfl wr.heap.size 57 bzero (bcells []) ?f1 ?f2 ?f3 ?f4 ?f5 (bcells_all _) ?_))
            case f1 => rfl
            case f2 => rfl
            case f3 => exact HG3.out
            case f4 => exact info57
            case f5 => rfl
            intro w4 hw4
            have HG4 : Hid (w4.heap[wr.heap.size]? = some (.cells (bcells []) 57 (0, 0))) := by
              rw [hw4.out]
              exact setRow_heap _ _ bzero _ _ _ HG3.out
            have HB4 : Hid (Below w.heap.size w w4) := by
              rw [hw4.out]
              exact below_setRow (HB.out.trans (HBR3.out.mono HB.out.size)) HB.out.size _
            clear hw4 HG3 HBR3
            have hlk := HLK.out w4 HB4.out
            rw [HLK2.out] at hlk
            have hhs := cell_kept HB4.out HHS.out
            rw [HSG.out] at hhs
            simp only [Option.isSome_some, Option.getD_some] at hlk hhs
            have hvl := cell_kept HB4.out HSL.out
            generalize wr.heap.size = G at HG4 ⊢
            go_wp2_with fail
            refine (same26 _ _ xs _ (HBY'.out.below HB4.out) (HBY.out.below HB4.out)).mono ?_
            rintro e w5 ⟨rfl, hb5⟩
            have HB5 := hid (HB4.out.trans (hb5.mono HB4.out.size))
            clear hb5 hlk hvl hhs
            go_wp2
            go_roundw
            case rel => exact ⟨k + 1, by omega, by go_num, by rw [HCT.out, HSG.out]; simp, HB5.out⟩
            case measure => simp [intOf]; omega
          · have hxl : xs.length ≤ 23 := by omega
            rw [if_pos hxl] at hSk
            rw [if_pos ⟨hf31, hxl⟩] at hLk

            have HX0 : Hid ((S ⟨key, hf31⟩).getD (.agg (vcells0 0)) = .agg (vcells xs)) := by rw [hSk]; rfl
            have HOK : Hid ((S ⟨key, hf31⟩).isSome = true) := by rw [hSk]; rfl
            have HSK := hid hSk
            have HLK2 := hid hLk
            have HSG := hid hσ
            clear hSk hLk hσ
            go_wp2_with fail
            refine (small24 key _ hfit).mono ?_
            rintro e w1 ⟨rfl, hb1⟩
            have hbr1 : Below wr.heap.size wr w1 := ((Below.refl _ _).alloc (Nat.le_refl _) _).trans (hb1.mono (by simp))
            have hG1 : w1.heap[wr.heap.size]? = some (.cells bzero 57 (0, 0)) := by
              rw [hb1.block wr.heap.size (by simp)]
              show (wr.heap.push _)[wr.heap.size]? = _
              rw [Array.getElem?_push, if_pos rfl]; rfl
            have HBR1 := hid hbr1
            have HG1 := hid hG1
            clear hb1 hbr1 hG1 hcn
            go_wp2_with (first
              | (with_reducible show wpList _ _ _ ({ dst := _, op := Op.store 60 _ _, type := _, pos := _, after := _, guard := _ } :: _) _ _; refine wpList_store_row rfl (.tmp 16) (.tmp 40) 60 rfl w1.heap.size 60 zeros32 (kcells key) ?f1 ?f2 ?f3 ?f4 ?f5 (kcells_all key) ?_))
            case f1 => rfl
            case f2 => rfl
            case f3 =>
              show (w1.heap.push _)[w1.heap.size]? = _
              rw [Array.getElem?_push, if_pos rfl]; rfl
            case f4 => exact info60
            case f5 => rfl
            intro w2 hw2
            have hg : w2.heap[w1.heap.size]? = some (.cells (kcells key) 60 (0, 0)) := by
              rw [hw2.out]
              refine setRow_heap _ _ zeros32 _ _ _ ?_
              show (w1.heap.push _)[w1.heap.size]? = _
              rw [Array.getElem?_push, if_pos rfl]; rfl
            have hb12 : Below w1.heap.size w1 w2 := by
              rw [hw2.out]
              exact below_setRow ((Below.refl _ _).alloc (Nat.le_refl _) _) (Nat.le_refl _) _
            have HG := hid hg
            have HG2 := hid ((hb12.block _ (lt_of_heap HG1.out)).trans HG1.out)
            have HBR2 := hid (HBR1.out.trans (hb12.mono HBR1.out.size))
            clear hg hw2 hb12 HG1 HBR1
            generalize w1.heap.size = B at HG ⊢
            go_wp2_with (first
              | (with_reducible show wpList _ _ _ ({ dst := _, op := Op.load 60 _, type := _, pos := _, after := _, guard := _ } :: _) _ _; refine wpList_load_row rfl (.tmp 16) 60 rfl B 60 (kcells key) (0, 0) _ ?f1 ?f2 Try.underlying60 rfl ?f3 ?_))
            case f1 => rfl
            case f2 => exact HG.out
            case f3 => exact info60
            go_wp2_with fail
            refine (at25 key xs true U st ms ml NS S σ w2 hf31 (H.out.below (HB.out.trans (HBR2.out.mono HB.out.size))) (HS.out.of_block ((HB.out.trans (HBR2.out.mono HB.out.size)).block ms HS.out.lt)) HX0.out HOK.out).mono ?_
            rintro e w3 ⟨rfl, hb3⟩
            have HG3 := hid ((hb3.block _ (lt_of_heap HG2.out)).trans HG2.out)
            have HBR3 := hid (HBR2.out.trans (hb3.mono HBR2.out.size))
            clear hb3 HG HG2 HBR2
            go_wp2_with (first
              | (with_reducible show wpList _ _ _ ({ dst := _, op := Op.store 57 _ _, type := _, pos := _, after := _, guard := _ } :: _) _ _; refine wpList_store_row rfl (.tmp 15) (.tmp 49) 57 rfl wr.heap.size 57 bzero (bcells xs) ?f1 ?f2 ?f3 ?f4 ?f5 (bcells_all _) ?_))
            case f1 => rfl
            case f2 => rfl
            case f3 => exact HG3.out
            case f4 => exact info57
            case f5 => rfl
            intro w4 hw4
            have HG4 : Hid (w4.heap[wr.heap.size]? = some (.cells (bcells xs) 57 (0, 0))) := by
              rw [hw4.out]
              exact setRow_heap _ _ bzero _ _ _ HG3.out
            have HB4 : Hid (Below w.heap.size w w4) := by
              rw [hw4.out]
              exact below_setRow (HB.out.trans (HBR3.out.mono HB.out.size)) HB.out.size _
            clear hw4 HG3 HBR3
            have hlk := HLK.out w4 HB4.out
            rw [HLK2.out] at hlk
            have hhs := cell_kept HB4.out HHS.out
            rw [HSG.out] at hhs
            simp only [Option.isSome_none, Option.isSome_some, Option.getD_none] at hlk hhs
            have hvl := cell_kept HB4.out HSL.out
            generalize wr.heap.size = G at HG4 ⊢
            go_wp2_with fail
            clear hlk hvl hhs
            go_loopw [21] (fun i wq => ∃ q : Nat, q ≤ xs.length ∧ i = .int .i64 q ∧ Hid (Below w4.heap.size w4 wq)) (fun i _ => xs.length - (intOf i).toNat)
            case atStart => exact ⟨0, Nat.zero_le _, rfl, Below.refl _ _⟩
            case round =>
              obtain ⟨q, hq, rfl, HBQ⟩ := hrel
              by_cases hql : q < xs.length
              · obtain ⟨b, arr, rfl, hbl, hcl⟩ := HSRC.out (by omega)
                have d0 : wr.cell? ⟨b, q, none⟩ = some (.int .u8 (vb xs q)) := by
                  rw [cell_of_row wr b q arr 5 (0, 0) (((HB4.out.trans (HBQ.out.mono HB4.out.size)).block b (lt_of_heap hbl)).trans hbl)]; exact hcl q hql
                have d1 : wr.cell? ⟨G, q, none⟩ = some (.int .u8 (vb xs q)) := by
                  rw [cell_of_row wr G q (bcells xs) 57 (0, 0) ((HBQ.out.block G (lt_of_heap HG4.out)).trans HG4.out)]; exact bcells_get xs q (by omega)
                have hq0 : (0 : Int) ≤ (q : Int) := Int.natCast_nonneg _
                have hq1 : (q : Int) < 23 := by omega
                have hq2 : (q : Int) < (xs.length : Int) := by omega
                clear hbl hcl
                go_wp2_with fail
                go_quiet (fail)
                go_wp2
                go_roundw
                case rel => exact ⟨q + 1, by omega, by go_num, below_drewN HBQ.out _⟩
                case measure => simp [intOf]; omega
              · obtain rfl : q = xs.length := by omega
                go_wp2
                go_roundw
                case rel => exact ⟨k + 1, by omega, by go_num, by rw [HCT.out, HSG.out]; simp, HB4.out.trans (HBQ.out.mono HB4.out.size)⟩
                case measure => simp [intOf]; omega
    · obtain rfl : k = U.length := by omega
      rw [List.take_length] at hcle ⊢
      have hlen2 := fun wx (hx : Below w.heap.size w wx) ty => (HL.out.of_block (hx.block ml HL.out.lt)).len (t := 49) (e := 35) Try.underlying49 ty
      have hln := hlen2 wr HB.out
      have H27 := hid (len27 U st ms ml NS S σ wr (H.out.below HB.out) (HS.out.of_block (HB.out.block ms HS.out.lt)))
      have hcc := HC.out
      have hb1 : NS ≤ 4194304 := by have := cnt_le U σ; omega
      have hb2 : NL ≤ 4194304 := by have := cnt_le U σ; omega
      have hsum : ((NS : Int) + (NL : Int)) = ((cnt U σ : Nat) : Int) := by omega
      clear hlen2 hcc
      go_wp2_with fail
      refine H27.out.mono ?_
      rintro e w' ⟨rfl, hw'⟩; obtain rfl := hw'.symm; clear hw' H27
      go_wp2
      go_ret
      exact ⟨rfl, HB.out⟩
end Go.Proofs.Qxb6628689a
