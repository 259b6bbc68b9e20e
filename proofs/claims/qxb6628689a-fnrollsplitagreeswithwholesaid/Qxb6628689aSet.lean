/-
  set (21).
-/
import Derived.Test.Qxb6628689aRemove
namespace Go.Proofs.Qxb6628689a
open Go.RowKit
open Go.Maps (Keyed)

section
variable {P : Program}
theorem wpList_copy_bytes {w : World} {ops : Array Oper} {rest : List Oper} {o : Oper} {a : Act} {Q : Exit → Act → World → Prop} (hgd : o.guard = none) (d x : Operand) (dT sT : TypeId)
    (hop : o.op = Op.call { callee := Callee.builtin Builtin.copy, args := #[d, x], argTypes := #[dT, sT] })
    (elem : TypeId) (hu : P.underlying dT = some (.slice elem)) (hz : (P.info? elem).map (·.size) = some 1)
    (b off dLen dCap : Nat) (hd : a.eval d = .slice (some ⟨b, off, none⟩) dLen dCap) (sa : Option Addr) (xs : List Int) (cap : Nat) (hx : a.eval x = .slice sa xs.length cap) (hle : xs.length ≤ dLen)
    (hsrc : 0 < xs.length → ∃ g arr, sa = some ⟨g, 0, none⟩ ∧ w.heap[g]? = some (.cells arr 5 (0, 0)) ∧ ∀ i, i < xs.length → arr[i]? = some (.int .u8 (vb xs i)))
    (hc : ∀ j, j < xs.length → (w.cell? ⟨b, off + j, none⟩).isSome = true) (hf : ∀ j, j < xs.length → w.frozen? ⟨b, off + j, none⟩ = false)
    (h : ∀ w', Hid (w' = w.setCells b off (cellsOf xs)) → wpList P ops Q rest (a.put o.dst (goInt xs.length)) w') : wpList P ops Q (o :: rest) a w := by
  refine wpList_plain hgd fun K hK => ?_
  have hrun : (Builtin.copy_ #[dT, sT] o.type #[.slice (some ⟨b, off, none⟩) dLen dCap, .slice sa xs.length cap]).run P w = .ok (goInt xs.length) (w.setCells b off (cellsOf xs)) := by
    by_cases h0 : 0 < xs.length
    · obtain ⟨g, arr, rfl, hg, hcs⟩ := hsrc h0
      have := run_copy_cells (P := P) w dT sT o.type elem b off dLen dCap ⟨g, 0, none⟩ xs.length cap (cellsOf xs) hu hz (by rw [cellsOf_length]; exact (Nat.min_eq_left hle).symm)
        (fun j v hv => by
          have hj : j < xs.length := by have := (List.getElem?_eq_some_iff.1 hv).1; rwa [cellsOf_length] at this
          rw [Addr.add_mid, Nat.zero_add, cell_of_row w g j arr 5 (0, 0) hg, hcs j hj, ← cellsOf_get xs j hj, hv])
        (by rw [cellsOf_length]; exact hc) (by rw [cellsOf_length]; exact hf) (fun v hv => by
          simp only [cellsOf, List.mem_map] at hv; obtain ⟨x, _, rfl⟩ := hv; rfl)
      rw [cellsOf_length] at this
      exact this
    · have e : xs = [] := List.length_eq_zero_iff.1 (by omega)
      subst e
      exact run_copy_none (P := P) w dT sT o.type elem _ _ dLen dCap 0 cap hu hz (by simp)
  unfold Oper.wp
  simp [execOp, hop, resolve, invoke, builtin, hd, hx, hrun, Result.andThen]
  exact hK _ _ (h _ rfl)
end

set_option maxRecDepth 100000 in
set_option maxHeartbeats 800000 in
theorem set_small (k : ByteArray) (v : Value) (xs : List Int) (U : List ByteArray) (st ms ml : Nat) (σ : St) (w : World) (hU : Uni U) (hk : k ∈ U) (hs : ¬ 31 < k.size) (hv : Bytes w v xs) (hx : ¬ 23 < xs.length) (h : Sto w U st ms ml σ) :
    Calls Try.prog 21 #[.pointer (some ⟨st, 0, none⟩), .string k, v] w fun e w' => e = .returned (.tuple #[]) ∧ Sto w' U st ms ml (sput σ k (some xs)) ∧ But (Two ms ml) w w' := by
  have HV := hid hv
  obtain ⟨sa, cap, rfl, hml, hsrc⟩ := hv
  have hsz := hU.short k hk
  have H := hid h
  have HU := hid hU
  have HK := hid hk
  have HSRC := hid hsrc
  clear h hU hk hsrc
  unfold maxLen at hml
  go_enter Try.func21, Try.ntmps21
  go_wp2_with fail
  refine (small28 k w hs).mono ?_
  rintro e w1 ⟨rfl, hb1⟩
  have HB1 := hid hb1
  clear hb1
  go_wp2_with (first
    | (with_reducible show wpList _ _ _ ({ dst := _, op := Op.store 60 _ _, type := _, pos := _, after := _, guard := _ } :: _) _ _; refine wpList_store_row rfl (.tmp 6) (.tmp 12) 60 rfl w1.heap.size 60 zeros32 (kcells k) ?f1 ?f2 ?f3 ?f4 ?f5 (kcells_all k) ?_))
  case f1 => rfl
  case f2 => rfl
  case f3 =>
    show (w1.heap.push _)[w1.heap.size]? = _
    rw [Array.getElem?_push, if_pos rfl]; rfl
  case f4 => exact info60
  case f5 => rfl
  intro w2 hw2
  have hg : w2.heap[w1.heap.size]? = some (.cells (kcells k) 60 (0, 0)) := by
    rw [hw2.out]
    refine setRow_heap _ _ zeros32 _ _ _ ?_
    show (w1.heap.push _)[w1.heap.size]? = _
    rw [Array.getElem?_push, if_pos rfl]; rfl
  have hb2 : Below w.heap.size w w2 := by
    rw [hw2.out]
    exact below_setRow (HB1.out.alloc HB1.out.size _) HB1.out.size _
  have HG := hid hg
  have HB2 := hid hb2
  clear hg hw2 hb2 HB1
  generalize w1.heap.size = B at HG ⊢
  go_wp2_with (first
    | (with_reducible show wpList _ _ _ ({ dst := _, op := Op.store 69 _ _, type := _, pos := _, after := _, guard := _ } :: _) _ _; refine wpList_store_row rfl (.tmp 8) (.tmp 23) 69 rfl w2.heap.size 69 (vcells0 0) (vcells0 xs.length) ?f1 ?f2 ?f3 ?f4 ?f5 (vcells0_all _) ?_))
  case f1 => rfl
  case f2 => rfl
  case f3 =>
    show (w2.heap.push _)[w2.heap.size]? = _
    rw [Array.getElem?_push, if_pos rfl]; rfl
  case f4 => exact info69
  case f5 => rfl
  intro w3 hw3
  have hg3 : w3.heap[w2.heap.size]? = some (.cells (vcells0 xs.length) 69 (0, 0)) := by
    rw [hw3.out]
    refine setRow_heap _ _ (vcells0 0) _ _ _ ?_
    show (w2.heap.push _)[w2.heap.size]? = _
    rw [Array.getElem?_push, if_pos rfl]; rfl
  have hb3 : Below w2.heap.size w2 w3 := by
    rw [hw3.out]
    exact below_setRow ((Below.refl _ _).alloc (Nat.le_refl _) _) (Nat.le_refl _) _
  have hBC : B ≠ w2.heap.size := Nat.ne_of_lt (lt_of_heap HG.out)
  have hgB : w3.heap[B]? = some (.cells (kcells k) 60 (0, 0)) := (hb3.block B (lt_of_heap HG.out)).trans HG.out
  have HB3 := hid (HB2.out.trans (hb3.mono HB2.out.size))
  have HG3 := hid hg3
  have HGB := hid hgB
  have HBC := hid hBC
  have HLE : Hid (w.heap.size ≤ w2.heap.size) := HB2.out.size
  clear HG hw3 hg3 hb3 hgB HB2 hBC
  generalize w2.heap.size = C at HG3 HBC HLE ⊢
  go_wp2_with (with_reducible show wpList _ _ _ ({ dst := _, op := Op.call { callee := Callee.builtin Builtin.copy, args := _, argTypes := _ }, type := _, pos := _, after := _, guard := _ } :: _) _ _; refine wpList_copy_bytes rfl (.tmp 25) (.tmp 26) 35 35 rfl 5 Try.underlying35 info5 C 1 23 23 ?g1 sa xs cap ?g2 (by omega) ?g3 ?g4 ?g5 ?_)
  case g1 => rfl
  case g2 => rfl
  case g3 =>
    intro h0
    obtain ⟨g, arr, e, hg, hc⟩ := HSRC.out h0
    exact ⟨g, arr, e, (HB3.out.block g (lt_of_heap hg)).trans hg, hc⟩
  case g4 =>
    intro j hj
    rw [cell_of_row _ _ _ _ _ _ HG3.out]
    have h2 : (vcells0 xs.length).size = 24 := rfl
    simp; omega
  case g5 =>
    intro j hj
    simp [World.frozen?, HG3.out]
  intro w4 hw4
  have hg4 : w4.heap[C]? = some (.cells (vcells xs) 69 (0, 0)) := by
    rw [hw4.out, ← laid_val]
    exact heap_setCells_row C 69 (0, 0) _ 1 w3 _ HG3.out
  have hb4 : But (· = C) w3 w4 := by rw [hw4.out]; exact But.setCells (X := (· = C)) rfl _ _ _ (But.refl _ _)
  have hgB : w4.heap[B]? = some (.cells (kcells k) 60 (0, 0)) := hb4.heap HGB.out HBC.out
  have hbw : Below w.heap.size w w4 := HB3.out.trans (hb4.below (Nat.le_trans HLE.out (Nat.le_of_lt (lt_of_heap HG3.out))) (fun k e => by cases e; exact HLE.out))
  obtain ⟨hne, hblk, S, L, NS, NL, hS, hL, hN, hA⟩ := H.out.below hbw
  have HH := hid (H.out.below hbw)
  have HG4 := hid hg4
  have HGB4 := hid hgB
  have HBW := hid hbw
  have HS := hid hS
  have HL := hid hL
  have HN := hid hN
  have HA := hid hA
  have HBLK := hid hblk
  have HNE := hid hne
  clear hw4 hg4 hb4 hgB HBC HLE HG3 HB3 HGB H hbw hS hL hN hA hblk hne
  go_wp2_with fail
  have hmr : ∀ {b : Nat} {cs : Array Value} {t : TypeId}, w4.heap[b]? = some (.cells cs t (0, 0)) → b ≠ ms := fun hb e => by obtain ⟨es, c, hm⟩ := HS.out.isMap; rw [← e, hb] at hm; cases hm
  have hl1 : ∀ w' : World, (∀ b, b ≠ ms → w'.heap[b]? = w4.heap[b]?) → w'.cell? ⟨st, 0, none⟩ = some (.map (some ms)) := fun w' hw' => (HH.out.cells (hw' st HH.out.nes.1)).1
  refine wp_region_held_drew (S := fun w' => ∀ b, b ≠ ms → w'.heap[b]? = w4.heap[b]?) (by kernel_rfl) (fun _ _ => rfl) (fun hHeld => ?_)
  refine wpAnyH_take (i := 0) (oi := { dst := some 28, op := _, type := _, pos := _, after := _, guard := none }) (v := .pointer (some ⟨st, 0, none⟩)) rfl (by kernel_rfl) (by kernel_rfl) (by kernel_rfl) (fun _ _ _ h => h) (yld rfl (fun w hw => by clear hl1 hmr hw hHeld; go_simp)) hHeld ?_
  simp only [Act.put, List.setIfInBounds_toArray, List.set_cons_zero, List.set_cons_succ]
  refine wpAnyH_take (i := 1) (oi := { dst := some 29, op := _, type := _, pos := _, after := _, guard := none }) (v := .pointer (some ⟨st, 0, none⟩)) rfl (by kernel_rfl) (by kernel_rfl) (by kernel_rfl) (fun _ _ _ h => h) (yld rfl (fun w hw => by clear hl1 hmr hw hHeld; go_simp)) hHeld ?_
  simp only [Act.put, List.setIfInBounds_toArray, List.set_cons_zero, List.set_cons_succ]
  refine wpAnyH_take (i := 2) (oi := { dst := some 30, op := _, type := _, pos := _, after := _, guard := none }) (v := .pointer (some ⟨st, 0, none⟩)) rfl (by kernel_rfl) (by kernel_rfl) (by kernel_rfl) (fun _ _ _ h => h) (yld rfl (fun w hw => by clear hl1 hmr hw hHeld; go_simp)) hHeld ?_
  simp only [Act.put, List.setIfInBounds_toArray, List.set_cons_zero, List.set_cons_succ]
  refine wpAnyH_take (i := 3) (oi := { dst := some 31, op := _, type := _, pos := _, after := _, guard := none }) (v := .map (some ms)) rfl (by kernel_rfl) (by kernel_rfl) (by kernel_rfl) (fun _ _ _ h => h) (yld rfl (fun w hw => by have hc := hl1 w hw; clear hl1 hmr hw hHeld; go_simp)) hHeld ?_
  simp only [Act.put, List.setIfInBounds_toArray, List.set_cons_zero, List.set_cons_succ]
  refine wpAnyH_take (i := 4) (oi := { dst := some 32, op := _, type := _, pos := _, after := _, guard := none }) (v := .agg (kcells k)) rfl (by kernel_rfl) (by kernel_rfl) (by kernel_rfl) (fun _ _ _ h => h) (yld_row rfl (.tmp 6) 60 rfl B 60 (kcells k) (0, 0) _ rfl (fun w hw => (hw B (hmr HGB4.out)).trans HGB4.out) Try.underlying60 rfl info60) hHeld ?_
  simp only [Act.put, List.setIfInBounds_toArray, List.set_cons_zero, List.set_cons_succ]
  refine wpAnyH_take (i := 5) (oi := { dst := some 33, op := _, type := _, pos := _, after := _, guard := none }) (v := .agg (vcells xs)) rfl (by kernel_rfl) (by kernel_rfl) (by kernel_rfl) (fun _ _ _ h => h) (yld_row rfl (.tmp 8) 69 rfl C 69 (vcells xs) (0, 0) _ rfl (fun w hw => (hw C (hmr HG4.out)).trans HG4.out) Try.underlying69 rfl info69) hHeld ?_
  simp only [Act.put, List.setIfInBounds_toArray, List.set_cons_zero, List.set_cons_succ]
  refine wpAnyH_ready (rs := [6]) (by kernel_rfl) (by simp) ?_
  refine AllReadyH.cons (o := { dst := none, op := _, type := _, pos := _, after := _, guard := none }) rfl (fun K hK => ?_) AllReadyH.nil
  obtain ⟨kl, hkl⟩ := kap_key ⟨k, by omega⟩
  have hNb : NS < maxLen := by have := HN.out; have := cnt_le U σ; have := HU.out.few; unfold maxLen; omega
  refine step_store_raw _ rfl (.tmp 31) (.tmp 32) (.tmp 33) 48 rfl 60 69 law60 Try.underlying48 kap_inj ms NS NS S rfl HS.out.drew hNb ⟨k, by omega⟩ kl (.agg (vcells xs)) rfl rfl hkl ?_
  intro w5 hm5 ht5
  refine hK.out _ _ (fun b hb => turned_other (w := w4.drew) ht5 hb) (fun hHeld => ?_)
  refine wpAnyH_done (by kernel_rfl) ?_ _
  clear hK K hl1 hmr hHeld
  simp only [Act.put]
  have hblk5 : w5.heap[st]? = some (.cells #[.map (some ms), .map (some ml)] 51 (0, 0)) := (turned_other (w := w4.drew) ht5 HH.out.nes.1).trans HBLK.out
  have hl5 : MapIs Try.prog w5 9 Value.string ml NL L NL := HL.out.of_block (turned_other (w := w4.drew) ht5 (Ne.symm HNE.out))
  have hc5 : w5.cell? ⟨st, 1, none⟩ = some (.map (some ml)) := by simp [World.cell?, hblk5]
  have hlen := fun ty => hl5.len (t := 49) (e := 35) Try.underlying49 ty
  have hb45 : But (Two ms ml) w4 w5 := (But.refl _ w4).drew.trans ((But.of_turned ht5).mono (fun k _ e => Or.inl e))
  have hrow : ∀ k, Two ms ml k → ¬ Rowish w4 k := fun k hk => by
    rcases hk with rfl | rfl
    · exact HH.out.maps_not_row.1
    · exact HH.out.maps_not_row.2
  have hcs := (HA.out k HK.out).small_counts (NS := NS) (NL := NL) (by omega) (HL.out.pos (str_key k (by unfold maxLen; omega))) (HS.out.pos (kap_key ⟨k, by omega⟩).choose_spec)
  have HM5 := hid hm5
  have HBUT := hid hb45
  have HBL5 := hid hblk5
  have HL5 := hid hl5
  have HROW := hid hrow
  have HCS := hid hcs
  have HNB := hid hNb
  clear hHeld hm5 ht5 hblk5 hl5 hkl hb45 hrow hcs hNb
  by_cases hz : NL = 0
  · subst hz
    go_wp2
    refine bodyPost_ret (results_none rfl _ _ _) rfl ?_
    have hLk : L k = none := HL.out.none_of_zero (str_key k (by unfold maxLen; omega))
    refine ⟨rfl, ?_, (But.of_below HBW.out).trans HBUT.out⟩
    refine Sto.turn HU.out HK.out HNE.out HBL5.out HM5.out HL5.out HN.out HA.out (fun _ _ h => h.kept HBUT.out HROW.out)
      (fun x hx => ?_) (fun x hx => rfl) ⟨fun h => ?_, ?_⟩ ?_
    · simp only [put]; rw [if_neg (fun e => hx (by rw [e]))]
    · simp only [put, if_true]; rw [if_pos (by omega)]
    · simp only; rw [if_pos ⟨by omega, by omega⟩]; exact hLk
    · have := HCS.out.1; simp [hLk] at this ⊢; omega
  · have hzn : (((NL : Nat) : Int) = 0) = False := by simp; omega
    go_wp2_with (with_reducible show wpList _ _ _ ({ dst := _, op := Op.call { callee := Callee.builtin Builtin.delete, args := _, argTypes := _ }, type := _, pos := _, after := _, guard := _ } :: _) _ _; refine wpList_delete_raw _ rfl (.tmp 43) (.tmp 44) 49 9 rfl 35 lawS Try.underlying49 str_inj ml NL NL L rfl HL5.out k _ rfl (str_key k (by unfold maxLen; omega)) ?_; intro w6 hm6 ht6)
    go_wp2
    refine bodyPost_ret (results_none rfl _ _ _) rfl ?_
    have hb46 : But (Two ms ml) w4 w6 := HBUT.out.trans ((But.of_turned ht6).mono (fun k _ e => Or.inr e))
    refine ⟨rfl, ?_, (But.of_below HBW.out).trans hb46⟩
    refine Sto.turn HU.out HK.out HNE.out ((turned_other ht6 HH.out.nes.2).trans HBL5.out) (HM5.out.of_block (turned_other ht6 HNE.out)) hm6 HN.out HA.out (fun _ _ h => h.kept hb46 HROW.out)
      (fun x hx => ?_) (fun x hx => ?_) ⟨fun h => ?_, ?_⟩ ?_
    · simp only [put]; rw [if_neg (fun e => hx (by rw [e]))]
    · simp only [del]; rw [if_neg hx]
    · simp only [put, if_true]; rw [if_pos (by omega)]
    · simp only; rw [if_pos ⟨by omega, by omega⟩]; simp [del]
    · have := HCS.out.1; simp only [Option.isSome_some, if_true]; omega

set_option maxRecDepth 100000 in
set_option maxHeartbeats 800000 in
theorem set_mid (k : ByteArray) (v : Value) (xs : List Int) (U : List ByteArray) (st ms ml : Nat) (σ : St) (w : World) (hU : Uni U) (hk : k ∈ U) (hs : ¬ 31 < k.size) (hv : Bytes w v xs) (hx : 23 < xs.length) (h : Sto w U st ms ml σ) :
    Calls Try.prog 21 #[.pointer (some ⟨st, 0, none⟩), .string k, v] w fun e w' => e = .returned (.tuple #[]) ∧ Sto w' U st ms ml (sput σ k (some xs)) ∧ But (Two ms ml) w w' := by
  have HV := hid hv
  obtain ⟨sa, cap, rfl, hml, hsrc⟩ := hv
  have hsz := hU.short k hk
  have H := hid h
  have HU := hid hU
  have HK := hid hk
  clear h hU hk hsrc
  unfold maxLen at hml
  go_enter Try.func21, Try.ntmps21
  go_wp2_with fail
  refine (small28 k w hs).mono ?_
  rintro e w1 ⟨rfl, hb1⟩
  have HB1 := hid hb1
  clear hb1
  go_wp2_with (first
    | (with_reducible show wpList _ _ _ ({ dst := _, op := Op.store 60 _ _, type := _, pos := _, after := _, guard := _ } :: _) _ _; refine wpList_store_row rfl (.tmp 6) (.tmp 12) 60 rfl w1.heap.size 60 zeros32 (kcells k) ?f1 ?f2 ?f3 ?f4 ?f5 (kcells_all k) ?_))
  case f1 => rfl
  case f2 => rfl
  case f3 =>
    show (w1.heap.push _)[w1.heap.size]? = _
    rw [Array.getElem?_push, if_pos rfl]; rfl
  case f4 => exact info60
  case f5 => rfl
  intro w2 hw2
  have hg : w2.heap[w1.heap.size]? = some (.cells (kcells k) 60 (0, 0)) := by
    rw [hw2.out]
    refine setRow_heap _ _ zeros32 _ _ _ ?_
    show (w1.heap.push _)[w1.heap.size]? = _
    rw [Array.getElem?_push, if_pos rfl]; rfl
  have hb2 : Below w.heap.size w w2 := by
    rw [hw2.out]
    exact below_setRow (HB1.out.alloc HB1.out.size _) HB1.out.size _
  have HG := hid hg
  have HB2 := hid hb2
  obtain ⟨hne, hblk, S, L, NS, NL, hS, hL, hN, hA⟩ := H.out.below hb2
  have HH := hid (H.out.below hb2)
  have hV2 := HV.out.kept (But.of_below (X := fun _ => False) hb2) (fun _ h => h.elim)
  have HV2 := hid hV2
  have HS := hid hS
  have HL := hid hL
  have HN := hid hN
  have HA := hid hA
  have HBLK := hid hblk
  have HNE := hid hne
  have hc3 : w2.cell? ⟨st, 1, none⟩ = some (.map (some ml)) := by simp [World.cell?, hblk]
  have hNb : NL < maxLen := by have := cnt_le U σ; have := HU.out.few; unfold maxLen; omega
  have HNB := hid hNb
  clear hg hw2 hb2 HB1 hS hL hN hA hblk hne H hNb hV2
  generalize w1.heap.size = B at HG ⊢
  go_wp2_with (with_reducible show wpList _ _ _ ({ dst := _, op := Op.mapUpdate _ _ _ _, type := _, pos := _, after := _, guard := _ } :: _) _ _; refine wpList_store_raw _ rfl (.tmp 48) (.tmp 49) (.tmp 50) 49 rfl 9 35 lawS Try.underlying49 str_inj ml NL NL L rfl HL.out HNB.out k _ (.slice sa xs.length cap) rfl rfl (str_key k (by unfold maxLen; omega)) ?_; intro w4 hm4 ht4)
  have hb24 : But (· = ml) w2 w4 := But.of_turned ht4
  have hS4 : MapIs Try.prog w4 60 kap ms NS S NS := HS.out.of_block (turned_other ht4 HNE.out)
  have hblk4 : w4.heap[st]? = some (.cells #[.map (some ms), .map (some ml)] 51 (0, 0)) := (turned_other ht4 HH.out.nes.2).trans HBLK.out
  have hgB : w4.heap[B]? = some (.cells (kcells k) 60 (0, 0)) := (turned_other ht4 (fun e => by obtain ⟨es, c, hm⟩ := HL.out.isMap; rw [← e, HG.out] at hm; cases hm)).trans HG.out
  have HM4 := hid hm4
  have HB24 := hid hb24
  have HS4 := hid hS4
  have HBLK4 := hid hblk4
  have HGB := hid hgB
  clear hm4 hb24 hS4 hblk4 hgB ht4 hc3
  go_wp2_with fail
  have hmr : ∀ {b : Nat} {cs : Array Value} {t : TypeId}, w4.heap[b]? = some (.cells cs t (0, 0)) → b ≠ ms := fun hb e => by obtain ⟨es, c, hm⟩ := HS4.out.isMap; rw [← e, hb] at hm; cases hm
  have hl1 : ∀ w' : World, (∀ b, b ≠ ms → w'.heap[b]? = w4.heap[b]?) → w'.cell? ⟨st, 0, none⟩ = some (.map (some ms)) := fun w' hw' => by
    have := (hw' st HH.out.nes.1).trans HBLK4.out
    simp [World.cell?, this]
  refine wp_region_held_drew (S := fun w' => ∀ b, b ≠ ms → w'.heap[b]? = w4.heap[b]?) (by kernel_rfl) (fun _ _ => rfl) (fun hHeld => ?_)
  refine wpAnyH_take (i := 0) (oi := { dst := some 52, op := _, type := _, pos := _, after := _, guard := none }) (v := .pointer (some ⟨st, 0, none⟩)) rfl (by kernel_rfl) (by kernel_rfl) (by kernel_rfl) (fun _ _ _ h => h) (yld rfl (fun w hw => by clear hl1 hmr hw hHeld; go_simp)) hHeld ?_
  simp only [Act.put, List.setIfInBounds_toArray, List.set_cons_zero, List.set_cons_succ]
  refine wpAnyH_take (i := 1) (oi := { dst := some 53, op := _, type := _, pos := _, after := _, guard := none }) (v := .pointer (some ⟨st, 0, none⟩)) rfl (by kernel_rfl) (by kernel_rfl) (by kernel_rfl) (fun _ _ _ h => h) (yld rfl (fun w hw => by clear hl1 hmr hw hHeld; go_simp)) hHeld ?_
  simp only [Act.put, List.setIfInBounds_toArray, List.set_cons_zero, List.set_cons_succ]
  refine wpAnyH_take (i := 2) (oi := { dst := some 54, op := _, type := _, pos := _, after := _, guard := none }) (v := .pointer (some ⟨st, 0, none⟩)) rfl (by kernel_rfl) (by kernel_rfl) (by kernel_rfl) (fun _ _ _ h => h) (yld rfl (fun w hw => by clear hl1 hmr hw hHeld; go_simp)) hHeld ?_
  simp only [Act.put, List.setIfInBounds_toArray, List.set_cons_zero, List.set_cons_succ]
  refine wpAnyH_take (i := 3) (oi := { dst := some 55, op := _, type := _, pos := _, after := _, guard := none }) (v := .map (some ms)) rfl (by kernel_rfl) (by kernel_rfl) (by kernel_rfl) (fun _ _ _ h => h) (yld rfl (fun w hw => by have hc := hl1 w hw; clear hl1 hmr hw hHeld; go_simp)) hHeld ?_
  simp only [Act.put, List.setIfInBounds_toArray, List.set_cons_zero, List.set_cons_succ]
  refine wpAnyH_take (i := 4) (oi := { dst := some 56, op := _, type := _, pos := _, after := _, guard := none }) (v := .agg (kcells k)) rfl (by kernel_rfl) (by kernel_rfl) (by kernel_rfl) (fun _ _ _ h => h) (yld_row rfl (.tmp 6) 60 rfl B 60 (kcells k) (0, 0) _ rfl (fun w hw => (hw B (hmr HGB.out)).trans HGB.out) Try.underlying60 rfl info60) hHeld ?_
  simp only [Act.put, List.setIfInBounds_toArray, List.set_cons_zero, List.set_cons_succ]
  refine wpAnyH_ready (rs := [5]) (by kernel_rfl) (by simp) ?_
  refine AllReadyH.cons (o := { dst := none, op := _, type := _, pos := _, after := _, guard := none }) rfl (fun K hK => ?_) AllReadyH.nil
  obtain ⟨kl, hkl⟩ := kap_key ⟨k, by omega⟩
  refine step_delete_raw _ rfl (.tmp 55) (.tmp 56) 48 60 rfl 69 law60 Try.underlying48 kap_inj ms NS NS S rfl HS4.out.drew ⟨k, by omega⟩ kl rfl hkl ?_
  intro w5 hm5 ht5
  refine hK.out _ _ (fun b hb => turned_other (w := w4.drew) ht5 hb) (fun hHeld => ?_)
  refine wpAnyH_done (by kernel_rfl) ?_ _
  clear hK K hl1 hmr hHeld
  simp only [Act.put]
  have HM5 := hid hm5
  have HT5 := hid ht5
  clear hm5 ht5 hHeld hkl
  go_wp2
  go_end0
  have hb25 : But (Two ms ml) w2 w5 := (HB24.out.mono (fun k _ e => Or.inr e)).drew.trans ((But.of_turned HT5.out).mono (fun k _ e => Or.inl e))
  have hrow : ∀ k, Two ms ml k → ¬ Rowish w2 k := fun k hk => by
    rcases hk with rfl | rfl
    · exact HH.out.maps_not_row.1
    · exact HH.out.maps_not_row.2
  have hcs := (HA.out k HK.out).small_counts (NS := NS) (NL := NL) (by omega) (HL.out.pos (str_key k (by unfold maxLen; omega))) (HS.out.pos (kap_key ⟨k, by omega⟩).choose_spec)
  refine ⟨rfl, ?_, (But.of_below HB2.out).trans hb25⟩
  refine Sto.turn HU.out HK.out HNE.out ((turned_other (w := w4.drew) HT5.out HH.out.nes.1).trans HBLK4.out) HM5.out (HM4.out.of_block (turned_other (w := w4.drew) HT5.out (Ne.symm HNE.out))) HN.out HA.out (fun _ _ h => h.kept hb25 hrow)
    (fun x hx => ?_) (fun x hx => ?_) ⟨fun h => ?_, ?_⟩ ?_
  · simp only [del]; rw [if_neg (fun e => hx (by rw [e]))]
  · simp only [put]; rw [if_neg hx]
  · simp only [del, if_true]; rw [if_neg (by omega)]
  · simp only; rw [if_neg (by omega)]; exact ⟨_, by simp [put], HV2.out.kept hb25 hrow⟩
  · have := hcs.2.1; simp only [Option.isSome_some, if_true]; omega

set_option maxRecDepth 100000 in
set_option maxHeartbeats 800000 in
theorem set_large (k : ByteArray) (v : Value) (xs : List Int) (U : List ByteArray) (st ms ml : Nat) (σ : St) (w : World) (hU : Uni U) (hk : k ∈ U) (hs : 31 < k.size) (hv : Bytes w v xs) (h : Sto w U st ms ml σ) :
    Calls Try.prog 21 #[.pointer (some ⟨st, 0, none⟩), .string k, v] w fun e w' => e = .returned (.tuple #[]) ∧ Sto w' U st ms ml (sput σ k (some xs)) ∧ But (Two ms ml) w w' := by
  have HV := hid hv
  obtain ⟨sa, cap, rfl, hml, hsrc⟩ := hv
  have hsz := hU.short k hk
  have H := hid h
  have HU := hid hU
  have HK := hid hk
  clear h hU hk hsrc
  unfold maxLen at hml
  go_enter Try.func21, Try.ntmps21
  go_wp2_with fail
  refine (big28 k w hs (by unfold maxLen; omega)).mono ?_
  rintro e w1 ⟨rfl, hb1⟩
  have HB1 := hid hb1
  clear hb1
  go_wp2_with (first
    | (with_reducible show wpList _ _ _ ({ dst := _, op := Op.store 60 _ _, type := _, pos := _, after := _, guard := _ } :: _) _ _; refine wpList_store_row rfl (.tmp 6) (.tmp 12) 60 rfl w1.heap.size 60 zeros32 zeros32 ?f1 ?f2 ?f3 ?f4 ?f5 zeros32_all ?_))
  case f1 => rfl
  case f2 => rfl
  case f3 =>
    show (w1.heap.push _)[w1.heap.size]? = _
    rw [Array.getElem?_push, if_pos rfl]; rfl
  case f4 => exact info60
  case f5 => rfl
  intro w2 hw2
  have hb2 : Below w.heap.size w w2 := by
    rw [hw2.out]
    exact below_setRow (HB1.out.alloc HB1.out.size _) HB1.out.size _
  have HB2 := hid hb2
  obtain ⟨hne, hblk, S, L, NS, NL, hS, hL, hN, hA⟩ := H.out.below hb2
  have HH := hid (H.out.below hb2)
  have hV2 := HV.out.kept (But.of_below (X := fun _ => False) hb2) (fun _ h => h.elim)
  have HV2 := hid hV2
  have HS := hid hS
  have HL := hid hL
  have HN := hid hN
  have HA := hid hA
  have HBLK := hid hblk
  have HNE := hid hne
  have hc3 : w2.cell? ⟨st, 1, none⟩ = some (.map (some ml)) := by simp [World.cell?, hblk]
  have hNb : NL < maxLen := by have := cnt_le U σ; have := HU.out.few; unfold maxLen; omega
  have HNB := hid hNb
  clear hw2 hb2 HB1 hS hL hN hA hblk hne H hNb hV2
  go_wp2_with (with_reducible show wpList _ _ _ ({ dst := _, op := Op.mapUpdate _ _ _ _, type := _, pos := _, after := _, guard := _ } :: _) _ _; refine wpList_store_raw _ rfl (.tmp 48) (.tmp 49) (.tmp 50) 49 rfl 9 35 lawS Try.underlying49 str_inj ml NL NL L rfl HL.out HNB.out k _ (.slice sa xs.length cap) rfl rfl (str_key k (by unfold maxLen; omega)) ?_; intro w4 hm4 ht4)
  have HM4 := hid hm4
  have HT4 := hid ht4
  clear hm4 ht4 hc3
  go_wp2
  go_end0
  have hb24 : But (Two ms ml) w2 w4 := (But.of_turned HT4.out).mono (fun k _ e => Or.inr e)
  have hrow : ∀ k, Two ms ml k → ¬ Rowish w2 k := fun k hk => by
    rcases hk with rfl | rfl
    · exact HH.out.maps_not_row.1
    · exact HH.out.maps_not_row.2
  have hcs := (HA.out k HK.out).large_counts (NL := NL) (by omega) (HL.out.pos (str_key k (by unfold maxLen; omega)))
  refine ⟨rfl, ?_, (But.of_below HB2.out).trans hb24⟩
  refine Sto.turn HU.out HK.out HNE.out ((turned_other HT4.out HH.out.nes.2).trans HBLK.out) (HS.out.of_block (turned_other HT4.out HNE.out)) HM4.out HN.out HA.out (fun _ _ h => h.kept hb24 hrow)
    (fun x hx => rfl) (fun x hx => ?_) ⟨fun h => by omega, ?_⟩ ?_
  · simp only [put]; rw [if_neg hx]
  · simp only; rw [if_neg (by omega)]; exact ⟨_, by simp [put], HV2.out.kept hb24 hrow⟩
  · have := hcs.1; simp only [Option.isSome_some, if_true]; omega

theorem set_any (k : ByteArray) (v : Value) (xs : List Int) (U : List ByteArray) (st ms ml : Nat) (σ : St) (w : World) (hU : Uni U) (hk : k ∈ U) (hv : Bytes w v xs) (h : Sto w U st ms ml σ) :
    Calls Try.prog 21 #[.pointer (some ⟨st, 0, none⟩), .string k, v] w fun e w' => e = .returned (.tuple #[]) ∧ Sto w' U st ms ml (sput σ k (some xs)) ∧ But (Two ms ml) w w' := by
  by_cases hs : 31 < k.size
  · exact set_large k v xs U st ms ml σ w hU hk hs hv h
  · by_cases hx : 23 < xs.length
    · exact set_mid k v xs U st ms ml σ w hU hk hs hv hx h
    · exact set_small k v xs U st ms ml σ w hU hk hs hv hx h
end Go.Proofs.Qxb6628689a
