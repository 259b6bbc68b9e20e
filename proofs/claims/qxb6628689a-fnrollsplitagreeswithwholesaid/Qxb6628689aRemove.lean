/-
  remove (22).
-/
import Derived.Test.Qxb6628689aStore
import Derived.Deep.RegionHeld3
import Derived.Deep.MidRow
namespace Go.Proofs.Qxb6628689a
open Go.RowKit
open Go.Maps (Keyed)

section
variable {P : Program} {ops : Array Oper} {S : World → Prop} {o : Oper} {a : Act}
theorem yld {v : Value} (hg : o.guard = none) (h : ∀ w, S w → (execOp a.eval o).run P w = .ok (.value v) w) : YieldsIf P ops S o v a := Or.inl ⟨by simp [Region.wanted, hg], h⟩
theorem yld_row (hg : o.guard = none) (x : Operand) (ty : TypeId) (hop : o.op = Op.load ty x) (g : Nat) (t : TypeId) (cs : Array Value) (fr : Nat × Nat) (d : TypeDesc) (hx : a.eval x = .pointer (some ⟨g, 0, none⟩))
    (hS : ∀ w, S w → w.heap[g]? = some (.cells cs t fr)) (hu : P.underlying ty = some d) (hd : (match d with | .struct _ | .array _ _ => true | _ => false) = true) (hi : (P.info? ty).map (·.size) = some cs.size) : YieldsIf P ops S o (.agg cs) a :=
  yld hg fun w hw => by
    have hrun := run_loadVar_row (P := P) w g t ty cs fr d (hS w hw) hu hd hi
    simp [execOp, hop, hx, Instr.loadAt, Instr.sureAddr, hrun, Result.andThen]
end

theorem turned_other {w w' : World} {m b : Nat} (h : w.mapTurned w' m) (hb : b ≠ m) : w'.heap[b]? = w.heap[b]? := by
  obtain ⟨es, c, es', c', _, e⟩ := h
  rw [e]
  simp only [ChangeMaps.setBlock]
  rw [Array.getElem?_setIfInBounds_ne (Ne.symm hb)]
theorem Sto.cells {w w' : World} {U : List ByteArray} {st ms ml : Nat} {σ : St} (h : Sto w U st ms ml σ) (hw : w'.heap[st]? = w.heap[st]?) : w'.cell? ⟨st, 0, none⟩ = some (.map (some ms)) ∧ w'.cell? ⟨st, 1, none⟩ = some (.map (some ml)) := by
  have := hw.trans h.blk
  simp [World.cell?, this]
theorem Sto.nes {w : World} {U : List ByteArray} {st ms ml : Nat} {σ : St} (h : Sto w U st ms ml σ) : st ≠ ms ∧ st ≠ ml := by
  obtain ⟨hne, hblk, S, L, NS, NL, hS, hL, hN, hA⟩ := h
  constructor
  · rintro rfl; obtain ⟨es, c, hm⟩ := hS.isMap; rw [hblk] at hm; cases hm
  · rintro rfl; obtain ⟨es, c, hm⟩ := hL.isMap; rw [hblk] at hm; cases hm

abbrev Two (ms ml : Nat) : Nat → Prop := fun b => b = ms ∨ b = ml

set_option maxRecDepth 100000 in
set_option maxHeartbeats 800000 in
theorem remove_small (k : ByteArray) (U : List ByteArray) (st ms ml : Nat) (σ : St) (w : World) (hU : Uni U) (hk : k ∈ U) (hs : ¬ 31 < k.size) (h : Sto w U st ms ml σ) :
    Calls Try.prog 22 #[.pointer (some ⟨st, 0, none⟩), .string k] w fun e w' => e = .returned (.tuple #[]) ∧ Sto w' U st ms ml (sput σ k none) ∧ But (Two ms ml) w w' := by
  have H := hid h
  have HU := hid hU
  have HK := hid hk
  clear h hU hk
  go_enter Try.func22, Try.ntmps22
  go_wp2_with fail
  refine (small28 k w hs).mono ?_
  rintro e w1 ⟨rfl, hb1⟩
  have HB1 := hid hb1
  clear hb1
  go_wp2_with (first
    | (with_reducible show wpList _ _ _ ({ dst := _, op := Op.store 60 _ _, type := _, pos := _, after := _, guard := _ } :: _) _ _; refine wpList_store_row rfl (.tmp 4) (.tmp 9) 60 rfl w1.heap.size 60 zeros32 (kcells k) ?f1 ?f2 ?f3 ?f4 ?f5 (kcells_all k) ?_))
  case f1 => rfl
  case f2 => rfl
  case f3 =>
    show (w1.heap.push _)[w1.heap.size]? = _
    rw [Array.getElem?_push, if_pos rfl]; rfl
  case f4 => exact info60
  case f5 => rfl
  intro w2 hw2
  have hg : w2.heap[w1.heap.size]? = some (.cells (kcells k) 60 (0, 0)) := by
    rw [hw2.out]
    refine setRow_heap _ _ zeros32 _ _ _ ?_
    show (w1.heap.push _)[w1.heap.size]? = _
    rw [Array.getElem?_push, if_pos rfl]; rfl
  have hb2 : Below w.heap.size w w2 := by
    rw [hw2.out]
    exact below_setRow (HB1.out.alloc HB1.out.size _) HB1.out.size _
  obtain ⟨hne, hblk, S, L, NS, NL, hS, hL, hN, hA⟩ := H.out.below hb2
  have HH := hid (H.out.below hb2)
  have HG := hid hg
  have HB2 := hid hb2
  have HS := hid hS
  have HL := hid hL
  have HN := hid hN
  have HA := hid hA
  have HBLK := hid hblk
  have HNE := hid hne
  clear hg hw2 hb2 hS hL hN hA HB1 H hblk hne
  generalize w1.heap.size = B at HG ⊢
  go_wp2_with fail
  have hl1 : ∀ w' : World, (∀ b, b ≠ ms → w'.heap[b]? = w2.heap[b]?) → w'.cell? ⟨st, 0, none⟩ = some (.map (some ms)) := fun w' hw' => by
    have : w'.heap[st]? = some (.cells #[.map (some ms), .map (some ml)] 51 (0, 0)) := by
      rw [hw' st (fun e => by obtain ⟨es, c, hm⟩ := HS.out.isMap; rw [← e, HBLK.out] at hm; cases hm)]; exact HBLK.out
    simp [World.cell?, this]
  refine wp_region_held_drew (S := fun w' => ∀ b, b ≠ ms → w'.heap[b]? = w2.heap[b]?) (by kernel_rfl) (fun _ _ => rfl) (fun hHeld => ?_)
  refine wpAnyH_take (i := 0) (oi := { dst := some 12, op := _, type := _, pos := _, after := _, guard := none }) (v := .pointer (some ⟨st, 0, none⟩)) rfl (by kernel_rfl) (by kernel_rfl) (by kernel_rfl) (fun _ _ _ h => h) (yld rfl (fun w hw => by go_simp)) hHeld ?_
  simp only [Act.put, List.setIfInBounds_toArray, List.set_cons_zero, List.set_cons_succ]
  refine wpAnyH_take (i := 1) (oi := { dst := some 13, op := _, type := _, pos := _, after := _, guard := none }) (v := .pointer (some ⟨st, 0, none⟩)) rfl (by kernel_rfl) (by kernel_rfl) (by kernel_rfl) (fun _ _ _ h => h) (yld rfl (fun w hw => by go_simp)) hHeld ?_
  simp only [Act.put, List.setIfInBounds_toArray, List.set_cons_zero, List.set_cons_succ]
  refine wpAnyH_take (i := 2) (oi := { dst := some 14, op := _, type := _, pos := _, after := _, guard := none }) (v := .pointer (some ⟨st, 0, none⟩)) rfl (by kernel_rfl) (by kernel_rfl) (by kernel_rfl) (fun _ _ _ h => h) (yld rfl (fun w hw => by go_simp)) hHeld ?_
  simp only [Act.put, List.setIfInBounds_toArray, List.set_cons_zero, List.set_cons_succ]
  refine wpAnyH_take (i := 3) (oi := { dst := some 15, op := _, type := _, pos := _, after := _, guard := none }) (v := .map (some ms)) rfl (by kernel_rfl) (by kernel_rfl) (by kernel_rfl) (fun _ _ _ h => h) (yld rfl (fun w hw => by have hc := hl1 w hw; clear hw; go_simp)) hHeld ?_
  simp only [Act.put, List.setIfInBounds_toArray, List.set_cons_zero, List.set_cons_succ]
  refine wpAnyH_take (i := 4) (oi := { dst := some 16, op := _, type := _, pos := _, after := _, guard := none }) (v := .agg (kcells k)) rfl (by kernel_rfl) (by kernel_rfl) (by kernel_rfl) (fun _ _ _ h => h) (yld_row rfl (.tmp 4) 60 rfl B 60 (kcells k) (0, 0) _ rfl (fun w hw => (hw B (fun e => by obtain ⟨es, c, hm⟩ := HS.out.isMap; rw [← e, HG.out] at hm; cases hm)).trans HG.out) Try.underlying60 rfl info60) hHeld ?_
  simp only [Act.put, List.setIfInBounds_toArray, List.set_cons_zero, List.set_cons_succ]
  refine wpAnyH_ready (rs := [5]) (by kernel_rfl) (by simp) ?_
  refine AllReadyH.cons (o := { dst := none, op := _, type := _, pos := _, after := _, guard := none }) rfl (fun K hK => ?_) AllReadyH.nil
  obtain ⟨kl, hkl⟩ := kap_key ⟨k, by omega⟩
  refine step_delete_raw _ rfl (.tmp 15) (.tmp 16) 48 60 rfl 69 law60 Try.underlying48 kap_inj ms NS NS S rfl HS.out.drew ⟨k, by omega⟩ kl rfl hkl ?_
  intro w3 hm3 ht3
  refine hK.out _ _ (fun b hb => turned_other (w := w2.drew) ht3 hb) (fun hHeld => ?_)
  refine wpAnyH_done (by kernel_rfl) ?_ _
  clear hK K hl1
  simp only [Act.put]
  have hblk3 : w3.heap[st]? = some (.cells #[.map (some ms), .map (some ml)] 51 (0, 0)) := (turned_other (w := w2.drew) ht3 HH.out.nes.1).trans HBLK.out
  have hl3 : MapIs Try.prog w3 9 Value.string ml NL L NL := HL.out.of_block (turned_other (w := w2.drew) ht3 (Ne.symm HNE.out))
  have hc3 : w3.cell? ⟨st, 1, none⟩ = some (.map (some ml)) := by simp [World.cell?, hblk3]
  have HM3 := hid hm3
  have HT3 := hid ht3
  have HB3 := hid hblk3
  have HL3 := hid hl3
  have hsz := HU.out.short k HK.out
  clear hHeld hm3 ht3 hblk3 hl3 hkl
  go_wp2_with (with_reducible show wpList _ _ _ ({ dst := _, op := Op.call { callee := Callee.builtin Builtin.delete, args := _, argTypes := _ }, type := _, pos := _, after := _, guard := _ } :: _) _ _; refine wpList_delete_raw _ rfl (.tmp 20) (.tmp 21) 49 9 rfl 35 lawS Try.underlying49 str_inj ml NL NL L rfl HL3.out k _ rfl (str_key k (by unfold maxLen; omega)) ?_; intro w4 hm4 ht4)
  go_end0
  have hb24 : But (Two ms ml) w2 w4 := ((But.refl _ w2).drew.trans ((But.of_turned HT3.out).mono (fun k _ e => Or.inl e))).trans ((But.of_turned ht4).mono (fun k _ e => Or.inr e))
  have hrow : ∀ k, Two ms ml k → ¬ Rowish w2 k := fun k hk => by
    rcases hk with rfl | rfl
    · exact HH.out.maps_not_row.1
    · exact HH.out.maps_not_row.2
  have hcs := (HA.out k HK.out).small_counts (NS := NS) (NL := NL) (by omega) (HL.out.pos (str_key k (by unfold maxLen; omega))) (HS.out.pos (kap_key ⟨k, by omega⟩).choose_spec)
  refine ⟨rfl, ?_, (But.of_below HB2.out).trans hb24⟩
  refine Sto.turn HU.out HK.out HNE.out ((turned_other ht4 HH.out.nes.2).trans HB3.out) (HM3.out.of_block (turned_other ht4 HNE.out)) hm4 HN.out HA.out (fun _ _ h => h.kept hb24 hrow)
    (fun x hx => ?_) (fun x hx => ?_) ⟨fun h => ?_, ?_⟩ ?_
  · simp only [del]; rw [if_neg (fun e => hx (by rw [e]))]
  · simp only [del]; rw [if_neg hx]
  · simp [del]
  · simp [del]
  · have := hcs.2.2; simpa using this

set_option maxRecDepth 100000 in
set_option maxHeartbeats 800000 in
theorem remove_large (k : ByteArray) (U : List ByteArray) (st ms ml : Nat) (σ : St) (w : World) (hU : Uni U) (hk : k ∈ U) (hs : 31 < k.size) (h : Sto w U st ms ml σ) :
    Calls Try.prog 22 #[.pointer (some ⟨st, 0, none⟩), .string k] w fun e w' => e = .returned (.tuple #[]) ∧ Sto w' U st ms ml (sput σ k none) ∧ But (Two ms ml) w w' := by
  have hsz := hU.short k hk
  have H := hid h
  have HU := hid hU
  have HK := hid hk
  clear h hU hk
  go_enter Try.func22, Try.ntmps22
  go_wp2_with fail
  refine (big28 k w hs (by unfold maxLen; omega)).mono ?_
  rintro e w1 ⟨rfl, hb1⟩
  have HB1 := hid hb1
  clear hb1
  go_wp2_with (first
    | (with_reducible show wpList _ _ _ ({ dst := _, op := Op.store 60 _ _, type := _, pos := _, after := _, guard := _ } :: _) _ _; refine wpList_store_row rfl (.tmp 4) (.tmp 9) 60 rfl w1.heap.size 60 zeros32 zeros32 ?f1 ?f2 ?f3 ?f4 ?f5 zeros32_all ?_))
  case f1 => rfl
  case f2 => rfl
  case f3 =>
    show (w1.heap.push _)[w1.heap.size]? = _
    rw [Array.getElem?_push, if_pos rfl]; rfl
  case f4 => exact info60
  case f5 => rfl
  intro w3 hw2
  have hb2 : Below w.heap.size w w3 := by
    rw [hw2.out]
    exact below_setRow (HB1.out.alloc HB1.out.size _) HB1.out.size _
  obtain ⟨hne, hblk, S, L, NS, NL, hS, hL, hN, hA⟩ := H.out.below hb2
  have HH := hid (H.out.below hb2)
  have HB2 := hid hb2
  have HS := hid hS
  have HL := hid hL
  have HN := hid hN
  have HA := hid hA
  have HBLK := hid hblk
  have HNE := hid hne
  have hc3 : w3.cell? ⟨st, 1, none⟩ = some (.map (some ml)) := by simp [World.cell?, hblk]
  clear hw2 hb2 hS hL hN hA HB1 H hblk hne
  go_wp2_with (with_reducible show wpList _ _ _ ({ dst := _, op := Op.call { callee := Callee.builtin Builtin.delete, args := _, argTypes := _ }, type := _, pos := _, after := _, guard := _ } :: _) _ _; refine wpList_delete_raw _ rfl (.tmp 20) (.tmp 21) 49 9 rfl 35 lawS Try.underlying49 str_inj ml NL NL L rfl HL.out k _ rfl (str_key k (by unfold maxLen; omega)) ?_; intro w4 hm4 ht4)
  go_end0
  have hb24 : But (Two ms ml) w3 w4 := (But.of_turned ht4).mono (fun k _ e => Or.inr e)
  have hrow : ∀ k, Two ms ml k → ¬ Rowish w3 k := fun k hk => by
    rcases hk with rfl | rfl
    · exact HH.out.maps_not_row.1
    · exact HH.out.maps_not_row.2
  have hcs := (HA.out k HK.out).large_counts (NL := NL) (by omega) (HL.out.pos (str_key k (by unfold maxLen; omega)))
  refine ⟨rfl, ?_, (But.of_below HB2.out).trans hb24⟩
  refine Sto.turn HU.out HK.out HNE.out ((turned_other ht4 HH.out.nes.2).trans HBLK.out) (HS.out.of_block (turned_other ht4 HNE.out)) hm4 HN.out HA.out (fun _ _ h => h.kept hb24 hrow)
    (fun x hx => rfl) (fun x hx => ?_) ⟨fun h => by omega, ?_⟩ ?_
  · simp only [del]; rw [if_neg hx]
  · simp [del]
  · have := hcs.2; simp only [Option.isSome_none, Bool.false_eq_true, if_false]; omega

theorem remove_any (k : ByteArray) (U : List ByteArray) (st ms ml : Nat) (σ : St) (w : World) (hU : Uni U) (hk : k ∈ U) (h : Sto w U st ms ml σ) :
    Calls Try.prog 22 #[.pointer (some ⟨st, 0, none⟩), .string k] w fun e w' => e = .returned (.tuple #[]) ∧ Sto w' U st ms ml (sput σ k none) ∧ But (Two ms ml) w w' := by
  by_cases hs : 31 < k.size
  · exact remove_large k U st ms ml σ w hU hk hs h
  · exact remove_small k U st ms ml σ w hU hk hs h
end Go.Proofs.Qxb6628689a
