/-
  ZZlarge (23), ZZtoSmallKey (24), ZZsmallAt (25), zzSameBytes (26), ZZsmallLen (27).
-/
import Derived.Test.Qxb6628689aRoll
import Derived.BigQuiet
import Derived.Deep.QuietTactic
import Derived.BigGuardPart
namespace Go.Proofs.Qxb6628689a
open Go.RowKit
open Go.Maps (Keyed)

theorem below_drewN {B : Nat} {w wr : World} (h : Below B w wr) (n : Nat) : Below B w (wr.drewN n) := ⟨h.os, h.tape, h.output, h.size, h.block⟩

theorem wp_at {P : Program} {c : Code} {Q : Exit → Act → World → Prop} {a : Act} {w w' : World} (h : w' = w) (k : Code.wp P c Q a w') : Code.wp P c Q a w := h ▸ k

theorem large23 (U : List ByteArray) (st ms ml : Nat) (σ : St) (w : World) (h : Sto w U st ms ml σ) :
    Calls Try.prog 23 #[.pointer (some ⟨st, 0, none⟩)] w fun e w' => e = .returned (.map (some ml)) ∧ w' = w := by
  have hc := (h.cells rfl).2
  clear h
  go_enter Try.func23, Try.ntmps23
  go_wp2
  go_ret
  exact ⟨rfl, rfl⟩

theorem len27 (U : List ByteArray) (st ms ml NS : Nat) (S : K60 → Option Value) (σ : St) (w : World) (h : Sto w U st ms ml σ) (hS : MapIs Try.prog w 60 kap ms NS S NS) :
    Calls Try.prog 27 #[.pointer (some ⟨st, 0, none⟩)] w fun e w' => e = .returned (.int .i64 NS) ∧ w' = w := by
  have hc := (h.cells rfl).1
  have hl := fun ty => hS.len (t := 48) (e := 69) Try.underlying48 ty
  clear h hS
  go_enter Try.func27, Try.ntmps27
  go_wp2
  go_ret
  exact ⟨rfl, rfl⟩

set_option maxRecDepth 100000 in
theorem small24 (k : ByteArray) (w : World) (hs : ¬ 31 < k.size) :
    Calls Try.prog 24 #[.string k] w fun e w' => e = .returned (.tuple #[.agg (kcells k), .bool true]) ∧ Below w.heap.size w w' := by
  go_enter Try.func24, Try.ntmps24
  go_wp2_with fail
  refine (small28 k _ hs).mono ?_
  rintro e w1 ⟨rfl, hb1⟩
  have HB1 := hid hb1
  have hg : w1.heap[w.heap.size]? = some (.cells zeros32 60 (0, 0)) := by
    rw [hb1.block w.heap.size (by simp)]
    show (w.heap.push _)[w.heap.size]? = _
    rw [Array.getElem?_push, if_pos rfl]; rfl
  have HG := hid hg
  clear hb1 hg
  go_wp2_with (first
    | (with_reducible show wpList _ _ _ ({ dst := _, op := Op.store 60 _ _, type := _, pos := _, after := _, guard := _ } :: _) _ _; refine wpList_store_row rfl (.tmp 2) (.tmp 6) 60 rfl w.heap.size 60 zeros32 (kcells k) ?f1 ?f2 ?f3 ?f4 ?f5 (kcells_all k) ?_))
  case f1 => rfl
  case f2 => rfl
  case f3 => exact HG.out
  case f4 => exact info60
  case f5 => rfl
  intro w2 hw2
  have hg2 : w2.heap[w.heap.size]? = some (.cells (kcells k) 60 (0, 0)) := by
    rw [hw2.out]
    exact setRow_heap _ _ zeros32 _ _ _ HG.out
  have hb2 : Below w.heap.size w w2 := by
    rw [hw2.out]
    refine below_setRow (((Below.refl _ _).alloc (Nat.le_refl _) _).trans (HB1.out.mono (by simp))) (Nat.le_refl _) _
  have H6 := hid (run_loadVar_row (P := Try.prog) w2 w.heap.size 60 60 (kcells k) (0, 0) _ hg2 Try.underlying60 rfl info60)
  have HB2 := hid hb2
  clear hw2 hg2 hb2 HB1 HG
  go_wp2
  have hl6 := H6.out
  refine bodyPost_ret (v := .tuple #[.agg (kcells k), .bool true]) ?_ rfl ⟨rfl, HB2.out⟩
  simp [results, Try.results24, hl6, asAddr]

set_option maxRecDepth 100000 in
set_option maxHeartbeats 800000 in
theorem same26 (v v' : Value) (xs : List Int) (w : World) (h : Bytes w v xs) (h' : Bytes w v' xs) :
    Calls Try.prog 26 #[v, v'] w fun e w' => e = .returned (.bool true) ∧ Below w.heap.size w w' := by
  obtain ⟨a, cap, rfl, hml, h⟩ := h
  obtain ⟨a', cap', rfl, _, h'⟩ := h'
  have H := hid h
  have H' := hid h'
  clear h h'
  unfold maxLen at hml
  go_enter Try.func26, Try.ntmps26
  go_wp2
  go_loopw [5] (fun i wr => ∃ k : Nat, k ≤ xs.length ∧ i = .int .i64 k ∧ Hid (Below w.heap.size w wr)) (fun i _ => xs.length - (intOf i).toNat)
  case atStart => exact ⟨0, Nat.zero_le _, rfl, Below.refl _ _⟩
  case round =>
    obtain ⟨k, hk, rfl, HB⟩ := hrel
    by_cases hlt : k < xs.length
    · obtain ⟨b, arr, rfl, hh, hc⟩ := H.out (by omega)
      obtain ⟨b', arr', rfl, hh', hc'⟩ := H'.out (by omega)
      have c0 : wr.cell? ⟨b, k, none⟩ = some (.int .u8 (vb xs k)) := by
        rw [cell_of_row wr b k arr 5 (0, 0) ((HB.out.block b (lt_of_heap hh)).trans hh)]; exact hc k hlt
      have c1 : wr.cell? ⟨b', k, none⟩ = some (.int .u8 (vb xs k)) := by
        rw [cell_of_row wr b' k arr' 5 (0, 0) ((HB.out.block b' (lt_of_heap hh')).trans hh')]; exact hc' k hlt
      clear hh hc hh' hc'
      go_wp2_with fail
      go_quiet (fail)
      go_wp2
      go_roundw
      case rel => exact ⟨k + 1, by omega, by go_num, below_drewN HB.out _⟩
      case measure => simp [intOf]; omega
    · obtain rfl : k = xs.length := by omega
      go_wp2
      go_ret
      exact ⟨rfl, HB.out⟩

section
variable {P : Program} {w : World} {ops : Array Oper} {o : Oper} {a : Act} {Q : Exit → Act → World → Prop}
theorem step_store_row {Kp : Act → World → Prop} {E : Prop} (hgd : o.guard = none) (x v : Operand) (ty : TypeId) (hop : o.op = Op.store ty x v) (g : Nat) (t : TypeId) (old cells : Array Value) (hx : a.eval x = .pointer (some ⟨g, 0, none⟩)) (hv : a.eval v = .agg cells)
    (hg : w.heap[g]? = some (.cells old t (0, 0))) (hi : (P.info? ty).map (·.size) = some cells.size) (ho : old.size = cells.size) (h1 : cells.all (·.oneCell') = true)
    (h : ∀ w', Hid (w' = w.setRow g cells) → Kp (a.put o.dst undef) w') : if Region.wanted o (yielded ops a.tmps) = true then Oper.wp P o a w Kp Q else E := by
  have hw : Region.wanted o (yielded ops a.tmps) = true := by simp [Region.wanted, hgd]
  rw [if_pos hw]
  have hrun := run_storeVar_row (P := P) w g t ty old cells hg hi ho h1
  unfold Oper.wp
  simp [execOp, hop, hx, hv, Instr.storeAt, Instr.sureAddr, hrun, Result.andThen]
  exact h _ rfl
theorem step_alloc {Kp : Act → World → Prop} {E : Prop} (hgd : o.guard = none) (ty : TypeId) (hop : o.op = Op.alloc ty) (z : Array Value) (hz : ∀ w, (zeroValue ty).run P w = .ok (.agg z) w)
    (h : Kp (a.put o.dst (.pointer (some ⟨w.heap.size, 0, none⟩))) (w.alloc (.cells z ty))) : if Region.wanted o (yielded ops a.tmps) = true then Oper.wp P o a w Kp Q else E := by
  have hw : Region.wanted o (yielded ops a.tmps) = true := by simp [Region.wanted, hgd]
  rw [if_pos hw]
  unfold Oper.wp
  simp [execOp, hop, Instr.alloc, newVar, newRow, newObj, hz, Value.cells, Result.andThen]
  exact h
end

def bcells (xs : List Int) : Array Value := #[.int .u8 (vb xs 0), .int .u8 (vb xs 1), .int .u8 (vb xs 2), .int .u8 (vb xs 3), .int .u8 (vb xs 4), .int .u8 (vb xs 5), .int .u8 (vb xs 6), .int .u8 (vb xs 7), .int .u8 (vb xs 8), .int .u8 (vb xs 9), .int .u8 (vb xs 10), .int .u8 (vb xs 11), .int .u8 (vb xs 12), .int .u8 (vb xs 13), .int .u8 (vb xs 14), .int .u8 (vb xs 15), .int .u8 (vb xs 16), .int .u8 (vb xs 17), .int .u8 (vb xs 18), .int .u8 (vb xs 19), .int .u8 (vb xs 20), .int .u8 (vb xs 21), .int .u8 (vb xs 22)]
def bzero : Array Value := #[.int .u8 0, .int .u8 0, .int .u8 0, .int .u8 0, .int .u8 0, .int .u8 0, .int .u8 0, .int .u8 0, .int .u8 0, .int .u8 0, .int .u8 0, .int .u8 0, .int .u8 0, .int .u8 0, .int .u8 0, .int .u8 0, .int .u8 0, .int .u8 0, .int .u8 0, .int .u8 0, .int .u8 0, .int .u8 0, .int .u8 0]
theorem info57 : (Try.prog.info? 57).map (·.size) = some 23 := by kernel_rfl
theorem bcells_all (xs : List Int) : (bcells xs).all (·.oneCell') = true := by simp [bcells, Value.oneCell']
theorem vcells_nil : vcells [] = vcells0 0 := rfl
theorem zero69 (w : World) : (zeroValue 69).run Try.prog w = .ok (.agg (vcells0 0)) w := by kernel_rfl

theorem rangeC {w : World} {C : Nat} {xs : List Int} (h : w.heap[C]? = some (.cells (vcells xs) 69 (0, 0))) : w.rangeAt C 1 (bcells xs).toList := fun j v hv => by
  rw [cell_of_row w C (1 + j) (vcells xs) 69 (0, 0) h, ← hv, Nat.add_comm]
  have e : (vcells xs)[j + 1]? = (vcells xs).toList[j + 1]? := by simp
  rw [e]; rfl

set_option maxRecDepth 100000 in
set_option maxHeartbeats 1600000 in
theorem at25 (k : ByteArray) (xs : List Int) (ok : Bool) (U : List ByteArray) (st ms ml NS : Nat) (S : K60 → Option Value) (σ : St) (w : World) (hs : k.size ≤ 31) (h : Sto w U st ms ml σ) (hS : MapIs Try.prog w 60 kap ms NS S NS)
    (hx : (S ⟨k, hs⟩).getD (.agg (vcells0 0)) = .agg (vcells xs)) (hok : (S ⟨k, hs⟩).isSome = ok) :
    Calls Try.prog 25 #[.pointer (some ⟨st, 0, none⟩), .agg (kcells k)] w fun e w' => e = .returned (.tuple #[.int .u8 xs.length, .agg (bcells xs), .bool ok]) ∧ Below w.heap.size w w' := by
  obtain ⟨kl, hkl⟩ := kap_key ⟨k, hs⟩
  have hlk : ∀ w' : World, w'.heap[ms]? = w.heap[ms]? → (Instr.lookup 48 (.map (some ms)) (.agg (kcells k)) true).run Try.prog w' = .ok (.tuple #[.agg (vcells xs), .bool ok]) w' := fun w' hw' => by
    have := (hS.of_block hw').look_ok law60 Try.underlying48 (zero69 _) hkl
    rw [hx, hok] at this
    exact this
  have HLK0 := hid hlk
  have H := hid h
  have HMS := hid hS.lt
  have ksz := kcells_size k
  clear hlk h hS hx hok hkl
  go_enter Try.func25, Try.ntmps25
  go_wp2_with fail
  obtain ⟨wA, hwA⟩ : ∃ wA, wA = (w.alloc (.cells (kcells k) 60)).alloc (.cells bzero 57) := ⟨_, rfl⟩
  have hA1 : wA.heap[w.heap.size]? = some (.cells (kcells k) 60 (0, 0)) := by
    rw [hwA]
    show ((w.heap.push _).push _)[w.heap.size]? = _
    rw [Array.getElem?_push, if_neg (by simp), Array.getElem?_push, if_pos rfl]
  have hA2 : wA.heap[w.heap.size + 1]? = some (.cells bzero 57 (0, 0)) := by
    rw [hwA]
    show ((w.heap.push _).push _)[w.heap.size + 1]? = _
    rw [Array.getElem?_push, if_pos (by simp)]
  have hbA : Below w.heap.size w wA := by rw [hwA]; exact ((Below.refl _ _).alloc (Nat.le_refl _) _).alloc (by simp) _
  have HSA := hid (H.out.below hbA)
  have HLK : Hid (∀ w' : World, w'.heap[ms]? = wA.heap[ms]? → (Instr.lookup 48 (.map (some ms)) (.agg (kcells k)) true).run Try.prog w' = .ok (.tuple #[.agg (vcells xs), .bool ok]) w') := fun w' hw' => HLK0.out w' (hw'.trans (hbA.block ms HMS.out))
  have HA1 := hid hA1
  have HA2 := hid hA2
  have HBA := hid hbA
  refine wp_at hwA ?_
  clear hA1 hA2 hbA hwA HLK0 ksz HMS H
  refine wp_region_held_drew (S := fun w' => ∀ b, b < wA.heap.size → w'.heap[b]? = wA.heap[b]?) (by kernel_rfl) (fun _ _ => rfl) (fun hHeld => ?_)
  refine wpAnyH_take (i := 0) (oi := { dst := some 10, op := _, type := _, pos := _, after := _, guard := none }) (v := .pointer (some ⟨st, 0, none⟩)) rfl (by kernel_rfl) (by kernel_rfl) (by kernel_rfl) (fun _ _ _ h => h) (yld rfl (fun w hw => by clear hw hHeld; go_simp)) hHeld ?_
  simp only [Act.put, List.setIfInBounds_toArray, List.set_cons_zero, List.set_cons_succ]
  refine wpAnyH_take (i := 1) (oi := { dst := some 11, op := _, type := _, pos := _, after := _, guard := none }) (v := .pointer (some ⟨st, 0, none⟩)) rfl (by kernel_rfl) (by kernel_rfl) (by kernel_rfl) (fun _ _ _ h => h) (yld rfl (fun w hw => by clear hw hHeld; go_simp)) hHeld ?_
  simp only [Act.put, List.setIfInBounds_toArray, List.set_cons_zero, List.set_cons_succ]
  refine wpAnyH_take (i := 2) (oi := { dst := some 12, op := _, type := _, pos := _, after := _, guard := none }) (v := .pointer (some ⟨st, 0, none⟩)) rfl (by kernel_rfl) (by kernel_rfl) (by kernel_rfl) (fun _ _ _ h => h) (yld rfl (fun w hw => by clear hw hHeld; go_simp)) hHeld ?_
  simp only [Act.put, List.setIfInBounds_toArray, List.set_cons_zero, List.set_cons_succ]
  refine wpAnyH_take (i := 3) (oi := { dst := some 13, op := _, type := _, pos := _, after := _, guard := none }) (v := .map (some ms)) rfl (by kernel_rfl) (by kernel_rfl) (by kernel_rfl) (fun _ _ _ h => h) (yld rfl (fun w' hw => by have hc := (HSA.out.cells (hw st HSA.out.lt.1)).1; clear hw hHeld; go_simp)) hHeld ?_
  simp only [Act.put, List.setIfInBounds_toArray, List.set_cons_zero, List.set_cons_succ]
  refine wpAnyH_take (i := 4) (oi := { dst := some 14, op := _, type := _, pos := _, after := _, guard := none }) (v := .agg (kcells k)) rfl (by kernel_rfl) (by kernel_rfl) (by kernel_rfl) (fun _ _ _ h => h) (yld_row rfl (.tmp 3) 60 rfl w.heap.size 60 (kcells k) (0, 0) _ rfl (fun w' hw => (hw _ (lt_of_heap HA1.out)).trans HA1.out) Try.underlying60 rfl info60) hHeld ?_
  simp only [Act.put, List.setIfInBounds_toArray, List.set_cons_zero, List.set_cons_succ]
  refine wpAnyH_take (i := 5) (oi := { dst := some 15, op := _, type := _, pos := _, after := _, guard := none }) (v := .tuple #[.agg (vcells xs), .bool ok]) rfl (by kernel_rfl) (by kernel_rfl) (by kernel_rfl) (fun _ _ _ h => h) (yld rfl (fun w' hw => by have hc := HLK.out w' (hw ms HSA.out.lt.2.1); clear hw hHeld; go_simp)) hHeld ?_
  simp only [Act.put, List.setIfInBounds_toArray, List.set_cons_zero, List.set_cons_succ]
  refine wpAnyH_take (i := 6) (oi := { dst := some 9, op := _, type := _, pos := _, after := _, guard := none }) (v := .tuple #[.agg (vcells xs), .bool ok]) rfl (by kernel_rfl) (by kernel_rfl) (by kernel_rfl) (fun _ _ _ h => h) (yld rfl (fun w hw => by clear hw hHeld; go_simp)) hHeld ?_
  simp only [Act.put, List.setIfInBounds_toArray, List.set_cons_zero, List.set_cons_succ]
  refine wpAnyH_take (i := 7) (oi := { dst := some 16, op := _, type := _, pos := _, after := _, guard := none }) (v := .agg (vcells xs)) rfl (by kernel_rfl) (by kernel_rfl) (by kernel_rfl) (fun _ _ _ h => h) (yld rfl (fun w hw => by clear hw hHeld; go_simp)) hHeld ?_
  simp only [Act.put, List.setIfInBounds_toArray, List.set_cons_zero, List.set_cons_succ]
  refine wpAnyH_take (i := 8) (oi := { dst := some 17, op := _, type := _, pos := _, after := _, guard := none }) (v := .bool ok) rfl (by kernel_rfl) (by kernel_rfl) (by kernel_rfl) (fun _ _ _ h => h) (yld rfl (fun w hw => by clear hw hHeld; go_simp)) hHeld ?_
  simp only [Act.put, List.setIfInBounds_toArray, List.set_cons_zero, List.set_cons_succ]
  refine wpAnyH_ready (rs := [9]) (by kernel_rfl) (by simp) ?_
  refine AllReadyH.cons (o := { dst := some 7, op := _, type := _, pos := _, after := _, guard := none }) rfl (fun K hK => ?_) AllReadyH.nil
  refine step_alloc rfl 69 rfl (vcells0 0) zero69 ?_
  refine hK.out _ _ (fun b hb => ?_) (fun hHeld => ?_)
  · show (wA.heap.push _)[b]? = _
    rw [Array.getElem?_push, if_neg (by omega)]
  simp only [Act.put, List.setIfInBounds_toArray, List.set_cons_zero, List.set_cons_succ]
  clear hK K
  refine wpAnyH_ready (rs := [10]) (by kernel_rfl) (by simp) ?_
  refine AllReadyH.cons (o := { dst := none, op := _, type := _, pos := _, after := _, guard := none }) rfl (fun K hK => ?_) AllReadyH.nil
  refine step_store_row rfl (.tmp 7) (.tmp 16) 69 rfl wA.heap.size 69 (vcells0 0) (vcells xs) rfl rfl ?_ info69 rfl (vcells_all xs) ?_
  · show (wA.heap.push _)[wA.heap.size]? = _
    rw [Array.getElem?_push, if_pos rfl]
  intro wB hwB
  have hBo : ∀ b, b < wA.heap.size → wB.heap[b]? = wA.heap[b]? := fun b hb => by
    rw [hwB.out, setRow_other _ _ _ _ (by omega)]
    show (wA.heap.push _)[b]? = _
    rw [Array.getElem?_push, if_neg (by omega)]
  have hBC : wB.heap[wA.heap.size]? = some (.cells (vcells xs) 69 (0, 0)) := by
    rw [hwB.out]
    refine setRow_heap _ _ (vcells0 0) _ _ _ ?_
    show (wA.heap.push _)[wA.heap.size]? = _
    rw [Array.getElem?_push, if_pos rfl]
  have hbB : Below wA.heap.size wA wB := by
    rw [hwB.out]
    exact below_setRow (((Below.refl _ _).drew).alloc (Nat.le_refl _) _) (Nat.le_refl _) _
  refine hK.out _ _ hBo (fun hHeld => ?_)
  simp only [Act.put]
  clear hK K
  refine wpAnyH_take (i := 11) (oi := { dst := some 8, op := _, type := _, pos := _, after := _, guard := none }) (v := .bool ok) rfl (by kernel_rfl) (by kernel_rfl) (by kernel_rfl) (fun _ _ _ h => h) (yld rfl (fun w hw => by clear hw hHeld; go_simp)) hHeld ?_
  simp only [Act.put, List.setIfInBounds_toArray, List.set_cons_zero, List.set_cons_succ]
  refine wpAnyH_done (by kernel_rfl) ?_ _
  have HC := hid hBC
  have HD := hid ((hBo _ (lt_of_heap HA2.out)).trans HA2.out)
  have HBB := hid (HBA.out.trans (hbB.mono HBA.out.size))
  have HCD : Hid (wA.heap.size ≠ w.heap.size + 1) := fun e => by have := lt_of_heap HA2.out; omega
  clear hHeld hwB hBo hBC hbB HA1 HA2 HBA HLK HSA
  go_wp2_with fail
  refine wp_region_held_drew (S := fun w' => ∀ b, b ≠ w.heap.size + 1 → w'.heap[b]? = wB.heap[b]?) (by kernel_rfl) (fun _ _ => rfl) (fun hHeld => ?_)
  refine wpAnyH_take (i := 0) (oi := { dst := some 18, op := _, type := _, pos := _, after := _, guard := none }) (v := .pointer (some ⟨wA.heap.size, 0, none⟩)) rfl (by kernel_rfl) (by kernel_rfl) (by kernel_rfl) (fun _ _ _ h => h) (yld rfl (fun w hw => by clear hw hHeld; go_simp)) hHeld ?_
  simp only [Act.put, List.setIfInBounds_toArray, List.set_cons_zero, List.set_cons_succ]
  refine wpAnyH_take (i := 1) (oi := { dst := some 19, op := _, type := _, pos := _, after := _, guard := none }) (v := .int .u8 xs.length) rfl (by kernel_rfl) (by kernel_rfl) (by kernel_rfl) (fun _ _ _ h => h) (yld rfl (fun w' hw => by have hc : w'.cell? ⟨wA.heap.size, 0, none⟩ = some (.int .u8 xs.length) := by { rw [cell_of_row w' wA.heap.size 0 (vcells xs) 69 (0, 0) ((hw wA.heap.size HCD.out).trans HC.out)]; rfl }; clear hw hHeld; go_simp)) hHeld ?_
  simp only [Act.put, List.setIfInBounds_toArray, List.set_cons_zero, List.set_cons_succ]
  refine wpAnyH_take (i := 2) (oi := { dst := some 20, op := _, type := _, pos := _, after := _, guard := none }) (v := .pointer (some ⟨wA.heap.size, 1, none⟩)) rfl (by kernel_rfl) (by kernel_rfl) (by kernel_rfl) (fun _ _ _ h => h) (yld rfl (fun w hw => by clear hw hHeld; go_simp)) hHeld ?_
  simp only [Act.put, List.setIfInBounds_toArray, List.set_cons_zero, List.set_cons_succ]
  refine wpAnyH_take (i := 3) (oi := { dst := some 21, op := _, type := _, pos := _, after := _, guard := none }) (v := .agg (bcells xs)) rfl (by kernel_rfl) (by kernel_rfl) (by kernel_rfl) (fun _ _ _ h => h) (yieldsIf_load_mid (by rfl) 57 (.tmp 20) rfl wA.heap.size 1 rfl (bcells xs).toList _ (fun w' hw => rangeC ((hw wA.heap.size HCD.out).trans HC.out)) Try.underlying57 rfl info57) hHeld ?_
  simp only [Act.put, List.setIfInBounds_toArray, List.set_cons_zero, List.set_cons_succ]
  refine wpAnyH_take (i := 4) (oi := { dst := some 22, op := _, type := _, pos := _, after := _, guard := none }) (v := .bool ok) rfl (by kernel_rfl) (by kernel_rfl) (by kernel_rfl) (fun _ _ _ h => h) (yld rfl (fun w hw => by clear hw hHeld; go_simp)) hHeld ?_
  simp only [Act.put, List.setIfInBounds_toArray, List.set_cons_zero, List.set_cons_succ]
  refine wpAnyH_take (i := 5) (oi := { dst := some 4, op := _, type := _, pos := _, after := _, guard := none }) (v := .int .u8 xs.length) rfl (by kernel_rfl) (by kernel_rfl) (by kernel_rfl) (fun _ _ _ h => h) (yld rfl (fun w hw => by clear hw hHeld; go_simp)) hHeld ?_
  simp only [Act.put, List.setIfInBounds_toArray, List.set_cons_zero, List.set_cons_succ]
  refine wpAnyH_ready (rs := [6]) (by kernel_rfl) (by simp) ?_
  refine AllReadyH.cons (o := { dst := none, op := _, type := _, pos := _, after := _, guard := none }) rfl (fun K hK => ?_) AllReadyH.nil
  refine step_store_row rfl (.tmp 5) (.tmp 21) 57 rfl (w.heap.size + 1) 57 bzero (bcells xs) rfl rfl HD.out info57 rfl (bcells_all xs) ?_
  intro wE hwE
  refine hK.out _ _ (fun b hb => ?_) (fun hHeld => ?_)
  · rw [hwE.out, setRow_other _ _ _ _ hb]; rfl
  simp only [Act.put]
  clear hK K
  refine wpAnyH_take (i := 7) (oi := { dst := some 6, op := _, type := _, pos := _, after := _, guard := none }) (v := .bool ok) rfl (by kernel_rfl) (by kernel_rfl) (by kernel_rfl) (fun _ _ _ h => h) (yld rfl (fun w hw => by clear hw hHeld; go_simp)) hHeld ?_
  simp only [Act.put, List.setIfInBounds_toArray, List.set_cons_zero, List.set_cons_succ]
  refine wpAnyH_done (by kernel_rfl) ?_ _
  have hE : wE.heap[w.heap.size + 1]? = some (.cells (bcells xs) 57 (0, 0)) := by
    rw [hwE.out]
    exact setRow_heap _ _ bzero _ _ _ HD.out
  have hbE : Below w.heap.size w wE := by
    rw [hwE.out]
    exact below_setRow HBB.out.drew (by omega) _
  have H6 := hid (run_loadVar_row (P := Try.prog) wE (w.heap.size + 1) 57 57 (bcells xs) (0, 0) _ hE Try.underlying57 rfl info57)
  have HBE := hid hbE
  clear hHeld hwE hE hbE HC HD HBB HCD
  go_wp2
  have hl6 := H6.out
  refine bodyPost_ret (v := .tuple #[.int .u8 xs.length, .agg (bcells xs), .bool ok]) ?_ rfl ⟨rfl, HBE.out⟩
  simp [results, Try.results25, hl6, asAddr]
end Go.Proofs.Qxb6628689a
