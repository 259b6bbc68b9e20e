/-
  THE WALK OF FnWeightedSupermajorityOfJoinedGroups.
-/
import Derived.Test.Qxb6628655aFmtLaw1
import Derived.Maps.AppendAt
namespace Go.Proofs.Qxb6628655aFmt
open Go.RowKit Plain


theorem hid {p : Prop} (h : p) : Hid p := h

theorem row_elems {w : World} {x : Addr} {len : Nat} {zs : List Int} (hl : len ≤ zs.length) (hcell : ∀ i, i < zs.length → w.cell? (x.add i) = some (.int .i64 (zs.getD i 0))) :
    ∃ xs : List Int, xs.length = len ∧ ∀ i, i < len → w.cell? (x.add i) = some (.int .i64 (xs[i]?.getD 0)) := by
  refine ⟨zs.take len, by simp; omega, fun i hi => ?_⟩
  rw [hcell i (by omega), List.getElem?_take, if_pos hi]
  rfl

/-- the source's cells, as the copy law asks them, in a later world -/
theorem src_cells {w w1 : World} {x : Addr} {len : Nat} {xs : List Int} {cs : List Value} (hb : Below w.heap.size w w1) (hxl : xs.length = len) (hc : ∀ i, i < len → w.cell? (x.add i) = some (.int .i64 (xs[i]?.getD 0))) (hcs : cs = xs.map (Value.int .i64)) :
    ∀ j v, cs[j]? = some v → w1.cell? (x.add j) = some v := by
  subst hcs
  intro j v hj
  have hjl : j < len := by
    rcases Nat.lt_or_ge j len with h | h
    · exact h
    · rw [List.getElem?_eq_none (by simp; omega)] at hj; cases hj
  have hjc : w.cell? (x.add j) = some v := by rw [hc j hjl, ← hj, ints_cell xs j (by omega)]
  exact (hb.cell (lt_of_cell hjc)).trans hjc

/-- the copy's cells, behind the copy -/
theorem dst_cells {w2 : World} {g len : Nat} {xs : List Int} {cs cur : List Value} (hxl : xs.length = len) (hcs : cs = xs.map (Value.int .i64)) (hl : cur.length = len) (HG : w2.heap[g]? = some (.cells (splice cur 0 cs).toArray 3 (0, 0))) :
    (∀ i, i < len → w2.cell? ⟨g, i, none⟩ = some (.int .i64 (xs[i]?.getD 0))) ∧ g < w2.heap.size := by
  subst hcs
  refine ⟨fun i hi => ?_, ?_⟩
  · refine cell_of_row HG i _ ?_
    rw [splice_all _ _ (by simp; omega), ints_cell xs i (by omega)]
  · rcases Nat.lt_or_ge g w2.heap.size with h | h
    · exact h
    · rw [Array.getElem?_eq_none h] at HG; cases HG

theorem take_ints_snoc (xs : List Int) (k : Nat) (h : k < xs.length) : (xs.take k).map (Value.int .i64) ++ [.int .i64 (xs[k]?.getD 0)] = (xs.take (k + 1)).map (Value.int .i64) := by
  rw [List.take_succ_eq_append_getElem h, List.map_append, List.getElem?_eq_getElem h]; rfl

/-- THE TAIL: the three quorums and the carry. -/
theorem joined_law (A B : Int) :
    (A % 3 = 1 ∧ B % 3 = 1 ∨ A % 3 = 1 ∧ B % 3 = 2 ∨ A % 3 = 2 ∧ B % 3 = 1 → (A + B) - (A + B - 1) / 3 = (A - (A - 1) / 3) + (B - (B - 1) / 3)) ∧
    (¬ (A % 3 = 1 ∧ B % 3 = 1 ∨ A % 3 = 1 ∧ B % 3 = 2 ∨ A % 3 = 2 ∧ B % 3 = 1) → (A + B) - (A + B - 1) / 3 = (A - (A - 1) / 3) + (B - (B - 1) / 3) - 1) := by
  omega

set_option maxRecDepth 100000 in
set_option maxHeartbeats 1000000 in
theorem walk2 (a0 : Option Addr) (len0 cap0 : Nat) (z0 : List Int) (a1 : Option Addr) (len1 cap1 : Nat) (z1 : List Int) (w : World) (w0 : IsRow .i64 w a0 len0 cap0 z0) (w1 : IsRow .i64 w a1 len1 cap1 z1) :
    Calls Tryf.prog 4 #[.slice a0 len0 cap0, .slice a1 len1 cap1] w fun e w' => e = .returned (.bool true) ∧ Below w.heap.size w w' := by
  by_cases hbig : 131072 < len0 + len1 ∨ len0 = 0 ∨ len1 = 0
  · have b0 : len0 ≤ 9223372036854775807 := by
      rcases w0 with ⟨_, h, _⟩ | ⟨_, _, hl, hm, _⟩
      · omega
      · unfold maxLen at hm; omega
    have b1 : len1 ≤ 9223372036854775807 := by
      rcases w1 with ⟨_, h, _⟩ | ⟨_, _, hl, hm, _⟩
      · omega
      · unfold maxLen at hm; omega
    clear w0 w1
    by_cases c1 : 131072 < len0
    · by_cases c0 : 1048576 < len0
      · go_enter Tryf.func4, Tryf.ntmps4
        go_wp2
        go_ret
        exact ⟨rfl, Below.refl _ _⟩
      · by_cases c2 : 1048576 < len1
        · go_enter Tryf.func4, Tryf.ntmps4
          go_wp2
          go_ret
          exact ⟨rfl, Below.refl _ _⟩
        · by_cases c3 : 1048576 < len0 + len1
          · go_enter Tryf.func4, Tryf.ntmps4
            go_wp2
            go_ret
            exact ⟨rfl, Below.refl _ _⟩
          · go_enter Tryf.func4, Tryf.ntmps4
            go_wp2
            go_ret
            exact ⟨rfl, Below.refl _ _⟩
    · by_cases c2 : 131072 < len0 + len1
      · by_cases c3 : 1048576 < len1
        · go_enter Tryf.func4, Tryf.ntmps4
          go_wp2
          go_ret
          exact ⟨rfl, Below.refl _ _⟩
        · by_cases c4 : 1048576 < len0 + len1
          · go_enter Tryf.func4, Tryf.ntmps4
            go_wp2
            go_ret
            exact ⟨rfl, Below.refl _ _⟩
          · go_enter Tryf.func4, Tryf.ntmps4
            go_wp2
            go_ret
            exact ⟨rfl, Below.refl _ _⟩
      · by_cases c3 : len0 = 0
        · subst c3
          go_enter Tryf.func4, Tryf.ntmps4
          go_wp2
          go_ret
          exact ⟨rfl, Below.refl _ _⟩
        · have c4 : len1 = 0 := by omega
          subst c4
          have hne : ((len0 : Int) == 0) = false := by simp; omega
          go_enter Tryf.func4, Tryf.ntmps4
          go_wp2
          go_ret
          exact ⟨rfl, Below.refl _ _⟩
  rcases w0 with ⟨_, h, _⟩ | ⟨x, rfl, hl, hm, hz, hcell, hwz⟩
  · omega
  rcases w1 with ⟨_, h, _⟩ | ⟨y, rfl, hl', hm', hz', hcell', hwz'⟩
  · omega
  unfold maxLen at hm hm'
  obtain ⟨xs, hxl, hxc⟩ := row_elems (len := len0) (by omega) hcell
  obtain ⟨ys, hyl, hyc⟩ := row_elems (len := len1) (by omega) hcell'
  obtain ⟨i0, hi, hz0, hz1, hz2⟩ := info_parts Tryf.info3
  have hs : len0 + len1 ≤ 131072 := by omega
  have hp0 : 1 ≤ len0 := by omega
  have hp1 : 1 ≤ len1 := by omega
  have hne0 : ((len0 : Int) == 0) = false := by simp; omega
  have hne1 : ((len1 : Int) == 0) = false := by simp; omega
  have hn0 := fun wx => run_neq_slice_nil_any (P := Tryf.prog) wx 22 3 (some x) len0 cap0 0 0 Tryf.underlying22
  have hn1 := fun wx => run_neq_slice_nil_any (P := Tryf.prog) wx 22 3 (some y) len1 cap1 0 0 Tryf.underlying22
  have HXL : Hid (xs.length = len0) := hxl
  have HYL : Hid (ys.length = len1) := hyl
  have HXC : Hid (∀ i, i < len0 → w.cell? (x.add i) = some (.int .i64 (xs[i]?.getD 0))) := hxc
  have HYC : Hid (∀ i, i < len1 → w.cell? (y.add i) = some (.int .i64 (ys[i]?.getD 0))) := hyc
  clear hxl hxc hyl hyc hcell hcell' hwz hwz' hz hz' hbig
  obtain ⟨cs, hcs⟩ : ∃ cs : List Value, cs = xs.map (Value.int .i64) := ⟨_, rfl⟩
  have HCS : Hid (cs = xs.map (Value.int .i64)) := hcs
  obtain ⟨ds, hds⟩ : ∃ ds : List Value, ds = ys.map (Value.int .i64) := ⟨_, rfl⟩
  have HDS : Hid (ds = ys.map (Value.int .i64)) := hds
  clear hcs hds
  have hcl : Hid (cs.length = len0) := by rw [HCS.out]; simpa [Hid] using HXL.out
  have hdl : Hid (ds.length = len1) := by rw [HDS.out]; simpa [Hid] using HYL.out
  go_enter Tryf.func4, Tryf.ntmps4
  go_wp2_with (first | (go_at_call 8; go_in) | (with_reducible show wpList _ _ _ ({ dst := _, op := Op.makeSlice 22 (Operand.tmp 45) (Operand.tmp 45), type := _, pos := _, after := _, guard := _ } :: _) _ _; refine wpList_make_full _ rfl (.tmp 45) (.tmp 45) 22 rfl w.heap.size 3 i0 (.int .i64 0) 1 Tryf.underlying22 hi hz0 hz1 .i64 .i64 _ _ len0 rfl rfl rfl rfl (by rw [hz2]; omega) (by unfold maxLen; omega) (Nat.le_refl _) ?_; intro w1 hown1 hgrow1; obtain ⟨hg1, hl1⟩ := own_full hown1; have hb1 := (Below.refl w.heap.size w).grown hgrow1 (Nat.le_refl _) (fun k h => by cases h)) | (with_reducible show wpList _ _ _ ({ dst := _, op := Op.call { callee := Callee.builtin Builtin.copy, args := _, argTypes := _ }, type := _, pos := _, after := _, guard := _ } :: _) _ _; refine wpList_copy_splice rfl (.tmp 47) (.tmp 48) 22 22 rfl 3 Tryf.underlying22 Tryf.size3 _ _ _ _ _ _ rfl rfl w.heap.size 0 _ 3 hg1 cs (by rw [hcl.out]; simp) (fun _ => ⟨rfl, x, rfl, src_cells hb1 HXL.out HXC.out HCS.out⟩) (by rw [hcl.out, hl1]; omega) (by rw [HCS.out]; exact ints_oneCell _ _) w.heap.size w hb1 (Nat.le_refl _) ?_; intro w2 HG2 hB2; obtain ⟨hx2, hz2'⟩ := dst_cells HXL.out HCS.out hl1 HG2.out; have HX2 := hid hx2; clear hx2 HG2 hg1 hl1 hown1 hgrow1 hb1) | (with_reducible show wpList _ _ _ ({ dst := _, op := Op.makeSlice 22 (Operand.tmp 54) (Operand.tmp 54), type := _, pos := _, after := _, guard := _ } :: _) _ _; refine wpList_make_full _ rfl (.tmp 54) (.tmp 54) 22 rfl w2.heap.size 3 i0 (.int .i64 0) 1 Tryf.underlying22 hi hz0 hz1 .i64 .i64 _ _ len1 rfl rfl rfl rfl (by rw [hz2]; omega) (by unfold maxLen; omega) (Nat.le_refl _) ?_; intro w3 hown3 hgrow3; obtain ⟨hg3, hl3⟩ := own_full hown3; have hb3 := (Below.refl w2.heap.size w2).grown hgrow3 (Nat.le_refl _) (fun k h => by cases h)) | (with_reducible show wpList _ _ _ ({ dst := _, op := Op.call { callee := Callee.builtin Builtin.copy, args := _, argTypes := _ }, type := _, pos := _, after := _, guard := _ } :: _) _ _; refine wpList_copy_splice rfl (.tmp 56) (.tmp 57) 22 22 rfl 3 Tryf.underlying22 Tryf.size3 _ _ _ _ _ _ rfl rfl w2.heap.size 0 _ 3 hg3 ds (by rw [hdl.out]; simp) (fun _ => ⟨rfl, y, rfl, src_cells (hB2.trans (hb3.mono (by omega))) HYL.out HYC.out HDS.out⟩) (by rw [hdl.out, hl3]; omega) (by rw [HDS.out]; exact ints_oneCell _ _) w2.heap.size w2 hb3 (Nat.le_refl _) ?_; intro w4 HG4 hB4; obtain ⟨hy4, hz4'⟩ := dst_cells HYL.out HDS.out hl3 HG4.out; have HY4 := hid hy4; clear hy4 HG4 hg3 hl3 hown3 hgrow3 hb3))
  have hBel : Below w.heap.size w w4 := hB2.trans (hB4.mono (by omega))
  have HX4 := hid (fun i (hi : i < len0) => (hB4.cell (p := ⟨w.heap.size, i, none⟩) (by exact hz2')).trans (HX2.out i hi))
  have hlt2 : w2.heap.size < w4.heap.size := hz4'
  have hltx : w.heap.size < w4.heap.size := by omega
  clear HX2 hB4 hB2 HXC HYC HCS HDS hcl hdl hn0 hn1 hz2' hz4' hl hl' hm hm'
  cases ht : tot 0 xs with
  | none =>
    refine (total_none _ _ _ xs 0 _ HXL.out (by omega) (by omega) (by omega) ht HX4.out).mono ?_
    rintro e w' ⟨rfl, hw'⟩; obtain rfl := hw'.symm; clear hw'
    go_wp2
    go_ret
    exact ⟨rfl, hBel⟩
  | some A =>
    have g := tot_ge xs 0 A ht
    have gA1 : 1 ≤ A := by rw [HXL.out] at g; omega
    have gA2 : A ≤ 9223372036854775807 := g.2 (by omega)
    have HA := hid ht
    refine (total_some _ _ _ xs 0 A _ HXL.out (by omega) (by omega) (by omega) ht HX4.out).mono ?_
    clear g ht
    rintro e w' ⟨rfl, hw'⟩; obtain rfl := hw'.symm; clear hw'
    cases ht : tot A ys with
    | none =>
      have HT := hid ht
      clear ht
      go_wp2_with (go_at_call 6; refine (total_none _ _ _ ys A _ HYL.out (by omega) (by omega) (by omega) HT.out HY4.out).mono ?_; rintro e w' ⟨rfl, hw'⟩; obtain rfl := hw'.symm; clear hw')
      go_ret
      exact ⟨rfl, hBel⟩
    | some T =>
      have g := tot_ge ys A T ht
      have gT1 : A + 1 ≤ T := by rw [HYL.out] at g; omega
      have gT2 : T ≤ 9223372036854775807 := g.2 (by omega)
      have HT := hid ht
      clear g ht
      go_wp2_with (first | (go_at_call 6; refine (total_some _ _ _ ys A T _ HYL.out (by omega) (by omega) (by omega) HT.out HY4.out).mono ?_; rintro e w' ⟨rfl, hw'⟩; obtain rfl := hw'.symm; clear hw') | (at_make; refine wpList_make_own _ rfl (.const (.int .i64 0)) (.tmp 82) 22 rfl w4.heap.size 3 i0 (.int .i64 0) 1 Tryf.underlying22 hi hz0 hz1 .i64 .i64 _ (len0 + len1) rfl rfl (by omega) (by rw [hz2]; omega) (by unfold maxLen; omega) (Nat.le_refl _) ?_; intro w5 hown5 hgrow5))
      have hb5 := (Below.refl w4.heap.size w4).grown hgrow5 (Nat.le_refl _) (fun k h => by cases h)
      have hs5 := hb5.size
      clear hgrow5
      go_loopw [12, 13] (fun v i wr => ∃ k : Nat, k ≤ len0 ∧ i = .int .i64 k ∧ v = .slice (some ⟨w4.heap.size, 0, none⟩) k (len0 + len1) ∧ wr.ownsRow w4.heap.size 3 1 (.slice (some ⟨w4.heap.size, 0, none⟩) k (len0 + len1)) k ((xs.take k).map (Value.int .i64)) ∧ Below w4.heap.size w4 wr) (fun _ i _ => len0 - (intOf i).toNat)
      case atStart => exact ⟨0, Nat.zero_le _, rfl, rfl, hown5, hb5⟩
      case round =>
        clear hown5 hb5 hs5
        obtain ⟨k, hk, rfl, rfl, hown, hbk⟩ := hrel
        have hsk := hbk.size
        by_cases hlt : k < len0
        · have hck : wr.cell? ⟨w.heap.size, k, none⟩ = some (.int .i64 (xs[k]?.getD 0)) := (hbk.cell (p := ⟨w.heap.size, k, none⟩) hltx).trans (HX4.out k hlt)
          go_wp2_with (at_builtin; refine wpList_append_fits _ rfl (.tmp 90) (.tmp 95) 22 rfl w4.heap.size 3 i0 1 Tryf.underlying22 hi hz1 w4.heap.size k (len0 + len1) _ rfl (hown.alloc _) ⟨wr.heap.size, 0, none⟩ 1 1 [.int .i64 (xs[k]?.getD 0)] rfl rfl (cell_one_new _ _ _) (by simp [Value.oneCell']) (by omega) ?_; intro w6 hown6 hgrow6)
          have hb6 : Below w4.heap.size w4 w6 := (hbk.alloc hsk _).grown hgrow6 (by simp; omega) (fun k h => by cases h; exact Nat.le_refl _)
          rw [take_ints_snoc xs k (by rw [HXL.out]; exact hlt)] at hown6
          go_roundw
          case rel => exact ⟨k + 1, by omega, by go_num, rfl, hown6, hb6⟩
          case measure => simp [intOf]; omega
        · obtain rfl : k = len0 := by omega
          have hxt : xs.take k = xs := List.take_of_length_le (by rw [HXL.out]; omega)
          rw [hxt] at hown
          clear hxt hlt hk
          have HO := hid hown
          clear hown
          go_wp2
          go_loopw [12, 14] (fun v i wr => ∃ j : Nat, j ≤ len1 ∧ i = .int .i64 j ∧ v = .slice (some ⟨w4.heap.size, 0, none⟩) (k + j) (k + len1) ∧ wr.ownsRow w4.heap.size 3 1 (.slice (some ⟨w4.heap.size, 0, none⟩) (k + j) (k + len1)) (k + j) (xs.map (Value.int .i64) ++ (ys.take j).map (Value.int .i64)) ∧ Below w4.heap.size w4 wr) (fun _ i _ => len1 - (intOf i).toNat)
          case atStart => exact ⟨0, Nat.zero_le _, rfl, rfl, by simpa using HO.out, hbk⟩
          case round =>
            clear HO hbk hsk
            obtain ⟨j, hj, rfl, rfl, hown, hbk⟩ := hrel
            have hsk := hbk.size
            by_cases hlt : j < len1
            · have hck : wr.cell? ⟨w2.heap.size, j, none⟩ = some (.int .i64 (ys[j]?.getD 0)) := (hbk.cell (p := ⟨w2.heap.size, j, none⟩) hlt2).trans (HY4.out j hlt)
              go_wp2_with (at_builtin; refine wpList_append_fits _ rfl (.tmp 103) (.tmp 108) 22 rfl w4.heap.size 3 i0 1 Tryf.underlying22 hi hz1 w4.heap.size (k + j) (k + len1) _ rfl (hown.alloc _) ⟨wr.heap.size, 0, none⟩ 1 1 [.int .i64 (ys[j]?.getD 0)] rfl rfl (cell_one_new _ _ _) (by simp [Value.oneCell']) (by omega) ?_; intro w6 hown6 hgrow6)
              have hb6 : Below w4.heap.size w4 w6 := (hbk.alloc hsk _).grown hgrow6 (by simp; omega) (fun k h => by cases h; exact Nat.le_refl _)
              rw [List.append_assoc, take_ints_snoc ys j (by rw [HYL.out]; exact hlt)] at hown6
              go_roundw
              case rel => exact ⟨j + 1, by omega, by go_num, rfl, hown6, hb6⟩
              case measure => simp [intOf]; omega
            · obtain rfl : j = len1 := by omega
              have hyt : ys.take j = ys := List.take_of_length_le (by rw [HYL.out]; omega)
              rw [hyt, ← List.map_append] at hown
              clear hyt hlt hj
              have HJ := hid (fun i (hi : i < k + j) => (hown.cellAt i (by omega)).trans (ints_cell (xs ++ ys) i (by rw [List.length_append, HXL.out, HYL.out]; exact hi)))
              have HXR := hid (fun i (hi : i < k) => (hbk.cell (p := ⟨w.heap.size, i, none⟩) hltx).trans (HX4.out i hi))
              have HYR := hid (fun i (hi : i < j) => (hbk.cell (p := ⟨w2.heap.size, i, none⟩) hlt2).trans (HY4.out i hi))
              have hend : Below w.heap.size w wr := hBel.trans (hbk.mono (by omega))
              have HTB : Hid (tot 0 ys = some (T - A)) := by
                have := tot_lower ys A T A (by omega) HT.out
                rw [show A - A = 0 by omega] at this
                exact this
              have HTJ : Hid (tot 0 (xs ++ ys) = some T) := (tot_append xs ys 0 A HA.out).trans HT.out
              have HLJ : Hid ((xs ++ ys).length = k + j) := by rw [List.length_append, HXL.out, HYL.out]; exact rfl
              clear hown hbk hsk HX4 HY4 hBel HT hlt2 hltx hi hz0 hz1 hz2
              go_wp2_with fail
              refine (weighted_at _ _ _ xs A _ HXL.out (by omega) (by omega) HA.out HXR.out).mono ?_
              rintro e w' ⟨rfl, hw'⟩; obtain rfl := hw'.symm; clear hw'
              go_wp2_with fail
              refine (weighted_at _ _ _ ys (T - A) _ HYL.out (by omega) (by omega) HTB.out HYR.out).mono ?_
              rintro e w' ⟨rfl, hw'⟩; obtain rfl := hw'.symm; clear hw'
              go_wp2_with fail
              refine (weighted_at _ _ _ (xs ++ ys) T _ HLJ.out (by omega) (by omega) HTJ.out HJ.out).mono ?_
              rintro e w' ⟨rfl, hw'⟩; obtain rfl := hw'.symm; clear hw'
              clear HJ HXR HYR HTB HTJ HLJ HA HXL HYL
              have hA3 : A % 3 = 0 ∨ A % 3 = 1 ∨ A % 3 = 2 := by omega
              have hB3 : (T - A) % 3 = 0 ∨ (T - A) % 3 = 1 ∨ (T - A) % 3 = 2 := by omega
              rcases hA3 with hA3 | hA3 | hA3 <;> rcases hB3 with hB3 | hB3 | hB3
              all_goals
                go_wp2
                go_ret
                exact ⟨ret_bool (beq_iff_eq.2 (by omega)), hend⟩

end Go.Proofs.Qxb6628655aFmt
