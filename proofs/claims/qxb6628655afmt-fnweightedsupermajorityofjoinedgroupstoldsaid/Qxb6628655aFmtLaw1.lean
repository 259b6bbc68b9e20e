/-
  THE WALK OF FnWeightedSupermajorityIsLeastAboveTwoThirds.
-/
import Derived.Test.Qxb6628655aFmtWalks
import Derived.Laws.CopyOwn
namespace Go.Proofs.Qxb6628655aFmt
open Go.RowKit Plain

/-- WHAT THE WALK IS TOLD OF A SLICE OF INTEGERS THAT CAME IN. -/
def IsRow (k : IntKind) (w : World) (a : Option Addr) (len cap : Nat) (zs : List Int) : Prop :=
  (a = none ∧ len = 0 ∧ cap = 0 ∧ zs = []) ∨
  ∃ x, a = some x ∧ len ≤ cap ∧ cap ≤ maxLen ∧ zs.length = cap ∧ (∀ i, i < zs.length → w.cell? (x.add i) = some (.int k (zs.getD i 0))) ∧ ∀ n ∈ zs, (Lit.int k n).wf = true

theorem Tryf.info3 : (Tryf.prog.info? 3).map (fun i => (i.zero, i.size, i.bytes)) = some (some (.int .i64 0), 1, 8) := by kernel_rfl
theorem Tryf.size3 : (Tryf.prog.info? 3).map (·.size) = some 1 := by kernel_rfl

/-- a row that was made whole: its block, all cells known -/
theorem own_full {w : World} {base g n : Nat} {e : TypeId} {xs : List Value} (h : w.ownsRow base e 1 (.slice (some ⟨g, 0, none⟩) n n) n xs) :
    w.heap[g]? = some (.cells xs.toArray e (0, 0)) ∧ xs.length = n := by
  obtain ⟨h1, h2⟩ := h
  rcases h2 with ⟨h, _⟩ | ⟨g', cap, cur, hv, _, hh, _, _, hs, ht⟩
  · cases h
  · simp only [Value.slice.injEq, Option.some.injEq, Addr.mk.injEq, true_and, and_true] at hv
    obtain ⟨rfl, rfl⟩ := hv
    rw [List.take_of_length_le (by simp only [Array.length_toList]; omega)] at ht
    subst ht
    exact ⟨by simpa using hh, by omega⟩

theorem splice_all {α : Type} (cur cs : List α) (h : cs.length = cur.length) : splice cur 0 cs = cs := by
  simp [splice, h]

theorem cell_of_row {w : World} {g : Nat} {xs : List Value} {e : TypeId} (h : w.heap[g]? = some (.cells xs.toArray e (0, 0))) (i : Nat) (v : Value) (hv : xs[i]? = some v) : w.cell? ⟨g, i, none⟩ = some v := by
  simp [World.cell?, h, hv]

theorem ints_cell (xs : List Int) (i : Nat) (h : i < xs.length) : (xs.map (Value.int .i64))[i]? = some (.int .i64 (xs[i]?.getD 0)) := by
  simp [List.getElem?_eq_getElem h]

theorem ret_bool {b c : Bool} (h : b = c) : Ending.returned (.bool b) = .returned (.bool c) := by rw [h]

theorem lt_of_cell {w : World} {a : Addr} {v : Value} (h : w.cell? a = some v) : a.block < w.heap.size := by
  rcases Nat.lt_or_ge a.block w.heap.size with h' | h'
  · exact h'
  · simp [World.cell?, Array.getElem?_eq_none h'] at h

set_option maxHeartbeats 400000 in
theorem walk1 (a0 : Option Addr) (len0 cap0 : Nat) (z0 : List Int) (w : World) (w0 : IsRow .i64 w a0 len0 cap0 z0) :
    Calls Tryf.prog 3 #[.slice a0 len0 cap0] w fun e w' => e = .returned (.bool true) ∧ Below w.heap.size w w' := by
  rcases w0 with ⟨rfl, rfl, rfl, rfl⟩ | ⟨x, rfl, hl, hm, hz, hcell, hwz⟩
  · go_enter Tryf.func3, Tryf.ntmps3
    go_wp2
    go_ret
    exact ⟨rfl, Below.refl _ _⟩
  · unfold maxLen at hm
    by_cases h20 : 1048576 < len0
    · go_enter Tryf.func3, Tryf.ntmps3
      go_wp2
      go_ret
      exact ⟨rfl, Below.refl _ _⟩
    by_cases h17 : 131072 < len0
    · go_enter Tryf.func3, Tryf.ntmps3
      go_wp2
      go_ret
      exact ⟨rfl, Below.refl _ _⟩
    by_cases h0 : len0 = 0
    · subst h0
      go_enter Tryf.func3, Tryf.ntmps3
      go_wp2
      go_ret
      exact ⟨rfl, Below.refl _ _⟩
    obtain ⟨xs, hxl, hxc⟩ : ∃ xs : List Int, xs.length = len0 ∧ ∀ i, i < len0 → w.cell? (x.add i) = some (.int .i64 (xs[i]?.getD 0)) := by
      refine ⟨z0.take len0, by simp; omega, fun i hi => ?_⟩
      rw [hcell i (by omega), List.getElem?_take, if_pos hi]
      rfl
    obtain ⟨i0, hi, hz0, hz1, hz2⟩ := info_parts Tryf.info3
    have hne : ((len0 : Int) == 0) = false := by simp; omega
    have HXL : Hid (xs.length = len0) := hxl
    have HC : Hid (∀ i, i < len0 → w.cell? (x.add i) = some (.int .i64 (xs[i]?.getD 0))) := hxc
    have hnn := fun wx => run_neq_slice_nil_any (P := Tryf.prog) wx 22 3 (some x) len0 cap0 0 0 Tryf.underlying22
    clear hxl hxc hcell hwz hz
    obtain ⟨cs, hcs⟩ : ∃ cs : List Value, cs = xs.map (Value.int .i64) := ⟨_, rfl⟩
    have HCS : Hid (cs = xs.map (Value.int .i64)) := hcs
    clear hcs
    have hcl : Hid (cs.length = len0) := by rw [HCS.out]; simpa [Hid] using HXL.out
    go_enter Tryf.func3, Tryf.ntmps3
    go_wp2_with (first | (go_at_call 5; go_in) | (at_make; refine wpList_make_full _ rfl (.tmp 21) (.tmp 21) 22 rfl w.heap.size 3 i0 (.int .i64 0) 1 Tryf.underlying22 hi hz0 hz1 .i64 .i64 _ _ len0 rfl rfl rfl rfl (by rw [hz2]; omega) (by unfold maxLen; omega) (Nat.le_refl _) ?_; intro w1 hown1 hgrow1; obtain ⟨hg1, hl1⟩ := own_full hown1; have hb1 := (Below.refl w.heap.size w).grown hgrow1 (Nat.le_refl _) (fun k h => by cases h)) | (with_reducible show wpList _ _ _ ({ dst := _, op := Op.call { callee := Callee.builtin Builtin.copy, args := _, argTypes := _ }, type := _, pos := _, after := _, guard := _ } :: _) _ _; refine wpList_copy_splice rfl (.tmp 23) (.tmp 24) 22 22 rfl 3 Tryf.underlying22 Tryf.size3 _ _ _ _ _ _ rfl rfl w.heap.size 0 _ 3 hg1 cs ?c1 ?c2 ?c3 ?c4 w.heap.size w hb1 (Nat.le_refl _) ?_; rotate_right; intro w2 HG2 hB2))
    case c1 => rw [hcl.out]; simp
    case c2 =>
      intro _
      refine fun j v hj => ?_
      have hjl : j < len0 := by
        rcases Nat.lt_or_ge j cs.length with h | h
        · rw [hcl.out] at h; exact h
        · rw [List.getElem?_eq_none h] at hj; cases hj
      have hjc : w.cell? (x.add j) = some v := by
        rw [HC.out j hjl, ← hj, HCS.out, ints_cell xs j (by rw [HXL.out]; exact hjl)]
      exact (hb1.cell (lt_of_cell hjc)).trans hjc
    case c3 => rw [hcl.out, hl1]; omega
    case c4 => rw [HCS.out]; exact ints_oneCell _ _
    have hx2 : ∀ i, i < len0 → w2.cell? ⟨w.heap.size, i, none⟩ = some (.int .i64 (xs[i]?.getD 0)) := fun i hi => by
      refine cell_of_row HG2.out i _ ?_
      rw [splice_all _ _ (by rw [hcl.out, hl1]), HCS.out, ints_cell xs i (by rw [HXL.out]; exact hi)]
    clear HG2 hg1 hl1 hown1 hgrow1 hb1 HC HCS
    cases ht : tot 0 xs with
    | none =>
      refine (total_none _ _ _ xs 0 _ HXL.out (by omega) (by omega) (by omega) ht hx2).mono ?_
      clear hx2
      rintro e w' ⟨rfl, rfl⟩
      go_wp2
      go_ret
      exact ⟨rfl, hB2⟩
    | some T =>
      have g := tot_ge xs 0 T ht
      have g1 : 1 ≤ T := by rw [HXL.out] at g; omega
      have g2 : T ≤ 9223372036854775807 := g.2 (by omega)
      refine (total_some _ _ _ xs 0 T _ HXL.out (by omega) (by omega) (by omega) ht hx2).mono ?_
      have HT : Hid (tot 0 xs = some T) := ht
      clear g ht
      rintro e w' ⟨rfl, rfl⟩
      have HX2 : Hid _ := hx2
      clear hx2
      go_wp2_with (go_at_call 7; refine (weighted_at _ _ _ xs T _ HXL.out (by omega) (by omega) HT.out HX2.out).mono ?_; rintro e w' ⟨rfl, rfl⟩)
      go_ret
      exact ⟨ret_bool (decide_eq_true (by omega)), hB2⟩

end Go.Proofs.Qxb6628655aFmt
