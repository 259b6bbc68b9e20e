/-
  THE LAWS' OWN HELPERS, MORE: zzCloneByteLists (9), zzValueAt (13), counts (6, 7).
-/
import Derived.Test.Qxb6628689aClone
namespace Go.Proofs.Qxb6628689a
open Go.RowKit
open Go.Maps (Keyed)

set_option maxRecDepth 100000 in
set_option maxHeartbeats 800000 in
theorem clone9 (v : Value) (n : Nat) (E : Nat → Value) (Z : Nat → List Int) (w : World) (hn : n ≤ 4194304) (h : RowAt w v n E) (hz : ∀ i, i < n → (Z i).length ≤ 1048576 ∧ RowAt w (E i) (Z i).length (byteE (Z i))) :
    Calls Try.prog 9 #[v] w fun e w' => ∃ v' E', e = .returned v' ∧ RowFrom w' w.heap.size 35 v' n E' ∧ (∀ i, i < n → Bytes w' (E' i) (Z i)) ∧ Below w.heap.size w w' := by
  obtain ⟨a, cap, rfl, hml, hsrc⟩ := h
  have hq : ∀ (w : World) (a : Option Addr) (n c n' c' : Nat), (binOp .eql 23 (.slice a n c) (.slice none n' c')).run Try.prog w = .ok (.bool a.isNone) w := fun w a n c n' c' => Lib.run_eql_slice_nil w _ _ a n c n' c' Try.underlying23
  cases a with
  | none =>
    have h0 : n = 0 := by
      rcases Nat.eq_zero_or_pos n with h | h
      · exact h
      · obtain ⟨b, off, e, _⟩ := hsrc h; cases e
    subst h0
    clear hsrc hz
    go_enter Try.func9, Try.ntmps9
    go_wp2
    go_ret
    exact ⟨_, E, rfl, ⟨none, 0, rfl, hml, fun h => by omega⟩, fun i hi => by omega, Below.refl _ _⟩
  | some ad =>
    have HSRC := hid hsrc
    have HZ := hid hz
    have hmk := mk23 w n (by omega)
    clear hsrc hz
    unfold maxLen at hml
    go_enter Try.func9, Try.ntmps9
    go_wp2
    go_loopw [4] (fun i wr => ∃ (k : Nat) (arr : Array Value), k ≤ n ∧ i = .int .i64 k ∧ Hid (wr.heap[w.heap.size]? = some (.cells arr 35 (0, 0)) ∧ arr.size = n ∧ (∀ j, j < k → ∃ sl, arr[j]? = some sl ∧ Bytes wr sl (Z j)) ∧ Below w.heap.size w wr)) (fun i _ => n - (intOf i).toNat)
    case atStart => exact ⟨0, _, Nat.zero_le _, rfl, heap_last _ _, made_size _ _, fun j hj => by omega, (Below.refl _ _).alloc (Nat.le_refl _) _⟩
    case round =>
      obtain ⟨k, arr, hk, rfl, HR⟩ := hrel
      by_cases hlt : k < n
      · obtain ⟨b, off, e, hc⟩ := HSRC.out (by omega)
        cases e
        have c0 := (HR.out.2.2.2.cell (p := ⟨b, off + k, none⟩) (lt_of_cell (hc k hlt))).trans (hc k hlt)
        have hi0 : (0 : Int) ≤ (k : Int) := Int.natCast_nonneg _
        have hi1 : (k : Int) < (n : Int) := by omega
        have HS := hid ((HZ.out k hlt).2.below (HR.out.2.2.2))
        have hzl := (HZ.out k hlt).1
        clear hc
        go_wp2_with fail
        refine (clone15 _ (Z k) wr hzl HS.out).mono ?_
        rintro e w1 ⟨sl, rfl, hby, hb1⟩
        have hg1 : w1.heap[w.heap.size]? = some (.cells arr 35 (0, 0)) := (hb1.block _ (lt_of_heap HR.out.1)).trans HR.out.1
        obtain ⟨u, hu⟩ : ∃ u, arr[k]? = some u := ⟨_, Array.getElem?_eq_getElem (by have := HR.out.2.1; omega)⟩
        have c1 : w1.cell? ⟨w.heap.size, k, none⟩ = some u := by rw [cell_of_row w1 _ k arr 35 (0, 0) hg1]; exact hu
        have f1 : w1.frozen? ⟨w.heap.size, k, none⟩ = false := by simp [World.frozen?, hg1]
        obtain ⟨sa, sc, rfl, _⟩ := id hby
        have HBY := hid hby
        have HG1 := hid hg1
        have HB1 := hid hb1
        clear hby hg1 hb1 hu c0
        go_wp2
        go_roundw
        case rel =>
          have hnr : ∀ q, q = w.heap.size → ¬ Rowish w1 q := by
            rintro q rfl ⟨arr', h'⟩
            rw [HG1.out] at h'
            cases h'
          have hbut : But (· = w.heap.size) w1 (w1.setCell ⟨w.heap.size, k, none⟩ (.slice sa (Z k).length sc)) := But.setCell (X := (· = w.heap.size)) (But.refl _ _) (p := ⟨w.heap.size, k, none⟩) rfl _
          refine ⟨k + 1, _, by omega, by go_num, heap_setCell_row HG1.out k _, by simp [HR.out.2.1], fun j hj => ?_, (HR.out.2.2.2.trans (HB1.out.mono HR.out.2.2.2.size)).setCell (p := ⟨w.heap.size, k, none⟩) (Nat.le_refl _) _⟩
          by_cases e : j = k
          · subst e; exact ⟨_, by rw [Array.getElem?_setIfInBounds_self_of_lt (by have := HR.out.2.1; omega)], HBY.out.kept hbut hnr⟩
          · obtain ⟨sl, h1, h2⟩ := HR.out.2.2.1 j (by omega)
            exact ⟨sl, by rw [Array.getElem?_setIfInBounds_ne (by omega)]; exact h1, (h2.below HB1.out).kept hbut hnr⟩
        case measure => simp [intOf]; omega
      · obtain rfl : k = n := by omega
        go_wp2
        go_ret
        refine ⟨_, fun i => (arr[i]?).getD undef, rfl, ⟨_, _, rfl, by unfold maxLen; omega, fun _ => ⟨_, arr, Nat.le_refl _, rfl, HR.out.1, fun i hi => ?_⟩⟩, fun i hi => ?_, HR.out.2.2.2⟩
        · obtain ⟨sl, h1, h2⟩ := HR.out.2.2.1 i hi
          simp [h1]
        · obtain ⟨sl, h1, h2⟩ := HR.out.2.2.1 i hi
          simpa [h1] using h2

/-- vals[i], or nil -/
def valAt (n : Nat) (E : Nat → Value) (k : Nat) : Value := if k < n then E k else .slice none 0 0
theorem value13 (v : Value) (n k : Nat) (E : Nat → Value) (w : World) (hk : k ≤ 4194304) (h : RowAt w v n E) :
    Calls Try.prog 13 #[v, .int .i64 k] w fun e w' => e = .returned (valAt n E k) ∧ w' = w := by
  obtain ⟨a, cap, rfl, hml, hsrc⟩ := h
  unfold maxLen at hml
  by_cases hlt : k < n
  · obtain ⟨b, off, rfl, hc⟩ := hsrc (by omega)
    have c0 := hc k hlt
    have hi0 : (0 : Int) ≤ (k : Int) := Int.natCast_nonneg _
    have hi1 : (k : Int) < (n : Int) := by omega
    have hv : valAt n E k = E k := if_pos hlt
    rw [hv]
    clear hsrc hc hv
    go_enter Try.func13, Try.ntmps13
    go_wp2
    go_ret
    exact ⟨rfl, rfl⟩
  · have hv : valAt n E k = .slice none 0 0 := if_neg hlt
    rw [hv]
    clear hsrc hv
    go_enter Try.func13, Try.ntmps13
    go_wp2
    go_ret
    exact ⟨rfl, rfl⟩

set_option maxRecDepth 100000 in
set_option maxHeartbeats 800000 in
theorem count6 (tot : Nat) (v : Value) (n : Nat) (V : Nat → ByteArray) (w : World) (ht : tot ≤ 1048576) (hn : n ≤ 1048576) (h : RowAt w v n (fun i => .string (V i))) (hp : ∀ i, i < n → (V i).size ≤ 1048576) :
    Calls Try.prog 6 #[.int .i64 tot, v] w fun e w' => (∃ q : Nat, q ≤ 4194304 ∧ e = .returned (.int .i64 q)) ∧ w' = w := by
  obtain ⟨a, cap, rfl, hml, hsrc⟩ := h
  have HSRC := hid hsrc
  have HP := hid hp
  clear hsrc hp
  unfold maxLen at hml
  go_enter Try.func6, Try.ntmps6
  go_wp2
  go_loop [0, 5] (fun t i => ∃ k q : Nat, k ≤ n ∧ q ≤ 2097152 ∧ i = .int .i64 k ∧ t = .int .i64 q) (fun _ i => n - (intOf i).toNat)
  case atStart => exact ⟨0, tot + n, Nat.zero_le _, by omega, rfl, by go_num⟩
  case round =>
    obtain ⟨k, q, hk, hq, rfl, rfl⟩ := hrel
    by_cases hlt : k < n
    · by_cases hbig : 1048576 < q
      · go_wp2
        go_ret
        exact ⟨⟨q, by omega, rfl⟩, rfl⟩
      · obtain ⟨b, off, rfl, hc⟩ := HSRC.out (by omega)
        have c0 := hc k hlt
        have hi0 : (0 : Int) ≤ (k : Int) := Int.natCast_nonneg _
        have hi1 : (k : Int) < (n : Int) := by omega
        have hl := HP.out k hlt
        clear hc
        go_wp2
        go_round
        case rel => exact ⟨k + 1, q + (V k).size, by omega, by omega, by go_num, by go_num⟩
        case measure => simp [intOf]; omega
    · go_wp2
      go_ret
      exact ⟨⟨q, by omega, rfl⟩, rfl⟩

set_option maxRecDepth 100000 in
set_option maxHeartbeats 800000 in
theorem count7 (tot : Nat) (v : Value) (n : Nat) (E : Nat → Value) (Z : Nat → List Int) (w : World) (ht : tot ≤ 1048576) (hn : n ≤ 1048576) (h : RowAt w v n E) (hp : ∀ i, i < n → (Z i).length ≤ 1048576 ∧ RowAt w (E i) (Z i).length (byteE (Z i))) :
    Calls Try.prog 7 #[.int .i64 tot, v] w fun e w' => (∃ q : Nat, q ≤ 4194304 ∧ e = .returned (.int .i64 q)) ∧ w' = w := by
  obtain ⟨a, cap, rfl, hml, hsrc⟩ := h
  have HSRC := hid hsrc
  have HP := hid hp
  clear hsrc hp
  unfold maxLen at hml
  go_enter Try.func7, Try.ntmps7
  go_wp2
  go_loop [0, 5] (fun t i => ∃ k q : Nat, k ≤ n ∧ q ≤ 2097152 ∧ i = .int .i64 k ∧ t = .int .i64 q) (fun _ i => n - (intOf i).toNat)
  case atStart => exact ⟨0, tot + n, Nat.zero_le _, by omega, rfl, by go_num⟩
  case round =>
    obtain ⟨k, q, hk, hq, rfl, rfl⟩ := hrel
    by_cases hlt : k < n
    · by_cases hbig : 1048576 < q
      · go_wp2
        go_ret
        exact ⟨⟨q, by omega, rfl⟩, rfl⟩
      · obtain ⟨b, off, rfl, hc⟩ := HSRC.out (by omega)
        have c0 := hc k hlt
        have hi0 : (0 : Int) ≤ (k : Int) := Int.natCast_nonneg _
        have hi1 : (k : Int) < (n : Int) := by omega
        obtain ⟨hl, sa, sc, he, _⟩ := HP.out k hlt
        rw [he] at c0
        clear he
        clear hc
        go_wp2
        go_round
        case rel => exact ⟨k + 1, q + (Z k).length, by omega, by omega, by go_num, by go_num⟩
        case measure => simp [intOf]; omega
    · go_wp2
      go_ret
      exact ⟨⟨q, by omega, rfl⟩, rfl⟩
end Go.Proofs.Qxb6628689a
