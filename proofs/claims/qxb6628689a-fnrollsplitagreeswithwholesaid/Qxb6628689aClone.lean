/-
  THE LAWS' OWN HELPERS: counts (6, 7), clones (8, 9, 10, 15), zzValueAt (13).
-/
import Derived.Test.Qxb6628689aIs
import Derived.Laws.MakeOwn
import Derived.Lib.SliceRun
namespace Go.Proofs.Qxb6628689a
open Go.RowKit
open Go.Maps (Keyed)

/-- a slice's elements, one cell each -/
def RowAt (w : World) (v : Value) (n : Nat) (E : Nat → Value) : Prop :=
  ∃ a cap, v = .slice a n cap ∧ n ≤ maxLen ∧ (0 < n → ∃ b off, a = some ⟨b, off, none⟩ ∧ ∀ i, i < n → w.cell? ⟨b, off + i, none⟩ = some (E i))
/-- the same, in a row of its own from its head on -/
def RowOf (w : World) (e : TypeId) (v : Value) (n : Nat) (E : Nat → Value) : Prop :=
  ∃ a cap, v = .slice a n cap ∧ n ≤ maxLen ∧ (0 < n → ∃ b arr, a = some ⟨b, 0, none⟩ ∧ w.heap[b]? = some (.cells arr e (0, 0)) ∧ ∀ i, i < n → arr[i]? = some (E i))
/-- the same, the row's block from B on -/
def RowFrom (w : World) (B : Nat) (e : TypeId) (v : Value) (n : Nat) (E : Nat → Value) : Prop :=
  ∃ a cap, v = .slice a n cap ∧ n ≤ maxLen ∧ (0 < n → ∃ b arr, B ≤ b ∧ a = some ⟨b, 0, none⟩ ∧ w.heap[b]? = some (.cells arr e (0, 0)) ∧ ∀ i, i < n → arr[i]? = some (E i))
theorem RowFrom.row {w : World} {B : Nat} {e : TypeId} {v : Value} {n : Nat} {E : Nat → Value} (h : RowFrom w B e v n E) : RowOf w e v n E := by
  obtain ⟨a, cap, rfl, hm, h⟩ := h
  refine ⟨a, cap, rfl, hm, fun h0 => ?_⟩
  obtain ⟨b, arr, _, r⟩ := h h0
  exact ⟨b, arr, r⟩
theorem RowFrom.kept {X : Nat → Prop} {w w' : World} {B : Nat} {e : TypeId} {v : Value} {n : Nat} {E : Nat → Value} (h : RowFrom w B e v n E) (hb : But X w w') (hX : ∀ k, X k → k < B) : RowFrom w' B e v n E := by
  obtain ⟨a, cap, rfl, hm, h⟩ := h
  refine ⟨a, cap, rfl, hm, fun h0 => ?_⟩
  obtain ⟨b, arr, hB, rfl, hh, hc⟩ := h h0
  exact ⟨b, arr, hB, rfl, hb.heap hh (fun hx => by have := hX b hx; omega), hc⟩
def byteE (xs : List Int) : Nat → Value := fun i => .int .u8 (vb xs i)
theorem Bytes.of_row {w : World} {v : Value} {xs : List Int} (h : RowOf w 5 v xs.length (byteE xs)) : Bytes w v xs := h
theorem RowOf.at {w : World} {e : TypeId} {v : Value} {n : Nat} {E : Nat → Value} (h : RowOf w e v n E) : RowAt w v n E := by
  obtain ⟨a, cap, rfl, hm, h⟩ := h
  refine ⟨a, cap, rfl, hm, fun h0 => ?_⟩
  obtain ⟨b, arr, rfl, hh, hc⟩ := h h0
  exact ⟨b, 0, rfl, fun i hi => by rw [cell_of_row w b _ arr e (0, 0) hh, Nat.zero_add]; exact hc i hi⟩
theorem Bytes.at {w : World} {v : Value} {xs : List Int} (h : Bytes w v xs) : RowAt w v xs.length (byteE xs) := RowOf.at (e := 5) h
theorem RowAt.below {w w' : World} {v : Value} {n : Nat} {E : Nat → Value} (h : RowAt w v n E) (hb : Below w.heap.size w w') : RowAt w' v n E := by
  obtain ⟨a, cap, rfl, hm, h⟩ := h
  refine ⟨a, cap, rfl, hm, fun h0 => ?_⟩
  obtain ⟨b, off, rfl, hc⟩ := h h0
  exact ⟨b, off, rfl, fun i hi => cell_kept hb (hc i hi)⟩
theorem RowOf.kept {X : Nat → Prop} {w w' : World} {e : TypeId} {v : Value} {n : Nat} {E : Nat → Value} (h : RowOf w e v n E) (hb : But X w w') (hX : ∀ k arr, X k → w.heap[k]? ≠ some (.cells arr e (0, 0))) : RowOf w' e v n E := by
  obtain ⟨a, cap, rfl, hm, h⟩ := h
  refine ⟨a, cap, rfl, hm, fun h0 => ?_⟩
  obtain ⟨b, arr, rfl, hh, hc⟩ := h h0
  exact ⟨b, arr, rfl, hb.heap hh (fun hx => hX b arr hx hh), hc⟩
theorem RowOf.below {w w' : World} {e : TypeId} {v : Value} {n : Nat} {E : Nat → Value} (h : RowOf w e v n E) (hb : Below w.heap.size w w') : RowOf w' e v n E := h.kept (X := fun _ => False) (But.of_below hb) (fun _ _ h => h.elim)

theorem made_size (z : Value) (n : Nat) : (madeCells #[z] n).size = n := size_madeCells _ _
theorem made_get (z : Value) (n i : Nat) (h : i < n) : (madeCells #[z] n)[i]? = some z := by simp [madeCells, h, Nat.mod_one]

theorem make_row (w : World) (t e : TypeId) (z : Value) (bytes : Nat) (ht : Try.prog.underlying t = some (.slice e)) (hi : (Try.prog.info? e).map (fun i => (i.zero, i.size, i.bytes)) = some (some z, 1, bytes)) (hzc : z.cells = #[z]) (hby : bytes ≤ 24) (n : Nat) (hn : n ≤ 4194304) :
    (Instr.makeSlice t (.int .i64 (n : Int)) (.int .i64 (n : Int))).run Try.prog w = .ok (.slice (some ⟨w.heap.size, 0, none⟩) n n) (w.alloc (.cells (madeCells #[z] n) e)) := by
  cases hq : Try.prog.info? e with
  | none => rw [hq] at hi; cases hi
  | some i =>
    rw [hq] at hi
    simp only [Option.map_some, Option.some.injEq, Prod.mk.injEq] at hi
    obtain ⟨h1, h2, h3⟩ := hi
    have hb : (i.bytes : Int) * (n : Int) ≤ 281474976710656 := by
      have : i.bytes * n ≤ 24 * 4194304 := Nat.mul_le_mul (by omega) hn
      have h4 : ((i.bytes * n : Nat) : Int) ≤ 281474976710656 := by omega
      rwa [Int.natCast_mul] at h4
    have := run_make (P := Try.prog) w t e i z ht hq h1 .i64 .i64 n n (by omega) (Int.le_refl _) hb (by omega)
    simp only [Int.toNat_natCast, h2, Nat.mul_one, hzc] at this
    exact this
theorem mk22 (w : World) (n : Nat) (hn : n ≤ 4194304) : (Instr.makeSlice 22 (.int .i64 (n : Int)) (.int .i64 (n : Int))).run Try.prog w = .ok (.slice (some ⟨w.heap.size, 0, none⟩) n n) (w.alloc (.cells (madeCells #[.string ⟨#[]⟩] n) 9)) :=
  make_row w 22 9 _ 16 Try.underlying22 (by kernel_rfl) rfl (by omega) n hn
theorem mk23 (w : World) (n : Nat) (hn : n ≤ 4194304) : (Instr.makeSlice 23 (.int .i64 (n : Int)) (.int .i64 (n : Int))).run Try.prog w = .ok (.slice (some ⟨w.heap.size, 0, none⟩) n n) (w.alloc (.cells (madeCells #[.slice none 0 0] n) 35)) :=
  make_row w 23 35 _ 24 Try.underlying23 (by kernel_rfl) rfl (by omega) n hn
theorem mk24 (w : World) (n : Nat) (hn : n ≤ 4194304) : (Instr.makeSlice 24 (.int .i64 (n : Int)) (.int .i64 (n : Int))).run Try.prog w = .ok (.slice (some ⟨w.heap.size, 0, none⟩) n n) (w.alloc (.cells (madeCells #[.bool false] n) 4)) :=
  make_row w 24 4 _ 1 Try.underlying24 (by kernel_rfl) rfl (by omega) n hn
theorem mk35 (w : World) (n : Nat) (hn : n ≤ 4194304) : (Instr.makeSlice 35 (.int .i64 (n : Int)) (.int .i64 (n : Int))).run Try.prog w = .ok (.slice (some ⟨w.heap.size, 0, none⟩) n n) (w.alloc (.cells (madeCells #[.int .u8 0] n) 5)) :=
  make_row w 35 5 _ 1 Try.underlying35 (by kernel_rfl) rfl (by omega) n hn

theorem heap_last (w : World) (o : Obj) : (w.alloc o).heap[w.heap.size]? = some o := by
  show (w.heap.push o)[w.heap.size]? = some o
  simp

set_option maxRecDepth 100000 in
set_option maxHeartbeats 800000 in
theorem clone8 (v : Value) (n : Nat) (V : Nat → ByteArray) (w : World) (hn : n ≤ 4194304) (h : RowAt w v n (fun i => .string (V i))) :
    Calls Try.prog 8 #[v] w fun e w' => ∃ v', e = .returned v' ∧ RowFrom w' w.heap.size 9 v' n (fun i => .string (V i)) ∧ Below w.heap.size w w' := by
  obtain ⟨a, cap, rfl, hml, hsrc⟩ := h
  have hq : ∀ (w : World) (a : Option Addr) (n c n' c' : Nat), (binOp .eql 22 (.slice a n c) (.slice none n' c')).run Try.prog w = .ok (.bool a.isNone) w := fun w a n c n' c' => Lib.run_eql_slice_nil w _ _ a n c n' c' Try.underlying22
  cases a with
  | none =>
    have h0 : n = 0 := by
      rcases Nat.eq_zero_or_pos n with h | h
      · exact h
      · obtain ⟨b, off, e, _⟩ := hsrc h; cases e
    subst h0
    clear hsrc
    go_enter Try.func8, Try.ntmps8
    go_wp2
    go_ret
    exact ⟨_, rfl, ⟨none, 0, rfl, hml, fun h => by omega⟩, Below.refl _ _⟩
  | some ad =>
    have HSRC := hid hsrc
    have hmk := mk22 w n (by omega)
    clear hsrc
    unfold maxLen at hml
    go_enter Try.func8, Try.ntmps8
    go_wp2
    go_loopw [4] (fun i wr => ∃ (k : Nat) (arr : Array Value), k ≤ n ∧ i = .int .i64 k ∧ Hid (wr.heap[w.heap.size]? = some (.cells arr 9 (0, 0)) ∧ arr.size = n ∧ (∀ j, j < k → arr[j]? = some (.string (V j))) ∧ Below w.heap.size w wr)) (fun i _ => n - (intOf i).toNat)
    case atStart => exact ⟨0, _, Nat.zero_le _, rfl, heap_last _ _, made_size _ _, fun j hj => by omega, (Below.refl _ _).alloc (Nat.le_refl _) _⟩
    case round =>
      obtain ⟨k, arr, hk, rfl, HR⟩ := hrel
      by_cases hlt : k < n
      · obtain ⟨b, off, e, hc⟩ := HSRC.out (by omega)
        cases e
        have c0 := (HR.out.2.2.2.cell (p := ⟨b, off + k, none⟩) (lt_of_cell (hc k hlt))).trans (hc k hlt)
        obtain ⟨u, hu⟩ : ∃ u, arr[k]? = some u := ⟨_, Array.getElem?_eq_getElem (by have := HR.out.2.1; omega)⟩
        have c1 : wr.cell? ⟨w.heap.size, k, none⟩ = some u := by rw [cell_of_row wr _ k arr 9 (0, 0) HR.out.1]; exact hu
        have f1 : wr.frozen? ⟨w.heap.size, k, none⟩ = false := by simp [World.frozen?, HR.out.1]
        have hi0 : (0 : Int) ≤ (k : Int) := Int.natCast_nonneg _
        have hi1 : (k : Int) < (n : Int) := by omega
        clear hc hu
        go_wp2
        go_roundw
        case rel =>
          refine ⟨k + 1, _, by omega, by go_num, heap_setCell_row HR.out.1 k _, by simp [HR.out.2.1], fun j hj => ?_, HR.out.2.2.2.setCell (p := ⟨w.heap.size, k, none⟩) (Nat.le_refl _) _⟩
          by_cases e : j = k
          · subst e; rw [Array.getElem?_setIfInBounds_self_of_lt (by have := HR.out.2.1; omega)]
          · rw [Array.getElem?_setIfInBounds_ne (by omega)]; exact HR.out.2.2.1 j (by omega)
        case measure => simp [intOf]; omega
      · obtain rfl : k = n := by omega
        go_wp2
        go_ret
        exact ⟨_, rfl, ⟨_, _, rfl, by unfold maxLen; omega, fun _ => ⟨_, arr, Nat.le_refl _, rfl, HR.out.1, HR.out.2.2.1⟩⟩, HR.out.2.2.2⟩

set_option maxRecDepth 100000 in
set_option maxHeartbeats 800000 in
theorem clone10 (v : Value) (n : Nat) (V : Nat → Bool) (w : World) (hn : n ≤ 4194304) (h : RowAt w v n (fun i => .bool (V i))) :
    Calls Try.prog 10 #[v] w fun e w' => ∃ v', e = .returned v' ∧ RowFrom w' w.heap.size 4 v' n (fun i => .bool (V i)) ∧ Below w.heap.size w w' := by
  obtain ⟨a, cap, rfl, hml, hsrc⟩ := h
  have hq : ∀ (w : World) (a : Option Addr) (n c n' c' : Nat), (binOp .eql 24 (.slice a n c) (.slice none n' c')).run Try.prog w = .ok (.bool a.isNone) w := fun w a n c n' c' => Lib.run_eql_slice_nil w _ _ a n c n' c' Try.underlying24
  cases a with
  | none =>
    have h0 : n = 0 := by
      rcases Nat.eq_zero_or_pos n with h | h
      · exact h
      · obtain ⟨b, off, e, _⟩ := hsrc h; cases e
    subst h0
    clear hsrc
    go_enter Try.func10, Try.ntmps10
    go_wp2
    go_ret
    exact ⟨_, rfl, ⟨none, 0, rfl, hml, fun h => by omega⟩, Below.refl _ _⟩
  | some ad =>
    have HSRC := hid hsrc
    have hmk := mk24 w n (by omega)
    clear hsrc
    unfold maxLen at hml
    go_enter Try.func10, Try.ntmps10
    go_wp2
    go_loopw [4] (fun i wr => ∃ (k : Nat) (arr : Array Value), k ≤ n ∧ i = .int .i64 k ∧ Hid (wr.heap[w.heap.size]? = some (.cells arr 4 (0, 0)) ∧ arr.size = n ∧ (∀ j, j < k → arr[j]? = some (.bool (V j))) ∧ Below w.heap.size w wr)) (fun i _ => n - (intOf i).toNat)
    case atStart => exact ⟨0, _, Nat.zero_le _, rfl, heap_last _ _, made_size _ _, fun j hj => by omega, (Below.refl _ _).alloc (Nat.le_refl _) _⟩
    case round =>
      obtain ⟨k, arr, hk, rfl, HR⟩ := hrel
      by_cases hlt : k < n
      · obtain ⟨b, off, e, hc⟩ := HSRC.out (by omega)
        cases e
        have c0 := (HR.out.2.2.2.cell (p := ⟨b, off + k, none⟩) (lt_of_cell (hc k hlt))).trans (hc k hlt)
        obtain ⟨u, hu⟩ : ∃ u, arr[k]? = some u := ⟨_, Array.getElem?_eq_getElem (by have := HR.out.2.1; omega)⟩
        have c1 : wr.cell? ⟨w.heap.size, k, none⟩ = some u := by rw [cell_of_row wr _ k arr 4 (0, 0) HR.out.1]; exact hu
        have f1 : wr.frozen? ⟨w.heap.size, k, none⟩ = false := by simp [World.frozen?, HR.out.1]
        have hi0 : (0 : Int) ≤ (k : Int) := Int.natCast_nonneg _
        have hi1 : (k : Int) < (n : Int) := by omega
        clear hc hu
        go_wp2
        go_roundw
        case rel =>
          refine ⟨k + 1, _, by omega, by go_num, heap_setCell_row HR.out.1 k _, by simp [HR.out.2.1], fun j hj => ?_, HR.out.2.2.2.setCell (p := ⟨w.heap.size, k, none⟩) (Nat.le_refl _) _⟩
          by_cases e : j = k
          · subst e; rw [Array.getElem?_setIfInBounds_self_of_lt (by have := HR.out.2.1; omega)]
          · rw [Array.getElem?_setIfInBounds_ne (by omega)]; exact HR.out.2.2.1 j (by omega)
        case measure => simp [intOf]; omega
      · obtain rfl : k = n := by omega
        go_wp2
        go_ret
        exact ⟨_, rfl, ⟨_, _, rfl, by unfold maxLen; omega, fun _ => ⟨_, arr, Nat.le_refl _, rfl, HR.out.1, HR.out.2.2.1⟩⟩, HR.out.2.2.2⟩

set_option maxRecDepth 100000 in
set_option maxHeartbeats 800000 in
theorem clone15n (v : Value) (n : Nat) (V : Nat → Int) (w : World) (hn : n ≤ 4194304) (h : RowAt w v n (fun i => .int .u8 (V i))) :
    Calls Try.prog 15 #[v] w fun e w' => ∃ v', e = .returned v' ∧ RowFrom w' w.heap.size 5 v' n (fun i => .int .u8 (V i)) ∧ Below w.heap.size w w' := by
  obtain ⟨a, cap, rfl, hml, hsrc⟩ := h
  have hq : ∀ (w : World) (a : Option Addr) (n c n' c' : Nat), (binOp .eql 35 (.slice a n c) (.slice none n' c')).run Try.prog w = .ok (.bool a.isNone) w := fun w a n c n' c' => Lib.run_eql_slice_nil w _ _ a n c n' c' Try.underlying35
  cases a with
  | none =>
    have h0 : n = 0 := by
      rcases Nat.eq_zero_or_pos n with h | h
      · exact h
      · obtain ⟨b, off, e, _⟩ := hsrc h; cases e
    subst h0
    clear hsrc
    go_enter Try.func15, Try.ntmps15
    go_wp2
    go_ret
    exact ⟨_, rfl, ⟨none, 0, rfl, hml, fun h => by omega⟩, Below.refl _ _⟩
  | some ad =>
    have HSRC := hid hsrc
    have hmk := mk35 w n (by omega)
    clear hsrc
    unfold maxLen at hml
    go_enter Try.func15, Try.ntmps15
    go_wp2
    go_loopw [4] (fun i wr => ∃ (k : Nat) (arr : Array Value), k ≤ n ∧ i = .int .i64 k ∧ Hid (wr.heap[w.heap.size]? = some (.cells arr 5 (0, 0)) ∧ arr.size = n ∧ (∀ j, j < k → arr[j]? = some (.int .u8 (V j))) ∧ Below w.heap.size w wr)) (fun i _ => n - (intOf i).toNat)
    case atStart => exact ⟨0, _, Nat.zero_le _, rfl, heap_last _ _, made_size _ _, fun j hj => by omega, (Below.refl _ _).alloc (Nat.le_refl _) _⟩
    case round =>
      obtain ⟨k, arr, hk, rfl, HR⟩ := hrel
      by_cases hlt : k < n
      · obtain ⟨b, off, e, hc⟩ := HSRC.out (by omega)
        cases e
        have c0 := (HR.out.2.2.2.cell (p := ⟨b, off + k, none⟩) (lt_of_cell (hc k hlt))).trans (hc k hlt)
        obtain ⟨u, hu⟩ : ∃ u, arr[k]? = some u := ⟨_, Array.getElem?_eq_getElem (by have := HR.out.2.1; omega)⟩
        have c1 : wr.cell? ⟨w.heap.size, k, none⟩ = some u := by rw [cell_of_row wr _ k arr 5 (0, 0) HR.out.1]; exact hu
        have f1 : wr.frozen? ⟨w.heap.size, k, none⟩ = false := by simp [World.frozen?, HR.out.1]
        have hi0 : (0 : Int) ≤ (k : Int) := Int.natCast_nonneg _
        have hi1 : (k : Int) < (n : Int) := by omega
        clear hc hu
        go_wp2
        go_roundw
        case rel =>
          refine ⟨k + 1, _, by omega, by go_num, heap_setCell_row HR.out.1 k _, by simp [HR.out.2.1], fun j hj => ?_, HR.out.2.2.2.setCell (p := ⟨w.heap.size, k, none⟩) (Nat.le_refl _) _⟩
          by_cases e : j = k
          · subst e; rw [Array.getElem?_setIfInBounds_self_of_lt (by have := HR.out.2.1; omega)]
          · rw [Array.getElem?_setIfInBounds_ne (by omega)]; exact HR.out.2.2.1 j (by omega)
        case measure => simp [intOf]; omega
      · obtain rfl : k = n := by omega
        go_wp2
        go_ret
        exact ⟨_, rfl, ⟨_, _, rfl, by unfold maxLen; omega, fun _ => ⟨_, arr, Nat.le_refl _, rfl, HR.out.1, HR.out.2.2.1⟩⟩, HR.out.2.2.2⟩

theorem clone15 (v : Value) (xs : List Int) (w : World) (hn : xs.length ≤ 1048576) (h : RowAt w v xs.length (byteE xs)) :
    Calls Try.prog 15 #[v] w fun e w' => ∃ v', e = .returned v' ∧ Bytes w' v' xs ∧ Below w.heap.size w w' :=
  (clone15n v xs.length (vb xs) w (by omega) h).mono fun _ _ ⟨v', h1, h2, h3⟩ => ⟨v', h1, h2.row, h3⟩
end Go.Proofs.Qxb6628689a
