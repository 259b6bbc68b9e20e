/-
  THE CONTRACTS: isXchar, zzIsPlainXchar, EncodeXtext, zzCountEscaped.
-/
import Derived.Test.Qxb6628765aRows
import Derived.Test.Qxb6628765aPlain
import Derived.Test.Qxb6628765aShelf
import Derived.WalkKit
import Derived.WalkSpells
import Derived.WalkLawsBesides
import Derived.BigGuardPart
namespace Go.Proofs.Qxb6628765a
open Go.RowKit Plain

theorem hid {p : Prop} (h : p) : Hid p := h
theorem ret_bool {b c : Bool} (h : b = c) : Ending.returned (.bool b) = .returned (.bool c) := by rw [h]
theorem ret_int {k : IntKind} {a b : Int} (h : a = b) : Ending.returned (.int k a) = .returned (.int k b) := by rw [h]

theorem isx_any (n : Nat) (w : World) : Calls Try.prog 11 #[.int .u8 (n : Int)] w fun e w' => e = .returned (.bool (isX n)) ∧ w' = w := by
  by_cases h : isX n = true
  · obtain ⟨h1, h2, h3, h4⟩ := (isX_iff n).1 h
    have a3 : ((n : Int) != 43) = true := by simp; omega
    have a4 : ((n : Int) != 61) = true := by simp; omega
    rw [h]
    clear h
    go_enter Try.func11, Try.ntmps11
    go_wp2
    all_goals first | (exfalso; omega) | (go_ret; exact ⟨rfl, rfl⟩)
  · have h' : isX n = false := by simpa using h
    have g : ¬ (33 ≤ n ∧ n ≤ 126 ∧ n ≠ 43 ∧ n ≠ 61) := fun x => h ((isX_iff n).2 x)
    rw [h']
    clear h h'
    by_cases c3 : n = 43
    · subst c3
      go_enter Try.func11, Try.ntmps11
      go_wp2
      go_ret
      exact ⟨rfl, rfl⟩
    · by_cases c4 : n = 61
      · subst c4
        go_enter Try.func11, Try.ntmps11
        go_wp2
        go_ret
        exact ⟨rfl, rfl⟩
      · have g' : n < 33 ∨ 126 < n := by omega
        have a3 : ((n : Int) != 43) = true := by simp; omega
        have a4 : ((n : Int) != 61) = true := by simp; omega
        have G := hid g'
        clear g g' c3 c4
        go_enter Try.func11, Try.ntmps11
        go_wp2
        all_goals first | (exfalso; have := G.out; omega) | (go_ret; exact ⟨rfl, rfl⟩)

theorem plain_any (n : Nat) (w : World) : Calls Try.prog 14 #[.int .u8 (n : Int)] w fun e w' => e = .returned (.bool (isX n)) ∧ w' = w := by
  by_cases h : isX n = true
  · obtain ⟨h1, h2, h3, h4⟩ := (isX_iff n).1 h
    have a3 : ((n : Int) != 43) = true := by simp; omega
    have a4 : ((n : Int) != 61) = true := by simp; omega
    rw [h]
    clear h
    go_enter Try.func14, Try.ntmps14
    go_wp2
    all_goals first | (exfalso; omega) | (go_ret; exact ⟨rfl, rfl⟩)
  · have h' : isX n = false := by simpa using h
    have g : ¬ (33 ≤ n ∧ n ≤ 126 ∧ n ≠ 43 ∧ n ≠ 61) := fun x => h ((isX_iff n).2 x)
    rw [h']
    clear h h'
    by_cases c3 : n = 43
    · subst c3
      go_enter Try.func14, Try.ntmps14
      go_wp2
      go_ret
      exact ⟨rfl, rfl⟩
    · by_cases c4 : n = 61
      · subst c4
        go_enter Try.func14, Try.ntmps14
        go_wp2
        go_ret
        exact ⟨rfl, rfl⟩
      · have g' : n < 33 ∨ 126 < n := by omega
        have a3 : ((n : Int) != 43) = true := by simp; omega
        have a4 : ((n : Int) != 61) = true := by simp; omega
        have G := hid g'
        clear g g' c3 c4
        go_enter Try.func14, Try.ntmps14
        go_wp2
        all_goals first | (exfalso; have := G.out; omega) | (go_ret; exact ⟨rfl, rfl⟩)

/-- the bytes of a list of numbers below 256, as cells -/
theorem cells_enc (l : List UInt8) : Lib.byteCells (enc l) = (encN (nats l)).map fun n : Nat => Value.int .u8 (n : Int) := by
  unfold Lib.byteCells enc
  rw [List.map_map]
  apply List.map_congr_left
  intro n hn
  have := encN_lt l n hn
  simp [Function.comp]
  omega

def encC (l : List UInt8) : List Value := (encN (nats l)).map fun n : Nat => Value.int .u8 (n : Int)

theorem take_snoc (s : ByteArray) (k : Nat) (h : k < s.size) : s.data.toList.take (k + 1) = s.data.toList.take k ++ [s[k]] := by
  rw [List.take_succ_eq_append_getElem (by simpa using h)]; rfl

theorem encC_plain (s : ByteArray) (k : Nat) (h : k < s.size) (hx : isX s[k].toNat = true) : encC (s.data.toList.take (k + 1)) = encC (s.data.toList.take k) ++ [.int .u8 (s[k].toNat : Int)] := by
  rw [take_snoc s k h]
  unfold encC
  rw [nats_append, encN_append, List.map_append]
  simp [nats, encN, enc1, hx]

theorem encC_hex (s : ByteArray) (k : Nat) (h : k < s.size) (hx : isX s[k].toNat = false) : encC (s.data.toList.take (k + 1)) = ((encC (s.data.toList.take k) ++ [.int .u8 43]) ++ [.int .u8 (hexd (s[k].toNat / 16) : Int)]) ++ [.int .u8 (hexd (s[k].toNat % 16) : Int)] := by
  rw [take_snoc s k h]
  unfold encC
  rw [nats_append, encN_append, List.map_append]
  simp [nats, encN, enc1, hx]

theorem encC_length (s : ByteArray) (k : Nat) (h : k ≤ s.size) : (encC (s.data.toList.take k)).length ≤ 3 * s.size := by
  unfold encC
  rw [List.length_map]
  refine Nat.le_trans (encN_length_le _) ?_
  simp [nats]
  omega

theorem heap_new (w : World) (o : Obj) : (w.alloc o).heap[w.heap.size]? = some o := by
  show (w.heap.push o)[w.heap.size]? = _
  rw [Array.getElem?_push, if_pos rfl]

def hexS : ByteArray := ⟨#[48, 49, 50, 51, 52, 53, 54, 55, 56, 57, 65, 66, 67, 68, 69, 70]⟩
theorem hex_all : ∀ q : Fin 16, (hexS[q.1]'(by have := q.2; show q.1 < 16; omega)).toNat = hexd q.1 := by decide
/-- 'upperHex[q]' -/
theorem hex_at (q : Nat) (h : q < ByteArray.size ⟨#[48, 49, 50, 51, 52, 53, 54, 55, 56, 57, 65, 66, 67, 68, 69, 70]⟩) :
    ((⟨#[48, 49, 50, 51, 52, 53, 54, 55, 56, 57, 65, 66, 67, 68, 69, 70]⟩ : ByteArray)[q]'h).toNat = hexd q := hex_all ⟨q, h⟩

set_option maxRecDepth 100000 in
set_option maxHeartbeats 400000 in
theorem encode_any (s : ByteArray) (w : World) (hs : s.size ≤ 1048576) :
    Calls Try.prog 6 #[.string s] w fun e w' => e = .returned (.string ⟨(enc s.data.toList).toArray⟩) ∧ Below w.heap.size w w' := by
  go_enter Try.func6, Try.ntmps6
  go_wp2_with (go_at_call 10; refine (Try.Builder_Grow_fresh w.heap.size w.heap.size s.size _ (Nat.le_refl _) ?_ ?_ (by omega)).mono ?_; rotate_right; rintro e w1 ⟨rfl, hbw, hb1⟩)
  case refine_1 => exact heap_new w _
  case refine_2 => simp
  have hb0 : Below w.heap.size w w1 := ((Below.refl _ w).alloc (Nat.le_refl _) _).trans hb1
  have hI : Lib.IsBuilder 31 5 w.heap.size w.heap.size (encC (s.data.toList.take 0)) w1 := Or.inr hbw
  clear hbw hb1
  go_loopw [4] (fun i wr => ∃ k : Nat, k ≤ s.size ∧ i = .int .i64 k ∧ Lib.IsBuilder 31 5 w.heap.size w.heap.size (encC (s.data.toList.take k)) wr ∧ Below w.heap.size w wr) (fun i _ => s.size - (intOf i).toNat)
  case atStart => exact ⟨0, Nat.zero_le _, rfl, hI, hb0⟩
  case round =>
    clear hI hb0
    obtain ⟨k, hk, rfl, hI, hbk⟩ := hrel
    have hsz := hbk.size
    have hlen := encC_length s k hk
    by_cases hlt : k < s.size
    · cases hx : isX s[k].toNat with
      | true =>
        have E := hid (encC_plain s k hlt hx)
        have HX := hid hx
        have HI := hid hI
        have HL := hid hlen
        clear hx hI hlen
        go_wp2_with (first | (go_at_call 11; refine (isx_any _ _).mono ?_; rintro e w' ⟨rfl, hw'⟩; obtain rfl := hw'.symm; clear hw'; rw [HX.out]) | (go_at_call 12; refine (Try.Builder_WriteByte w.heap.size w.heap.size _ _ _ HI.out (by have := HL.out; omega) hsz).mono ?_; rintro e w2 ⟨rfl, hbw2, hb2⟩))
        go_roundw
        case rel => exact ⟨k + 1, by omega, by go_num, by rw [E.out]; exact Or.inr hbw2, hbk.trans hb2⟩
        case measure => simp [intOf]; omega
      | false =>
        have E := hid (encC_hex s k hlt hx)
        have HX := hid hx
        have HI := hid hI
        have HL := hid hlen
        clear hx hI hlen
        have hc := s[k].toNat_lt
        go_wp2_with fail
        refine (isx_any _ _).mono ?_
        rintro e w' ⟨rfl, hw'⟩; obtain rfl := hw'.symm; clear hw'; rw [HX.out]
        go_wp2_with fail
        refine (Try.Builder_WriteByte w.heap.size w.heap.size _ _ _ HI.out (by have := HL.out; omega) hsz).mono ?_
        rintro e w2 ⟨rfl, hbw2, hb2⟩
        go_wp2_with fail
        refine (Try.Builder_WriteByte w.heap.size w.heap.size _ _ _ (Or.inr hbw2) (by have := HL.out; rw [List.length_append]; simp; omega) (Nat.le_trans hsz hb2.size)).mono ?_
        rintro e w3 ⟨rfl, hbw3, hb3⟩
        rw [hex_at] at hbw3
        go_wp2_with fail
        refine (Try.Builder_WriteByte w.heap.size w.heap.size _ _ _ (Or.inr hbw3) (by have := HL.out; rw [List.length_append, List.length_append]; simp; omega) (Nat.le_trans hsz (Nat.le_trans hb2.size hb3.size))).mono ?_
        rintro e w4 ⟨rfl, hbw4, hb4⟩
        rw [hex_at] at hbw4
        go_wp2
        go_roundw
        case rel => exact ⟨k + 1, by omega, by go_num, by rw [E.out]; exact Or.inr hbw4, ((hbk.trans hb2).trans hb3).trans hb4⟩
        case measure => simp [intOf]; omega
    · obtain rfl : k = s.size := by omega
      have ht : s.data.toList.take s.size = s.data.toList := List.take_of_length_le (by simp)
      have hI' : Lib.IsBuilder 31 5 w.heap.size w.heap.size (Lib.byteCells (enc s.data.toList)) wr := by
        rw [cells_enc, ← ht]; exact hI
      clear ht hI hlen hlt hk
      have HI := hid hI'
      clear hI'
      go_wp2_with (go_at_call 13; refine (Try.Builder_String_any w.heap.size w.heap.size _ _ HI.out hsz).mono ?_; rintro e w2 ⟨rfl, hb2⟩)
      go_ret
      exact ⟨rfl, hbk.trans hb2⟩

end Go.Proofs.Qxb6628765a
