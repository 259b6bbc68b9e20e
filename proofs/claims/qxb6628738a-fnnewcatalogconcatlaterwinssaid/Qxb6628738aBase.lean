/-
  WHAT A SLICE OF Rel IS IN MEMORY; THE SMALL CONTRACTS: zzBytes (Exact), zzPlainVersion, zzHas, zzSameKey.
-/
import Derived.Test.Qxb6628738aRows
import Derived.WalkKit
import Derived.WalkSpells
import Derived.WalkLawsBesides
import Derived.BigGuardPart
namespace Go.Proofs.Qxb6628738a
open Go.RowKit

theorem hid {p : Prop} (h : p) : Hid p := h
theorem ret_bool {b c : Bool} (h : b = c) : Ending.returned (.bool b) = .returned (.bool c) := by rw [h]

/-- some bool comes back (behind a name, so that the walk leaves it alone) -/
def RetBool (e : Ending) : Prop := ∃ bv, e = .returned (.bool bv)
theorem RetBool.mk (b : Bool) : RetBool (.returned (.bool b)) := ⟨b, rfl⟩

/-- 'len' elements of type Rel from offset 'off' of block b on: versions V, architectures A, payloads L. -/
def Rels (w : World) (b off len : Nat) (V A L : Nat → ByteArray) : Prop :=
  ∀ i, i < len → w.cell? ⟨b, off + i * 3, none⟩ = some (.string (V i)) ∧ w.cell? ⟨b, off + i * 3 + 1, none⟩ = some (.string (A i)) ∧ w.cell? ⟨b, off + i * 3 + 2, none⟩ = some (.string (L i)) ∧
    (V i).size ≤ maxLen ∧ (A i).size ≤ maxLen ∧ (L i).size ≤ maxLen

theorem Rels.below {w w' : World} {B b off len : Nat} {V A L : Nat → ByteArray} (h : Rels w b off len V A L) (hb : Below B w w') (hlt : 0 < len → b < B) : Rels w' b off len V A L := by
  intro i hi
  obtain ⟨h1, h2, h3, r⟩ := h i hi
  have := hlt (by omega)
  exact ⟨(hb.cell (p := ⟨b, off + i * 3, none⟩) this).trans h1, (hb.cell (p := ⟨b, off + i * 3 + 1, none⟩) this).trans h2, (hb.cell (p := ⟨b, off + i * 3 + 2, none⟩) this).trans h3, r⟩

/-- every string of the first n releases is short -/
def Short (V A L : Nat → ByteArray) (n : Nat) : Prop := ∀ i, i < n → (V i).size ≤ 1048576 ∧ (A i).size ≤ 1048576 ∧ (L i).size ≤ 1048576
theorem Short.snoc {V A L : Nat → ByteArray} {n : Nat} (h : Short V A L n) (h0 : (V n).size ≤ 1048576) (h1 : (A n).size ≤ 1048576) (h2 : (L n).size ≤ 1048576) : Short V A L (n + 1) := fun i hi => by
  by_cases e : i = n
  · subst e; exact ⟨h0, h1, h2⟩
  · exact h i (by omega)
/-- zzBytes' answer: where it is true every string is short -/
def Told (V A L : Nat → ByteArray) (n : Nat) (e : Ending) : Prop := ∃ bv, e = .returned (.bool bv) ∧ (bv = true → Short V A L n)
theorem Told.no {V A L : Nat → ByteArray} {n : Nat} : Told V A L n (.returned (.bool false)) := ⟨false, rfl, fun h => by cases h⟩
theorem Told.yes {V A L : Nat → ByteArray} {n : Nat} (h : Short V A L n) : Told V A L n (.returned (.bool true)) := ⟨true, rfl, fun _ => h⟩

set_option maxRecDepth 100000 in
set_option maxHeartbeats 400000 in
theorem bytes5_any (a0 : Option Addr) (b off len cap : Nat) (V A L : Nat → ByteArray) (w : World) (hl : len ≤ 9223372036854775807) (ha : 0 < len → a0 = some ⟨b, off, none⟩) (hr : Rels w b off len V A L) :
    Calls Try.prog 5 #[.slice a0 len cap] w fun e w' => Told V A L len e ∧ w' = w := by
  by_cases hbig : 1048576 < len
  · go_enter Try.func5, Try.ntmps5
    go_wp2
    go_ret
    exact ⟨Told.no, rfl⟩
  have HA := hid ha
  have HR := hid hr
  clear ha hr
  go_enter Try.func5, Try.ntmps5
  go_wp2
  go_loop [3, 4] (fun z i => ∃ (k n : Nat), k ≤ len ∧ n ≤ 1048576 ∧ i = .int .i64 k ∧ z = .int .i64 n ∧ Hid (Short V A L k)) (fun _ i => len - (intOf i).toNat)
  case atStart => exact ⟨0, len, Nat.zero_le _, by omega, rfl, rfl, fun i hi => by omega⟩
  case round =>
    obtain ⟨k, n, hk, hn, rfl, rfl, HS⟩ := hrel
    by_cases hlt : k < len
    · obtain rfl := HA.out (by omega)
      obtain ⟨c0, c1, c2, s0, s1, s2⟩ := HR.out k hlt
      unfold maxLen at s0 s1 s2
      go_wp2
      all_goals first | (go_ret; exact ⟨Told.no, rfl⟩) | skip
      go_round
      case rel => exact ⟨k + 1, n + (V k).size + (A k).size + (L k).size, by omega, by omega, by go_num, by go_num, HS.out.snoc (by omega) (by omega) (by omega)⟩
      case measure => simp [intOf]; omega
    · obtain rfl : k = len := by omega
      go_wp2
      go_ret
      exact ⟨Told.yes HS.out, rfl⟩

set_option maxRecDepth 100000 in
set_option maxHeartbeats 1000000 in
theorem plain6_any (s : ByteArray) (w : World) (hs : s.size ≤ maxLen) :
    Calls Try.prog 6 #[.string s] w fun e w' => RetBool e ∧ w' = w := by
  unfold maxLen at hs
  by_cases h0 : s.size = 0
  · have h0' : ((s.size : Int) == 0) = true := beq_iff_eq.2 (by omega)
    clear h0
    go_enter Try.func6, Try.ntmps6
    go_wp2
    go_ret
    exact ⟨RetBool.mk _, rfl⟩
  have h0' : ((s.size : Int) == 0) = false := beq_eq_false_iff_ne.2 (by omega)
  clear h0
  go_enter Try.func6, Try.ntmps6
  go_wp2
  go_loop [3] (fun i => ∃ k : Nat, k ≤ s.size ∧ i = .int .i64 k) (fun i => s.size - (intOf i).toNat)
  case atStart => exact ⟨0, Nat.zero_le _, rfl⟩
  case round =>
    obtain ⟨k, hk, rfl⟩ := hrel
    by_cases hlt : k < s.size
    · obtain ⟨n, hn⟩ : ∃ n : Nat, n = s[k].toNat := ⟨_, rfl⟩
      have hsk : s[k].toNat = n := hn.symm
      clear hn
      go_wp2
      all_goals first | (go_ret; exact ⟨RetBool.mk _, rfl⟩) | (go_round; (case rel => exact ⟨k + 1, by omega, by go_num⟩); (case measure => simp [intOf]; omega))
    · go_wp2
      go_ret
      exact ⟨RetBool.mk _, rfl⟩

end Go.Proofs.Qxb6628738a
