/-
  zzBytes of the two laws (5, 20); what the arguments are.
-/
import Derived.Test.Qxb6628689aNames
import Derived.BigGuardPart
namespace Go.Proofs.Qxb6628689a
open Go.RowKit

/-- the five lists that both laws are handed -/
structure Arg (w : World) (k0 v0 k1 v1 d1 : Value) (n0 m0 n1 m1 nd : Nat) (V0 V1 : Nat → ByteArray) (E0 E1 : Nat → Value) (Z0 Z1 : Nat → List Int) (D : Nat → Bool) : Prop where
  a0 : RowAt w k0 n0 (fun i => .string (V0 i))
  a1 : RowAt w v0 m0 E0
  a2 : RowAt w k1 n1 (fun i => .string (V1 i))
  a3 : RowAt w v1 m1 E1
  a4 : RowAt w d1 nd (fun i => .bool (D i))
  s0 : ∀ i, i < n0 → (V0 i).size ≤ maxLen
  s1 : ∀ i, i < n1 → (V1 i).size ≤ maxLen
  z0 : ∀ i, i < m0 → RowAt w (E0 i) (Z0 i).length (byteE (Z0 i))
  z1 : ∀ i, i < m1 → RowAt w (E1 i) (Z1 i).length (byteE (Z1 i))
def Short (f : Nat → Nat) (n : Nat) : Prop := ∀ i, i < n → f i ≤ 1048576
theorem Short.snoc {f : Nat → Nat} {n : Nat} (h : Short f n) (h0 : f n ≤ 1048576) : Short f (n + 1) := fun i hi => by
  by_cases e : i = n
  · subst e; exact h0
  · exact h i (by omega)
structure Fine (n0 m0 n1 m1 nd : Nat) (V0 V1 : Nat → ByteArray) (Z0 Z1 : Nat → List Int) : Prop where
  l0 : n0 ≤ 1048576
  l1 : m0 ≤ 1048576
  l2 : n1 ≤ 1048576
  l3 : m1 ≤ 1048576
  l4 : nd ≤ 1048576
  f0 : Short (fun i => (V0 i).size) n0
  f1 : Short (fun i => (Z0 i).length) m0
  f2 : Short (fun i => (V1 i).size) n1
  f3 : Short (fun i => (Z1 i).length) m1
def Ans (n0 m0 n1 m1 nd : Nat) (V0 V1 : Nat → ByteArray) (Z0 Z1 : Nat → List Int) (e : Ending) : Prop := ∃ bv, e = .returned (.bool bv) ∧ (bv = true → Fine n0 m0 n1 m1 nd V0 V1 Z0 Z1)
theorem Ans.no {n0 m0 n1 m1 nd : Nat} {V0 V1 : Nat → ByteArray} {Z0 Z1 : Nat → List Int} : Ans n0 m0 n1 m1 nd V0 V1 Z0 Z1 (.returned (.bool false)) := ⟨false, rfl, fun h => by cases h⟩
theorem Ans.yes {n0 m0 n1 m1 nd : Nat} {V0 V1 : Nat → ByteArray} {Z0 Z1 : Nat → List Int} (h : Fine n0 m0 n1 m1 nd V0 V1 Z0 Z1) : Ans n0 m0 n1 m1 nd V0 V1 Z0 Z1 (.returned (.bool true)) := ⟨true, rfl, fun _ => h⟩

set_option maxRecDepth 100000 in
set_option maxHeartbeats 3200000 in
theorem bytes5 (w : World) (k0 v0 k1 v1 d1 : Value) (n0 m0 n1 m1 nd : Nat) (V0 V1 : Nat → ByteArray) (E0 E1 : Nat → Value) (Z0 Z1 : Nat → List Int) (D : Nat → Bool) (h : Arg w k0 v0 k1 v1 d1 n0 m0 n1 m1 nd V0 V1 E0 E1 Z0 Z1 D) :
    Calls Try.prog 5 #[k0, v0, k1, v1, d1] w fun e w' => Ans n0 m0 n1 m1 nd V0 V1 Z0 Z1 e ∧ w' = w := by
  obtain ⟨⟨a0, c0, rfl, l0, h0⟩, ⟨a1, c1, rfl, l1, h1⟩, ⟨a2, c2, rfl, l2, h2⟩, ⟨a3, c3, rfl, l3, h3⟩, ⟨a4, c4, rfl, l4, h4⟩, s0, s1, z0, z1⟩ := h
  have H0 := hid h0
  have H1 := hid h1
  have H2 := hid h2
  have H3 := hid h3
  have HS0' := hid s0
  have HS1' := hid s1
  have HZ0 := hid z0
  have HZ1 := hid z1
  clear h0 h1 h2 h3 h4 s0 s1 z0 z1
  unfold maxLen at l0 l1 l2 l3 l4
  by_cases hbig : 1048576 < n0
  · go_enter Try.func5, Try.ntmps5
    go_wp2
    go_ret
    exact ⟨Ans.no, rfl⟩
  go_enter Try.func5, Try.ntmps5
  go_wp2
  go_loop [11, 12] (fun z i => ∃ (k q : Nat), k ≤ n0 ∧ q ≤ 1048576 ∧ i = .int .i64 k ∧ z = .int .i64 q ∧ Hid (Short (fun i => (V0 i).size) k)) (fun _ i => n0 - (intOf i).toNat)
  case atStart => exact ⟨0, n0, Nat.zero_le _, by omega, rfl, by go_num, fun i hi => by omega⟩
  case round =>
    obtain ⟨k0, q0, hk0, hq0, rfl, rfl, HS0⟩ := hrel
    by_cases hlt : k0 < n0
    · obtain ⟨b, off, rfl, hc⟩ := H0.out (by omega)
      have c0 := hc k0 hlt
      have hi0 : (0 : Int) ≤ (k0 : Int) := Int.natCast_nonneg _
      have hi1 : (k0 : Int) < (n0 : Int) := by omega
      have hsz := HS0'.out k0 hlt
      unfold maxLen at hsz
      clear hc
      go_wp2
      all_goals first | (go_ret; exact ⟨Ans.no, rfl⟩) | skip
      go_round
      case rel => exact ⟨k0 + 1, q0 + (V0 k0).size, by omega, by omega, by go_num, by go_num, HS0.out.snoc (by omega)⟩
      case measure => simp [intOf]; omega
    · obtain rfl : n0 = k0 := by omega
      clear hlt hk0
      by_cases hb1 : 1048576 < m0
      · go_wp2
        go_ret
        exact ⟨Ans.no, rfl⟩
      by_cases hb2 : 1048576 < q0 + m0
      · go_wp2
        go_ret
        exact ⟨Ans.no, rfl⟩
      go_wp2
      go_loop [11, 13] (fun z i => ∃ (k q : Nat), k ≤ m0 ∧ q ≤ 1048576 ∧ i = .int .i64 k ∧ z = .int .i64 q ∧ Hid (Short (fun i => (Z0 i).length) k)) (fun _ i => m0 - (intOf i).toNat)
      case atStart => exact ⟨0, q0 + m0, Nat.zero_le _, by omega, rfl, by go_num, fun i hi => by omega⟩
      case round =>
        obtain ⟨k1, q1, hk1, hq1, rfl, rfl, HS1⟩ := hrel
        by_cases hlt : k1 < m0
        · obtain ⟨b, off, rfl, hc⟩ := H1.out (by omega)
          have c0 := hc k1 hlt
          have hi0 : (0 : Int) ≤ (k1 : Int) := Int.natCast_nonneg _
          have hi1 : (k1 : Int) < (m0 : Int) := by omega
          obtain ⟨sa, sc, he, hsz, _⟩ := HZ0.out k1 hlt
          rw [he] at c0
          clear he
          unfold maxLen at hsz
          clear hc
          go_wp2
          all_goals first | (go_ret; exact ⟨Ans.no, rfl⟩) | skip
          go_round
          case rel => exact ⟨k1 + 1, q1 + (Z0 k1).length, by omega, by omega, by go_num, by go_num, HS1.out.snoc (by omega)⟩
          case measure => simp [intOf]; omega
        · obtain rfl : m0 = k1 := by omega
          clear hlt hk1
          by_cases hb1 : 1048576 < n1
          · go_wp2
            go_ret
            exact ⟨Ans.no, rfl⟩
          by_cases hb2 : 1048576 < q1 + n1
          · go_wp2
            go_ret
            exact ⟨Ans.no, rfl⟩
          go_wp2
          go_loop [11, 14] (fun z i => ∃ (k q : Nat), k ≤ n1 ∧ q ≤ 1048576 ∧ i = .int .i64 k ∧ z = .int .i64 q ∧ Hid (Short (fun i => (V1 i).size) k)) (fun _ i => n1 - (intOf i).toNat)
          case atStart => exact ⟨0, q1 + n1, Nat.zero_le _, by omega, rfl, by go_num, fun i hi => by omega⟩
          case round =>
            obtain ⟨k2, q2, hk2, hq2, rfl, rfl, HS2⟩ := hrel
            by_cases hlt : k2 < n1
            · obtain ⟨b, off, rfl, hc⟩ := H2.out (by omega)
              have c0 := hc k2 hlt
              have hi0 : (0 : Int) ≤ (k2 : Int) := Int.natCast_nonneg _
              have hi1 : (k2 : Int) < (n1 : Int) := by omega
              have hsz := HS1'.out k2 hlt
              unfold maxLen at hsz
              clear hc
              go_wp2
              all_goals first | (go_ret; exact ⟨Ans.no, rfl⟩) | skip
              go_round
              case rel => exact ⟨k2 + 1, q2 + (V1 k2).size, by omega, by omega, by go_num, by go_num, HS2.out.snoc (by omega)⟩
              case measure => simp [intOf]; omega
            · obtain rfl : n1 = k2 := by omega
              clear hlt hk2
              by_cases hb1 : 1048576 < m1
              · go_wp2
                go_ret
                exact ⟨Ans.no, rfl⟩
              by_cases hb2 : 1048576 < q2 + m1
              · go_wp2
                go_ret
                exact ⟨Ans.no, rfl⟩
              go_wp2
              go_loop [11, 15] (fun z i => ∃ (k q : Nat), k ≤ m1 ∧ q ≤ 1048576 ∧ i = .int .i64 k ∧ z = .int .i64 q ∧ Hid (Short (fun i => (Z1 i).length) k)) (fun _ i => m1 - (intOf i).toNat)
              case atStart => exact ⟨0, q2 + m1, Nat.zero_le _, by omega, rfl, by go_num, fun i hi => by omega⟩
              case round =>
                obtain ⟨k3, q3, hk3, hq3, rfl, rfl, HS3⟩ := hrel
                by_cases hlt : k3 < m1
                · obtain ⟨b, off, rfl, hc⟩ := H3.out (by omega)
                  have c0 := hc k3 hlt
                  have hi0 : (0 : Int) ≤ (k3 : Int) := Int.natCast_nonneg _
                  have hi1 : (k3 : Int) < (m1 : Int) := by omega
                  obtain ⟨sa, sc, he, hsz, _⟩ := HZ1.out k3 hlt
                  rw [he] at c0
                  clear he
                  unfold maxLen at hsz
                  clear hc
                  go_wp2
                  all_goals first | (go_ret; exact ⟨Ans.no, rfl⟩) | skip
                  go_round
                  case rel => exact ⟨k3 + 1, q3 + (Z1 k3).length, by omega, by omega, by go_num, by go_num, HS3.out.snoc (by omega)⟩
                  case measure => simp [intOf]; omega
                · obtain rfl : m1 = k3 := by omega
                  clear hlt hk3
                  by_cases hb1 : 1048576 < nd
                  · go_wp2
                    go_ret
                    exact ⟨Ans.no, rfl⟩
                  by_cases hb2 : 1048576 < q3 + nd
                  · go_wp2
                    go_ret
                    exact ⟨Ans.no, rfl⟩
                  go_wp2
                  go_ret
                  exact ⟨Ans.yes ⟨by omega, by omega, by omega, by omega, by omega, HS0.out, HS1.out, HS2.out, HS3.out⟩, rfl⟩

set_option maxRecDepth 100000 in
set_option maxHeartbeats 3200000 in
theorem bytes20 (w : World) (k0 v0 k1 v1 d1 : Value) (n0 m0 n1 m1 nd : Nat) (V0 V1 : Nat → ByteArray) (E0 E1 : Nat → Value) (Z0 Z1 : Nat → List Int) (D : Nat → Bool) (cut : Int) (h : Arg w k0 v0 k1 v1 d1 n0 m0 n1 m1 nd V0 V1 E0 E1 Z0 Z1 D) :
    Calls Try.prog 20 #[k0, v0, k1, v1, d1, .int .i64 cut] w fun e w' => Ans n0 m0 n1 m1 nd V0 V1 Z0 Z1 e ∧ w' = w := by
  obtain ⟨⟨a0, c0, rfl, l0, h0⟩, ⟨a1, c1, rfl, l1, h1⟩, ⟨a2, c2, rfl, l2, h2⟩, ⟨a3, c3, rfl, l3, h3⟩, ⟨a4, c4, rfl, l4, h4⟩, s0, s1, z0, z1⟩ := h
  have H0 := hid h0
  have H1 := hid h1
  have H2 := hid h2
  have H3 := hid h3
  have HS0' := hid s0
  have HS1' := hid s1
  have HZ0 := hid z0
  have HZ1 := hid z1
  clear h0 h1 h2 h3 h4 s0 s1 z0 z1
  unfold maxLen at l0 l1 l2 l3 l4
  by_cases hbig : 1048576 < n0
  · go_enter Try.func20, Try.ntmps20
    go_wp2
    go_ret
    exact ⟨Ans.no, rfl⟩
  go_enter Try.func20, Try.ntmps20
  go_wp2
  go_loop [13, 14] (fun z i => ∃ (k q : Nat), k ≤ n0 ∧ q ≤ 1048576 ∧ i = .int .i64 k ∧ z = .int .i64 q ∧ Hid (Short (fun i => (V0 i).size) k)) (fun _ i => n0 - (intOf i).toNat)
  case atStart => exact ⟨0, n0, Nat.zero_le _, by omega, rfl, by go_num, fun i hi => by omega⟩
  case round =>
    obtain ⟨k0, q0, hk0, hq0, rfl, rfl, HS0⟩ := hrel
    by_cases hlt : k0 < n0
    · obtain ⟨b, off, rfl, hc⟩ := H0.out (by omega)
      have c0 := hc k0 hlt
      have hi0 : (0 : Int) ≤ (k0 : Int) := Int.natCast_nonneg _
      have hi1 : (k0 : Int) < (n0 : Int) := by omega
      have hsz := HS0'.out k0 hlt
      unfold maxLen at hsz
      clear hc
      go_wp2
      all_goals first | (go_ret; exact ⟨Ans.no, rfl⟩) | skip
      go_round
      case rel => exact ⟨k0 + 1, q0 + (V0 k0).size, by omega, by omega, by go_num, by go_num, HS0.out.snoc (by omega)⟩
      case measure => simp [intOf]; omega
    · obtain rfl : n0 = k0 := by omega
      clear hlt hk0
      by_cases hb1 : 1048576 < m0
      · go_wp2
        go_ret
        exact ⟨Ans.no, rfl⟩
      by_cases hb2 : 1048576 < q0 + m0
      · go_wp2
        go_ret
        exact ⟨Ans.no, rfl⟩
      go_wp2
      go_loop [13, 15] (fun z i => ∃ (k q : Nat), k ≤ m0 ∧ q ≤ 1048576 ∧ i = .int .i64 k ∧ z = .int .i64 q ∧ Hid (Short (fun i => (Z0 i).length) k)) (fun _ i => m0 - (intOf i).toNat)
      case atStart => exact ⟨0, q0 + m0, Nat.zero_le _, by omega, rfl, by go_num, fun i hi => by omega⟩
      case round =>
        obtain ⟨k1, q1, hk1, hq1, rfl, rfl, HS1⟩ := hrel
        by_cases hlt : k1 < m0
        · obtain ⟨b, off, rfl, hc⟩ := H1.out (by omega)
          have c0 := hc k1 hlt
          have hi0 : (0 : Int) ≤ (k1 : Int) := Int.natCast_nonneg _
          have hi1 : (k1 : Int) < (m0 : Int) := by omega
          obtain ⟨sa, sc, he, hsz, _⟩ := HZ0.out k1 hlt
          rw [he] at c0
          clear he
          unfold maxLen at hsz
          clear hc
          go_wp2
          all_goals first | (go_ret; exact ⟨Ans.no, rfl⟩) | skip
          go_round
          case rel => exact ⟨k1 + 1, q1 + (Z0 k1).length, by omega, by omega, by go_num, by go_num, HS1.out.snoc (by omega)⟩
          case measure => simp [intOf]; omega
        · obtain rfl : m0 = k1 := by omega
          clear hlt hk1
          by_cases hb1 : 1048576 < n1
          · go_wp2
            go_ret
            exact ⟨Ans.no, rfl⟩
          by_cases hb2 : 1048576 < q1 + n1
          · go_wp2
            go_ret
            exact ⟨Ans.no, rfl⟩
          go_wp2
          go_loop [13, 16] (fun z i => ∃ (k q : Nat), k ≤ n1 ∧ q ≤ 1048576 ∧ i = .int .i64 k ∧ z = .int .i64 q ∧ Hid (Short (fun i => (V1 i).size) k)) (fun _ i => n1 - (intOf i).toNat)
          case atStart => exact ⟨0, q1 + n1, Nat.zero_le _, by omega, rfl, by go_num, fun i hi => by omega⟩
          case round =>
            obtain ⟨k2, q2, hk2, hq2, rfl, rfl, HS2⟩ := hrel
            by_cases hlt : k2 < n1
            · obtain ⟨b, off, rfl, hc⟩ := H2.out (by omega)
              have c0 := hc k2 hlt
              have hi0 : (0 : Int) ≤ (k2 : Int) := Int.natCast_nonneg _
              have hi1 : (k2 : Int) < (n1 : Int) := by omega
              have hsz := HS1'.out k2 hlt
              unfold maxLen at hsz
              clear hc
              go_wp2
              all_goals first | (go_ret; exact ⟨Ans.no, rfl⟩) | skip
              go_round
              case rel => exact ⟨k2 + 1, q2 + (V1 k2).size, by omega, by omega, by go_num, by go_num, HS2.out.snoc (by omega)⟩
              case measure => simp [intOf]; omega
            · obtain rfl : n1 = k2 := by omega
              clear hlt hk2
              by_cases hb1 : 1048576 < m1
              · go_wp2
                go_ret
                exact ⟨Ans.no, rfl⟩
              by_cases hb2 : 1048576 < q2 + m1
              · go_wp2
                go_ret
                exact ⟨Ans.no, rfl⟩
              go_wp2
              go_loop [13, 17] (fun z i => ∃ (k q : Nat), k ≤ m1 ∧ q ≤ 1048576 ∧ i = .int .i64 k ∧ z = .int .i64 q ∧ Hid (Short (fun i => (Z1 i).length) k)) (fun _ i => m1 - (intOf i).toNat)
              case atStart => exact ⟨0, q2 + m1, Nat.zero_le _, by omega, rfl, by go_num, fun i hi => by omega⟩
              case round =>
                obtain ⟨k3, q3, hk3, hq3, rfl, rfl, HS3⟩ := hrel
                by_cases hlt : k3 < m1
                · obtain ⟨b, off, rfl, hc⟩ := H3.out (by omega)
                  have c0 := hc k3 hlt
                  have hi0 : (0 : Int) ≤ (k3 : Int) := Int.natCast_nonneg _
                  have hi1 : (k3 : Int) < (m1 : Int) := by omega
                  obtain ⟨sa, sc, he, hsz, _⟩ := HZ1.out k3 hlt
                  rw [he] at c0
                  clear he
                  unfold maxLen at hsz
                  clear hc
                  go_wp2
                  all_goals first | (go_ret; exact ⟨Ans.no, rfl⟩) | skip
                  go_round
                  case rel => exact ⟨k3 + 1, q3 + (Z1 k3).length, by omega, by omega, by go_num, by go_num, HS3.out.snoc (by omega)⟩
                  case measure => simp [intOf]; omega
                · obtain rfl : m1 = k3 := by omega
                  clear hlt hk3
                  by_cases hb1 : 1048576 < nd
                  · go_wp2
                    go_ret
                    exact ⟨Ans.no, rfl⟩
                  by_cases hb2 : 1048576 < q3 + nd
                  · go_wp2
                    go_ret
                    exact ⟨Ans.no, rfl⟩
                  go_wp2
                  go_ret
                  exact ⟨Ans.yes ⟨by omega, by omega, by omega, by omega, by omega, HS0.out, HS1.out, HS2.out, HS3.out⟩, rfl⟩
end Go.Proofs.Qxb6628689a
