/-
  THE CALLEES' CONTRACTS: zzTotal, Supermajority, WeightedSupermajority, over a row of ints at the head of block b.
-/
import Derived.Test.Qxb6628655aFmtRows
import Derived.Test.Qxb6628655aFmtPlain
import Derived.WalkKit
import Derived.WalkSpells
import Derived.WalkLawsBesides
namespace Go.Proofs.Qxb6628655aFmt
open Go.RowKit Plain

theorem ret_int {k : IntKind} {a b : Int} (h : a = b) : Ending.returned (.int k a) = .returned (.int k b) := by rw [h]

def outT (t : Option Int) : Value := .tuple #[.int .i64 (t.getD 0), .bool t.isSome]

set_option maxHeartbeats 400000 in
theorem total_any (b cap : Nat) (zs : List Int) (st : Int) (w : World) (h0 : 0 ≤ st) (h1 : st ≤ 9223372036854775807) (hl : zs.length ≤ 1048576)
    (hc : ∀ i, i < zs.length → w.cell? ⟨b, i, none⟩ = some (.int .i64 (zs[i]?.getD 0))) :
    Calls Tryf.prog 6 #[.slice (some ⟨b, 0, none⟩) zs.length cap, .int .i64 st] w fun e w' => e = .returned (outT (tot st zs)) ∧ w' = w := by
  obtain ⟨T, hT⟩ : ∃ T, T = tot st zs := ⟨_, rfl⟩
  have HT : Hid (T = tot st zs) := hT
  rw [← hT]
  clear hT
  obtain ⟨n, hn⟩ : ∃ n, n = zs.length := ⟨_, rfl⟩
  have HN : Hid (n = zs.length) := hn
  rw [← hn] at hl hc ⊢
  clear hn
  go_enter Tryf.func6, Tryf.ntmps6
  go_wp2
  go_loop [6, 7] (fun t i => ∃ (k : Nat) (s : Int), k ≤ n ∧ i = .int .i64 k ∧ t = .int .i64 s ∧ 0 ≤ s ∧ s ≤ 9223372036854775807 ∧ Hid (T = tot s (zs.drop k))) (fun _ i => n - (intOf i).toNat)
  case atStart => exact ⟨0, st, Nat.zero_le _, rfl, rfl, h0, h1, HT⟩
  case round =>
    obtain ⟨k, s, hk, rfl, rfl, hs0, hs1, HS⟩ := hrel
    by_cases hlt : k < n
    · have hck := hc k hlt
      go_wp2
      · go_ret2
        have e : T = none := HS.out.trans (tot_low zs s k (by rw [← HN.out]; exact hlt) (by assumption))
        rw [e]; exact ⟨rfl, rfl⟩
      · go_ret2
        have e : T = none := HS.out.trans (tot_past zs s k (by rw [← HN.out]; exact hlt) (by assumption))
        rw [e]; exact ⟨rfl, rfl⟩
      · go_round
        case rel => exact ⟨k + 1, s + zs[k]?.getD 0, by omega, by go_num, by go_num, by omega, by omega, HS.out.trans (tot_on zs s k (by rw [← HN.out]; exact hlt) (by omega) (by omega))⟩
        case measure => simp [intOf]; omega
    · go_wp2
      go_ret2
      have e : T = some s := HS.out.trans (tot_end s zs k (by rw [← HN.out]; omega))
      rw [e]; exact ⟨rfl, rfl⟩

theorem super_any (n : Int) (w : World) (h1 : 1 ≤ n) (h2 : n ≤ 9223372036854775807) :
    Calls Tryf.prog 10 #[.int .i64 n] w fun e w' => e = .returned (.int .i64 (n - (n - 1) / 3)) ∧ w' = w := by
  go_enter Tryf.func10, Tryf.ntmps10
  go_wp2
  go_ret
  exact ⟨rfl, rfl⟩

set_option maxHeartbeats 400000 in
theorem weighted_any (b cap : Nat) (zs : List Int) (T : Int) (w : World) (hl : zs.length ≤ 1048576) (hp : 1 ≤ zs.length) (hT : tot 0 zs = some T)
    (hc : ∀ i, i < zs.length → w.cell? ⟨b, i, none⟩ = some (.int .i64 (zs[i]?.getD 0))) :
    Calls Tryf.prog 7 #[.slice (some ⟨b, 0, none⟩) zs.length cap] w fun e w' => e = .returned (.int .i64 (T - (T - 1) / 3)) ∧ w' = w := by
  have g := tot_ge zs 0 T hT
  have g1 : 1 ≤ T := by omega
  have g2 : T ≤ 9223372036854775807 := g.2 (by omega)
  have HT : Hid (tot 0 (zs.drop 0) = some T) := hT
  clear hT g
  obtain ⟨n, hn⟩ : ∃ n, n = zs.length := ⟨_, rfl⟩
  have HN : Hid (n = zs.length) := hn
  rw [← hn] at hl hc hp ⊢
  clear hn
  go_enter Tryf.func7, Tryf.ntmps7
  go_wp2
  go_loop [3, 8] (fun t i => ∃ (k : Nat) (s : Int), k ≤ n ∧ i = .int .i64 k ∧ t = .int .i64 s ∧ 0 ≤ s ∧ s ≤ 9223372036854775807 ∧ Hid (tot s (zs.drop k) = some T)) (fun _ i => n - (intOf i).toNat)
  case atStart => exact ⟨0, 0, Nat.zero_le _, rfl, rfl, by omega, by omega, HT⟩
  case round =>
    obtain ⟨k, s, hk, rfl, rfl, hs0, hs1, HS⟩ := hrel
    by_cases hlt : k < n
    · have hck := hc k hlt
      obtain ⟨q1, q2, q3⟩ := tot_next (by rw [← HN.out]; exact hlt) HS.out
      have Q3 : Hid _ := q3
      clear q3
      go_wp2
      go_round
      case rel => exact ⟨k + 1, s + zs[k]?.getD 0, by omega, by go_num, by go_num, by omega, by omega, Q3⟩
      case measure => simp [intOf]; omega
    · have e : some s = some T := (tot_end s zs k (by rw [← HN.out]; omega)).symm.trans HS.out
      have e' : s = T := Option.some.inj e
      subst e'
      clear e
      go_wp2_with (go_at_call 10; refine (super_any _ _ (by omega) (by omega)).mono ?_; rintro e w' ⟨rfl, rfl⟩)
      go_ret
      exact ⟨rfl, rfl⟩

/-! ### The same at a length under a name of its own, one contract a way -/
theorem total_some (b n cap : Nat) (zs : List Int) (st T : Int) (w : World) (hn : zs.length = n) (h0 : 0 ≤ st) (h1 : st ≤ 9223372036854775807) (hl : n ≤ 1048576) (hT : tot st zs = some T)
    (hc : ∀ i, i < n → w.cell? ⟨b, i, none⟩ = some (.int .i64 (zs[i]?.getD 0))) :
    Calls Tryf.prog 6 #[.slice (some ⟨b, 0, none⟩) n cap, .int .i64 st] w fun e w' => e = .returned (.tuple #[.int .i64 T, .bool true]) ∧ w' = w := by
  subst hn
  refine (total_any b cap zs st w h0 h1 hl hc).mono ?_
  rintro e w' ⟨rfl, rfl⟩
  rw [hT]; exact ⟨rfl, rfl⟩

theorem total_none (b n cap : Nat) (zs : List Int) (st : Int) (w : World) (hn : zs.length = n) (h0 : 0 ≤ st) (h1 : st ≤ 9223372036854775807) (hl : n ≤ 1048576) (hT : tot st zs = none)
    (hc : ∀ i, i < n → w.cell? ⟨b, i, none⟩ = some (.int .i64 (zs[i]?.getD 0))) :
    Calls Tryf.prog 6 #[.slice (some ⟨b, 0, none⟩) n cap, .int .i64 st] w fun e w' => e = .returned (.tuple #[.int .i64 0, .bool false]) ∧ w' = w := by
  subst hn
  refine (total_any b cap zs st w h0 h1 hl hc).mono ?_
  rintro e w' ⟨rfl, rfl⟩
  rw [hT]; exact ⟨rfl, rfl⟩

theorem weighted_at (b n cap : Nat) (zs : List Int) (T : Int) (w : World) (hn : zs.length = n) (hl : n ≤ 1048576) (hp : 1 ≤ n) (hT : tot 0 zs = some T)
    (hc : ∀ i, i < n → w.cell? ⟨b, i, none⟩ = some (.int .i64 (zs[i]?.getD 0))) :
    Calls Tryf.prog 7 #[.slice (some ⟨b, 0, none⟩) n cap] w fun e w' => e = .returned (.int .i64 (T - (T - 1) / 3)) ∧ w' = w := by
  subst hn
  exact weighted_any b cap zs T w hl hp hT hc

end Go.Proofs.Qxb6628655aFmt
