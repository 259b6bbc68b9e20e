/-
  zzMergeSet: two strictly rising lists, merged.
-/
import Derived.Test.Qxb6628738aPlain
import Derived.Deep.QuietTactic
import Derived.BigQuiet
import Derived.WalkSmall
namespace Go.Proofs.Qxb6628738a
open Go.RowKit
open Sorted

theorem lt_of_cell' {w : World} {a : Addr} {v : Value} (h : w.cell? a = some v) : a.block < w.heap.size := by
  rcases Nat.lt_or_ge a.block w.heap.size with h' | h'
  · exact h'
  · simp [World.cell?, Array.getElem?_eq_none h'] at h

/-- the merge as far as i, j -/
def MInv (us vs : List Str) (i j : Nat) (ws : List Str) : Prop :=
  ws.Pairwise (· < ·) ∧ (∀ x, x ∈ ws ↔ (∃ k, ∃ _ : k < us.length, k < i ∧ us[k] = x) ∨ (∃ k, ∃ _ : k < vs.length, k < j ∧ vs[k] = x)) ∧
    (∀ x ∈ ws, ∀ k (_ : k < us.length), i ≤ k → x ≤ us[k]) ∧ (∀ x ∈ ws, ∀ k (_ : k < vs.length), j ≤ k → x ≤ vs[k])

theorem MInv.start (us vs : List Str) : MInv us vs 0 0 [] := ⟨by simp, fun x => by simp, by simp, by simp⟩
theorem MInv.symm {us vs ws : List Str} {i j : Nat} (h : MInv us vs i j ws) : MInv vs us j i ws := ⟨h.1, fun x => (h.2.1 x).trans or_comm, h.2.2.2, h.2.2.1⟩
theorem le_of_lt' {a b : Str} (h : a < b) : a ≤ b := List.le_iff_lt_or_eq.2 (Or.inl h)

theorem last_max {ws : List Str} (h : ws.Pairwise (· < ·)) {x : Str} (hx : x ∈ ws) {n : Nat} (hn : ws.length = n + 1) : x ≤ ws[n] := by
  obtain ⟨k, hk, rfl⟩ := List.getElem_of_mem hx
  by_cases e : k = n
  · subst e; exact le_refl' _
  · exact le_of_lt' (List.pairwise_iff_getElem.1 h k n hk (by omega) (by omega))

theorem mem_step {us vs ws : List Str} {i j : Nat} (h : MInv us vs i j ws) (hi : i < us.length) (x : Str) : x ∈ ws ∨ x = us[i] ↔ (∃ k, ∃ _ : k < us.length, k < i + 1 ∧ us[k] = x) ∨ (∃ k, ∃ _ : k < vs.length, k < j ∧ vs[k] = x) := by
  rw [h.2.1]
  constructor
  · rintro ((⟨k, hk, h1, h2⟩ | h') | rfl)
    · exact Or.inl ⟨k, hk, by omega, h2⟩
    · exact Or.inr h'
    · exact Or.inl ⟨i, hi, by omega, rfl⟩
  · rintro (⟨k, hk, h1, rfl⟩ | h')
    · by_cases e : k = i
      · subst e; exact Or.inr rfl
      · exact Or.inl (Or.inl ⟨k, hk, by omega, rfl⟩)
    · exact Or.inl (Or.inr h')

theorem MInv.push {us vs ws : List Str} {i j : Nat} (h : MInv us vs i j ws) (hu : us.Pairwise (· < ·)) (hi : i < us.length) (hle : ∀ k (_ : k < vs.length), j ≤ k → us[i] ≤ vs[k]) (hlast : ∀ n, (e : ws.length = n + 1) → ws[n] ≠ us[i]) : MInv us vs (i + 1) j (ws ++ [us[i]]) := by
  refine ⟨List.pairwise_append.2 ⟨h.1, by simp, fun x hx y hy => ?_⟩, fun x => ?_, fun x hx k hk hik => ?_, fun x hx k hk hjk => ?_⟩
  · simp only [List.mem_singleton] at hy
    subst hy
    obtain ⟨n, hn⟩ : ∃ n, ws.length = n + 1 := ⟨ws.length - 1, by have := List.length_pos_of_mem hx; omega⟩
    have h1 := last_max h.1 hx hn
    have h2 := h.2.2.1 ws[n] (List.getElem_mem _) i hi (Nat.le_refl _)
    exact lt_of_le_of_lt' h1 (lt_of_le_of_ne' h2 (hlast n hn))
  · rw [List.mem_append, List.mem_singleton]; exact mem_step h hi x
  · rcases List.mem_append.1 hx with hx | hx
    · exact h.2.2.1 x hx k hk (by omega)
    · simp only [List.mem_singleton] at hx
      subst hx
      exact le_of_lt' (List.pairwise_iff_getElem.1 hu i k hi hk (by omega))
  · rcases List.mem_append.1 hx with hx | hx
    · exact h.2.2.2 x hx k hk hjk
    · simp only [List.mem_singleton] at hx
      subst hx
      exact hle k hk hjk

theorem MInv.skip {us vs ws : List Str} {i j n : Nat} (h : MInv us vs i j ws) (hi : i < us.length) (e : ws.length = n + 1) (hlast : ws[n] = us[i]) : MInv us vs (i + 1) j ws := by
  refine ⟨h.1, fun x => ?_, fun x hx k hk hik => h.2.2.1 x hx k hk (by omega), h.2.2.2⟩
  rw [← mem_step h hi x]
  constructor
  · exact Or.inl
  · rintro (h' | rfl)
    · exact h'
    · rw [← hlast]; exact List.getElem_mem _

/-- the smaller head is below all that follows -/
theorem head_le {vs : List Str} (hv : vs.Pairwise (· < ·)) {s : Str} {j : Nat} (h : ∀ h : j < vs.length, s ≤ vs[j]) : ∀ k (_ : k < vs.length), j ≤ k → s ≤ vs[k] := fun k hk hjk => by
  by_cases e : j = k
  · subst e; exact h hk
  · exact le_trans' (h (by omega)) (le_of_lt' (List.pairwise_iff_getElem.1 hv j k (by omega) hk (by omega)))

theorem enc_at {us : List Str} {p : Nat} (h : p < us.length) : encStr us[p] = .string (strAt us p) := by
  show Value.string _ = Value.string _
  congr 1
  simp [strAt, List.getD, h]

theorem at_leq {us vs : List Str} {p q : Nat} (hp : p < us.length) (hq : q < vs.length) (h : (Op.bytesLess (strAt us p).toList (strAt vs q).toList || (strAt us p).toList == (strAt vs q).toList) = true) : us[p] ≤ vs[q] := by
  rw [less_eq, strAt_toList _ _ hp, strAt_toList _ _ hq] at h
  simp only [Bool.or_eq_true, decide_eq_true_eq, beq_iff_eq] at h
  rcases h with h | h
  · exact le_of_lt' h
  · rw [h]; exact le_refl' _
theorem at_gtr {us vs : List Str} {p q : Nat} (hp : p < us.length) (hq : q < vs.length) (h : (Op.bytesLess (strAt us p).toList (strAt vs q).toList || (strAt us p).toList == (strAt vs q).toList) = false) : vs[q] ≤ us[p] := by
  rw [less_eq, strAt_toList _ _ hp, strAt_toList _ _ hq] at h
  simp only [Bool.or_eq_false_iff, decide_eq_false_iff_not] at h
  exact List.not_lt.1 h.1
theorem at_eq {us vs : List Str} {p q : Nat} (hp : p < us.length) (hq : q < vs.length) : ((strAt us p).toList == (strAt vs q).toList) = decide (us[p] = vs[q]) := by
  rw [strAt_toList _ _ hp, strAt_toList _ _ hq, Bool.eq_iff_iff]; simp

/-- zzMergeSet's answer -/
def Merged (us vs : List Str) (w w' : World) (e : Ending) : Prop := ∃ sl ws, e = .returned sl ∧ MInv us vs us.length vs.length ws ∧ ArchIs w' sl ws ∧ Below w.heap.size w w'

theorem row_cells {w : World} {base g cap : Nat} {ws : List Str} (hown : w.ownsRow base 9 1 (.slice (some ⟨g, 0, none⟩) ws.length cap) ws.length (ws.map encStr)) (i : Nat) (hi : i < ws.length) : w.cell? ⟨g, i, none⟩ = some (.string (strAt ws i)) := by
  rw [hown.cellAt i (by omega), List.getElem?_map, List.getElem?_eq_getElem hi, ← enc_at hi]
  rfl

/-- what the append leaves -/
theorem merge_push {B nq n : Nat} {w wr w1 : World} {v v' : Value} {ws : List Str} {s : Str} {xs : List Value} {o : Obj} (hbase : B ≤ wr.heap.size) (hb : Below B w wr) (hn : n = ws.length + 1) (hs : xs = (ws ++ [s]).map encStr) (hvb : ∀ b, v.ownBlock = some b → B ≤ b) (hown : w1.ownsRow B 9 1 v' n xs) (hg : ((wr.drewN nq).alloc o).grownBy w1 v.ownBlock) :
    w1.ownsRow B 9 1 v' (ws ++ [s]).length ((ws ++ [s]).map encStr) ∧ Below B w w1 := by
  refine ⟨?_, ((below_drewN hb nq).alloc hbase o).grown hg (by simp; omega) hvb⟩
  rw [← hs, List.length_append, List.length_singleton, ← hn]
  exact hown

theorem new_cell (w : World) (nq : Nat) (v : Value) : ((w.drewN nq).alloc (.cells #[v] 9)).cell? ((⟨(w.drewN nq).heap.size, 0, none⟩ : Addr).add 0) = some v := by
  generalize w.drewN nq = u
  simp [Addr.add]
theorem last_ne {ws : List Str} {s : Str} {n : Nat} (hn : ws.length = n + 1) (h : ¬ ws[n] = s) : ∀ n', (e : ws.length = n' + 1) → ws[n'] ≠ s := by
  intro n' e
  obtain rfl : n = n' := by omega
  exact h

theorem row_parts {w : World} {B : Nat} {v : Value} {n : Nat} {xs : List Value} (h : w.ownsRow B 9 1 v n xs) : (v = .slice none 0 0 ∧ n = 0) ∨ ∃ g cp, v = .slice (some ⟨g, 0, none⟩) n cp ∧ B ≤ g ∧ n ≤ cp ∧ cp ≤ maxLen := by
  rcases h.2 with ⟨h1, h2⟩ | ⟨g, cp, cur, h1, h2, _, h3, h4, _⟩
  · exact Or.inl ⟨h1, h2⟩
  · exact Or.inr ⟨g, cp, h1, h2, h3, h4⟩
theorem ownsRow_drewN {w : World} {B : Nat} {v : Value} {n : Nat} {xs : List Value} (h : w.ownsRow B 9 1 v n xs) (k : Nat) : (w.drewN k).ownsRow B 9 1 v n xs := h

theorem arch_of_row {w : World} {B : Nat} {v : Value} {ws : List Str} (h : w.ownsRow B 9 1 v ws.length (ws.map encStr)) : ArchIs w v ws := by
  rcases h.2 with ⟨hv, hn⟩ | ⟨g, cp, cur, hv, _⟩
  · exact ⟨none, 0, 0, by rw [hv, hn], fun h => by omega, fun i hi => by omega⟩
  · subst hv
    exact ⟨some ⟨g, 0, none⟩, g, cp, rfl, fun _ => rfl, fun i hi => by rw [row_cells h i hi, enc_at hi]⟩

set_option maxRecDepth 100000 in
set_option maxHeartbeats 6400000 in
theorem merge_any (ax ay : Option Addr) (bx bz cx cy : Nat) (us vs : List Str) (w : World) (hlu : us.length ≤ 8192) (hlv : vs.length ≤ 8192) (hu : us.Pairwise (· < ·)) (hv : vs.Pairwise (· < ·))
    (hax : 0 < us.length → ax = some ⟨bx, 0, none⟩) (hay : 0 < vs.length → ay = some ⟨bz, 0, none⟩)
    (hcx : ∀ i, i < us.length → w.cell? ⟨bx, i, none⟩ = some (.string (strAt us i))) (hcy : ∀ i, i < vs.length → w.cell? ⟨bz, i, none⟩ = some (.string (strAt vs i))) :
    Calls Try.prog 15 #[.slice ax us.length cx, .slice ay vs.length cy] w fun e w' => Merged us vs w w' e := by
  obtain ⟨B, hB⟩ : ∃ B, B = w.heap.size := ⟨_, rfl⟩
  have HX := hid hcx
  have HY := hid hcy
  have HAX := hid hax
  have HAY := hid hay
  have HU := hid hu
  have HV := hid hv
  have HB := hid hB
  obtain ⟨i0, hi, hz0, hz1, hz2⟩ := info_parts Try.info9
  clear hcx hcy hax hay hu hv hB
  go_enter Try.func15, Try.ntmps15
  go_wp2
  go_loopw [5, 6, 7] (fun v i j wr => ∃ (p q : Nat) (ws : List Str), p ≤ us.length ∧ q ≤ vs.length ∧ i = .int .i64 p ∧ j = .int .i64 q ∧ Hid (MInv us vs p q ws) ∧ Hid (wr.ownsRow B 9 1 v ws.length (ws.map encStr)) ∧ ws.length ≤ p + q ∧ Hid (Below B w wr)) (fun _ i j _ => (us.length - (intOf i).toNat) + (vs.length - (intOf j).toNat))
  case atStart => exact ⟨0, 0, [], Nat.zero_le _, Nat.zero_le _, rfl, rfl, MInv.start _ _, World.ownsRow_nil _ _ _ _, Nat.zero_le _, Below.refl _ _⟩
  case round =>
    obtain ⟨p, q, ws, hp, hq, rfl, rfl, HM, HO, hwl, HBl⟩ := hrel
    have hbs : B ≤ wr.heap.size := by have := HBl.out.size; have := HB.out; omega
    by_cases hpl : p < us.length
    · obtain rfl := HAX.out (by omega)
      have c1 := HX.out p hpl
      replace c1 := (HBl.out.cell (p := ⟨bx, p, none⟩) (by rw [HB.out]; exact lt_of_cell' c1)).trans c1
      have hp0 : (0 : Int) ≤ (p : Int) := Int.natCast_nonneg _
      have hp1 : (p : Int) < (us.length : Int) := by omega
      by_cases hql : q < vs.length
      · obtain rfl := HAY.out (by omega)
        have c2 := HY.out q hql
        replace c2 := (HBl.out.cell (p := ⟨bz, q, none⟩) (by rw [HB.out]; exact lt_of_cell' c2)).trans c2
        have hq0 : (0 : Int) ≤ (q : Int) := Int.natCast_nonneg _
        have hq1 : (q : Int) < (vs.length : Int) := by omega
        cases hle0 : (Op.bytesLess (strAt us p).toList (strAt vs q).toList || (strAt us p).toList == (strAt vs q).toList) with
        | true =>
          have hle := hid (head_le HV.out (s := us[p]) (j := q) (fun h => at_leq hpl h hle0))
          obtain ⟨hv0, hn0⟩ | ⟨g, cp, hv0, hbg, hcl, hcm⟩ := row_parts HO.out
          · subst hv0
            rw [hn0] at HO
            have HN := hid hn0
            clear hn0
            have hvb : Hid (∀ b, (Value.slice none 0 0).ownBlock = some b → B ≤ b) := fun b e => by cases e
            go_wp2_with fail
            go_quiet (fail)
            go_wp2_with (at_builtin; refine wpList_append_own_at _ rfl _ _ 30 rfl B 9 i0 (.string ⟨#[]⟩) 1 16 Try.underlying30 hi hz0 hz1 hz2 rfl (by decide) _ _ _ rfl ((ownsRow_drewN HO.out nq).alloc _) ⟨(wr.drewN nq).heap.size, 0, none⟩ 1 1 [.string (strAt us p)] rfl rfl ?c1 ?c2 ?c3 ?c4 ?c5 ?_)
            try any_goals (exfalso; omega)
            case c1 =>
              intro j u hj
              match j, hj with
              | 0, hj => simp at hj; subst hj; exact new_cell wr nq _
            case c2 => intro u hu; simp at hu; subst hu; rfl
            case c3 => have := HN.out; unfold maxLen; omega
            case c4 => have := HN.out; omega
            case c5 => simp; omega
            intro v' w1 hown' hgrow _ _
            have R := merge_push (ws := ws) (s := us[p]) hbs HBl.out (by have := HN.out; omega) (by simp [enc_at hpl]) hvb.out hown' hgrow
            clear hown' hgrow HO
            go_wp2
            go_roundw
            case rel => exact ⟨p + 1, _, ws ++ [us[p]], by omega, by omega, by go_num, rfl, HM.out.push HU.out hpl hle.out (fun n e => by have := HN.out; omega), R.1, by simp; omega, R.2⟩
            case measure => simp [intOf]; omega
          · subst hv0
            have hvb : ∀ m, Hid (∀ b, (Value.slice (some ⟨g, 0, none⟩) m cp).ownBlock = some b → B ≤ b) := fun m b e => by simp only [Value.ownBlock, Option.some.injEq] at e; omega
            by_cases hw0 : ws.length = 0
            · have hvb := hvb 0
              rw [hw0] at HO ⊢
              have HN := hid hw0
              clear hw0
              go_wp2_with fail
              go_quiet (fail)
              go_wp2_with (at_builtin; refine wpList_append_own_at _ rfl _ _ 30 rfl B 9 i0 (.string ⟨#[]⟩) 1 16 Try.underlying30 hi hz0 hz1 hz2 rfl (by decide) _ _ _ rfl ((ownsRow_drewN HO.out nq).alloc _) ⟨(wr.drewN nq).heap.size, 0, none⟩ 1 1 [.string (strAt us p)] rfl rfl ?c1 ?c2 ?c3 ?c4 ?c5 ?_)
              try any_goals (exfalso; omega)
              case c1 =>
                intro j u hj
                match j, hj with
                | 0, hj => simp at hj; subst hj; exact new_cell wr nq _
              case c2 => intro u hu; simp at hu; subst hu; rfl
              case c3 => have := HN.out; unfold maxLen; omega
              case c4 => have := HN.out; omega
              case c5 => simp; omega
              intro v' w1 hown' hgrow _ _
              have R := merge_push (ws := ws) (s := us[p]) hbs HBl.out (by have := HN.out; omega) (by simp [enc_at hpl]) hvb.out hown' hgrow
              clear hown' hgrow HO
              go_wp2
              go_roundw
              case rel => exact ⟨p + 1, _, ws ++ [us[p]], by omega, by omega, by go_num, rfl, HM.out.push HU.out hpl hle.out (fun n e => by have := HN.out; omega), R.1, by simp; omega, R.2⟩
              case measure => simp [intOf]; omega
            · obtain ⟨n, hn⟩ : ∃ n, ws.length = n + 1 := ⟨ws.length - 1, by omega⟩
              have cl := row_cells HO.out n (by omega)
              have he := at_eq (us := ws) (vs := us) (p := n) (by omega) hpl
              have hvb := hvb (n + 1)
              rw [hn] at HO ⊢
              have HN := hid hn
              clear hw0
              by_cases heq : ws[n] = us[p]
              · rw [decide_eq_true heq] at he
                go_wp2_with fail
                go_quiet (fail)
                go_wp2
                go_roundw
                case rel => exact ⟨p + 1, _, ws, by omega, by omega, by go_num, rfl, HM.out.skip hpl HN.out heq, by rw [HN.out]; exact ownsRow_drewN HO.out nq, by omega, below_drewN HBl.out _⟩
                case measure => simp [intOf]; omega
              · rw [decide_eq_false heq] at he
                go_wp2_with fail
                go_quiet (fail)
                go_wp2_with (at_builtin; refine wpList_append_own_at _ rfl _ _ 30 rfl B 9 i0 (.string ⟨#[]⟩) 1 16 Try.underlying30 hi hz0 hz1 hz2 rfl (by decide) _ _ _ rfl ((ownsRow_drewN HO.out nq).alloc _) ⟨(wr.drewN nq).heap.size, 0, none⟩ 1 1 [.string (strAt us p)] rfl rfl ?c1 ?c2 ?c3 ?c4 ?c5 ?_)
                try any_goals (exfalso; omega)
                case c1 =>
                  intro j u hj
                  match j, hj with
                  | 0, hj => simp at hj; subst hj; exact new_cell wr nq _
                case c2 => intro u hu; simp at hu; subst hu; rfl
                case c3 => have := HN.out; unfold maxLen; omega
                case c4 => have := HN.out; omega
                case c5 => simp; omega
                intro v' w1 hown' hgrow _ _
                have R := merge_push (ws := ws) (s := us[p]) hbs HBl.out (by have := HN.out; omega) (by simp [enc_at hpl]) hvb.out hown' hgrow
                clear hown' hgrow HO
                go_wp2
                go_roundw
                case rel => exact ⟨p + 1, _, ws ++ [us[p]], by omega, by omega, by go_num, rfl, HM.out.push HU.out hpl hle.out (last_ne HN.out heq), R.1, by simp; omega, R.2⟩
                case measure => simp [intOf]; omega
        | false =>
          have hle := hid (head_le HU.out (s := vs[q]) (j := p) (fun h => at_gtr h hql hle0))
          obtain ⟨hv0, hn0⟩ | ⟨g, cp, hv0, hbg, hcl, hcm⟩ := row_parts HO.out
          · subst hv0
            rw [hn0] at HO
            have HN := hid hn0
            clear hn0
            have hvb : Hid (∀ b, (Value.slice none 0 0).ownBlock = some b → B ≤ b) := fun b e => by cases e
            go_wp2_with fail
            go_quiet (fail)
            go_wp2_with (at_builtin; refine wpList_append_own_at _ rfl _ _ 30 rfl B 9 i0 (.string ⟨#[]⟩) 1 16 Try.underlying30 hi hz0 hz1 hz2 rfl (by decide) _ _ _ rfl ((ownsRow_drewN HO.out nq).alloc _) ⟨(wr.drewN nq).heap.size, 0, none⟩ 1 1 [.string (strAt vs q)] rfl rfl ?c1 ?c2 ?c3 ?c4 ?c5 ?_)
            try any_goals (exfalso; omega)
            case c1 =>
              intro j u hj
              match j, hj with
              | 0, hj => simp at hj; subst hj; exact new_cell wr nq _
            case c2 => intro u hu; simp at hu; subst hu; rfl
            case c3 => have := HN.out; unfold maxLen; omega
            case c4 => have := HN.out; omega
            case c5 => simp; omega
            intro v' w1 hown' hgrow _ _
            have R := merge_push (ws := ws) (s := vs[q]) hbs HBl.out (by have := HN.out; omega) (by simp [enc_at hql]) hvb.out hown' hgrow
            clear hown' hgrow HO
            go_wp2
            go_roundw
            case rel => exact ⟨_, q + 1, ws ++ [vs[q]], by omega, by omega, rfl, by go_num, (HM.out.symm.push HV.out hql hle.out (fun n e => by have := HN.out; omega)).symm, R.1, by simp; omega, R.2⟩
            case measure => simp [intOf]; omega
          · subst hv0
            have hvb : ∀ m, Hid (∀ b, (Value.slice (some ⟨g, 0, none⟩) m cp).ownBlock = some b → B ≤ b) := fun m b e => by simp only [Value.ownBlock, Option.some.injEq] at e; omega
            by_cases hw0 : ws.length = 0
            · have hvb := hvb 0
              rw [hw0] at HO ⊢
              have HN := hid hw0
              clear hw0
              go_wp2_with fail
              go_quiet (fail)
              go_wp2_with (at_builtin; refine wpList_append_own_at _ rfl _ _ 30 rfl B 9 i0 (.string ⟨#[]⟩) 1 16 Try.underlying30 hi hz0 hz1 hz2 rfl (by decide) _ _ _ rfl ((ownsRow_drewN HO.out nq).alloc _) ⟨(wr.drewN nq).heap.size, 0, none⟩ 1 1 [.string (strAt vs q)] rfl rfl ?c1 ?c2 ?c3 ?c4 ?c5 ?_)
              try any_goals (exfalso; omega)
              case c1 =>
                intro j u hj
                match j, hj with
                | 0, hj => simp at hj; subst hj; exact new_cell wr nq _
              case c2 => intro u hu; simp at hu; subst hu; rfl
              case c3 => have := HN.out; unfold maxLen; omega
              case c4 => have := HN.out; omega
              case c5 => simp; omega
              intro v' w1 hown' hgrow _ _
              have R := merge_push (ws := ws) (s := vs[q]) hbs HBl.out (by have := HN.out; omega) (by simp [enc_at hql]) hvb.out hown' hgrow
              clear hown' hgrow HO
              go_wp2
              go_roundw
              case rel => exact ⟨_, q + 1, ws ++ [vs[q]], by omega, by omega, rfl, by go_num, (HM.out.symm.push HV.out hql hle.out (fun n e => by have := HN.out; omega)).symm, R.1, by simp; omega, R.2⟩
              case measure => simp [intOf]; omega
            · obtain ⟨n, hn⟩ : ∃ n, ws.length = n + 1 := ⟨ws.length - 1, by omega⟩
              have cl := row_cells HO.out n (by omega)
              have he := at_eq (us := ws) (vs := vs) (p := n) (by omega) hql
              have hvb := hvb (n + 1)
              rw [hn] at HO ⊢
              have HN := hid hn
              clear hw0
              by_cases heq : ws[n] = vs[q]
              · rw [decide_eq_true heq] at he
                go_wp2_with fail
                go_quiet (fail)
                go_wp2
                go_roundw
                case rel => exact ⟨_, q + 1, ws, by omega, by omega, rfl, by go_num, (HM.out.symm.skip hql HN.out heq).symm, by rw [HN.out]; exact ownsRow_drewN HO.out nq, by omega, below_drewN HBl.out _⟩
                case measure => simp [intOf]; omega
              · rw [decide_eq_false heq] at he
                go_wp2_with fail
                go_quiet (fail)
                go_wp2_with (at_builtin; refine wpList_append_own_at _ rfl _ _ 30 rfl B 9 i0 (.string ⟨#[]⟩) 1 16 Try.underlying30 hi hz0 hz1 hz2 rfl (by decide) _ _ _ rfl ((ownsRow_drewN HO.out nq).alloc _) ⟨(wr.drewN nq).heap.size, 0, none⟩ 1 1 [.string (strAt vs q)] rfl rfl ?c1 ?c2 ?c3 ?c4 ?c5 ?_)
                try any_goals (exfalso; omega)
                case c1 =>
                  intro j u hj
                  match j, hj with
                  | 0, hj => simp at hj; subst hj; exact new_cell wr nq _
                case c2 => intro u hu; simp at hu; subst hu; rfl
                case c3 => have := HN.out; unfold maxLen; omega
                case c4 => have := HN.out; omega
                case c5 => simp; omega
                intro v' w1 hown' hgrow _ _
                have R := merge_push (ws := ws) (s := vs[q]) hbs HBl.out (by have := HN.out; omega) (by simp [enc_at hql]) hvb.out hown' hgrow
                clear hown' hgrow HO
                go_wp2
                go_roundw
                case rel => exact ⟨_, q + 1, ws ++ [vs[q]], by omega, by omega, rfl, by go_num, (HM.out.symm.push HV.out hql hle.out (last_ne HN.out heq)).symm, R.1, by simp; omega, R.2⟩
                case measure => simp [intOf]; omega
      · have hle := hid (head_le HV.out (s := us[p]) (j := q) (fun h => absurd h hql))
        obtain rfl : q = vs.length := by omega
        clear hql hq
        obtain ⟨hv0, hn0⟩ | ⟨g, cp, hv0, hbg, hcl, hcm⟩ := row_parts HO.out
        · subst hv0
          rw [hn0] at HO
          have HN := hid hn0
          clear hn0
          have hvb : Hid (∀ b, (Value.slice none 0 0).ownBlock = some b → B ≤ b) := fun b e => by cases e
          go_wp2_with fail
          go_quiet (fail)
          go_wp2_with (at_builtin; refine wpList_append_own_at _ rfl _ _ 30 rfl B 9 i0 (.string ⟨#[]⟩) 1 16 Try.underlying30 hi hz0 hz1 hz2 rfl (by decide) _ _ _ rfl ((ownsRow_drewN HO.out nq).alloc _) ⟨(wr.drewN nq).heap.size, 0, none⟩ 1 1 [.string (strAt us p)] rfl rfl ?c1 ?c2 ?c3 ?c4 ?c5 ?_)
          try any_goals (exfalso; omega)
          case c1 =>
            intro j u hj
            match j, hj with
            | 0, hj => simp at hj; subst hj; exact new_cell wr nq _
          case c2 => intro u hu; simp at hu; subst hu; rfl
          case c3 => have := HN.out; unfold maxLen; omega
          case c4 => have := HN.out; omega
          case c5 => simp; omega
          intro v' w1 hown' hgrow _ _
          have R := merge_push (ws := ws) (s := us[p]) hbs HBl.out (by have := HN.out; omega) (by simp [enc_at hpl]) hvb.out hown' hgrow
          clear hown' hgrow HO
          go_wp2
          go_roundw
          case rel => exact ⟨p + 1, _, ws ++ [us[p]], by omega, by omega, by go_num, rfl, HM.out.push HU.out hpl hle.out (fun n e => by have := HN.out; omega), R.1, by simp; omega, R.2⟩
          case measure => simp [intOf]; omega
        · subst hv0
          have hvb : ∀ m, Hid (∀ b, (Value.slice (some ⟨g, 0, none⟩) m cp).ownBlock = some b → B ≤ b) := fun m b e => by simp only [Value.ownBlock, Option.some.injEq] at e; omega
          by_cases hw0 : ws.length = 0
          · have hvb := hvb 0
            rw [hw0] at HO ⊢
            have HN := hid hw0
            clear hw0
            go_wp2_with fail
            go_quiet (fail)
            go_wp2_with (at_builtin; refine wpList_append_own_at _ rfl _ _ 30 rfl B 9 i0 (.string ⟨#[]⟩) 1 16 Try.underlying30 hi hz0 hz1 hz2 rfl (by decide) _ _ _ rfl ((ownsRow_drewN HO.out nq).alloc _) ⟨(wr.drewN nq).heap.size, 0, none⟩ 1 1 [.string (strAt us p)] rfl rfl ?c1 ?c2 ?c3 ?c4 ?c5 ?_)
            try any_goals (exfalso; omega)
            case c1 =>
              intro j u hj
              match j, hj with
              | 0, hj => simp at hj; subst hj; exact new_cell wr nq _
            case c2 => intro u hu; simp at hu; subst hu; rfl
            case c3 => have := HN.out; unfold maxLen; omega
            case c4 => have := HN.out; omega
            case c5 => simp; omega
            intro v' w1 hown' hgrow _ _
            have R := merge_push (ws := ws) (s := us[p]) hbs HBl.out (by have := HN.out; omega) (by simp [enc_at hpl]) hvb.out hown' hgrow
            clear hown' hgrow HO
            go_wp2
            go_roundw
            case rel => exact ⟨p + 1, _, ws ++ [us[p]], by omega, by omega, by go_num, rfl, HM.out.push HU.out hpl hle.out (fun n e => by have := HN.out; omega), R.1, by simp; omega, R.2⟩
            case measure => simp [intOf]; omega
          · obtain ⟨n, hn⟩ : ∃ n, ws.length = n + 1 := ⟨ws.length - 1, by omega⟩
            have cl := row_cells HO.out n (by omega)
            have he := at_eq (us := ws) (vs := us) (p := n) (by omega) hpl
            have hvb := hvb (n + 1)
            rw [hn] at HO ⊢
            have HN := hid hn
            clear hw0
            by_cases heq : ws[n] = us[p]
            · rw [decide_eq_true heq] at he
              go_wp2_with fail
              go_quiet (fail)
              go_wp2
              go_roundw
              case rel => exact ⟨p + 1, _, ws, by omega, by omega, by go_num, rfl, HM.out.skip hpl HN.out heq, by rw [HN.out]; exact ownsRow_drewN HO.out nq, by omega, below_drewN HBl.out _⟩
              case measure => simp [intOf]; omega
            · rw [decide_eq_false heq] at he
              go_wp2_with fail
              go_quiet (fail)
              go_wp2_with (at_builtin; refine wpList_append_own_at _ rfl _ _ 30 rfl B 9 i0 (.string ⟨#[]⟩) 1 16 Try.underlying30 hi hz0 hz1 hz2 rfl (by decide) _ _ _ rfl ((ownsRow_drewN HO.out nq).alloc _) ⟨(wr.drewN nq).heap.size, 0, none⟩ 1 1 [.string (strAt us p)] rfl rfl ?c1 ?c2 ?c3 ?c4 ?c5 ?_)
              try any_goals (exfalso; omega)
              case c1 =>
                intro j u hj
                match j, hj with
                | 0, hj => simp at hj; subst hj; exact new_cell wr nq _
              case c2 => intro u hu; simp at hu; subst hu; rfl
              case c3 => have := HN.out; unfold maxLen; omega
              case c4 => have := HN.out; omega
              case c5 => simp; omega
              intro v' w1 hown' hgrow _ _
              have R := merge_push (ws := ws) (s := us[p]) hbs HBl.out (by have := HN.out; omega) (by simp [enc_at hpl]) hvb.out hown' hgrow
              clear hown' hgrow HO
              go_wp2
              go_roundw
              case rel => exact ⟨p + 1, _, ws ++ [us[p]], by omega, by omega, by go_num, rfl, HM.out.push HU.out hpl hle.out (last_ne HN.out heq), R.1, by simp; omega, R.2⟩
              case measure => simp [intOf]; omega
    · by_cases hql : q < vs.length
      · obtain rfl := HAY.out (by omega)
        have c2 := HY.out q hql
        replace c2 := (HBl.out.cell (p := ⟨bz, q, none⟩) (by rw [HB.out]; exact lt_of_cell' c2)).trans c2
        have hq0 : (0 : Int) ≤ (q : Int) := Int.natCast_nonneg _
        have hq1 : (q : Int) < (vs.length : Int) := by omega
        have hle := hid (head_le HU.out (s := vs[q]) (j := p) (fun h => absurd h hpl))
        have hd3 : ((p : Int) < (us.length : Int)) = False := by simp; omega
        have hd4 : ((vs.length : Int) ≤ (q : Int)) = False := by simp; omega
        clear hpl
        obtain ⟨hv0, hn0⟩ | ⟨g, cp, hv0, hbg, hcl, hcm⟩ := row_parts HO.out
        · subst hv0
          rw [hn0] at HO
          have HN := hid hn0
          clear hn0
          have hvb : Hid (∀ b, (Value.slice none 0 0).ownBlock = some b → B ≤ b) := fun b e => by cases e
          go_wp2_with fail
          go_quiet (fail)
          go_wp2_with (at_builtin; refine wpList_append_own_at _ rfl _ _ 30 rfl B 9 i0 (.string ⟨#[]⟩) 1 16 Try.underlying30 hi hz0 hz1 hz2 rfl (by decide) _ _ _ rfl ((ownsRow_drewN HO.out nq).alloc _) ⟨(wr.drewN nq).heap.size, 0, none⟩ 1 1 [.string (strAt vs q)] rfl rfl ?c1 ?c2 ?c3 ?c4 ?c5 ?_)
          try any_goals (exfalso; omega)
          case c1 =>
            intro j u hj
            match j, hj with
            | 0, hj => simp at hj; subst hj; exact new_cell wr nq _
          case c2 => intro u hu; simp at hu; subst hu; rfl
          case c3 => have := HN.out; unfold maxLen; omega
          case c4 => have := HN.out; omega
          case c5 => simp; omega
          intro v' w1 hown' hgrow _ _
          have R := merge_push (ws := ws) (s := vs[q]) hbs HBl.out (by have := HN.out; omega) (by simp [enc_at hql]) hvb.out hown' hgrow
          clear hown' hgrow HO
          go_wp2
          go_roundw
          case rel => exact ⟨_, q + 1, ws ++ [vs[q]], by omega, by omega, rfl, by go_num, (HM.out.symm.push HV.out hql hle.out (fun n e => by have := HN.out; omega)).symm, R.1, by simp; omega, R.2⟩
          case measure => simp [intOf]; omega
        · subst hv0
          have hvb : ∀ m, Hid (∀ b, (Value.slice (some ⟨g, 0, none⟩) m cp).ownBlock = some b → B ≤ b) := fun m b e => by simp only [Value.ownBlock, Option.some.injEq] at e; omega
          by_cases hw0 : ws.length = 0
          · have hvb := hvb 0
            rw [hw0] at HO ⊢
            have HN := hid hw0
            clear hw0
            go_wp2_with fail
            go_quiet (fail)
            go_wp2_with (at_builtin; refine wpList_append_own_at _ rfl _ _ 30 rfl B 9 i0 (.string ⟨#[]⟩) 1 16 Try.underlying30 hi hz0 hz1 hz2 rfl (by decide) _ _ _ rfl ((ownsRow_drewN HO.out nq).alloc _) ⟨(wr.drewN nq).heap.size, 0, none⟩ 1 1 [.string (strAt vs q)] rfl rfl ?c1 ?c2 ?c3 ?c4 ?c5 ?_)
            try any_goals (exfalso; omega)
            case c1 =>
              intro j u hj
              match j, hj with
              | 0, hj => simp at hj; subst hj; exact new_cell wr nq _
            case c2 => intro u hu; simp at hu; subst hu; rfl
            case c3 => have := HN.out; unfold maxLen; omega
            case c4 => have := HN.out; omega
            case c5 => simp; omega
            intro v' w1 hown' hgrow _ _
            have R := merge_push (ws := ws) (s := vs[q]) hbs HBl.out (by have := HN.out; omega) (by simp [enc_at hql]) hvb.out hown' hgrow
            clear hown' hgrow HO
            go_wp2
            go_roundw
            case rel => exact ⟨_, q + 1, ws ++ [vs[q]], by omega, by omega, rfl, by go_num, (HM.out.symm.push HV.out hql hle.out (fun n e => by have := HN.out; omega)).symm, R.1, by simp; omega, R.2⟩
            case measure => simp [intOf]; omega
          · obtain ⟨n, hn⟩ : ∃ n, ws.length = n + 1 := ⟨ws.length - 1, by omega⟩
            have cl := row_cells HO.out n (by omega)
            have he := at_eq (us := ws) (vs := vs) (p := n) (by omega) hql
            have hvb := hvb (n + 1)
            rw [hn] at HO ⊢
            have HN := hid hn
            clear hw0
            by_cases heq : ws[n] = vs[q]
            · rw [decide_eq_true heq] at he
              go_wp2_with fail
              go_quiet (fail)
              go_wp2
              go_roundw
              case rel => exact ⟨_, q + 1, ws, by omega, by omega, rfl, by go_num, (HM.out.symm.skip hql HN.out heq).symm, by rw [HN.out]; exact ownsRow_drewN HO.out nq, by omega, below_drewN HBl.out _⟩
              case measure => simp [intOf]; omega
            · rw [decide_eq_false heq] at he
              go_wp2_with fail
              go_quiet (fail)
              go_wp2_with (at_builtin; refine wpList_append_own_at _ rfl _ _ 30 rfl B 9 i0 (.string ⟨#[]⟩) 1 16 Try.underlying30 hi hz0 hz1 hz2 rfl (by decide) _ _ _ rfl ((ownsRow_drewN HO.out nq).alloc _) ⟨(wr.drewN nq).heap.size, 0, none⟩ 1 1 [.string (strAt vs q)] rfl rfl ?c1 ?c2 ?c3 ?c4 ?c5 ?_)
              try any_goals (exfalso; omega)
              case c1 =>
                intro j u hj
                match j, hj with
                | 0, hj => simp at hj; subst hj; exact new_cell wr nq _
              case c2 => intro u hu; simp at hu; subst hu; rfl
              case c3 => have := HN.out; unfold maxLen; omega
              case c4 => have := HN.out; omega
              case c5 => simp; omega
              intro v' w1 hown' hgrow _ _
              have R := merge_push (ws := ws) (s := vs[q]) hbs HBl.out (by have := HN.out; omega) (by simp [enc_at hql]) hvb.out hown' hgrow
              clear hown' hgrow HO
              go_wp2
              go_roundw
              case rel => exact ⟨_, q + 1, ws ++ [vs[q]], by omega, by omega, rfl, by go_num, (HM.out.symm.push HV.out hql hle.out (last_ne HN.out heq)).symm, R.1, by simp; omega, R.2⟩
              case measure => simp [intOf]; omega
      · go_wp2
        go_ret
        obtain rfl : p = us.length := by omega
        obtain rfl : q = vs.length := by omega
        exact ⟨_, ws, rfl, HM.out, arch_of_row HO.out, by rw [← HB.out]; exact HBl.out⟩

end Go.Proofs.Qxb6628738a
