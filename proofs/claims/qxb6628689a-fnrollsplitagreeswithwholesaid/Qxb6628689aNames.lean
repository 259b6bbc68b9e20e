/-
  zzAddName (11): the names, each once, and each one's place.
-/
import Derived.Test.Qxb6628689aHelp
import Derived.Maps.AppendAt
namespace Go.Proofs.Qxb6628689a
open Go.RowKit
open Go.Maps (Keyed)

instance lawB : LawfulBEq ByteArray where
  eq_of_beq {a b} h := by
    have h' : (a.data == b.data) = true := h
    have := eq_of_beq h'
    cases a; cases b; simp_all
  rfl {a} := by
    show (a.data == a.data) = true
    simp

def addU (U : List ByteArray) (k : ByteArray) : List ByteArray := if k ∈ U then U else U ++ [k]
def idxM (U : List ByteArray) (k : ByteArray) : Option Value := if k ∈ U then some (.int .i64 (U.idxOf k : Nat)) else none
theorem addU_nodup {U : List ByteArray} {k : ByteArray} (h : U.Nodup) : (addU U k).Nodup := by
  unfold addU
  split
  · exact h
  · rename_i hk
    rw [List.nodup_append]
    refine ⟨h, by simp, fun a ha b hb => ?_⟩
    simp at hb
    subst hb
    exact fun e => hk (e ▸ ha)
theorem mem_addU {U : List ByteArray} {k x : ByteArray} : x ∈ addU U k ↔ x ∈ U ∨ x = k := by
  unfold addU
  split
  · rename_i hk
    constructor
    · exact Or.inl
    · rintro (h | rfl)
      · exact h
      · exact hk
  · simp
theorem addU_length (U : List ByteArray) (k : ByteArray) : (addU U k).length ≤ U.length + 1 := by
  unfold addU
  split <;> simp
theorem idxM_snoc {U : List ByteArray} {k : ByteArray} (hk : k ∉ U) : put (idxM U) k (.int .i64 (U.length : Nat)) = idxM (U ++ [k]) := by
  funext y
  unfold put idxM
  by_cases e : y = k
  · subst e
    rw [if_pos rfl, if_pos (by simp), List.idxOf_append, if_neg hk]
    simp
  · rw [if_neg e]
    by_cases hy : y ∈ U
    · rw [if_pos hy, if_pos (by simp [hy]), List.idxOf_append, if_pos hy]
    · rw [if_neg hy, if_neg (by simp [hy, e])]

structure Names (w : World) (mi : Nat) (v : Value) (U : List ByteArray) : Prop where
  nd : U.Nodup
  map : MapIs Try.prog w 9 Value.string mi U.length (idxM U) U.length
  row : w.ownsRow (mi + 1) 9 1 v U.length (U.map Value.string)

theorem Names.start {w : World} {mi : Nat} (h : MapIs Try.prog w 9 Value.string mi 0 (fun _ => none) 0) : Names w mi (.slice none 0 0) [] :=
  ⟨List.nodup_nil, by have e : idxM [] = fun _ => none := by { funext y; simp [idxM] }
                      rw [e]; exact h, ⟨rfl, Or.inl ⟨rfl, rfl⟩⟩⟩
theorem Names.below {w w' : World} {mi : Nat} {v : Value} {U : List ByteArray} (h : Names w mi v U) (hb : Below w.heap.size w w') : Names w' mi v U := by
  refine ⟨h.nd, h.map.of_block (hb.block mi h.map.lt), h.row.1, ?_⟩
  rcases h.row.2 with h | ⟨g, cap, cur, h1, h2, h3, r⟩
  · exact Or.inl h
  · exact Or.inr ⟨g, cap, cur, h1, h2, (hb.block g (lt_of_heap h3)).trans h3, r⟩
theorem Names.rowOf {w : World} {mi : Nat} {v : Value} {U : List ByteArray} (h : Names w mi v U) : RowOf w 9 v U.length (fun i => .string (nm U i)) := by
  rcases h.row with ⟨_, ⟨rfl, h0⟩ | ⟨g, cap, cur, rfl, h2, h3, h4, h5, h6, h7⟩⟩
  · exact ⟨none, 0, by rw [h0], by omega, fun h => by omega⟩
  · refine ⟨_, cap, rfl, by omega, fun _ => ⟨g, cur, rfl, h3, fun i hi => ?_⟩⟩
    have e : (cur.toList.take (U.length * 1))[i]? = some (.string (nm U i)) := by
      rw [h7, List.getElem?_map, List.getElem?_eq_getElem hi]
      simp [nm, hi]
    rw [List.getElem?_take, if_pos (by omega)] at e
    simpa using e

theorem zero3 (w : World) : (zeroValue 3).run Try.prog w = .ok (.int .i64 0) w := by kernel_rfl
theorem info9 : (Try.prog.info? 9).map (fun i => (i.zero, i.size, i.bytes)) = some (some (.string ⟨#[]⟩), 1, 16) := by kernel_rfl

set_option maxRecDepth 100000 in
set_option maxHeartbeats 800000 in
theorem add11 (k : ByteArray) (U : List ByteArray) (mi : Nat) (v : Value) (w : World) (hk : k.size ≤ 1048576) (hl : U.length ≤ 2097152) (h : Names w mi v U) :
    Calls Try.prog 11 #[.map (some mi), v, .string k] w fun e w' => ∃ v', e = .returned v' ∧ Names w' mi v' (addU U k) ∧ Below mi w w' := by
  have hkey := str_key k (by unfold maxLen; omega)
  have hlk := h.map.look_ok lawS Try.underlying31 (zero3 _) hkey
  obtain ⟨a, cap, e, _⟩ := h.rowOf
  subst e
  by_cases hm : k ∈ U
  · have hI : idxM U k = some (.int .i64 (U.idxOf k : Nat)) := if_pos hm
    have hA : addU U k = U := if_pos hm
    rw [hI] at hlk
    rw [hA]
    have H := hid h
    clear h hkey hI hA hm
    go_enter Try.func11, Try.ntmps11
    go_wp2
    go_ret
    exact ⟨_, rfl, H.out, Below.refl _ _⟩
  · have hI : idxM U k = none := if_neg hm
    have hA : addU U k = U ++ [k] := if_neg hm
    obtain ⟨w1, hst, hm1, ht1⟩ := h.map.store lawS str_inj Try.underlying31 (by unfold maxLen; omega) (.int .i64 (U.length : Nat)) hkey
    rw [hI, idxM_snoc hm] at hm1
    rw [hI] at hlk
    rw [hA]
    obtain ⟨i0, hi, hz0, hz1, hz2⟩ : ∃ i, Try.prog.info? 9 = some i ∧ i.zero = some (.string ⟨#[]⟩) ∧ i.size = 1 ∧ i.bytes = 16 := by
      cases hq : Try.prog.info? 9 with
      | none => have := info9; rw [hq] at this; cases this
      | some i =>
        have := info9
        rw [hq] at this
        simp only [Option.map_some, Option.some.injEq, Prod.mk.injEq] at this
        exact ⟨i, rfl, this⟩
    have hrow1 : w1.ownsRow (mi + 1) 9 1 (.slice a U.length cap) U.length (U.map Value.string) := by
      refine ⟨h.row.1, ?_⟩
      rcases h.row.2 with h | ⟨g, cap, cur, h1, h2, h3, r⟩
      · exact Or.inl h
      · exact Or.inr ⟨g, cap, cur, h1, h2, (turned_other ht1 (by omega)).trans h3, r⟩
    have hs1 : w1.heap.size = w.heap.size := by
      obtain ⟨es, cl, es', cl', _, e⟩ := ht1
      rw [e]; simp [ChangeMaps.setBlock]
    have HR := hid hrow1
    have HM := hid hm1
    have HT := hid ht1
    have H := hid h
    have HS := hid hs1
    have HI := hid hi
    have HZ := hid (And.intro hz0 (And.intro hz1 hz2))
    have HNM := hid hm
    have hml := h.map.lt
    have hb1 : Below mi w w1 := (But.of_turned ht1).below (by omega) (fun k e => by omega)
    have HB1 := hid hb1
    clear h hkey hI hA hm hrow1 hm1 ht1 hs1 hi hz0 hz1 hz2 hb1
    go_enter Try.func11, Try.ntmps11
    go_wp2_with (at_builtin; refine wpList_append_own_at _ rfl _ _ 22 rfl (mi + 1) 9 i0 (.string ⟨#[]⟩) 1 16 Try.underlying22 HI.out HZ.out.1 HZ.out.2.1 HZ.out.2.2 rfl (by decide) _ _ _ rfl (HR.out.alloc _) ⟨w1.heap.size, 0, none⟩ 1 1 [.string k] rfl rfl ?c1 ?c2 ?c3 ?c4 ?c5 ?_)
    case c2 => first | rfl | (intro u hu; simp at hu; subst hu; rfl)
    case c3 => unfold maxLen; omega
    case c4 => omega
    case c5 => have := HS.out; simp; omega
    intro v' w2 hown' hgrow _ hblk
    have hmw : mi < w1.heap.size := by have := HS.out; omega
    have hvb : ∀ b, (Value.slice a U.length cap).ownBlock = some b → mi + 1 ≤ b := fun b e => by
      rcases HR.out.2 with ⟨h, _⟩ | ⟨g, cp, cur, h, hbg, _⟩
      · rw [h] at e; cases e
      · rw [h] at e; simp only [Value.ownBlock, Option.some.injEq] at e; omega
    have hbl2 : ∀ q, q ≤ mi → w2.heap[q]? = w1.heap[q]? := fun q hq => by
      rw [hgrow.block q (by simp; omega) (fun e => by have := hvb q e.symm; omega)]
      exact Below.heap_alloc _ _ _ (by omega)
    have hN : Names w2 mi v' (U ++ [k]) := by
      refine ⟨?_, ?_, ?_⟩
      · have := addU_nodup (k := k) H.out.nd
        rwa [addU, if_neg HNM.out] at this
      · have := HM.out.of_block (hbl2 mi (Nat.le_refl _))
        simpa using this
      · have := hown'
        simpa using this
    have hb2 : Below mi w w2 := HB1.out.trans ⟨hgrow.os, hgrow.tape, hgrow.output, Nat.le_trans (by simp) hgrow.size, fun q hq => hbl2 q (by omega)⟩
    have HN := hid hN
    have HB2 := hid hb2
    clear hown' hgrow hblk hvb hbl2 hN hb2 hlk hst
    go_wp2
    go_ret
    exact ⟨_, rfl, HN.out, HB2.out⟩
end Go.Proofs.Qxb6628689a
