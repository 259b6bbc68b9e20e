/-
  PLAIN FACTS on the catalog's map, and on the equality of keys.
-/
import Derived.Test.Qxb6628738aNew
import Derived.Lib.Strings
namespace Go.Proofs.Qxb6628738a
open Go.RowKit
open Sorted

theorem toList_inj {a b : ByteArray} : a.toList = b.toList ↔ a = b := by
  rw [ByteArray.toList_eq, ByteArray.toList_eq]
  constructor
  · intro h; apply ByteArray.ext; exact Array.toList_inj.1 h
  · intro h; rw [h]
theorem toList_beq (a b : ByteArray) : (a.toList == b.toList) = decide (a = b) := by
  rw [Bool.eq_iff_iff]; simp [toList_inj]

theorem sameK_iff {v1 a1 v2 a2 : ByteArray} : sameK v1 a1 v2 a2 = true ↔ v1 = v2 ∧ a1 = a2 := by
  simp [sameK, toList_inj]

variable {g : Nat} {V A : Nat → ByteArray}

theorem catM_isSome (x : ByteArray × ByteArray) : ∀ m, (catM g V A m x).isSome = true ↔ ∃ j, j < m ∧ (V j, A j) = x
  | 0 => by simp [catM]
  | m + 1 => by
    unfold catM put
    by_cases h : x = (V m, A m)
    · rw [if_pos h]; simp only [Option.isSome_some, true_iff]; exact ⟨m, by omega, h.symm⟩
    · rw [if_neg h, catM_isSome x m]
      constructor
      · rintro ⟨j, hj, e⟩; exact ⟨j, by omega, e⟩
      · rintro ⟨j, hj, e⟩
        refine ⟨j, ?_, e⟩
        rcases Nat.lt_or_ge j m with h' | h'
        · exact h'
        · obtain rfl : j = m := by omega
          exact absurd e.symm h

theorem catM_last (l : Nat) : ∀ m, l < m → (∀ t, l < t → t < m → (V t, A t) ≠ (V l, A l)) → catM g V A m (V l, A l) = some (.pointer (some ⟨g, l * 10, none⟩))
  | 0, h, _ => by omega
  | m + 1, h, hn => by
    unfold catM put
    by_cases e : l = m
    · subst e; rw [if_pos rfl]
    · rw [if_neg (fun e' => hn m (by omega) (by omega) e'.symm)]
      exact catM_last l m (by omega) (fun t h1 h2 => hn t h1 (by omega))

theorem catN_le : ∀ m, catN g V A m ≤ m
  | 0 => Nat.le_refl _
  | m + 1 => by
    have := catN_le m
    unfold catN; split <;> omega

theorem catN_first {m : Nat} (h : ∀ j, j < m → (V j, A j) ≠ (V m, A m)) : catN g V A (m + 1) = catN g V A m + 1 := by
  have : (catM g V A m (V m, A m)).isSome = false := by
    cases hs : (catM g V A m (V m, A m)).isSome
    · rfl
    · obtain ⟨j, hj, e⟩ := (catM_isSome _ m).1 hs
      exact absurd e (h j hj)
  simp [catN, this]

theorem catN_again {m j : Nat} (hj : j < m) (h : (V j, A j) = (V m, A m)) : catN g V A (m + 1) = catN g V A m := by
  have : (catM g V A m (V m, A m)).isSome = true := (catM_isSome _ m).2 ⟨j, hj, h⟩
  simp [catN, this]

theorem mem_archs {n : Nat} {x : Str} : x ∈ archs A n ↔ ∃ i, i < n ∧ x = (A i).data.toList := by
  simp only [archs, List.mem_map, List.mem_range]
  constructor
  · rintro ⟨i, h, rfl⟩; exact ⟨i, h, rfl⟩
  · rintro ⟨i, h, rfl⟩; exact ⟨i, h, rfl⟩

theorem encStr_data (s : ByteArray) : encStr s.data.toList = .string s := by
  show Value.string _ = _
  congr 1

/-- the architectures' strings by index -/
def strAt (us : List Str) (i : Nat) : ByteArray := ⟨(us.getD i []).toArray⟩
theorem strAt_toList (us : List Str) (i : Nat) (h : i < us.length) : (strAt us i).toList = us[i] := by
  rw [ByteArray.toList_eq]; simp [strAt, List.getD, h]

theorem arch_at {n i : Nat} (hi : i < n) : ∃ j, j < (uniq (archs A n)).length ∧ strAt (uniq (archs A n)) j = A i := by
  have hm : (A i).data.toList ∈ uniq (archs A n) := ((uniq_spec _).2 _).2 (mem_archs.2 ⟨i, hi, rfl⟩)
  obtain ⟨j, hj, e⟩ := List.getElem_of_mem hm
  refine ⟨j, hj, ?_⟩
  apply toList_inj.1
  rw [strAt_toList _ _ hj, e, ByteArray.toList_eq]

theorem arch_of {n j : Nat} (hj : j < (uniq (archs A n)).length) : ∃ i, i < n ∧ A i = strAt (uniq (archs A n)) j := by
  have hm : (uniq (archs A n))[j] ∈ archs A n := ((uniq_spec _).2 _).1 (List.getElem_mem hj)
  obtain ⟨i, hi, e⟩ := mem_archs.1 hm
  refine ⟨i, hi, ?_⟩
  apply toList_inj.1
  rw [strAt_toList _ _ hj, e, ByteArray.toList_eq]

/-- the model's '<' on strings is the lists' own -/
theorem less_eq : ∀ (x y : Str), Op.bytesLess x y = decide (x < y)
  | [], [] => by simp [Op.bytesLess]
  | _ :: _, [] => by simp [Op.bytesLess]
  | [], _ :: _ => by simp [Op.bytesLess]
  | a :: r, b :: s => by
    have ih := less_eq r s
    unfold Op.bytesLess
    rw [Bool.eq_iff_iff, decide_eq_true_iff, List.cons_lt_cons_iff]
    by_cases h : a < b
    · simp [h]
    · by_cases h2 : a = b
      · subst h2; simp [ih]
      · simp [h, h2]

theorem arch_lt {n j : Nat} (hj : j + 1 < (uniq (archs A n)).length) : Op.bytesLess (strAt (uniq (archs A n)) j).toList (strAt (uniq (archs A n)) (j + 1)).toList = true := by
  rw [less_eq, strAt_toList _ _ (by omega), strAt_toList _ _ hj]
  have := List.pairwise_iff_getElem.1 (uniq_spec (archs A n)).1 j (j + 1) (by omega) hj (by omega)
  simpa using this

theorem ArchIs.cells {w : World} {sl : Value} {us : List Str} (h : ArchIs w sl us) : ∃ (a0 : Option Addr) (b cap : Nat), sl = .slice a0 us.length cap ∧ (0 < us.length → a0 = some ⟨b, 0, none⟩) ∧ ∀ i, i < us.length → w.cell? ⟨b, i, none⟩ = some (.string (strAt us i)) := by
  obtain ⟨a0, b, cap, h1, h2, h3⟩ := h
  refine ⟨a0, b, cap, h1, h2, fun i hi => ?_⟩
  rw [h3 i hi]
  simp [strAt, List.getD, hi]

theorem uniq_length_le (n : Nat) : (uniq (archs A n)).length ≤ n := by
  unfold uniq Lib.compact Lib.compactUpTo
  rw [List.length_map]
  have := List.length_filter_le (Lib.keeps ((archs A n).mergeSort fun x y => decide (x ≤ y)).toArray) (List.range ((archs A n).mergeSort fun x y => decide (x ≤ y)).length)
  simpa [archs_length] using this

end Go.Proofs.Qxb6628738a
