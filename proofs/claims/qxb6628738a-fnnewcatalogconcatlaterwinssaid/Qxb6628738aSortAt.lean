/-
  slices.Sort and slices.Compact at a row that the call owns, in the walk's words.
-/
import Derived.Test.Qxb6628738aShelf
import Derived.Test.Qxb6628738aSorted
import Derived.Sort.OwnSorted
import Derived.WalkKit
namespace Go.Proofs.Qxb6628738a
open Go.RowKit Go.Sort
open Sorted

theorem sort_at (base g n cap : Nat) (ss : List Str) (w : World) (hn : ss.length = n) (hl : n ≤ 1048576) (hown : w.ownsRow base 9 1 (.slice (some ⟨g, 0, none⟩) n cap) n (ss.map encStr)) :
    Calls Try.prog 18 #[.slice (some ⟨g, 0, none⟩) n cap] w fun e w' => e = .returned (.tuple #[]) ∧ w'.ownsRow base 9 1 (.slice (some ⟨g, 0, none⟩) n cap) n ((ss.mergeSort fun x y => decide (x ≤ y)).map encStr) ∧ w.grownBy w' (some g) := by
  subst hn
  rcases hown.2 with ⟨h, _⟩ | ⟨g', cp, cur, hv, hbase, hb, h1, h2, h3, h4⟩
  · cases h
  · simp only [Value.slice.injEq, Option.some.injEq, Addr.mk.injEq, true_and, and_true] at hv
    obtain ⟨rfl, rfl⟩ := hv
    have hH : Holds encStr w g 0 ss.toArray := holds_of_block hb (by simpa using h4)
    refine (Try.slices_Sort_string g 0 cap ss w hH (Array.getElem?_eq_some_iff.1 hb).1 (by omega)).mono ?_
    rintro e w' ⟨rfl, m, os, rfl⟩
    exact ⟨rfl, ownsRow_sorted (by simp) hbase hb h1 h2 h3, grownBy_sorted _⟩

theorem compact_at (base g n cap : Nat) (ts : List Str) (w : World) (hn : ts.length = n) (hl : n ≤ 1048576) (hown : w.ownsRow base 9 1 (.slice (some ⟨g, 0, none⟩) n cap) n (ts.map encStr)) :
    Calls Try.prog 19 #[.slice (some ⟨g, 0, none⟩) n cap] w fun e w' => e = .returned (.slice (some ⟨g, 0, none⟩) (Lib.compact ts).length cap) ∧ (∀ i, (h : i < (Lib.compact ts).length) → w'.cell? ⟨g, i, none⟩ = some (encStr (Lib.compact ts)[i])) ∧ w.grownBy w' (some g) := by
  subst hn
  rcases hown.2 with ⟨h, _⟩ | ⟨g', cp, cur, hv, hbase, hb, h1, h2, h3, h4⟩
  · cases h
  · simp only [Value.slice.injEq, Option.some.injEq, Addr.mk.injEq, true_and, and_true] at hv
    obtain ⟨rfl, rfl⟩ := hv
    have hH : Holds encStr w g 0 ts.toArray := holds_of_block hb (by simpa using h4)
    have hle : (Lib.compact ts).length ≤ ts.length := by
      unfold Lib.compact Lib.compactUpTo
      rw [List.length_map]
      have := List.length_filter_le (Lib.keeps ts.toArray) (List.range ts.length)
      simpa using this
    refine (Try.slices_Compact_string g 0 cap ts w hH (by omega) h1).mono ?_
    rintro e w' ⟨rfl, q, rfl⟩
    refine ⟨rfl, fun i hi => ?_, ?_⟩
    · have hh := holds_putRow encStr (Sort.ahead w q) g 0 ts.toArray (Lib.compact ts ++ List.replicate (ts.length - (Lib.compact ts).length) []).toArray hH (by simp; omega)
      have := (hh i (by simp; omega)).1
      rw [Nat.zero_add] at this
      rw [this]
      congr 2
      rw [getElem!_pos _ i (by simp; omega)]
      simp [List.getElem_append_left hi]
    · have := grownBy_sorted (w := w) (g := g) (n := q) (os := #[]) (Lib.compact ts ++ List.replicate (ts.length - (Lib.compact ts).length) []).toArray
      simpa using this

end Go.Proofs.Qxb6628738a
