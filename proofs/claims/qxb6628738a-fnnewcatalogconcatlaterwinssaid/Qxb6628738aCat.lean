/-
  THE CATALOG's MAP: keys of releaseID (a struct of two strings), elements pointers.
-/
import Derived.Test.Qxb6628738aMaps
import Derived.Test.Qxb6628738aBuild
import Derived.ProofKit
namespace Go.Proofs.Qxb6628738a
open Go.RowKit
open Go.Maps (Keyed)

theorem laidOut : laidOutB Try.prog = true := by kernel_rfl
theorem row52 : 52 < Try.prog.types.size := of_decide_eq_true (by kernel_rfl)
theorem wide52 : (match Try.prog.underlying 52 with | some (.array _ _) | some (.struct _) => true | _ => false) = true := by kernel_rfl
theorem law52 : Keyed Try.prog 52 := Keyed.of_law (deep_law_laid laidOut (m := 2) (by omega) row52 (by kernel_rfl) wide52)

def key (x : ByteArray × ByteArray) : Value := .agg #[.string x.1, .string x.2]
theorem key_inj (x y : ByteArray × ByteArray) (h : key x = key y) : x = y := by
  simp only [key, Value.agg.injEq, Array.mk.injEq, List.cons.injEq, Value.string.injEq, and_true] at h
  exact Prod.ext h.1 h.2

theorem keyType52 : Try.prog.keyType 52 = true := by kernel_rfl
theorem cells52 : Try.prog.cellsOf 52 = 2 := by kernel_rfl
theorem cells9 : Try.prog.cellsOf 9 = 1 := by kernel_rfl

theorem key_is (x : ByteArray × ByteArray) (h1 : x.1.size ≤ maxLen) (h2 : x.2.size ≤ maxLen) : ∃ kl, keyOf Try.prog 52 (key x) = some kl := by
  obtain ⟨d, hd⟩ : ∃ d, Try.prog.types.size = d + 1 := ⟨Try.prog.types.size - 1, by have := row52; omega⟩
  apply Option.isSome_iff_exists.1
  unfold keyOf
  rw [Try.underlying52]
  simp only [keyType52, Bool.true_and]
  rw [if_pos (by simp [key, Value.formed, Try.underlying52, cells52])]
  rw [hd]
  simp only [Program.keyLits]
  rw [Try.underlying52]
  simp [key, Value.cells, cells52, cells9, h1, h2, Try.underlying9]

theorem zero35 (w : World) : (zeroValue 35).run Try.prog w = .ok (.pointer none) w := by kernel_rfl

/-- ZZlookup -/
theorem lookup_any (bm n N : Nat) (M : ByteArray × ByteArray → Option Value) (sl : Value) (v a : ByteArray) (w : World) (h : MapIs Try.prog w 52 key bm n M N) (hv : v.size ≤ maxLen) (ha : a.size ≤ maxLen) :
    Calls Try.prog 10 #[.agg #[.map (some bm), sl], .string v, .string a] w fun e w' => e = .returned ((M (v, a)).getD (.pointer none)) ∧ w' = w.alloc (.cells #[.map (some bm), sl] 32) := by
  obtain ⟨kl, hkl⟩ := key_is (v, a) hv ha
  have hlk := fun o => (h.alloc o).lookup law52 Try.underlying29 (zero35 _) hkl
  simp only [key] at hlk
  clear h hkl
  go_enter Try.func10, Try.ntmps10
  go_wp2
  go_ret
  exact ⟨rfl, rfl⟩

theorem count_any (bm n N : Nat) (M : ByteArray × ByteArray → Option Value) (sl : Value) (w : World) (h : MapIs Try.prog w 52 key bm n M N) :
    Calls Try.prog 11 #[.agg #[.map (some bm), sl]] w fun e w' => e = .returned (.int .i64 N) ∧ w' = w.alloc (.cells #[.map (some bm), sl] 32) := by
  have hlk := fun o ty => (h.alloc o).len (t := 29) (e := 35) Try.underlying29 ty
  clear h
  go_enter Try.func11, Try.ntmps11
  go_wp2
  go_ret
  exact ⟨rfl, rfl⟩

theorem arches_any (m sl : Value) (w : World) :
    Calls Try.prog 12 #[.agg #[m, sl]] w fun e w' => e = .returned sl ∧ w' = w.alloc (.cells #[m, sl] 32) := by
  go_enter Try.func12, Try.ntmps12
  go_wp2
  go_ret
  exact ⟨rfl, rfl⟩

theorem verString_any (s : ByteArray) (w : World) :
    Calls Try.prog 17 #[.agg #[.int .i64 0, .int .i64 0, .int .i64 0, .string ⟨#[]⟩, .string s, .string ⟨#[]⟩]] w fun e w' => e = .returned (.string s) ∧ w' = w.alloc (.cells #[.int .i64 0, .int .i64 0, .int .i64 0, .string ⟨#[]⟩, .string s, .string ⟨#[]⟩] 39) := by
  go_enter Try.func17, Try.ntmps17
  go_wp2
  go_ret
  exact ⟨rfl, rfl⟩

end Go.Proofs.Qxb6628738a
