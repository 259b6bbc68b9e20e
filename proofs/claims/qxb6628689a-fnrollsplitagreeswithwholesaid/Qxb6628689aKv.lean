/-
  ZZnewStore (12), ZZset (14), ZZremove (16), ZZnewUndo (17).
-/
import Derived.Test.Qxb6628689aSet
namespace Go.Proofs.Qxb6628689a
open Go.RowKit
open Go.Maps (Keyed)

theorem new12 (w : World) (U : List ByteArray) :
    Calls Try.prog 12 #[] w fun e w' => ∃ st ms ml, e = .returned (.pointer (some ⟨st, 0, none⟩)) ∧ Sto w' U st ms ml (fun _ => none) ∧ w.heap.size ≤ st ∧ w.heap.size ≤ ms ∧ w.heap.size ≤ ml ∧ Below w.heap.size w w' := by
  have hmk : ∀ (t : TypeId) (w : World), (Instr.makeMap t none).run Try.prog w = .ok (.map (some w.heap.size)) (w.alloc (.map #[] 0)) := fun _ _ => rfl
  go_enter Try.func12, Try.ntmps12
  go_wp2
  go_ret
  have hb1 : Below w.heap.size w (w.alloc (.map #[] 0)) := (Below.refl _ _).alloc (Nat.le_refl _) _
  have hb2 : Below (w.alloc (.map #[] 0)).heap.size (w.alloc (.map #[] 0)) ((w.alloc (.map #[] 0)).alloc (.map #[] 0)) := (Below.refl _ _).alloc (Nat.le_refl _) _
  have h1 := MapIs.made Try.prog w 60 kap
  have h2 := MapIs.made Try.prog (w.alloc (.map #[] 0)) 9 Value.string
  refine ⟨w.heap.size + 2, w.heap.size, w.heap.size + 1, ?_, Sto.made (by omega) ?_ ((h1.alloc _).alloc _) ?_, by omega, by omega, by omega, ?_⟩
  · first | rfl | simp
  · show (((w.heap.push _).push _).push _)[w.heap.size + 2]? = _
    rw [Array.getElem?_push, if_pos (by simp)]
  · have : (w.alloc (.map #[] 0)).heap.size = w.heap.size + 1 := by simp
    rw [this] at h2
    exact h2.alloc _
  · exact ((hb1.alloc (by simp) _).alloc (by simp; omega) _)

theorem set14 (k : ByteArray) (v : Value) (xs : List Int) (U : List ByteArray) (st ms ml : Nat) (σ : St) (w : World) (hU : Uni U) (hk : k ∈ U) (hv : Bytes w v xs) (h : Sto w U st ms ml σ) :
    Calls Try.prog 14 #[.pointer (some ⟨st, 0, none⟩), .string k, v] w fun e w' => e = .returned (.tuple #[]) ∧ Sto w' U st ms ml (sput σ k (some xs)) ∧ But (Two ms ml) w w' := by
  have H := hid (set_any k v xs U st ms ml σ w hU hk hv h)
  clear hU hk hv h
  go_enter Try.func14, Try.ntmps14
  go_wp2_with fail
  refine H.out.mono ?_
  rintro e w' ⟨rfl, h⟩
  have HH := hid h
  clear h
  go_wp2
  go_end0
  exact ⟨rfl, HH.out⟩

theorem remove16 (k : ByteArray) (U : List ByteArray) (st ms ml : Nat) (σ : St) (w : World) (hU : Uni U) (hk : k ∈ U) (h : Sto w U st ms ml σ) :
    Calls Try.prog 16 #[.pointer (some ⟨st, 0, none⟩), .string k] w fun e w' => e = .returned (.tuple #[]) ∧ Sto w' U st ms ml (sput σ k none) ∧ But (Two ms ml) w w' := by
  have H := hid (remove_any k U st ms ml σ w hU hk h)
  clear hU hk h
  go_enter Try.func16, Try.ntmps16
  go_wp2_with fail
  refine H.out.mono ?_
  rintro e w' ⟨rfl, h⟩
  have HH := hid h
  clear h
  go_wp2
  go_end0
  exact ⟨rfl, HH.out⟩

theorem undo17 (st mr : Nat) (w : World) :
    Calls Try.prog 17 #[.pointer (some ⟨st, 0, none⟩), .map (some mr)] w fun e w' => e = .returned (.pointer (some ⟨w.heap.size, 0, none⟩)) ∧ w' = w.alloc (.cells #[.pointer (some ⟨st, 0, none⟩), .map (some mr)] 55) := by
  go_enter Try.func17, Try.ntmps17
  go_wp2
  go_ret
  exact ⟨rfl, rfl⟩

/-! ### what is to be restored -/
abbrev Rm := ByteArray → Option (Option (List Int))
def over (σ : St) (R : Rm) : St := fun k => match R k with | none => σ k | some o => o
def RAt (w : World) (lo : Nat) (m : Option Value) : Option (Option (List Int)) → Prop
  | none => m = none
  | some none => m = some (.pointer none)
  | some (some xs) => ∃ p sl, m = some (.pointer (some ⟨p, 0, none⟩)) ∧ lo ≤ p ∧ w.heap[p]? = some (.cells #[sl] 35 (0, 0)) ∧ Bytes w sl xs
def mst (M : ByteArray → Option Value) : St := fun k => (M k).map fun _ => []
structure Rp (w : World) (U : List ByteArray) (lo mr : Nat) (R : Rm) : Prop where
  map : ∃ M N, MapIs Try.prog w 9 Value.string mr N M N ∧ (∀ k, (M k).isSome = true → k ∈ U) ∧ N = cnt U (mst M) ∧ ∀ k ∈ U, RAt w lo (M k) (R k)
def Boxy (w : World) (lo p : Nat) : Prop := lo ≤ p ∧ ∃ sl, w.heap[p]? = some (.cells #[sl] 35 (0, 0))
theorem RAt.kept {X : Nat → Prop} {w w' : World} {lo : Nat} {m : Option Value} {o : Option (Option (List Int))} (h : RAt w lo m o) (hb : But X w w') (hX : ∀ k, X k → ¬ Rowish w k ∧ ¬ Boxy w lo k) : RAt w' lo m o := by
  match o, h with
  | none, h => exact h
  | some none, h => exact h
  | some (some xs), ⟨p, sl, h1, h2, h3, h4⟩ => exact ⟨p, sl, h1, h2, hb.heap h3 (fun hx => (hX p hx).2 ⟨h2, sl, h3⟩), h4.kept hb (fun k hk => (hX k hk).1)⟩
theorem Rp.kept {X : Nat → Prop} {w w' : World} {U : List ByteArray} {lo mr : Nat} {R : Rm} (h : Rp w U lo mr R) (hb : But X w w') (hm : ¬ X mr) (hX : ∀ k, X k → ¬ Rowish w k ∧ ¬ Boxy w lo k) : Rp w' U lo mr R := by
  obtain ⟨M, N, h1, h2, h3, h4⟩ := h
  exact ⟨M, N, hb.map h1 hm, h2, h3, fun k hk => (h4 k hk).kept hb hX⟩
theorem Rp.below {w w' : World} {U : List ByteArray} {lo mr : Nat} {R : Rm} (h : Rp w U lo mr R) (hb : Below w.heap.size w w') : Rp w' U lo mr R :=
  h.kept (X := fun _ => False) (But.of_below hb) id (fun _ h => h.elim)
theorem not_boxy_map {w : World} {K : Type} {k : TypeId} {κ : K → Value} {b n N lo : Nat} {M : K → Option Value} (h : MapIs Try.prog w k κ b n M N) : ¬ Boxy w lo b := by
  rintro ⟨_, sl, ha⟩
  obtain ⟨es, c, hm⟩ := h.isMap
  rw [hm] at ha; cases ha
theorem Sto.two_apart {w : World} {U : List ByteArray} {st ms ml : Nat} {σ : St} (h : Sto w U st ms ml σ) (lo : Nat) : ∀ k, Two ms ml k → ¬ Rowish w k ∧ ¬ Boxy w lo k := by
  obtain ⟨hne, hblk, S, L, NS, NL, hS, hL, hN, hA⟩ := h
  rintro k (rfl | rfl)
  · exact ⟨not_rowish_map hS, not_boxy_map hS⟩
  · exact ⟨not_rowish_map hL, not_boxy_map hL⟩
end Go.Proofs.Qxb6628689a
