/-
  A STORE: two maps, a plain state σ over a universe U of keys; what set and remove do to it, plain.
-/
import Derived.Test.Qxb6628689aSto
namespace Go.Proofs.Qxb6628689a
open Go.RowKit
open Go.Maps (Keyed)

abbrev St := ByteArray → Option (List Int)
def sput (σ : St) (k : ByteArray) (o : Option (List Int)) : St := fun y => if y = k then o else σ y
def cnt (U : List ByteArray) (σ : St) : Nat := U.countP fun k => (σ k).isSome

theorem cnt_same {σ σ' : St} : ∀ {U : List ByteArray}, (∀ k ∈ U, σ k = σ' k) → cnt U σ = cnt U σ'
  | [], _ => rfl
  | x :: r, h => by
    have ih := cnt_same (σ := σ) (σ' := σ') (U := r) (fun k hk => h k (by simp [hk]))
    unfold cnt at *
    rw [List.countP_cons, List.countP_cons, ih, h x (by simp)]
theorem cnt_sput {σ : St} {k : ByteArray} {o : Option (List Int)} : ∀ {U : List ByteArray}, U.Nodup → k ∈ U → cnt U (sput σ k o) + (if (σ k).isSome then 1 else 0) = cnt U σ + (if o.isSome then 1 else 0)
  | [], _, h => by simp at h
  | x :: r, nd, h => by
    rw [List.nodup_cons] at nd
    by_cases e : x = k
    · subst e
      have := cnt_same (σ := sput σ x o) (σ' := σ) (U := r) (fun j hj => by
        have : j ≠ x := fun e => nd.1 (e ▸ hj)
        simp [sput, this])
      unfold cnt at *
      rw [List.countP_cons, List.countP_cons, this]
      simp [sput]
      omega
    · have hk : k ∈ r := by simpa [Ne.symm e] using h
      have ih := cnt_sput (σ := σ) (o := o) nd.2 hk
      unfold cnt at *
      rw [List.countP_cons, List.countP_cons]
      have : sput σ k o x = σ x := by simp [sput, e]
      rw [this]
      omega
theorem cnt_le (U : List ByteArray) (σ : St) : cnt U σ ≤ U.length := List.countP_le_length

/-- where key k's value lies -/
def At (w : World) (S : K60 → Option Value) (L : ByteArray → Option Value) (k : ByteArray) (o : Option (List Int)) : Prop :=
  (∀ h : k.size ≤ 31, S ⟨k, h⟩ = match o with | some v => if v.length ≤ 23 then some (.agg (vcells v)) else none | none => none) ∧
  (match o with | some v => (if k.size ≤ 31 ∧ v.length ≤ 23 then L k = none else ∃ sl, L k = some sl ∧ Bytes w sl v) | none => L k = none)

theorem At.other {w w' : World} {S S' : K60 → Option Value} {L L' : ByteArray → Option Value} {j : ByteArray} {o : Option (List Int)} (h : At w S L j o) (hS : ∀ h, S' ⟨j, h⟩ = S ⟨j, h⟩) (hL : L' j = L j) (hB : ∀ sl v, Bytes w sl v → Bytes w' sl v) : At w' S' L' j o := by
  refine ⟨fun hj => (hS hj).trans (h.1 hj), ?_⟩
  have h2 := h.2
  cases o with
  | none => exact hL.trans h2
  | some v =>
    simp only at h2 ⊢
    split at h2
    · rename_i hc; rw [if_pos hc]; exact hL.trans h2
    · rename_i hc; rw [if_neg hc]
      obtain ⟨sl, h3, h4⟩ := h2
      exact ⟨sl, hL.trans h3, hB _ _ h4⟩

structure Uni (U : List ByteArray) : Prop where
  nd : U.Nodup
  short : ∀ k ∈ U, k.size ≤ 1048576
  few : U.length ≤ 4194304

structure Sto (w : World) (U : List ByteArray) (st ms ml : Nat) (σ : St) : Prop where
  ne : ms ≠ ml
  blk : w.heap[st]? = some (.cells #[.map (some ms), .map (some ml)] 51 (0, 0))
  maps : ∃ (S : K60 → Option Value) (L : ByteArray → Option Value) (NS NL : Nat), MapIs Try.prog w 60 kap ms NS S NS ∧ MapIs Try.prog w 9 Value.string ml NL L NL ∧ NS + NL = cnt U σ ∧ ∀ k ∈ U, At w S L k (σ k)

theorem Sto.kept {X : Nat → Prop} {w w' : World} {U : List ByteArray} {st ms ml : Nat} {σ : St} (h : Sto w U st ms ml σ) (hb : But X w w') (h1 : ¬ X st) (h2 : ¬ X ms) (h3 : ¬ X ml) (hX : ∀ k, X k → ¬ Rowish w k) : Sto w' U st ms ml σ := by
  obtain ⟨hne, hblk, S, L, NS, NL, hS, hL, hN, hA⟩ := h
  exact ⟨hne, hb.heap hblk h1, S, L, NS, NL, hb.map hS h2, hb.map hL h3, hN, fun k hk => (hA k hk).other (fun _ => rfl) rfl (fun _ _ h => h.kept hb hX)⟩
theorem Sto.below {w w' : World} {U : List ByteArray} {st ms ml : Nat} {σ : St} (h : Sto w U st ms ml σ) (hb : Below w.heap.size w w') : Sto w' U st ms ml σ :=
  h.kept (X := fun _ => False) (But.of_below hb) id id id (fun _ h => h.elim)
theorem Sto.congr {w : World} {U : List ByteArray} {st ms ml : Nat} {σ σ' : St} (h : Sto w U st ms ml σ) (e : ∀ k ∈ U, σ k = σ' k) : Sto w U st ms ml σ' := by
  obtain ⟨hne, hblk, S, L, NS, NL, hS, hL, hN, hA⟩ := h
  exact ⟨hne, hblk, S, L, NS, NL, hS, hL, hN.trans (cnt_same e), fun k hk => e k hk ▸ hA k hk⟩
theorem Sto.maps_not_row {w : World} {U : List ByteArray} {st ms ml : Nat} {σ : St} (h : Sto w U st ms ml σ) : ¬ Rowish w ms ∧ ¬ Rowish w ml := by
  obtain ⟨hne, hblk, S, L, NS, NL, hS, hL, hN, hA⟩ := h
  exact ⟨not_rowish_map hS, not_rowish_map hL⟩

/-- an empty store -/
theorem Sto.made {w : World} {U : List ByteArray} {st ms ml : Nat} (hne : ms ≠ ml) (hblk : w.heap[st]? = some (.cells #[.map (some ms), .map (some ml)] 51 (0, 0))) (hS : MapIs Try.prog w 60 kap ms 0 (fun _ => none) 0) (hL : MapIs Try.prog w 9 Value.string ml 0 (fun _ => none) 0) : Sto w U st ms ml (fun _ => none) :=
  ⟨hne, hblk, _, _, 0, 0, hS, hL, by simp [cnt], fun k _ => ⟨fun _ => rfl, rfl⟩⟩

/-- the end of set and remove -/
theorem Sto.turn {w w' : World} {U : List ByteArray} {st ms ml : Nat} {σ : St} {S S' : K60 → Option Value} {L L' : ByteArray → Option Value} {NS NL NS' NL' n n' : Nat} {k : ByteArray} {o : Option (List Int)} (hU : Uni U) (hk : k ∈ U) (hne : ms ≠ ml)
    (hblk : w'.heap[st]? = some (.cells #[.map (some ms), .map (some ml)] 51 (0, 0))) (hS' : MapIs Try.prog w' 60 kap ms n S' NS') (hL' : MapIs Try.prog w' 9 Value.string ml n' L' NL') (hN : NS + NL = cnt U σ) (hA : ∀ k ∈ U, At w S L k (σ k))
    (hB : ∀ sl v, Bytes w sl v → Bytes w' sl v) (eS : ∀ x : K60, x.1 ≠ k → S' x = S x) (eL : ∀ x, x ≠ k → L' x = L x) (hAt : At w' S' L' k o) (hc : NS' + NL' + (if (σ k).isSome then 1 else 0) = NS + NL + (if o.isSome then 1 else 0)) : Sto w' U st ms ml (sput σ k o) := by
  refine ⟨hne, hblk, S', L', NS', NL', hS'.tight, hL'.tight, ?_, fun j hj => ?_⟩
  · have := cnt_sput (σ := σ) (k := k) (o := o) hU.nd hk
    omega
  · by_cases e : j = k
    · subst e; simpa [sput] using hAt
    · simp only [sput, if_neg e]
      exact (hA j hj).other (fun h => eS ⟨j, h⟩ e) (eL j e) hB

/-- small set: the counts -/
theorem At.small_counts {w : World} {S : K60 → Option Value} {L : ByteArray → Option Value} {k : ByteArray} {o : Option (List Int)} {NS NL : Nat} (h : At w S L k o) (hk : k.size ≤ 31) (hL : (L k).isSome = true → 1 ≤ NL) (hS : (S ⟨k, hk⟩).isSome = true → 1 ≤ NS) :
    ((if (S ⟨k, hk⟩).isSome then NS else NS + 1) + (if (L k).isSome then NL - 1 else NL) + (if o.isSome then 1 else 0) = NS + NL + 1) ∧
    ((if (S ⟨k, hk⟩).isSome then NS - 1 else NS) + (if (L k).isSome then NL else NL + 1) + (if o.isSome then 1 else 0) = NS + NL + 1) ∧
    ((if (S ⟨k, hk⟩).isSome then NS - 1 else NS) + (if (L k).isSome then NL - 1 else NL) + (if o.isSome then 1 else 0) = NS + NL) := by
  obtain ⟨h1, h2⟩ := h
  have h1 := h1 hk
  cases o with
  | none =>
    simp only at h1 h2
    rw [h1, h2]; simp; omega
  | some v =>
    simp only [hk, true_and] at h1 h2
    by_cases hv : v.length ≤ 23
    · rw [if_pos hv] at h1 h2
      rw [h1] at hS
      have := hS rfl
      rw [h1, h2]; simp; omega
    · rw [if_neg hv] at h1 h2
      obtain ⟨sl, h3, _⟩ := h2
      rw [h3] at hL
      have := hL rfl
      rw [h1, h3]; simp; omega
theorem At.large_counts {w : World} {S : K60 → Option Value} {L : ByteArray → Option Value} {k : ByteArray} {o : Option (List Int)} {NL : Nat} (h : At w S L k o) (hk : ¬ k.size ≤ 31) (hL : (L k).isSome = true → 1 ≤ NL) :
    ((if (L k).isSome then NL else NL + 1) + (if o.isSome then 1 else 0) = NL + 1) ∧ ((if (L k).isSome then NL - 1 else NL) + (if o.isSome then 1 else 0) = NL) := by
  obtain ⟨_, h2⟩ := h
  cases o with
  | none => simp only at h2; rw [h2]; simp
  | some v =>
    simp only [hk, false_and, if_false] at h2
    obtain ⟨sl, h3, _⟩ := h2
    rw [h3] at hL
    have := hL rfl
    rw [h3]; simp; omega
end Go.Proofs.Qxb6628689a
