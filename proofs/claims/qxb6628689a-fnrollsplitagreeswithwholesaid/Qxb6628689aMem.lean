/-
  THE LAWS' OWN MODEL OF A STATE IN MEMORY: has, val; names; what they are after a step; plain.
-/
import Derived.Test.Qxb6628689aBytes
namespace Go.Proofs.Qxb6628689a
open Go.RowKit
open Go.Maps (Keyed)

/-! ### names -/
theorem idx_lt {U : List ByteArray} {k : ByteArray} (h : k ∈ U) : U.idxOf k < U.length := List.idxOf_lt_length_of_mem h
theorem nm_get {U : List ByteArray} {i : Nat} (h : i < U.length) : nm U i = U[i] := by simp [nm, h]
theorem nm_idx {U : List ByteArray} {k : ByteArray} (h : k ∈ U) : nm U (U.idxOf k) = k := by
  rw [nm_get (idx_lt h)]
  exact List.getElem_idxOf (idx_lt h)
theorem nm_ne {U : List ByteArray} (nd : U.Nodup) {i : Nat} {k : ByteArray} (hi : i < U.length) (hk : k ∈ U) (e : i ≠ U.idxOf k) : nm U i ≠ k := by
  intro h
  have h2 : U[i] = U[U.idxOf k]'(idx_lt hk) := by rw [← nm_get hi, h, ← nm_get (idx_lt hk), nm_idx hk]
  have hp := List.pairwise_iff_getElem.1 nd
  rcases Nat.lt_or_gt_of_ne e with h' | h'
  · exact hp _ _ hi (idx_lt hk) h' h2
  · exact hp _ _ (idx_lt hk) hi h' h2.symm
def addN (U : List ByteArray) (V : Nat → ByteArray) : Nat → List ByteArray
  | 0 => U
  | k + 1 => addU (addN U V k) (V k)
theorem addN_length (U : List ByteArray) (V : Nat → ByteArray) : ∀ k, (addN U V k).length ≤ U.length + k
  | 0 => Nat.le_refl _
  | k + 1 => by have := addN_length U V k; have := addU_length (addN U V k) (V k); simp only [addN]; omega
theorem mem_addN {U : List ByteArray} {V : Nat → ByteArray} {x : ByteArray} : ∀ {k}, x ∈ addN U V k ↔ x ∈ U ∨ ∃ j, j < k ∧ V j = x
  | 0 => by simp [addN]
  | k + 1 => by
    rw [addN, mem_addU, mem_addN (k := k)]
    constructor
    · rintro ((h | ⟨j, h1, h2⟩) | h)
      · exact Or.inl h
      · exact Or.inr ⟨j, by omega, h2⟩
      · exact Or.inr ⟨k, by omega, h.symm⟩
    · rintro (h | ⟨j, h1, h2⟩)
      · exact Or.inl (Or.inl h)
      · by_cases e : j = k
        · subst e; exact Or.inr h2.symm
        · exact Or.inl (Or.inr ⟨j, by omega, h2⟩)
theorem idxM_mem {U : List ByteArray} {k : ByteArray} (h : k ∈ U) : idxM U k = some (.int .i64 (U.idxOf k : Nat)) := if_pos h

/-! ### has and val -/
structure Mem (w : World) (U : List ByteArray) (σ : St) (bh bv : Nat) : Prop where
  has : ∃ arr, w.heap[bh]? = some (.cells arr 4 (0, 0)) ∧ arr.size = U.length ∧ ∀ i, i < U.length → arr[i]? = some (.bool (σ (nm U i)).isSome)
  val : ∃ arr, w.heap[bv]? = some (.cells arr 35 (0, 0)) ∧ arr.size = U.length ∧ ∀ i, i < U.length → ∃ sl, arr[i]? = some sl ∧ Bytes w sl ((σ (nm U i)).getD [])
abbrev Pair (bh bv : Nat) : Nat → Prop := fun q => q = bh ∨ q = bv

theorem Mem.ne {w : World} {U : List ByteArray} {σ : St} {bh bv : Nat} (h : Mem w U σ bh bv) : bh ≠ bv := by
  rintro rfl
  obtain ⟨⟨a, h1, _⟩, ⟨b, h2, _⟩⟩ := h
  rw [h1] at h2; cases h2
theorem Mem.lt {w : World} {U : List ByteArray} {σ : St} {bh bv : Nat} (h : Mem w U σ bh bv) : bh < w.heap.size ∧ bv < w.heap.size := by
  obtain ⟨⟨a, h1, _⟩, ⟨b, h2, _⟩⟩ := h
  exact ⟨lt_of_heap h1, lt_of_heap h2⟩
theorem Mem.no_row {w : World} {U : List ByteArray} {σ : St} {bh bv : Nat} (h : Mem w U σ bh bv) : ∀ q, Pair bh bv q → ¬ Rowish w q := by
  obtain ⟨⟨a, h1, _⟩, ⟨b, h2, _⟩⟩ := h
  rintro q (rfl | rfl) ⟨c, h3⟩
  · rw [h1] at h3; cases h3
  · rw [h2] at h3; cases h3
theorem Mem.kept {X : Nat → Prop} {w w' : World} {U : List ByteArray} {σ : St} {bh bv : Nat} (h : Mem w U σ bh bv) (hb : But X w w') (h1 : ¬ X bh) (h2 : ¬ X bv) (hX : ∀ k, X k → ¬ Rowish w k) : Mem w' U σ bh bv := by
  obtain ⟨⟨a, e1, s1, g1⟩, ⟨b, e2, s2, g2⟩⟩ := h
  refine ⟨⟨a, hb.heap e1 h1, s1, g1⟩, ⟨b, hb.heap e2 h2, s2, fun i hi => ?_⟩⟩
  obtain ⟨sl, h3, h4⟩ := g2 i hi
  exact ⟨sl, h3, h4.kept hb hX⟩
theorem Mem.below {w w' : World} {U : List ByteArray} {σ : St} {bh bv : Nat} (h : Mem w U σ bh bv) (hb : Below w.heap.size w w') : Mem w' U σ bh bv := h.kept (X := fun _ => False) (But.of_below hb) id id (fun _ h => h.elim)
theorem Mem.apart_sto {w : World} {U : List ByteArray} {σ σ' : St} {bh bv st ms ml : Nat} (h : Mem w U σ bh bv) (h' : Sto w U st ms ml σ') : ∀ q, Pair bh bv q → q ≠ st ∧ q ≠ ms ∧ q ≠ ml := by
  obtain ⟨⟨a, h1, _⟩, ⟨b, h2, _⟩⟩ := h
  obtain ⟨hne, hblk, S, L, NS, NL, hS, hL, hN, hA⟩ := h'
  obtain ⟨es, c, e1⟩ := hS.isMap
  obtain ⟨es', c', e2⟩ := hL.isMap
  rintro q (rfl | rfl)
  · exact ⟨(fun e => by rw [← e, h1] at hblk; cases hblk), (fun e => by rw [← e, h1] at e1; cases e1), (fun e => by rw [← e, h1] at e2; cases e2)⟩
  · exact ⟨(fun e => by rw [← e, h2] at hblk; cases hblk), (fun e => by rw [← e, h2] at e1; cases e1), (fun e => by rw [← e, h2] at e2; cases e2)⟩
theorem Mem.apart_two {w : World} {U : List ByteArray} {σ σ' : St} {bh bv st ms ml : Nat} (h : Mem w U σ bh bv) (h' : Sto w U st ms ml σ') : ¬ Two ms ml bh ∧ ¬ Two ms ml bv :=
  ⟨fun e => by have := h.apart_sto h' bh (Or.inl rfl); rcases e with e | e <;> omega, fun e => by have := h.apart_sto h' bv (Or.inr rfl); rcases e with e | e <;> omega⟩

/-- behind a set or a remove -/
theorem Mem.two {w w' : World} {U : List ByteArray} {σ σ' : St} {bh bv st ms ml : Nat} (h : Mem w U σ bh bv) (h' : Sto w U st ms ml σ') (hb : But (Two ms ml) w w') : Mem w' U σ bh bv :=
  h.kept hb (h.apart_two h').1 (h.apart_two h').2 (fun k hk => (h'.two_apart 0 k hk).1)
/-- behind a store into has or val -/
theorem Sto.pair {w w' : World} {U : List ByteArray} {σ σ' : St} {bh bv st ms ml : Nat} (h' : Sto w U st ms ml σ') (h : Mem w U σ bh bv) (hb : But (Pair bh bv) w w') : Sto w' U st ms ml σ' :=
  h'.kept hb (fun e => (h.apart_sto h' _ e).1 rfl) (fun e => (h.apart_sto h' _ e).2.1 rfl) (fun e => (h.apart_sto h' _ e).2.2 rfl) h.no_row

theorem Mem.at {w : World} {U : List ByteArray} {σ : St} {bh bv : Nat} (h : Mem w U σ bh bv) {i : Nat} (hi : i < U.length) : w.cell? ⟨bh, i, none⟩ = some (.bool (σ (nm U i)).isSome) ∧ w.frozen? ⟨bh, i, none⟩ = false ∧ w.frozen? ⟨bv, i, none⟩ = false ∧ ∃ sl, w.cell? ⟨bv, i, none⟩ = some sl ∧ Bytes w sl ((σ (nm U i)).getD []) := by
  obtain ⟨⟨a, e1, s1, g1⟩, ⟨b, e2, s2, g2⟩⟩ := h
  obtain ⟨sl, h3, h4⟩ := g2 i hi
  exact ⟨by rw [cell_of_row w bh i a 4 (0, 0) e1]; exact g1 i hi, by simp [World.frozen?, e1], by simp [World.frozen?, e2], sl, by rw [cell_of_row w bv i b 35 (0, 0) e2]; exact h3, h4⟩

/-- has[j], val[j] written -/
theorem Mem.turn {w : World} {U : List ByteArray} {σ : St} {bh bv : Nat} (nd : U.Nodup) (h : Mem w U σ bh bv) {k : ByteArray} (hk : k ∈ U) {o : Option (List Int)} {sl : Value} (hs : Bytes w sl (o.getD [])) :
    Mem ((w.setCell ⟨bh, U.idxOf k, none⟩ (.bool o.isSome)).setCell ⟨bv, U.idxOf k, none⟩ sl) U (sput σ k o) bh bv ∧ But (Pair bh bv) w ((w.setCell ⟨bh, U.idxOf k, none⟩ (.bool o.isSome)).setCell ⟨bv, U.idxOf k, none⟩ sl) := by
  have hne := h.ne
  have hnr := h.no_row
  have hb : But (Pair bh bv) w ((w.setCell ⟨bh, U.idxOf k, none⟩ (.bool o.isSome)).setCell ⟨bv, U.idxOf k, none⟩ sl) :=
    ((But.refl (Pair bh bv) w).setCell (p := ⟨bh, U.idxOf k, none⟩) (Or.inl rfl) _).setCell (p := ⟨bv, U.idxOf k, none⟩) (Or.inr rfl) _
  refine ⟨?_, hb⟩
  obtain ⟨⟨a, e1, s1, g1⟩, ⟨b, e2, s2, g2⟩⟩ := h
  have hj := idx_lt hk
  refine ⟨⟨a.setIfInBounds (U.idxOf k) (.bool o.isSome), ?_, by simpa using s1, fun i hi => ?_⟩, ⟨b.setIfInBounds (U.idxOf k) sl, ?_, by simpa using s2, fun i hi => ?_⟩⟩
  · rw [Below.heap_setCell _ _ _ _ (by exact hne)]
    exact heap_setCell_row e1 _ _
  · by_cases e : i = U.idxOf k
    · subst e
      rw [Array.getElem?_setIfInBounds_self_of_lt (by omega), nm_idx hk]
      simp [sput]
    · rw [Array.getElem?_setIfInBounds_ne (by omega), g1 i hi]
      simp [sput, nm_ne nd hi hk e]
  · refine heap_setCell_row ?_ _ _
    rw [Below.heap_setCell _ _ _ _ (by exact Ne.symm hne)]
    exact e2
  · by_cases e : i = U.idxOf k
    · subst e
      refine ⟨sl, Array.getElem?_setIfInBounds_self_of_lt (by omega), ?_⟩
      rw [nm_idx hk]
      simpa [sput] using hs.kept hb hnr
    · obtain ⟨sl', h3, h4⟩ := g2 i hi
      refine ⟨sl', by rw [Array.getElem?_setIfInBounds_ne (by omega)]; exact h3, ?_⟩
      simpa [sput, nm_ne nd hi hk e] using h4.kept hb hnr
/-- the cell of val behind the store into has -/
theorem Mem.val_behind {w : World} {U : List ByteArray} {σ : St} {bh bv : Nat} (h : Mem w U σ bh bv) {i : Nat} (hi : i < U.length) (u : Value) : ∃ sl, (w.setCell ⟨bh, i, none⟩ u).cell? ⟨bv, i, none⟩ = some sl ∧ (w.setCell ⟨bh, i, none⟩ u).frozen? ⟨bv, i, none⟩ = false := by
  obtain ⟨_, _, hf, sl, hc, _⟩ := h.at hi
  have hne := h.ne
  refine ⟨sl, ?_, ?_⟩
  · rw [World.cell?_setCell_other _ _ _ _ (by simp)]; exact hc
  · rw [World.frozen?_setCell]; exact hf
theorem Mem.made {w : World} {U : List ByteArray} {bh bv : Nat} (h1 : w.heap[bh]? = some (.cells (madeCells #[.bool false] U.length) 4 (0, 0))) (h2 : w.heap[bv]? = some (.cells (madeCells #[.slice none 0 0] U.length) 35 (0, 0))) : Mem w U (fun _ => none) bh bv :=
  ⟨⟨_, h1, made_size _ _, fun i hi => made_get _ _ _ hi⟩, ⟨_, h2, made_size _ _, fun i hi => ⟨_, made_get _ _ _ hi, ⟨none, 0, rfl, by simp [maxLen], fun h => by simp at h⟩⟩⟩⟩
theorem nil_bytes (w : World) : Bytes w (.slice none 0 0) [] := ⟨none, 0, rfl, by simp [maxLen], fun h => by simp at h⟩

/-! ### zzStoreIs, from the rows -/
theorem is_rows (U : List ByteArray) (st ms ml : Nat) (σ : St) (w : World) (vn vh vv : Value) (E : Nat → Value) (hU : Uni U) (h : Sto w U st ms ml σ) (h1 : RowOf w 9 vn U.length (fun i => .string (nm U i))) (h2 : RowOf w 4 vh U.length (fun i => .bool (σ (nm U i)).isSome)) (h3 : RowOf w 35 vv U.length E)
    (h4 : ∀ i, i < U.length → Bytes w (E i) ((σ (nm U i)).getD [])) :
    Calls Try.prog 19 #[.pointer (some ⟨st, 0, none⟩), vn, vh, vv] w fun e w' => e = .returned (.bool true) ∧ Below w.heap.size w w' := by
  obtain ⟨an, cn, rfl, _, g1⟩ := h1
  obtain ⟨ah, ch, rfl, _, g2⟩ := h2
  obtain ⟨av, cv, rfl, _, g3⟩ := h3
  rcases Nat.eq_zero_or_pos U.length with h0 | h0
  · exact is19 U st ms ml σ w an ah av 0 0 0 cn ch cv hU h (fun h => by omega) (fun h => by omega) (fun h => by omega) ⟨fun i hi => by omega, fun i hi => by omega, fun i hi => by omega⟩
  · obtain ⟨bn, an', rfl, e1, c1⟩ := g1 h0
    obtain ⟨bh, ah', rfl, e2, c2⟩ := g2 h0
    obtain ⟨bv, av', rfl, e3, c3⟩ := g3 h0
    refine is19 U st ms ml σ w _ _ _ bn bh bv cn ch cv hU h (fun _ => rfl) (fun _ => rfl) (fun _ => rfl) ⟨fun i hi => ?_, fun i hi => ?_, fun i hi xs hx => ⟨E i, ?_, ?_⟩⟩
    · rw [cell_of_row w bn i an' 9 (0, 0) e1]; exact c1 i hi
    · rw [cell_of_row w bh i ah' 4 (0, 0) e2]; exact c2 i hi
    · rw [cell_of_row w bv i av' 35 (0, 0) e3]; exact c3 i hi
    · have := h4 i hi; rwa [hx] at this

/-! ### what is to be restored, more -/
theorem Rp.start {w : World} {U : List ByteArray} {lo mr : Nat} (h : MapIs Try.prog w 9 Value.string mr 0 (fun _ => none) 0) : Rp w U lo mr (fun _ => none) :=
  ⟨_, 0, h, (fun k h => by simp at h), by simp [cnt, mst], fun k _ => rfl⟩
def rput (R : Rm) (k : ByteArray) (x : Option (List Int)) : Rm := fun y => if y = k then some x else R y
theorem mst_put (M : ByteArray → Option Value) (k : ByteArray) (v : Value) : mst (put M k v) = sput (mst M) k (some []) := by
  funext y
  by_cases e : y = k
  · simp [mst, put, sput, e]
  · simp [mst, put, sput, e]
theorem zero40 (w : World) : (zeroValue 40).run Try.prog w = .ok (.pointer none) w := by kernel_rfl
theorem Rp.store {w : World} {U : List ByteArray} {lo mr : Nat} {R : Rm} (h : Rp w U lo mr R) (hU : Uni U) {k : ByteArray} (hk : k ∈ U) {v : Value} {x : Option (List Int)} (hx : RAt w lo (some v) (some x)) :
    ∃ w', (Instr.mapUpdate 39 (.map (some mr)) (.string k) v).run Try.prog w = .ok () w' ∧ Rp w' U lo mr (rput R k x) ∧ But (· = mr) w w' ∧ w'.heap.size = w.heap.size := by
  obtain ⟨M, N, h1, h2, h3, h4⟩ := h
  have hks := hU.short k hk
  have hN : N ≤ U.length := by rw [h3]; exact cnt_le _ _
  have hf := hU.few
  obtain ⟨w', hr, hm, ht⟩ := h1.store lawS str_inj Try.underlying39 (by unfold maxLen; omega) v (str_key k (by unfold maxLen; omega))
  have hb := But.of_turned ht
  have hnr : ∀ q, q = mr → ¬ Rowish w q ∧ ¬ Boxy w lo q := by
    rintro q rfl
    exact ⟨not_rowish_map h1, not_boxy_map h1⟩
  refine ⟨w', hr, ⟨_, _, hm.tight, fun y hy => ?_, ?_, fun y hy => ?_⟩, hb, ?_⟩
  · by_cases e : y = k
    · subst e; exact hk
    · simp only [put, if_neg e] at hy; exact h2 y hy
  · rw [mst_put]
    have := cnt_sput (σ := mst M) (k := k) (o := some []) hU.nd hk
    have e : (mst M k).isSome = (M k).isSome := by simp [mst]
    rw [e] at this
    cases hMk : (M k).isSome <;> simp [hMk] at this ⊢ <;> omega
  · by_cases e : y = k
    · subst e
      simp only [put, rput, if_true]
      exact hx.kept hb hnr
    · simp only [put, rput, if_neg e]
      exact (h4 y hy).kept hb hnr
  · obtain ⟨es, cl, es', cl', _, e⟩ := ht
    rw [e]; simp [ChangeMaps.setBlock]
theorem RAt.isSome {w : World} {lo : Nat} {m : Option Value} {o : Option (Option (List Int))} (h : RAt w lo m o) : m.isSome = o.isSome := by
  match o, h with
  | none, h => rw [show m = none from h]; rfl
  | some none, h => rw [show m = _ from h]; rfl
  | some (some xs), ⟨p, sl, h1, _⟩ => rw [h1]; rfl
theorem Rp.look {w : World} {U : List ByteArray} {lo mr : Nat} {R : Rm} (h : Rp w U lo mr R) (hU : Uni U) {k : ByteArray} (hk : k ∈ U) :
    ∃ v, (Instr.lookup 39 (.map (some mr)) (.string k) true).run Try.prog w = .ok (.tuple #[v, .bool (R k).isSome]) w ∧ (Instr.lookup 39 (.map (some mr)) (.string k) false).run Try.prog w = .ok v w ∧ ((R k).isSome = true → RAt w lo (some v) (R k)) := by
  obtain ⟨M, N, h1, h2, h3, h4⟩ := h
  have hks := hU.short k hk
  have e := h1.look_ok lawS Try.underlying39 (zero40 _) (str_key k (by unfold maxLen; omega))
  have e2 := h1.lookup lawS Try.underlying39 (zero40 _) (str_key k (by unfold maxLen; omega))
  rw [(h4 k hk).isSome] at e
  refine ⟨_, e, e2, fun hs => ?_⟩
  have hr := h4 k hk
  rw [← hr.isSome] at hs
  obtain ⟨u, hu⟩ := Option.isSome_iff_exists.1 hs
  rw [hu] at hr ⊢
  exact hr
end Go.Proofs.Qxb6628689a
