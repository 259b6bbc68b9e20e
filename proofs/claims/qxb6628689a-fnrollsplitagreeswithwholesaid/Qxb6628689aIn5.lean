/-
  TWO STORES; A MAP OF REPLACED VALUES AND ITS PARTS; plain.
-/
import Derived.Test.Qxb6628689aIn4
namespace Go.Proofs.Qxb6628689a
open Go.RowKit
open Go.Maps (Keyed)

/-- the maps of two stores are four -/
def Four (ma la mb lb : Nat) : Prop := ma ≠ mb ∧ ma ≠ lb ∧ la ≠ mb ∧ la ≠ lb
theorem Four.symm {ma la mb lb : Nat} (h : Four ma la mb lb) : Four mb lb ma la := ⟨h.1.symm, h.2.2.1.symm, h.2.1.symm, h.2.2.2.symm⟩
/-- a set on one store leaves the other -/
theorem Sto.other {w w' : World} {U : List ByteArray} {sa ma la sb mb lb : Nat} {σ σ' : St} (hB : Sto w U sb mb lb σ') (hA : Sto w U sa ma la σ) (hf : Four ma la mb lb) (hb : But (Two ma la) w w') : Sto w' U sb mb lb σ' :=
  hB.kept hb (und_apart hA hB.blk) (fun e => by rcases e with e | e; exact hf.1 e.symm; exact hf.2.2.1 e.symm) (fun e => by rcases e with e | e; exact hf.2.1 e.symm; exact hf.2.2.2 e.symm) (fun q e => (hA.two_apart 0 q e).1)

structure Bi (wN wr : World) (U : List ByteArray) (sa ma la sb mb lb : Nat) (σ : St) : Prop where
  bel : Below wN.heap.size wN wr
  a : Sto wr U sa ma la σ
  b : Sto wr U sb mb lb σ
  mem : Mem wr U σ wN.heap.size (wN.heap.size + 1)
theorem Bi.below {wN wr w' : World} {U : List ByteArray} {sa ma la sb mb lb : Nat} {σ : St} (h : Bi wN wr U sa ma la sb mb lb σ) (hb : Below wr.heap.size wr w') : Bi wN w' U sa ma la sb mb lb σ :=
  ⟨h.bel.trans (hb.mono h.bel.size), h.a.below hb, h.b.below hb, h.mem.below hb⟩
/-- what stands where each store and the model may be a step apart -/
structure BiStep (wN wr : World) (U : List ByteArray) (sa ma la sb mb lb : Nat) (σa σb σ : St) : Prop where
  bel : Below wN.heap.size wN wr
  a : Sto wr U sa ma la σa
  b : Sto wr U sb mb lb σb
  mem : Mem wr U σ wN.heap.size (wN.heap.size + 1)
theorem BiStep.below {wN wr w' : World} {U : List ByteArray} {sa ma la sb mb lb : Nat} {σa σb σ : St} (h : BiStep wN wr U sa ma la sb mb lb σa σb σ) (hb : Below wr.heap.size wr w') : BiStep wN w' U sa ma la sb mb lb σa σb σ :=
  ⟨h.bel.trans (hb.mono h.bel.size), h.a.below hb, h.b.below hb, h.mem.below hb⟩
theorem BiStep.setA {wN wr wb : World} {U : List ByteArray} {sa ma la sb mb lb : Nat} {σa σb σ σ' : St} (h : BiStep wN wr U sa ma la sb mb lb σa σb σ) (hf : Four ma la mb lb) (lo : wN.heap.size ≤ ma ∧ wN.heap.size ≤ la) (hs : Sto wb U sa ma la σ') (hb : But (Two ma la) wr wb) : BiStep wN wb U sa ma la sb mb lb σ' σb σ :=
  ⟨h.bel.trans (hb.below h.bel.size (fun q e => by rcases e with e | e <;> omega)), hs, h.b.other h.a hf hb, h.mem.two h.a hb⟩
theorem BiStep.setB {wN wr wb : World} {U : List ByteArray} {sa ma la sb mb lb : Nat} {σa σb σ σ' : St} (h : BiStep wN wr U sa ma la sb mb lb σa σb σ) (hf : Four ma la mb lb) (lo : wN.heap.size ≤ mb ∧ wN.heap.size ≤ lb) (hs : Sto wb U sb mb lb σ') (hb : But (Two mb lb) wr wb) : BiStep wN wb U sa ma la sb mb lb σa σ' σ :=
  ⟨h.bel.trans (hb.below h.bel.size (fun q e => by rcases e with e | e <;> omega)), h.a.other h.b hf.symm hb, hs, h.mem.two h.b hb⟩
theorem BiStep.model {wN wb : World} {U : List ByteArray} {sa ma la sb mb lb : Nat} {σa σb σ : St} (h : BiStep wN wb U sa ma la sb mb lb σa σb σ) (hU : Uni U) {k : ByteArray} (hk : k ∈ U) {o : Option (List Int)} {sl : Value} (hs : Bytes wb sl (o.getD [])) :
    BiStep wN ((wb.setCell ⟨wN.heap.size, U.idxOf k, none⟩ (.bool o.isSome)).setCell ⟨wN.heap.size + 1, U.idxOf k, none⟩ sl) U sa ma la sb mb lb σa σb (sput σ k o) ∧ But (Pair wN.heap.size (wN.heap.size + 1)) wb ((wb.setCell ⟨wN.heap.size, U.idxOf k, none⟩ (.bool o.isSome)).setCell ⟨wN.heap.size + 1, U.idxOf k, none⟩ sl) := by
  obtain ⟨h1, h2⟩ := h.mem.turn hU.nd hk hs
  exact ⟨⟨h.bel.trans (h2.below h.bel.size (fun q e => by rcases e with e | e <;> omega)), h.a.pair h.mem h2, h.b.pair h.mem h2, h1⟩, h2⟩

/-! ### the order list -/
def Ord (w : World) (mr : Nat) (v : Value) (O : List ByteArray) : Prop := w.ownsRow (mr + 1) 9 1 v O.length (O.map Value.string)
theorem Ord.start (w : World) (mr : Nat) : Ord w mr (.slice none 0 0) [] := ⟨rfl, Or.inl ⟨rfl, rfl⟩⟩
theorem Ord.rowOf {w : World} {mr : Nat} {v : Value} {U : List ByteArray} (h : Ord w mr v U) : RowOf w 9 v U.length (fun i => .string (nm U i)) := by
  rcases h with ⟨_, ⟨rfl, h0⟩ | ⟨g, cap, cur, rfl, h2, h3, h4, h5, h6, h7⟩⟩
  · exact ⟨none, 0, by rw [h0], by omega, fun h => by omega⟩
  · refine ⟨_, cap, rfl, by omega, fun _ => ⟨g, cur, rfl, h3, fun i hi => ?_⟩⟩
    have e : (cur.toList.take (U.length * 1))[i]? = some (.string (nm U i)) := by
      rw [h7, List.getElem?_map, List.getElem?_eq_getElem hi]
      simp [nm, hi]
    rw [List.getElem?_take, if_pos (by omega)] at e
    simpa using e
theorem Ord.kept {X : Nat → Prop} {w w' : World} {mr : Nat} {v : Value} {O : List ByteArray} (h : Ord w mr v O) (hb : But X w w') (hX : ∀ q arr, X q → mr + 1 ≤ q → w.heap[q]? ≠ some (.cells arr 9 (0, 0))) : Ord w' mr v O := by
  refine ⟨h.1, ?_⟩
  rcases h.2 with h | ⟨g, cap, cur, h1, h2, h3, r⟩
  · exact Or.inl h
  · exact Or.inr ⟨g, cap, cur, h1, h2, hb.heap h3 (fun hx => hX g cur hx h2 h3), r⟩
theorem Ord.below {w w' : World} {mr : Nat} {v : Value} {O : List ByteArray} (h : Ord w mr v O) (hb : Below w.heap.size w w') : Ord w' mr v O := h.kept (X := fun _ => False) (But.of_below hb) (fun _ _ h => h.elim)

/-! ### parts of what is to be restored -/
theorem Rp.congr {w : World} {U : List ByteArray} {lo mr : Nat} {R R' : Rm} (h : Rp w U lo mr R) (e : ∀ x ∈ U, R x = R' x) : Rp w U lo mr R' := by
  obtain ⟨M, N, h1, h2, h3, h4⟩ := h
  exact ⟨M, N, h1, h2, h3, fun k hk => e k hk ▸ h4 k hk⟩
def part (R : Rm) (s : List ByteArray) : Rm := fun x => if x ∈ s then R x else none
theorem part_snoc {R : Rm} {s : List ByteArray} {k : ByteArray} {x : Option (List Int)} (hx : R k = some x) : rput (part R s) k x = part R (s ++ [k]) := by
  funext y
  unfold rput part
  by_cases e : y = k
  · subst e; simp [hx]
  · simp [e]
theorem part_nil (R : Rm) : part R [] = fun _ => none := by funext y; simp [part]
theorem over_snoc {σ : St} {R : Rm} {s : List ByteArray} {k : ByteArray} {x : Option (List Int)} (hx : R k = some x) : sput (over σ (part R s)) k x = over σ (part R (s ++ [k])) := by
  rw [← part_snoc hx]
  funext y
  unfold sput over rput
  by_cases e : y = k
  · simp [e]
  · simp [e]
theorem over_parts {U : List ByteArray} {σ : St} {R : Rm} {s t : List ByteArray} (h : ∀ x ∈ U, x ∈ s ++ t → (R x).isSome = true) : ∀ x ∈ U, over (over σ (part R s)) (part R t) x = over σ (part R (s ++ t)) x := fun x hx => by
  unfold over part
  by_cases h2 : x ∈ t
  · have := h x hx (by simp [h2])
    obtain ⟨o, ho⟩ := Option.isSome_iff_exists.1 this
    simp [h2, ho]
  · by_cases h1 : x ∈ s
    · simp [h1, h2]
    · simp [h1, h2]
theorem take_snoc {O : List ByteArray} {k : Nat} (h : k < O.length) : O.take (k + 1) = O.take k ++ [nm O k] := by
  rw [List.take_add_one, List.getElem?_eq_getElem h]; simp [nm, h]
theorem drop_snoc {O : List ByteArray} {k c : Nat} (h : k < O.length) (hc : c ≤ k) : (O.take (k + 1)).drop c = (O.take k).drop c ++ [nm O k] := by
  rw [take_snoc h, List.drop_append_of_le_length (by simp; omega)]
/-- the whole, and its two parts, after k keys -/
def s1 (O : List ByteArray) (c k : Nat) : List ByteArray := (O.take k).take c
def s2 (O : List ByteArray) (c k : Nat) : List ByteArray := (O.take k).drop c
theorem s1_lt {O : List ByteArray} {c k : Nat} (h : k < O.length) (hc : k < c) : s1 O c (k + 1) = s1 O c k ++ [nm O k] := by
  unfold s1
  have a : (O.take k ++ [nm O k]).take c = O.take k ++ [nm O k] := List.take_of_length_le (by simp; omega)
  have b : (O.take k).take c = O.take k := List.take_of_length_le (by simp; omega)
  rw [take_snoc h, a, b]
theorem s2_lt {O : List ByteArray} {c k : Nat} (hc : k < c) : s2 O c (k + 1) = s2 O c k := by
  unfold s2
  rw [List.drop_of_length_le (by simp; omega), List.drop_of_length_le (by simp; omega)]
theorem s1_ge {O : List ByteArray} {c k : Nat} (hc : ¬ k < c) : s1 O c (k + 1) = s1 O c k := by
  unfold s1
  rw [List.take_take, List.take_take, Nat.min_eq_left (by omega), Nat.min_eq_left (by omega)]
theorem s2_ge {O : List ByteArray} {c k : Nat} (h : k < O.length) (hc : ¬ k < c) : s2 O c (k + 1) = s2 O c k ++ [nm O k] := drop_snoc h (by omega)

/-- an update of one map of pointers leaves another -/
theorem Rp.other {w w' : World} {U : List ByteArray} {lo m m' : Nat} {R R' : Rm} (h : Rp w U lo m R) (h' : Rp w U lo m' R') (hne : m ≠ m') (hb : But (· = m') w w') : Rp w' U lo m R := by
  obtain ⟨M, N, h1, _⟩ := h'.map
  refine h.kept hb hne (fun q e => ?_)
  cases e
  exact ⟨not_rowish_map h1, not_boxy_map h1⟩
theorem Rp.no_row {w : World} {U : List ByteArray} {lo m : Nat} {R : Rm} (h : Rp w U lo m R) : ∀ q, q = m → ¬ Rowish w q := by
  obtain ⟨M, N, h1, _⟩ := h.map
  rintro q rfl
  exact not_rowish_map h1
theorem Rp.isMap {w : World} {U : List ByteArray} {lo m : Nat} {R : Rm} (h : Rp w U lo m R) : ∃ es c, w.heap[m]? = some (.map es c) := by
  obtain ⟨M, N, h1, _⟩ := h.map
  exact h1.isMap
def SlimR (U : List ByteArray) (R : Rm) : Prop := ∀ x ∈ U, ∀ xs, R x = some (some xs) → xs.length ≤ 1048576
theorem SlimR.put {U : List ByteArray} {R : Rm} (h : SlimR U R) {k : ByteArray} {o : Option (List Int)} (ho : ∀ xs, o = some xs → xs.length ≤ 1048576) : SlimR U (rput R k o) := fun x hx xs e => by
  by_cases e' : x = k
  · subst e'; simp only [rput, if_true, Option.some.injEq] at e; exact ho xs e
  · simp only [rput, if_neg e'] at e; exact h x hx xs e
end Go.Proofs.Qxb6628689a
