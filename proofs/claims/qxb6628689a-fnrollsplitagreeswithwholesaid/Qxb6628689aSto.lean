/-
  WHAT A STORE IS IN MEMORY: the frame 'But', byte rows, small keys, the two maps; plain.
-/
import Derived.Test.Qxb6628689aBase
import Derived.ProofKit
namespace Go.Proofs.Qxb6628689a
open Go.RowKit
open Go.Maps (Keyed)

/-! ### the frame -/
/-- nothing that was there has turned but the blocks X -/
structure But (X : Nat → Prop) (w w' : World) : Prop where
  os : w'.os = w.os
  tape : w'.tape = w.tape
  output : w'.output = w.output
  size : w.heap.size ≤ w'.heap.size
  block : ∀ k, k < w.heap.size → ¬ X k → w'.heap[k]? = w.heap[k]?

theorem But.refl (X : Nat → Prop) (w : World) : But X w w := ⟨rfl, rfl, rfl, Nat.le_refl _, fun _ _ _ => rfl⟩
theorem But.trans {X : Nat → Prop} {a b c : World} (h : But X a b) (k : But X b c) : But X a c :=
  ⟨k.os.trans h.os, k.tape.trans h.tape, k.output.trans h.output, Nat.le_trans h.size k.size, fun i hi hx => (k.block i (Nat.lt_of_lt_of_le hi h.size) hx).trans (h.block i hi hx)⟩
theorem But.mono {X Y : Nat → Prop} {a b : World} (h : But X a b) (hX : ∀ k, k < a.heap.size → X k → Y k) : But Y a b :=
  ⟨h.os, h.tape, h.output, h.size, fun i hi hy => h.block i hi (fun hx => hy (hX i hi hx))⟩
theorem But.of_below {X : Nat → Prop} {w w' : World} (h : Below w.heap.size w w') : But X w w' := ⟨h.os, h.tape, h.output, h.size, fun i hi _ => h.block i hi⟩
theorem But.below {X : Nat → Prop} {w w' : World} (h : But X w w') {B : Nat} (hB : B ≤ w.heap.size) (hX : ∀ k, X k → B ≤ k) : Below B w w' :=
  ⟨h.os, h.tape, h.output, h.size, fun i hi => h.block i (by omega) (fun hx => by have := hX i hx; omega)⟩
theorem But.of_turned {w w' : World} {b : Nat} (h : w.mapTurned w' b) : But (· = b) w w' :=
  ⟨h.grown.os, h.grown.tape, h.grown.output, h.grown.size, fun i hi hx => h.grown.block i hi (by simp; exact hx)⟩
theorem But.drew {X : Nat → Prop} {a w : World} (h : But X a w) : But X a w.drew := ⟨h.os, h.tape, h.output, h.size, h.block⟩
theorem But.alloc {X : Nat → Prop} {a w : World} (h : But X a w) (o : Obj) : But X a (w.alloc o) := h.trans (But.of_below ((Below.refl _ _).alloc (Nat.le_refl _) o))
theorem But.setRow {X : Nat → Prop} {a w : World} (h : But X a w) {g : Nat} (hg : X g) (cs : Array Value) : But X a (w.setRow g cs) :=
  h.trans ⟨rfl, rfl, rfl, by simp, fun k _ hx => setRow_other w g k cs (fun e => hx (e ▸ hg))⟩
theorem But.setCell {X : Nat → Prop} {a w : World} (h : But X a w) {p : Addr} (hp : X p.block) (u : Value) : But X a (w.setCell p u) :=
  h.trans ⟨rfl, rfl, rfl, by simp [World.setCell], fun k _ hx => Below.heap_setCell _ _ _ _ (fun e => hx (e ▸ hp))⟩
/-- a block of one's own may turn -/
theorem But.own {X : Nat → Prop} {a b c : World} (h : But X a b) (k : But (fun i => X i ∨ a.heap.size ≤ i) b c) : But X a c :=
  ⟨k.os.trans h.os, k.tape.trans h.tape, k.output.trans h.output, Nat.le_trans h.size k.size, fun i hi hx => (k.block i (Nat.lt_of_lt_of_le hi h.size) (fun o => o.elim hx (fun e => by omega))).trans (h.block i hi hx)⟩
theorem lt_of_heap {w : World} {b : Nat} {o : Obj} (h : w.heap[b]? = some o) : b < w.heap.size := by
  rcases Nat.lt_or_ge b w.heap.size with h' | h'
  · exact h'
  · rw [Array.getElem?_eq_none h'] at h; cases h
theorem But.heap {X : Nat → Prop} {w w' : World} (h : But X w w') {b : Nat} {o : Obj} (hb : w.heap[b]? = some o) (hx : ¬ X b) : w'.heap[b]? = some o := (h.block b (lt_of_heap hb) hx).trans hb
theorem But.map {X : Nat → Prop} {w w' : World} (h : But X w w') {K : Type} {k : TypeId} {κ : K → Value} {b n N : Nat} {M : K → Option Value} (hm : MapIs Try.prog w k κ b n M N) (hx : ¬ X b) : MapIs Try.prog w' k κ b n M N := hm.of_block (h.block b hm.lt hx)

/-! ### maps, more -/
section
variable {K : Type} {P : Program} {w : World} {k : TypeId} {κ : K → Value} {b n N : Nat} {M : K → Option Value}
theorem MapIs.tight (h : MapIs P w k κ b n M N) : MapIs P w k κ b N M N := by
  obtain ⟨D, ⟨es, c, hb, F, hs, rfl⟩, h2, h3⟩ := h
  refine ⟨_, ⟨es, c, hb, F, ?_, rfl⟩, h2, h3⟩
  rw [← h3]
  simp [Maps.size, Go.length_sorted]
theorem has_pos {D : DataW Value} {kl : Lit} (h : Maps.has D kl = true) : 1 ≤ Maps.size D := by
  cases D with
  | map es =>
    cases es with
    | nil => simp [Maps.has] at h
    | cons => simp [Maps.size]
  | _ => simp [Maps.has] at h
theorem MapIs.pos (h : MapIs P w k κ b n M N) {x : K} {kl : Lit} (hk : keyOf P k (κ x) = some kl) (hx : (M x).isSome = true) : 1 ≤ N := by
  obtain ⟨D, _, h2, h3⟩ := h
  rw [← h3]
  exact has_pos ((h2 x kl hk).1.trans hx)
theorem MapIs.none_of_zero (h : MapIs P w k κ b n M 0) {x : K} {kl : Lit} (hk : keyOf P k (κ x) = some kl) : M x = none := by
  cases hx : M x with
  | none => rfl
  | some v => exact absurd (h.pos hk (by rw [hx]; rfl)) (by omega)
end

/-! ### byte rows -/
def vb (xs : List Int) (i : Nat) : Int := xs.getD i 0
def vcells (xs : List Int) : Array Value := #[.int .u8 xs.length, .int .u8 (vb xs 0), .int .u8 (vb xs 1), .int .u8 (vb xs 2), .int .u8 (vb xs 3), .int .u8 (vb xs 4), .int .u8 (vb xs 5), .int .u8 (vb xs 6), .int .u8 (vb xs 7), .int .u8 (vb xs 8), .int .u8 (vb xs 9), .int .u8 (vb xs 10), .int .u8 (vb xs 11), .int .u8 (vb xs 12), .int .u8 (vb xs 13), .int .u8 (vb xs 14), .int .u8 (vb xs 15), .int .u8 (vb xs 16), .int .u8 (vb xs 17), .int .u8 (vb xs 18), .int .u8 (vb xs 19), .int .u8 (vb xs 20), .int .u8 (vb xs 21), .int .u8 (vb xs 22)]
def vcells0 (n : Nat) : Array Value := #[.int .u8 n, .int .u8 0, .int .u8 0, .int .u8 0, .int .u8 0, .int .u8 0, .int .u8 0, .int .u8 0, .int .u8 0, .int .u8 0, .int .u8 0, .int .u8 0, .int .u8 0, .int .u8 0, .int .u8 0, .int .u8 0, .int .u8 0, .int .u8 0, .int .u8 0, .int .u8 0, .int .u8 0, .int .u8 0, .int .u8 0, .int .u8 0]
def cellsOf (xs : List Int) : List Value := xs.map fun x => Value.int .u8 x

/-- v is a slice of the bytes xs, in a row of its own from its head on -/
def Bytes (w : World) (v : Value) (xs : List Int) : Prop :=
  ∃ a cap, v = .slice a xs.length cap ∧ xs.length ≤ maxLen ∧ (0 < xs.length → ∃ b arr, a = some ⟨b, 0, none⟩ ∧ w.heap[b]? = some (.cells arr 5 (0, 0)) ∧ ∀ i, i < xs.length → arr[i]? = some (.int .u8 (vb xs i)))
def Rowish (w : World) (b : Nat) : Prop := ∃ arr, w.heap[b]? = some (.cells arr 5 (0, 0))
theorem Bytes.kept {X : Nat → Prop} {w w' : World} {v : Value} {xs : List Int} (h : Bytes w v xs) (hb : But X w w') (hX : ∀ k, X k → ¬ Rowish w k) : Bytes w' v xs := by
  obtain ⟨a, cap, rfl, hm, h⟩ := h
  refine ⟨a, cap, rfl, hm, fun h0 => ?_⟩
  obtain ⟨b, arr, e, hh, hc⟩ := h h0
  exact ⟨b, arr, e, hb.heap hh (fun hx => hX b hx ⟨arr, hh⟩), hc⟩
theorem not_rowish_map {w : World} {K : Type} {k : TypeId} {κ : K → Value} {b n N : Nat} {M : K → Option Value} (h : MapIs Try.prog w k κ b n M N) : ¬ Rowish w b := by
  rintro ⟨arr, ha⟩
  obtain ⟨es, c, hm⟩ := h.isMap
  rw [hm] at ha; cases ha

theorem vcells_list (xs : List Int) : (vcells xs).toList = .int .u8 xs.length :: (List.range 23).map (fun i => Value.int .u8 (vb xs i)) := rfl
theorem vcells0_list (n : Nat) : (vcells0 n).toList = .int .u8 n :: List.replicate 23 (.int .u8 0) := rfl
theorem vcells_all (xs : List Int) : (vcells xs).all (·.oneCell') = true := by simp [vcells, Value.oneCell']
theorem vcells0_all (n : Nat) : (vcells0 n).all (·.oneCell') = true := by simp [vcells0, Value.oneCell']
theorem info69 : (Try.prog.info? 69).map (·.size) = some 24 := by kernel_rfl
theorem info5 : (Try.prog.info? 5).map (·.size) = some 1 := by kernel_rfl
theorem cellsOf_length (xs : List Int) : (cellsOf xs).length = xs.length := by simp [cellsOf]
theorem cellsOf_get (xs : List Int) (i : Nat) (h : i < xs.length) : (cellsOf xs)[i]? = some (.int .u8 (vb xs i)) := by simp [cellsOf, vb, h]
theorem vb_ge (xs : List Int) (i : Nat) (h : ¬ i < xs.length) : vb xs i = 0 := by simp [vb, List.getElem?_eq_none (Nat.le_of_not_lt h)]

theorem laid_val (xs : List Int) : laid (vcells0 xs.length) 1 (cellsOf xs) = vcells xs := by
  apply Array.ext_getElem?
  intro i
  have e : (vcells xs)[i]? = (Value.int .u8 xs.length :: (List.range 23).map (fun i => Value.int .u8 (vb xs i)))[i]? := by rw [← vcells_list]; simp
  have e0 : (vcells0 xs.length)[i]? = (Value.int .u8 xs.length :: List.replicate 23 (Value.int .u8 0))[i]? := by rw [← vcells0_list]; simp
  by_cases hi : i < 24
  · rw [e, laid_get _ _ _ _ (by exact hi), cellsOf_length, e0]
    cases i with
    | zero => rw [if_neg (by omega)]; rfl
    | succ i =>
      rw [List.getElem?_cons_succ, List.getElem?_cons_succ, List.getElem?_map, List.getElem?_range (by omega), List.getElem?_replicate, if_pos (show i < 23 by omega)]
      by_cases h : i < xs.length
      · rw [if_pos (by omega), Nat.add_sub_cancel, cellsOf_get xs i h]; rfl
      · rw [if_neg (by omega)]; simp [vb_ge xs i h]
  · have h1 : (laid (vcells0 xs.length) 1 (cellsOf xs)).size = 24 := laid_size _ _ _
    have h2 : (vcells xs).size = 24 := rfl
    rw [Array.getElem?_eq_none (by omega), Array.getElem?_eq_none (by omega)]

theorem heap_setCell_row {w : World} {b : Nat} {arr : Array Value} {t : TypeId} {fr : Nat × Nat} (hg : w.heap[b]? = some (.cells arr t fr)) (o : Nat) (v : Value) : (w.setCell ⟨b, o, none⟩ v).heap[b]? = some (.cells (arr.setIfInBounds o v) t fr) := by
  simp [World.setCell, Array.getElem?_modify, hg]
theorem heap_setCells_row (b : Nat) (t : TypeId) (fr : Nat × Nat) : ∀ (vs : List Value) (o : Nat) (w : World) (arr : Array Value), w.heap[b]? = some (.cells arr t fr) → (w.setCells b o vs).heap[b]? = some (.cells (laid arr o vs) t fr)
  | [], _, _, _, h => h
  | v :: r, o, w, arr, h => by rw [World.setCells, laid]; exact heap_setCells_row b t fr r (o + 1) _ _ (heap_setCell_row h o v)
theorem But.setCells {X : Nat → Prop} {a : World} {b : Nat} (hb : X b) : ∀ (vs : List Value) (o : Nat) (w : World), But X a w → But X a (w.setCells b o vs)
  | [], _, _, h => h
  | v :: r, o, w, h => by rw [World.setCells]; exact But.setCells hb r (o + 1) _ (h.setCell (p := ⟨b, o, none⟩) hb v)
theorem size_setCells (b : Nat) : ∀ (vs : List Value) (o : Nat) (w : World), (w.setCells b o vs).heap.size = w.heap.size
  | [], _, _ => rfl
  | v :: r, o, w => by rw [World.setCells, size_setCells b r]; simp [World.setCell]

/-! ### keys -/
abbrev K60 := { s : ByteArray // s.size ≤ 31 }
def kap (s : K60) : Value := .agg (kcells s.1)
theorem kb_eq (s : ByteArray) (i : Nat) (h : i < s.size) : kb s i = (s.data[i].toNat : Int) := by
  have h' : i < s.data.toList.length := by simpa using h
  simp [kb, List.getElem?_eq_getElem h']
theorem kcells_inj {x y : ByteArray} (hx : x.size ≤ 31) (h : kcells x = kcells y) : x = y := by
  have hs : x.size = y.size := by
    have h0 : (kcells x)[0]? = (kcells y)[0]? := by rw [h]
    have h1 : Value.int .u8 x.size = Value.int .u8 y.size := Option.some.inj h0
    have := (Value.int.inj h1).2
    omega
  have hk : ∀ s : ByteArray, ∀ i, i < 31 → (kcells s)[i + 1]? = some (.int .u8 (kb s i)) := fun s i hi => by
    have e : (kcells s).toList = .int .u8 s.size :: (List.range 31).map (fun i => Value.int .u8 (kb s i)) := rfl
    have : (kcells s)[i + 1]? = (kcells s).toList[i + 1]? := by simp
    rw [this, e, List.getElem?_cons_succ, List.getElem?_map, List.getElem?_range hi]; rfl
  have hd : x.data = y.data := by
    apply Array.ext hs
    intro i h1 h2
    have hi : i < 31 := Nat.lt_of_lt_of_le h1 hx
    have e1 := hk x i hi
    rw [h, hk y i hi] at e1
    have e2 := (Value.int.inj (Option.some.inj e1)).2
    rw [kb_eq x i h1, kb_eq y i h2] at e2
    exact (UInt8.toNat_inj.1 (by omega)).symm
  cases x; cases y; simp_all
theorem kap_inj (x y : K60) (h : kap x = kap y) : x = y := Subtype.ext (kcells_inj x.2 (Value.agg.inj h))

theorem laidOut : laidOutB Try.prog = true := by kernel_rfl
theorem row60 : 60 < Try.prog.types.size := of_decide_eq_true (by kernel_rfl)
theorem wide60 : (match Try.prog.underlying 60 with | some (.array _ _) | some (.struct _) => true | _ => false) = true := by kernel_rfl
theorem law60 : Keyed Try.prog 60 := Keyed.of_law (deep_law_laid laidOut (m := 3) (by omega) row60 (by kernel_rfl) wide60)
theorem lawS : Keyed Try.prog 9 := Maps.string_keyed Try.underlying9
theorem str_inj (x y : ByteArray) (h : Value.string x = Value.string y) : x = y := Value.string.inj h
theorem str_key (x : ByteArray) (h : x.size ≤ maxLen) : keyOf Try.prog 9 (.string x) = some (.string x.data.toList) := by
  simp [keyOf, Try.underlying9, mapKey, h]
theorem keyType60 : Try.prog.keyType 60 = true := by kernel_rfl
theorem cells60 : Try.prog.cellsOf 60 = 32 := by kernel_rfl
theorem kb_wf (s : ByteArray) (i : Nat) : 0 ≤ kb s i ∧ kb s i < 256 := by
  by_cases h : i < s.size
  · rw [kb_eq s i h]
    have := s.data[i].toNat_lt
    omega
  · rw [kb_ge s i h]; omega
theorem mapM_some {α β : Type} {f : α → Option β} : ∀ (l : List α), (∀ x ∈ l, (f x).isSome = true) → (l.mapM f).isSome = true
  | [], _ => rfl
  | x :: r, h => by
    obtain ⟨y, hy⟩ := Option.isSome_iff_exists.1 (h x (by simp))
    obtain ⟨ys, hys⟩ := Option.isSome_iff_exists.1 (mapM_some r (fun z hz => h z (by simp [hz])))
    simp [List.mapM_cons, hy, hys]
theorem cells5 : Try.prog.cellsOf 5 = 1 := by kernel_rfl
theorem cells58 : Try.prog.cellsOf 58 = 31 := by kernel_rfl
theorem lits5 (d : Nat) (n : Int) (h : 0 ≤ n ∧ n < 256) : (Try.prog.keyLits (d + 1) 5 [.int .u8 n]).isSome = true := by
  have hw : (Lit.int .u8 n).wf = true := by simp [Lit.wf, show IntKind.u8.min = 0 from rfl, show IntKind.u8.max = 255 from rfl]; omega
  simp [Program.keyLits, Try.underlying5, hw]
theorem lits58 (d : Nat) (f : Nat → Int) (h : ∀ i, 0 ≤ f i ∧ f i < 256) : (Try.prog.keyLits (d + 2) 58 ((List.range 31).map fun i => Value.int .u8 (f i))).isSome = true := by
  unfold Program.keyLits
  simp only [Try.underlying58]
  simp only [List.length_map, List.length_range, cells58, if_true, cells5]
  rw [Option.isSome_map]
  refine mapM_some _ (fun i hi => ?_)
  have hi' : i < 31 := by simpa using hi
  have e : (((List.range 31).map fun i => Value.int .u8 (f i)).drop (i * 1)).take 1 = [Value.int .u8 (f i)] := by
    rw [Nat.mul_one, List.drop_eq_getElem_cons (by simpa using hi')]
    simp
  rw [e]
  exact lits5 d _ (h i)
theorem kap_key (x : K60) : ∃ kl, keyOf Try.prog 60 (kap x) = some kl := by
  have hx := x.2
  obtain ⟨d, hd⟩ : ∃ d, Try.prog.types.size = d + 2 := ⟨Try.prog.types.size - 2, by have := row60; omega⟩
  apply Option.isSome_iff_exists.1
  unfold keyOf
  rw [Try.underlying60]
  simp only [keyType60, Bool.true_and]
  rw [if_pos (by simp [kap, kcells, Value.formed, Try.underlying60, cells60])]
  rw [hd, Option.isSome_map]
  have ec : (kap x).cells.toList = .int .u8 x.1.size :: (List.range 31).map (fun i => Value.int .u8 (kb x.1 i)) := rfl
  rw [ec]
  unfold Program.keyLits
  simp only [Try.underlying60]
  simp only [List.length_cons, List.length_map, List.length_range, cells60]
  rw [if_pos (by simp), Option.isSome_map]
  refine mapM_some _ (fun f hf => ?_)
  simp only [List.mem_cons, List.not_mem_nil, or_false] at hf
  rcases hf with rfl | rfl
  · simp only [cells5]
    exact lits5 _ _ (by omega)
  · simp only [cells58]
    have e : List.take 31 (List.drop 1 (Value.int .u8 x.1.size :: (List.range 31).map (fun i => Value.int .u8 (kb x.1 i)))) = (List.range 31).map (fun i => Value.int .u8 (kb x.1 i)) := by
      rw [List.drop_one, List.tail_cons, List.take_of_length_le (by simp)]
    rw [e]
    exact lits58 _ _ (kb_wf x.1)
end Go.Proofs.Qxb6628689a
