/-
  WHAT STANDS WHILE A LAW RUNS: the clones of its arguments; the state that is filled; plain.
-/
import Derived.Test.Qxb6628689aMem
namespace Go.Proofs.Qxb6628689a
open Go.RowKit
open Go.Maps (Keyed)

theorem Arg.below {w w' : World} {k0 v0 k1 v1 d1 : Value} {n0 m0 n1 m1 nd : Nat} {V0 V1 : Nat → ByteArray} {E0 E1 : Nat → Value} {Z0 Z1 : Nat → List Int} {D : Nat → Bool} (h : Arg w k0 v0 k1 v1 d1 n0 m0 n1 m1 nd V0 V1 E0 E1 Z0 Z1 D) (hb : Below w.heap.size w w') : Arg w' k0 v0 k1 v1 d1 n0 m0 n1 m1 nd V0 V1 E0 E1 Z0 Z1 D :=
  ⟨h.a0.below hb, h.a1.below hb, h.a2.below hb, h.a3.below hb, h.a4.below hb, h.s0, h.s1, fun i hi => (h.z0 i hi).below hb, fun i hi => (h.z1 i hi).below hb⟩

structure Cst (w : World) (k0 v0 k1 v1 d1 : Value) (n0 m0 n1 m1 nd : Nat) (V0 V1 : Nat → ByteArray) (E0 E1 : Nat → Value) (Z0 Z1 : Nat → List Int) (D : Nat → Bool) : Prop where
  a0 : RowOf w 9 k0 n0 (fun i => .string (V0 i))
  a1 : RowOf w 35 v0 m0 E0
  a2 : RowOf w 9 k1 n1 (fun i => .string (V1 i))
  a3 : RowOf w 35 v1 m1 E1
  a4 : RowOf w 4 d1 nd (fun i => .bool (D i))
  z0 : ∀ i, i < m0 → Bytes w (E0 i) (Z0 i)
  z1 : ∀ i, i < m1 → Bytes w (E1 i) (Z1 i)
theorem Cst.below {w w' : World} {k0 v0 k1 v1 d1 : Value} {n0 m0 n1 m1 nd : Nat} {V0 V1 : Nat → ByteArray} {E0 E1 : Nat → Value} {Z0 Z1 : Nat → List Int} {D : Nat → Bool} (h : Cst w k0 v0 k1 v1 d1 n0 m0 n1 m1 nd V0 V1 E0 E1 Z0 Z1 D) (hb : Below w.heap.size w w') : Cst w' k0 v0 k1 v1 d1 n0 m0 n1 m1 nd V0 V1 E0 E1 Z0 Z1 D :=
  ⟨h.a0.below hb, h.a1.below hb, h.a2.below hb, h.a3.below hb, h.a4.below hb, fun i hi => (h.z0 i hi).below hb, fun i hi => (h.z1 i hi).below hb⟩

def zAt (m : Nat) (Z : Nat → List Int) (k : Nat) : List Int := if k < m then Z k else []
theorem zAt_bytes {w : World} {m : Nat} {E : Nat → Value} {Z : Nat → List Int} (h : ∀ i, i < m → Bytes w (E i) (Z i)) (k : Nat) : Bytes w (valAt m E k) (zAt m Z k) := by
  unfold valAt zAt
  by_cases hk : k < m
  · rw [if_pos hk, if_pos hk]; exact h k hk
  · rw [if_neg hk, if_neg hk]; exact nil_bytes w
theorem zAt_len {m : Nat} {Z : Nat → List Int} (h : Short (fun i => (Z i).length) m) (k : Nat) : (zAt m Z k).length ≤ 1048576 := by
  unfold zAt
  by_cases hk : k < m
  · rw [if_pos hk]; exact h k hk
  · rw [if_neg hk]; simp
def fill (V : Nat → ByteArray) (m : Nat) (Z : Nat → List Int) : Nat → St
  | 0 => fun _ => none
  | k + 1 => sput (fill V m Z k) (V k) (some (zAt m Z k))
def Slim (σ : St) : Prop := ∀ x xs, σ x = some xs → xs.length ≤ 1048576
theorem Slim.none : Slim (fun _ => none) := fun _ _ h => by cases h
theorem Slim.put {σ : St} (h : Slim σ) {k : ByteArray} {o : Option (List Int)} (ho : ∀ xs, o = some xs → xs.length ≤ 1048576) : Slim (sput σ k o) := fun x xs hx => by
  by_cases e : x = k
  · simp only [sput, if_pos e] at hx; exact ho xs hx
  · simp only [sput, if_neg e] at hx; exact h x xs hx
theorem fill_slim {V : Nat → ByteArray} {m : Nat} {Z : Nat → List Int} (h : Short (fun i => (Z i).length) m) : ∀ k, Slim (fill V m Z k)
  | 0 => Slim.none
  | k + 1 => (fill_slim h k).put (fun xs e => by cases e; exact zAt_len h k)
theorem Slim.getD {σ : St} (h : Slim σ) (k : ByteArray) : ((σ k).getD []).length ≤ 1048576 := by
  cases hk : σ k with
  | none => simp
  | some xs => exact h k xs hk

/-- the universe of names -/
def allU (V0 V1 : Nat → ByteArray) (n0 n1 : Nat) : List ByteArray := addN (addN [] V0 n0) V1 n1
theorem mem_all0 {V0 V1 : Nat → ByteArray} {n0 n1 j : Nat} (h : j < n0) : V0 j ∈ allU V0 V1 n0 n1 := mem_addN.2 (Or.inl (mem_addN.2 (Or.inr ⟨j, h, rfl⟩)))
theorem mem_all1 {V0 V1 : Nat → ByteArray} {n0 n1 j : Nat} (h : j < n1) : V1 j ∈ allU V0 V1 n0 n1 := mem_addN.2 (Or.inr ⟨j, h, rfl⟩)
theorem all_uni {V0 V1 : Nat → ByteArray} {n0 n1 : Nat} (nd : (allU V0 V1 n0 n1).Nodup) (h0 : n0 ≤ 1048576) (h1 : n1 ≤ 1048576) (s0 : Short (fun i => (V0 i).size) n0) (s1 : Short (fun i => (V1 i).size) n1) : Uni (allU V0 V1 n0 n1) := by
  refine ⟨nd, fun k hk => ?_, ?_⟩
  · rcases mem_addN.1 hk with hk | ⟨j, hj, rfl⟩
    · rcases mem_addN.1 hk with hk | ⟨j, hj, rfl⟩
      · simp at hk
      · exact s0 j hj
    · exact s1 j hj
  · have a := addN_length (addN [] V0 n0) V1 n1
    have b := addN_length [] V0 n0
    unfold allU
    simp at b
    omega

/-- one key set, and the model with it -/
theorem step_both {wa wb : World} {U : List ByteArray} {σ : St} {st ms ml bh bv : Nat} (hU : Uni U) {k : ByteArray} (hk : k ∈ U) {o : Option (List Int)} {sl : Value} (hM : Mem wa U σ bh bv) (hSa : Sto wa U st ms ml σ) (hSb : Sto wb U st ms ml (sput σ k o)) (hb : But (Two ms ml) wa wb) (hs : Bytes wa sl (o.getD [])) :
    Mem wb U σ bh bv ∧ Sto ((wb.setCell ⟨bh, U.idxOf k, none⟩ (.bool o.isSome)).setCell ⟨bv, U.idxOf k, none⟩ sl) U st ms ml (sput σ k o) ∧ Mem ((wb.setCell ⟨bh, U.idxOf k, none⟩ (.bool o.isSome)).setCell ⟨bv, U.idxOf k, none⟩ sl) U (sput σ k o) bh bv ∧
      But (Pair bh bv) wb ((wb.setCell ⟨bh, U.idxOf k, none⟩ (.bool o.isSome)).setCell ⟨bv, U.idxOf k, none⟩ sl) := by
  have hMb := hM.two hSa hb
  have hs' : Bytes wb sl (o.getD []) := hs.kept hb (fun q hq => (hSa.two_apart 0 q hq).1)
  obtain ⟨h1, h2⟩ := hMb.turn hU.nd hk hs'
  exact ⟨hMb, hSb.pair hMb h2, h1, h2⟩

theorem Mem.hasAt {w : World} {U : List ByteArray} {σ : St} {bh bv : Nat} (h : Mem w U σ bh bv) (hl : U.length ≤ 4194304) (c : Nat) : RowAt w (.slice (some ⟨bh, 0, none⟩) U.length c) U.length (fun i => .bool (σ (nm U i)).isSome) :=
  ⟨_, c, rfl, by unfold maxLen; omega, fun _ => ⟨bh, 0, rfl, fun i hi => by rw [Nat.zero_add]; exact (h.at hi).1⟩⟩
theorem Mem.valAt {w : World} {U : List ByteArray} {σ : St} {bh bv : Nat} (h : Mem w U σ bh bv) (hl : U.length ≤ 4194304) (c : Nat) : ∃ E, RowAt w (.slice (some ⟨bv, 0, none⟩) U.length c) U.length E ∧ ∀ i, i < U.length → Bytes w (E i) ((σ (nm U i)).getD []) := by
  refine ⟨fun i => (w.cell? ⟨bv, i, none⟩).getD undef, ⟨_, c, rfl, by unfold maxLen; omega, fun _ => ⟨bv, 0, rfl, fun i hi => ?_⟩⟩, fun i hi => ?_⟩
  · obtain ⟨_, _, _, sl, h1, _⟩ := h.at hi
    rw [Nat.zero_add]; simp [h1]
  · obtain ⟨_, _, _, sl, h1, h2⟩ := h.at hi
    simpa [h1] using h2
theorem Below.of_drew {w w' : World} (h : Below w.drew.heap.size w.drew w') : Below w.heap.size w w' := ⟨h.os, h.tape, h.output, h.size, h.block⟩
theorem But.of_drew {X : Nat → Prop} {w w' : World} (h : But X w.drew w') : But X w w' := ⟨h.os, h.tape, h.output, h.size, h.block⟩
theorem But.lowBelow {X : Nat → Prop} {B : Nat} {w0 w w' : World} (h0 : Below B w0 w) (hB : B ≤ w.heap.size) (h : But X w w') (hX : ∀ q, X q → B ≤ q) : Below B w0 w' := h0.trans (h.below hB hX)
theorem cell_but {X : Nat → Prop} {w w' : World} (hb : But X w w') {a : Addr} {v : Value} (h : w.cell? a = some v) (hx : ¬ X a.block) : w'.cell? a = some v := (World.cell?_of_block (hb.block a.block (lt_of_cell h) hx)).trans h
theorem cell_two {w w' : World} {U : List ByteArray} {st ms ml : Nat} {σ : St} (hS : Sto w U st ms ml σ) (hb : But (Two ms ml) w w') {b i : Nat} {v : Value} (h : w.cell? ⟨b, i, none⟩ = some v) : w'.cell? ⟨b, i, none⟩ = some v := by
  refine cell_but hb h (fun e => ?_)
  obtain ⟨hne, hblk, S, L, NS, NL, hS, hL, hN, hA⟩ := hS
  rcases e with e | e
  · obtain ⟨es, c, hm⟩ := hS.isMap
    rw [← e] at hm
    simp [World.cell?, hm] at h
  · obtain ⟨es, c, hm⟩ := hL.isMap
    rw [← e] at hm
    simp [World.cell?, hm] at h
theorem Names.look {w : World} {mi : Nat} {v : Value} {U : List ByteArray} (h : Names w mi v U) (hU : Uni U) {k : ByteArray} (hk : k ∈ U) : (Instr.lookup 31 (.map (some mi)) (.string k) false).run Try.prog w = .ok (.int .i64 (U.idxOf k : Nat)) w := by
  have := h.map.lookup lawS Try.underlying31 (zero3 _) (str_key k (by have := hU.short k hk; unfold maxLen; omega))
  rw [idxM_mem hk] at this
  exact this
end Go.Proofs.Qxb6628689a
