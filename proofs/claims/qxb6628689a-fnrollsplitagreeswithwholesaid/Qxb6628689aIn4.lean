/-
  THE TRANSACTION's ROUND, PLAIN: the store, the model, what is to be restored.
-/
import Derived.Test.Qxb6628689aCst
namespace Go.Proofs.Qxb6628689a
open Go.RowKit
open Go.Maps (Keyed)

structure In4 (wN wQ wr : World) (U : List ByteArray) (st ms ml : Nat) (σ0 σ : St) (R : Rm) : Prop where
  bel : Below wN.heap.size wN wr
  lo : wN.heap.size ≤ ms ∧ wN.heap.size ≤ ml
  hi : ms < wQ.heap.size ∧ ml < wQ.heap.size ∧ wN.heap.size + 1 < wQ.heap.size
  sto : Sto wr U st ms ml σ
  mem : Mem wr U σ wN.heap.size (wN.heap.size + 1)
  rp : Rp wr U (wQ.heap.size + 1) wQ.heap.size R
  slim : Slim σ
  eq : ∀ x ∈ U, over σ R x = σ0 x
  but : But (fun b => Two ms ml b ∨ Pair wN.heap.size (wN.heap.size + 1) b) wQ wr

theorem In4.below {wN wQ wr w' : World} {U : List ByteArray} {st ms ml : Nat} {σ0 σ : St} {R : Rm} (h : In4 wN wQ wr U st ms ml σ0 σ R) (hb : Below wr.heap.size wr w') : In4 wN wQ w' U st ms ml σ0 σ R :=
  ⟨h.bel.trans (hb.mono h.bel.size), h.lo, h.hi, h.sto.below hb, h.mem.below hb, h.rp.below hb, h.slim, h.eq, h.but.trans (But.of_below hb)⟩

theorem In4.start {wN wQ : World} {U : List ByteArray} {st ms ml : Nat} {σ : St} (bel : Below wN.heap.size wN wQ) (lo : wN.heap.size ≤ ms ∧ wN.heap.size ≤ ml) (sto : Sto wQ U st ms ml σ) (mem : Mem wQ U σ wN.heap.size (wN.heap.size + 1)) (slim : Slim σ) :
    In4 wN wQ (wQ.alloc (.map #[] 0)) U st ms ml σ σ (fun _ => none) := by
  have hb : Below wQ.heap.size wQ (wQ.alloc (.map #[] 0)) := (Below.refl _ _).alloc (Nat.le_refl _) _
  exact ⟨bel.trans (hb.mono bel.size), lo, ⟨sto.lt.2.1, sto.lt.2.2, mem.lt.2⟩, sto.below hb, mem.below hb, Rp.start (MapIs.made Try.prog wQ 9 Value.string), slim, fun x _ => rfl, But.of_below hb⟩

/-- a key's first touch is noted -/
theorem In4.note {wN wQ wr : World} {U : List ByteArray} {st ms ml : Nat} {σ0 σ : St} {R : Rm} (h : In4 wN wQ wr U st ms ml σ0 σ R) (hU : Uni U) {k : ByteArray} (hk : k ∈ U) {v : Value} (hv : RAt wr (wQ.heap.size + 1) (some v) (some (σ k))) (hR : R k = none) :
    ∃ w', (Instr.mapUpdate 39 (.map (some wQ.heap.size)) (.string k) v).run Try.prog wr = .ok () w' ∧ In4 wN wQ w' U st ms ml σ0 σ (rput R k (σ k)) := by
  obtain ⟨w', h1, h2, h3, h4⟩ := h.rp.store hU hk hv
  obtain ⟨g1, g2, g3⟩ := h.hi
  obtain ⟨M, N, hM, _⟩ := h.rp.map
  have hnr : ∀ q, q = wQ.heap.size → ¬ Rowish wr q := by
    rintro q rfl
    exact not_rowish_map hM
  refine ⟨w', h1, ⟨h.bel.trans (h3.below h.bel.size (fun q e => by omega)), h.lo, h.hi, h.sto.kept h3 ?_ (by omega) (by omega) hnr, h.mem.kept h3 (by omega) (by omega) hnr, h2, h.slim, fun x hx => ?_, ?_⟩⟩
  · intro e
    obtain ⟨es, c, hm⟩ := hM.isMap
    have := h.sto.blk
    rw [e, hm] at this
    cases this
  · rw [← h.eq x hx]
    by_cases e : x = k
    · subst e; simp [over, rput, hR]
    · simp [over, rput, e]
  · refine ⟨h3.os.trans h.but.os, h3.tape.trans h.but.tape, h3.output.trans h.but.output, Nat.le_trans h.but.size h3.size, fun q hq hx => ?_⟩
    rw [h3.block q (Nat.lt_of_lt_of_le hq h.but.size) (by omega)]
    exact h.but.block q hq hx

/-- a key is set or removed, and the model with it -/
theorem In4.turn {wN wQ wa wb : World} {U : List ByteArray} {st ms ml : Nat} {σ0 σ : St} {R : Rm} (h : In4 wN wQ wa U st ms ml σ0 σ R) (hU : Uni U) {k : ByteArray} (hk : k ∈ U) (hR : (R k).isSome = true) {o : Option (List Int)} {sl : Value} (hSb : Sto wb U st ms ml (sput σ k o)) (hb : But (Two ms ml) wa wb) (hs : Bytes wa sl (o.getD [])) (ho : ∀ xs, o = some xs → xs.length ≤ 1048576) :
    Below wN.heap.size wN wb ∧ Mem wb U σ wN.heap.size (wN.heap.size + 1) ∧
    In4 wN wQ ((wb.setCell ⟨wN.heap.size, U.idxOf k, none⟩ (.bool o.isSome)).setCell ⟨wN.heap.size + 1, U.idxOf k, none⟩ sl) U st ms ml σ0 (sput σ k o) R := by
  obtain ⟨h1, h2, h3, h4⟩ := step_both hU hk h.mem h.sto hSb hb hs
  obtain ⟨g1, g2, g3⟩ := h.hi
  obtain ⟨b1, b2⟩ := h.lo
  obtain ⟨M, N, hM, _⟩ := h.rp.map
  have hbel : Below wN.heap.size wN wb := h.bel.trans (hb.below h.bel.size (fun q e => by rcases e with e | e <;> omega))
  refine ⟨hbel, h1, hbel.trans (h4.below hbel.size (fun q e => by rcases e with e | e <;> omega)), h.lo, h.hi, h2, h3, ?_, h.slim.put ho, fun x hx => ?_, ?_⟩
  · have r1 := h.rp.kept hb (fun e => by rcases e with e | e <;> omega) (h.sto.two_apart _)
    refine r1.kept h4 (fun e => by rcases e with e | e <;> omega) (fun q e => ⟨h1.no_row q e, fun hbx => ?_⟩)
    have := hbx.1
    rcases e with e | e <;> omega
  · rw [← h.eq x hx]
    by_cases e : x = k
    · subst e
      obtain ⟨o', ho'⟩ := Option.isSome_iff_exists.1 hR
      simp [over, ho']
    · simp [over, sput, e]
  · exact (h.but.trans (hb.mono (fun q _ e => Or.inl e))).trans (h4.mono (fun q _ e => Or.inr e))
theorem rput_some (R : Rm) (k : ByteArray) (o : Option (List Int)) : (rput R k o k).isSome = true := by simp [rput]

/-- rolled back once -/
structure Fin4 (wN wQ wr : World) (U : List ByteArray) (st ms ml un : Nat) (σ0 : St) (R : Rm) : Prop where
  bel : Below wN.heap.size wN wr
  lo : wN.heap.size ≤ ms ∧ wN.heap.size ≤ ml
  hi : ms < wQ.heap.size ∧ ml < wQ.heap.size ∧ wN.heap.size + 1 < wQ.heap.size
  sto : Sto wr U st ms ml σ0
  rp : Rp wr U (wQ.heap.size + 1) wQ.heap.size R
  eq : ∀ x ∈ U, over σ0 R x = σ0 x
  but : But (fun b => Two ms ml b ∨ Pair wN.heap.size (wN.heap.size + 1) b) wQ wr
  und : wr.heap[un]? = some (.cells #[.pointer (some ⟨st, 0, none⟩), .map (some wQ.heap.size)] 55 (0, 0))
theorem Fin4.below {wN wQ wr w' : World} {U : List ByteArray} {st ms ml un : Nat} {σ0 : St} {R : Rm} (h : Fin4 wN wQ wr U st ms ml un σ0 R) (hb : Below wr.heap.size wr w') : Fin4 wN wQ w' U st ms ml un σ0 R :=
  ⟨h.bel.trans (hb.mono h.bel.size), h.lo, h.hi, h.sto.below hb, h.rp.below hb, h.eq, h.but.trans (But.of_below hb), (hb.block un (lt_of_heap h.und)).trans h.und⟩
theorem over_again {U : List ByteArray} {σ σ0 : St} {R : Rm} (h : ∀ x ∈ U, over σ R x = σ0 x) : ∀ x ∈ U, over σ0 R x = σ0 x := fun x hx => by
  have := h x hx
  unfold over at *
  cases hR : R x with
  | none => rfl
  | some o => rw [hR] at this; exact this
theorem und_apart {w : World} {U : List ByteArray} {st ms ml un : Nat} {σ : St} {c : Array Value} {t : TypeId} (h : Sto w U st ms ml σ) (hu : w.heap[un]? = some (.cells c t (0, 0))) : ¬ Two ms ml un := fun e => by
  obtain ⟨hne, hblk, S, L, NS, NL, hS, hL, hN, hA⟩ := h
  rcases e with e | e
  · obtain ⟨es, c, hm⟩ := hS.isMap
    rw [← e, hu] at hm; cases hm
  · obtain ⟨es, c, hm⟩ := hL.isMap
    rw [← e, hu] at hm; cases hm
/-- behind the first Roll -/
theorem In4.rolled {wN wQ wr wb : World} {U : List ByteArray} {st ms ml un : Nat} {σ0 σ : St} {R : Rm} (h : In4 wN wQ wr U st ms ml σ0 σ R) (hu : wr.heap[un]? = some (.cells #[.pointer (some ⟨st, 0, none⟩), .map (some wQ.heap.size)] 55 (0, 0))) (hs : Sto wb U st ms ml (over σ R)) (hb : But (Two ms ml) wr wb) : Fin4 wN wQ wb U st ms ml un σ0 R := by
  obtain ⟨g1, g2, g3⟩ := h.hi
  obtain ⟨b1, b2⟩ := h.lo
  exact ⟨h.bel.trans (hb.below h.bel.size (fun q e => by rcases e with e | e <;> omega)), h.lo, h.hi, hs.congr h.eq, h.rp.kept hb (fun e => by rcases e with e | e <;> omega) (h.sto.two_apart _), over_again h.eq, h.but.trans (hb.mono (fun q _ e => Or.inl e)), hb.heap hu (und_apart h.sto hu)⟩
theorem Fin4.rolled {wN wQ wr wb : World} {U : List ByteArray} {st ms ml un : Nat} {σ0 : St} {R : Rm} (h : Fin4 wN wQ wr U st ms ml un σ0 R) (hs : Sto wb U st ms ml (over σ0 R)) (hb : But (Two ms ml) wr wb) : Fin4 wN wQ wb U st ms ml un σ0 R := by
  obtain ⟨g1, g2, g3⟩ := h.hi
  obtain ⟨b1, b2⟩ := h.lo
  exact ⟨h.bel.trans (hb.below h.bel.size (fun q e => by rcases e with e | e <;> omega)), h.lo, h.hi, hs.congr h.eq, h.rp.kept hb (fun e => by rcases e with e | e <;> omega) (h.sto.two_apart _), h.eq, h.but.trans (hb.mono (fun q _ e => Or.inl e)), hb.heap h.und (und_apart h.sto h.und)⟩
theorem Fin4.nes {wN wQ wr : World} {U : List ByteArray} {st ms ml un : Nat} {σ0 : St} {R : Rm} (h : Fin4 wN wQ wr U st ms ml un σ0 R) : wQ.heap.size ≠ ms ∧ wQ.heap.size ≠ ml := by
  have := h.hi
  omega
/-- zzStoreIs then -/
theorem Fin4.is {wN wQ wr : World} {U : List ByteArray} {st ms ml un mi BH BV : Nat} {σ0 : St} {R : Rm} {vn vh vv : Value} {E : Nat → Value} (h : Fin4 wN wQ wr U st ms ml un σ0 R) (hU : Uni U) (hn : Names wN mi vn U) (hH : RowFrom wQ BH 4 vh U.length (fun i => .bool (σ0 (nm U i)).isSome)) (hV : RowFrom wQ BV 35 vv U.length E) (hE : ∀ i, i < U.length → Bytes wQ (E i) ((σ0 (nm U i)).getD []))
    (hB : wN.heap.size + 1 < BH ∧ ms < BH ∧ ml < BH) (hBV : BH ≤ BV) (hr : ∀ q, (Two ms ml q ∨ Pair wN.heap.size (wN.heap.size + 1) q) → ¬ Rowish wQ q) :
    Calls Try.prog 19 #[.pointer (some ⟨st, 0, none⟩), vn, vh, vv] wr fun e w' => e = .returned (.bool true) ∧ Below wr.heap.size wr w' := by
  obtain ⟨b1, b2, b3⟩ := hB
  refine is_rows U st ms ml σ0 wr vn vh vv E hU h.sto (hn.below h.bel).rowOf (hH.kept h.but (fun q e => ?_)).row (hV.kept h.but (fun q e => ?_)).row (fun i hi => (hE i hi).kept h.but hr)
  · rcases e with (e | e) | (e | e) <;> omega
  · rcases e with (e | e) | (e | e) <;> omega
end Go.Proofs.Qxb6628689a
