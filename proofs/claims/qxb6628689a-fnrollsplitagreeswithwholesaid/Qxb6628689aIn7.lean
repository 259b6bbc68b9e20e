/-
  THE ROUNDS OF FnRollSplitAgreesWithWhole, plain.
-/
import Derived.Test.Qxb6628689aIn5
namespace Go.Proofs.Qxb6628689a
open Go.RowKit
open Go.Maps (Keyed)

/-! ### the order, and what is to be restored -/
structure In6 (wQ wr : World) (U O : List ByteArray) (v : Value) (R : Rm) (pd : Option ByteArray) : Prop where
  bel : Below wQ.heap.size wQ wr
  ord : Ord wr wQ.heap.size v O
  rp : Rp wr U (wQ.heap.size + 1) wQ.heap.size R
  nd : O.Nodup
  sub : ∀ x ∈ O, x ∈ U
  dom : ∀ x ∈ U, x ∈ O ↔ ((R x).isSome = true ∨ pd = some x)
  slim : SlimR U R
theorem In6.below {wQ wr w' : World} {U O : List ByteArray} {v : Value} {R : Rm} {pd : Option ByteArray} (h : In6 wQ wr U O v R pd) (hb : Below wr.heap.size wr w') : In6 wQ w' U O v R pd :=
  ⟨h.bel.trans (hb.mono h.bel.size), h.ord.below hb, h.rp.below hb, h.nd, h.sub, h.dom, h.slim⟩
theorem In6.start (wQ : World) (U : List ByteArray) : In6 wQ (wQ.alloc (.map #[] 0)) U [] (.slice none 0 0) (fun _ => none) none :=
  ⟨(Below.refl _ _).alloc (Nat.le_refl _) _, Ord.start _ _, Rp.start (MapIs.made Try.prog wQ 9 Value.string), List.nodup_nil, fun x h => by simp at h, fun x _ => by simp, fun x _ xs h => by cases h⟩
theorem In6.seen {wQ wr : World} {U O : List ByteArray} {v : Value} {R : Rm} (h : In6 wQ wr U O v R none) {k : ByteArray} (hs : (R k).isSome = true) : In6 wQ wr U O v R (some k) := by
  refine ⟨h.bel, h.ord, h.rp, h.nd, h.sub, fun x hx => ?_, h.slim⟩
  rw [h.dom x hx]
  constructor
  · rintro (e | e)
    · exact Or.inl e
    · cases e
  · rintro (e | e)
    · exact Or.inl e
    · cases e; exact Or.inl hs
theorem In6.push {wQ wr w' : World} {U O : List ByteArray} {v v' : Value} {R : Rm} {o : Obj} (h : In6 wQ wr U O v R none) {k : ByteArray} (hk : k ∈ U) (hs : R k = none) (hown : w'.ownsRow (wQ.heap.size + 1) 9 1 v' (O.length + 1) (O.map Value.string ++ [.string k])) (hg : (wr.alloc o).grownBy w' v.ownBlock) : In6 wQ w' U (O ++ [k]) v' R (some k) := by
  have hnm : k ∉ O := fun e => by
    rcases (h.dom k hk).1 e with e | e
    · rw [hs] at e; cases e
    · cases e
  have hbut : But (fun q => v.ownBlock = some q) wr w' := ⟨hg.os, hg.tape, hg.output, Nat.le_trans (by simp) hg.size, fun q hq hx => by
    rw [hg.block q (by simp; omega) (fun e => hx e.symm)]
    exact Below.heap_alloc _ _ _ hq⟩
  have hgb : ∀ q, v.ownBlock = some q → wQ.heap.size + 1 ≤ q ∧ ∃ arr, wr.heap[q]? = some (.cells arr 9 (0, 0)) := fun q e => by
    rcases h.ord.2 with ⟨e', _⟩ | ⟨g, cap, cur, e', h2, h3, _⟩
    · rw [e'] at e; cases e
    · rw [e'] at e
      simp only [Value.ownBlock, Option.some.injEq] at e
      subst e
      exact ⟨h2, cur, h3⟩
  refine ⟨h.bel.trans (hbut.below h.bel.size (fun q e => by have := (hgb q e).1; omega)), ?_, ?_, ?_, fun x hx => ?_, fun x hx => ?_, h.slim⟩
  · show w'.ownsRow _ _ _ _ _ _
    simpa using hown
  · refine h.rp.kept hbut (fun e => by have := (hgb _ e).1; omega) (fun q e => ?_)
    obtain ⟨_, arr, ha⟩ := hgb q e
    constructor
    · rintro ⟨arr', h'⟩; rw [ha] at h'; cases h'
    · rintro ⟨_, sl, h'⟩; rw [ha] at h'; cases h'
  · rw [List.nodup_append]
    refine ⟨h.nd, by simp, fun a ha b hb => ?_⟩
    simp at hb
    subst hb
    exact fun e => hnm (e ▸ ha)
  · rw [List.mem_append] at hx
    rcases hx with hx | hx
    · exact h.sub x hx
    · simp at hx; subst hx; exact hk
  · rw [List.mem_append, h.dom x hx]
    simp
    constructor
    · rintro (e | e)
      · exact Or.inl e
      · exact Or.inr e.symm
    · rintro (e | e)
      · exact Or.inl e
      · exact Or.inr e.symm
theorem In6.put {wQ wr : World} {U O : List ByteArray} {v : Value} {R : Rm} {k : ByteArray} (h : In6 wQ wr U O v R (some k)) (hU : Uni U) (hk : k ∈ U) {u : Value} {x : Option (List Int)} (hx : RAt wr (wQ.heap.size + 1) (some u) (some x)) (hl : ∀ xs, x = some xs → xs.length ≤ 1048576) :
    ∃ w', (Instr.mapUpdate 39 (.map (some wQ.heap.size)) (.string k) u).run Try.prog wr = .ok () w' ∧ In6 wQ w' U O v (rput R k x) none := by
  obtain ⟨w', h1, h2, h3, _⟩ := h.rp.store hU hk hx
  obtain ⟨es, c, hm⟩ := h.rp.isMap
  refine ⟨w', h1, h.bel.trans (h3.below h.bel.size (fun q e => by omega)), h.ord.kept h3 (fun q arr e => ?_), h2, h.nd, h.sub, fun y hy => ?_, h.slim.put hl⟩
  · intro h5 h6; omega
  · rw [h.dom y hy]
    by_cases e : y = k
    · subst e; simp [rput]
    · have : ¬ k = y := fun e' => e e'.symm
      simp [rput, e, this]

/-! ### has and val, a clone between -/
theorem Mem.turn2 {w w3 : World} {U : List ByteArray} {σ : St} {bh bv : Nat} (nd : U.Nodup) (h : Mem w U σ bh bv) {k : ByteArray} (hk : k ∈ U) {o : Option (List Int)} {sl : Value} (hb : Below (w.setCell ⟨bh, U.idxOf k, none⟩ (.bool o.isSome)).heap.size (w.setCell ⟨bh, U.idxOf k, none⟩ (.bool o.isSome)) w3) (hs : Bytes w3 sl (o.getD [])) :
    Mem (w3.setCell ⟨bv, U.idxOf k, none⟩ sl) U (sput σ k o) bh bv ∧ But (Pair bh bv) w (w3.setCell ⟨bv, U.idxOf k, none⟩ sl) := by
  have hne := h.ne
  have hnr := h.no_row
  have hlt := h.lt
  have hsz : (w.setCell ⟨bh, U.idxOf k, none⟩ (.bool o.isSome)).heap.size = w.heap.size := by simp [World.setCell]
  have hb3 : But (Pair bh bv) w w3 := ((But.refl (Pair bh bv) w).setCell (p := ⟨bh, U.idxOf k, none⟩) (Or.inl rfl) _).trans (But.of_below hb)
  have hbf : But (Pair bh bv) w (w3.setCell ⟨bv, U.idxOf k, none⟩ sl) := hb3.setCell (p := ⟨bv, U.idxOf k, none⟩) (Or.inr rfl) _
  refine ⟨?_, hbf⟩
  obtain ⟨⟨a, e1, s1, g1⟩, ⟨b, e2, s2, g2⟩⟩ := h
  have hj := idx_lt hk
  have e3 : w3.heap[bv]? = some (.cells b 35 (0, 0)) := by
    rw [hb.block bv (by rw [hsz]; exact hlt.2), Below.heap_setCell _ _ _ _ (by exact Ne.symm hne)]
    exact e2
  have e4 : w3.heap[bh]? = some (.cells (a.setIfInBounds (U.idxOf k) (.bool o.isSome)) 4 (0, 0)) := by
    rw [hb.block bh (by rw [hsz]; exact hlt.1)]
    exact heap_setCell_row e1 _ _
  have hnr3 : ∀ q, q = bv → ¬ Rowish w3 q := by
    rintro q rfl ⟨c, h'⟩
    rw [e3] at h'; cases h'
  have hb4 : But (· = bv) w3 (w3.setCell ⟨bv, U.idxOf k, none⟩ sl) := But.setCell (X := (· = bv)) (But.refl _ _) (p := ⟨bv, U.idxOf k, none⟩) rfl _
  refine ⟨⟨a.setIfInBounds (U.idxOf k) (.bool o.isSome), ?_, by simpa using s1, fun i hi => ?_⟩, ⟨b.setIfInBounds (U.idxOf k) sl, ?_, by simpa using s2, fun i hi => ?_⟩⟩
  · rw [Below.heap_setCell _ _ _ _ (by exact hne)]
    exact e4
  · by_cases e : i = U.idxOf k
    · subst e
      rw [Array.getElem?_setIfInBounds_self_of_lt (by omega), nm_idx hk]
      simp [sput]
    · rw [Array.getElem?_setIfInBounds_ne (by omega), g1 i hi]
      simp [sput, nm_ne nd hi hk e]
  · exact heap_setCell_row e3 _ _
  · by_cases e : i = U.idxOf k
    · subst e
      refine ⟨sl, Array.getElem?_setIfInBounds_self_of_lt (by omega), ?_⟩
      rw [nm_idx hk]
      simpa [sput] using hs.kept hb4 hnr3
    · obtain ⟨sl', h3, h4⟩ := g2 i hi
      refine ⟨sl', by rw [Array.getElem?_setIfInBounds_ne (by omega)]; exact h3, ?_⟩
      simpa [sput, nm_ne nd hi hk e] using h4.kept hbf hnr

/-! ### the whole and its parts -/
structure In7 (wN wQ wT wr : World) (U O : List ByteArray) (v : Value) (R Rw R1 R2 : Rm) (sa ma la sb mb lb : Nat) (σ0 σ : St) : Prop where
  low : ma < wQ.heap.size ∧ la < wQ.heap.size ∧ mb < wQ.heap.size ∧ lb < wQ.heap.size ∧ wN.heap.size + 1 < wQ.heap.size ∧ wQ.heap.size < wT.heap.size
  bi : BiStep wN wr U sa ma la sb mb lb σ0 σ0 σ
  ord : Ord wr wQ.heap.size v O
  rp : Rp wr U (wQ.heap.size + 1) wQ.heap.size R
  w : Rp wr U (wQ.heap.size + 1) wT.heap.size Rw
  p1 : Rp wr U (wQ.heap.size + 1) (wT.heap.size + 1) R1
  p2 : Rp wr U (wQ.heap.size + 1) (wT.heap.size + 2) R2
theorem In7.put {wN wQ wT wr : World} {U O : List ByteArray} {v : Value} {R Rw R1 R2 : Rm} {sa ma la sb mb lb : Nat} {σ0 σ : St} (h : In7 wN wQ wT wr U O v R Rw R1 R2 sa ma la sb mb lb σ0 σ) (hU : Uni U) {k : ByteArray} (hk : k ∈ U) {u : Value} {x : Option (List Int)} (hx : RAt wr (wQ.heap.size + 1) (some u) (some x)) :
    (∃ w', (Instr.mapUpdate 39 (.map (some wT.heap.size)) (.string k) u).run Try.prog wr = .ok () w' ∧ In7 wN wQ wT w' U O v R (rput Rw k x) R1 R2 sa ma la sb mb lb σ0 σ ∧ RAt w' (wQ.heap.size + 1) (some u) (some x)) ∧
    (∃ w', (Instr.mapUpdate 39 (.map (some (wT.heap.size + 1))) (.string k) u).run Try.prog wr = .ok () w' ∧ In7 wN wQ wT w' U O v R Rw (rput R1 k x) R2 sa ma la sb mb lb σ0 σ ∧ RAt w' (wQ.heap.size + 1) (some u) (some x)) ∧
    (∃ w', (Instr.mapUpdate 39 (.map (some (wT.heap.size + 2))) (.string k) u).run Try.prog wr = .ok () w' ∧ In7 wN wQ wT w' U O v R Rw R1 (rput R2 k x) sa ma la sb mb lb σ0 σ ∧ RAt w' (wQ.heap.size + 1) (some u) (some x)) := by
  obtain ⟨g1, g2, g3, g4, g5, g6⟩ := h.low
  have key : ∀ m Rm', wQ.heap.size < m → Rp wr U (wQ.heap.size + 1) m Rm' → ∃ w', (Instr.mapUpdate 39 (.map (some m)) (.string k) u).run Try.prog wr = .ok () w' ∧ BiStep wN w' U sa ma la sb mb lb σ0 σ0 σ ∧ Ord w' wQ.heap.size v O ∧ Rp w' U (wQ.heap.size + 1) wQ.heap.size R ∧ Rp w' U (wQ.heap.size + 1) m (rput Rm' k x) ∧ But (· = m) wr w' ∧ RAt w' (wQ.heap.size + 1) (some u) (some x) := by
    intro m Rm' hm hr
    obtain ⟨w', h1, h2, h3, _⟩ := hr.store hU hk hx
    obtain ⟨es, c, hmm⟩ := hr.isMap
    have hnr := hr.no_row
    have hnb : ∀ q, q = m → ¬ Rowish wr q ∧ ¬ Boxy wr (wQ.heap.size + 1) q := fun q e => ⟨hnr q e, fun ⟨_, sl, hb⟩ => by rw [e, hmm] at hb; cases hb⟩
    refine ⟨w', h1, ⟨h.bi.bel.trans (h3.below h.bi.bel.size (fun q e => by have := h.bi.mem.lt; omega)), ?_, ?_, h.bi.mem.kept h3 (by omega) (by omega) hnr⟩, h.ord.kept h3 (fun q arr e _ h5 => ?_), h.rp.kept h3 (by omega) hnb, h2, h3, hx.kept h3 hnb⟩
    · exact h.bi.a.kept h3 (fun e => by have := h.bi.a.blk; rw [e, hmm] at this; cases this) (by omega) (by omega) hnr
    · exact h.bi.b.kept h3 (fun e => by have := h.bi.b.blk; rw [e, hmm] at this; cases this) (by omega) (by omega) hnr
    · rw [e, hmm] at h5; cases h5
  refine ⟨?_, ?_, ?_⟩
  · obtain ⟨w', r1, r2, r3, r4, r5, r6, r7⟩ := key _ _ (by omega) h.w
    exact ⟨w', r1, ⟨h.low, r2, r3, r4, r5, h.p1.other h.w (by omega) r6, h.p2.other h.w (by omega) r6⟩, r7⟩
  · obtain ⟨w', r1, r2, r3, r4, r5, r6, r7⟩ := key _ _ (by omega) h.p1
    exact ⟨w', r1, ⟨h.low, r2, r3, r4, h.w.other h.p1 (by omega) r6, r5, h.p2.other h.p1 (by omega) r6⟩, r7⟩
  · obtain ⟨w', r1, r2, r3, r4, r5, r6, r7⟩ := key _ _ (by omega) h.p2
    exact ⟨w', r1, ⟨h.low, r2, r3, r4, h.w.other h.p2 (by omega) r6, h.p1.other h.p2 (by omega) r6, r5⟩, r7⟩
theorem In7.model {wN wQ wT wr w3 : World} {U O : List ByteArray} {v : Value} {R Rw R1 R2 : Rm} {sa ma la sb mb lb : Nat} {σ0 σ : St} (h : In7 wN wQ wT wr U O v R Rw R1 R2 sa ma la sb mb lb σ0 σ) (hU : Uni U) {k : ByteArray} (hk : k ∈ U) {o : Option (List Int)} {sl : Value}
    (hb : Below (wr.setCell ⟨wN.heap.size, U.idxOf k, none⟩ (.bool o.isSome)).heap.size (wr.setCell ⟨wN.heap.size, U.idxOf k, none⟩ (.bool o.isSome)) w3) (hs : Bytes w3 sl (o.getD [])) :
    In7 wN wQ wT (w3.setCell ⟨wN.heap.size + 1, U.idxOf k, none⟩ sl) U O v R Rw R1 R2 sa ma la sb mb lb σ0 (sput σ k o) := by
  obtain ⟨g1, g2, g3, g4, g5, g6⟩ := h.low
  obtain ⟨h1, h2⟩ := h.bi.mem.turn2 hU.nd hk hb hs
  have hnb : ∀ q, Pair wN.heap.size (wN.heap.size + 1) q → ¬ Rowish wr q ∧ ¬ Boxy wr (wQ.heap.size + 1) q := fun q e => ⟨h.bi.mem.no_row q e, fun hbx => by have := hbx.1; rcases e with e | e <;> omega⟩
  have hnp : ∀ m, wQ.heap.size ≤ m → ¬ Pair wN.heap.size (wN.heap.size + 1) m := fun m hm e => by rcases e with e | e <;> omega
  exact ⟨h.low, ⟨h.bi.bel.trans (h2.below h.bi.bel.size (fun q e => by rcases e with e | e <;> omega)), h.bi.a.pair h.bi.mem h2, h.bi.b.pair h.bi.mem h2, h1⟩, h.ord.kept h2 (fun q arr e h5 => by rcases e with e | e <;> omega),
    h.rp.kept h2 (hnp _ (by omega)) hnb, h.w.kept h2 (hnp _ (by omega)) hnb, h.p1.kept h2 (hnp _ (by omega)) hnb, h.p2.kept h2 (hnp _ (by omega)) hnb⟩
theorem In7.below {wN wQ wT wr w' : World} {U O : List ByteArray} {v : Value} {R Rw R1 R2 : Rm} {sa ma la sb mb lb : Nat} {σ0 σ : St} (h : In7 wN wQ wT wr U O v R Rw R1 R2 sa ma la sb mb lb σ0 σ) (hb : Below wr.heap.size wr w') : In7 wN wQ wT w' U O v R Rw R1 R2 sa ma la sb mb lb σ0 σ :=
  ⟨h.low, h.bi.below hb, h.ord.below hb, h.rp.below hb, h.w.below hb, h.p1.below hb, h.p2.below hb⟩
end Go.Proofs.Qxb6628689a
