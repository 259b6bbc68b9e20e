/-
  THE BEGINNING AND THE END OF THE LAST LOOP OF FnRollSplitAgreesWithWhole, plain.
-/
import Derived.Test.Qxb6628689aIn7
namespace Go.Proofs.Qxb6628689a
open Go.RowKit
open Go.Maps (Keyed)

theorem In7.start {wN wQ wT : World} {U O : List ByteArray} {v : Value} {R : Rm} {sa ma la sb mb lb : Nat} {σ0 : St} (c : Nat) (hbi : BiStep wN wQ U sa ma la sb mb lb σ0 σ0 σ0) (h6 : In6 wQ wT U O v R none) :
    In7 wN wQ wT (((wT.alloc (.map #[] 0)).alloc (.map #[] 0)).alloc (.map #[] 0)) U O v R (part R (O.take 0)) (part R (s1 O c 0)) (part R (s2 O c 0)) sa ma la sb mb lb σ0 (over σ0 (part R (O.take 0))) := by
  have e1 : part R (O.take 0) = fun _ => none := by simp [part_nil]
  have e2 : part R (s1 O c 0) = fun _ => none := by simp [s1, part_nil]
  have e3 : part R (s2 O c 0) = fun _ => none := by simp [s2, part_nil]
  have e4 : over σ0 (fun _ => none) = σ0 := by funext x; rfl
  rw [e2, e3, e1, e4]
  have hb : Below wT.heap.size wT (((wT.alloc (.map #[] 0)).alloc (.map #[] 0)).alloc (.map #[] 0)) := (((Below.refl _ _).alloc (Nat.le_refl _) _).alloc (by simp) _).alloc (by simp; omega) _
  have hl := hbi.a.lt
  have hl2 := hbi.b.lt
  have hm := hbi.mem.lt
  have hr := h6.rp.lt
  have h1 := MapIs.made Try.prog wT 9 Value.string
  have h2 := MapIs.made Try.prog (wT.alloc (.map #[] 0)) 9 Value.string
  have h3 := MapIs.made Try.prog ((wT.alloc (.map #[] 0)).alloc (.map #[] 0)) 9 Value.string
  have z2 : (wT.alloc (.map #[] 0)).heap.size = wT.heap.size + 1 := by simp
  have z3 : ((wT.alloc (.map #[] 0)).alloc (.map #[] 0)).heap.size = wT.heap.size + 2 := by simp
  rw [z2] at h2
  rw [z3] at h3
  exact ⟨⟨hl.2.1, hl.2.2, hl2.2.1, hl2.2.2, hm.2, hr⟩, (hbi.below h6.bel).below hb, h6.ord.below hb, h6.rp.below hb, Rp.start ((h1.alloc _).alloc _), Rp.start (h2.alloc _), Rp.start h3⟩

structure Fin7 (wN wQ wT wr : World) (U : List ByteArray) (R1 R2 : Rm) (sa ma la sb mb lb : Nat) (σa σb σ : St) : Prop where
  low : ma < wQ.heap.size ∧ la < wQ.heap.size ∧ mb < wQ.heap.size ∧ lb < wQ.heap.size ∧ wN.heap.size + 1 < wQ.heap.size ∧ wQ.heap.size < wT.heap.size
  bi : BiStep wN wr U sa ma la sb mb lb σa σb σ
  p1 : Rp wr U (wQ.heap.size + 1) (wT.heap.size + 1) R1
  p2 : Rp wr U (wQ.heap.size + 1) (wT.heap.size + 2) R2
theorem Fin7.below {wN wQ wT wr w' : World} {U : List ByteArray} {R1 R2 : Rm} {sa ma la sb mb lb : Nat} {σa σb σ : St} (h : Fin7 wN wQ wT wr U R1 R2 sa ma la sb mb lb σa σb σ) (hb : Below wr.heap.size wr w') : Fin7 wN wQ wT w' U R1 R2 sa ma la sb mb lb σa σb σ :=
  ⟨h.low, h.bi.below hb, h.p1.below hb, h.p2.below hb⟩
theorem Fin7.rollA {wN wQ wT wr w' : World} {U : List ByteArray} {R1 R2 : Rm} {sa ma la sb mb lb : Nat} {σa σb σ σ' : St} (h : Fin7 wN wQ wT wr U R1 R2 sa ma la sb mb lb σa σb σ) (hf : Four ma la mb lb) (lo : wN.heap.size ≤ ma ∧ wN.heap.size ≤ la) (hs : Sto w' U sa ma la σ') (hb : But (Two ma la) wr w') : Fin7 wN wQ wT w' U R1 R2 sa ma la sb mb lb σ' σb σ := by
  obtain ⟨g1, g2, g3, g4, g5, g6⟩ := h.low
  exact ⟨h.low, h.bi.setA hf lo hs hb, h.p1.kept hb (fun e => by rcases e with e | e <;> omega) (h.bi.a.two_apart _), h.p2.kept hb (fun e => by rcases e with e | e <;> omega) (h.bi.a.two_apart _)⟩
theorem Fin7.rollB {wN wQ wT wr w' : World} {U : List ByteArray} {R1 R2 : Rm} {sa ma la sb mb lb : Nat} {σa σb σ σ' : St} (h : Fin7 wN wQ wT wr U R1 R2 sa ma la sb mb lb σa σb σ) (hf : Four ma la mb lb) (lo : wN.heap.size ≤ mb ∧ wN.heap.size ≤ lb) (hs : Sto w' U sb mb lb σ') (hb : But (Two mb lb) wr w') : Fin7 wN wQ wT w' U R1 R2 sa ma la sb mb lb σa σ' σ := by
  obtain ⟨g1, g2, g3, g4, g5, g6⟩ := h.low
  exact ⟨h.low, h.bi.setB hf lo hs hb, h.p1.kept hb (fun e => by rcases e with e | e <;> omega) (h.bi.b.two_apart _), h.p2.kept hb (fun e => by rcases e with e | e <;> omega) (h.bi.b.two_apart _)⟩
theorem In7.fin {wN wQ wT wr : World} {U O : List ByteArray} {v : Value} {R Rw R1 R2 : Rm} {sa ma la sb mb lb : Nat} {σ0 σ : St} (h : In7 wN wQ wT wr U O v R Rw R1 R2 sa ma la sb mb lb σ0 σ) : Fin7 wN wQ wT wr U R1 R2 sa ma la sb mb lb σ0 σ0 σ := ⟨h.low, h.bi, h.p1, h.p2⟩

/-- zzStoreIs over has and val themselves -/
theorem Mem.is {w : World} {U : List ByteArray} {st ms ml bh bv mi c d : Nat} {σ σ' : St} {vn : Value} {wN : World} (h : Mem w U σ bh bv) (hU : Uni U) (hS : Sto w U st ms ml σ') (e : ∀ x ∈ U, σ' x = σ x) (hn : Names wN mi vn U) (hb : Below wN.heap.size wN w) :
    Calls Try.prog 19 #[.pointer (some ⟨st, 0, none⟩), vn, .slice (some ⟨bh, 0, none⟩) U.length c, .slice (some ⟨bv, 0, none⟩) U.length d] w fun e w' => e = .returned (.bool true) ∧ Below w.heap.size w w' := by
  obtain ⟨⟨a, e1, s1, g1⟩, ⟨b, e2, s2, g2⟩⟩ := h
  have hl := hU.few
  refine is_rows U st ms ml σ w vn _ _ (fun i => (b[i]?).getD undef) hU (hS.congr e) (hn.below hb).rowOf ⟨_, c, rfl, by unfold maxLen; omega, fun _ => ⟨bh, a, rfl, e1, g1⟩⟩ ⟨_, d, rfl, by unfold maxLen; omega, fun _ => ⟨bv, b, rfl, e2, fun i hi => ?_⟩⟩ (fun i hi => ?_)
  · obtain ⟨sl, h1, _⟩ := g2 i hi
    simp [h1]
  · obtain ⟨sl, h1, h2⟩ := g2 i hi
    simpa [h1] using h2
theorem split_over {U O : List ByteArray} {σ0 : St} {R : Rm} {c : Nat} (h : ∀ x ∈ U, x ∈ O → (R x).isSome = true) : ∀ x ∈ U, over (over σ0 (part R (s1 O c O.length))) (part R (s2 O c O.length)) x = over σ0 (part R (O.take O.length)) x := fun x hx => by
  have e := over_parts (σ := σ0) (R := R) (U := U) (s := s1 O c O.length) (t := s2 O c O.length) (fun y hy hm => h y hy (by
    have : s1 O c O.length ++ s2 O c O.length = O := by unfold s1 s2; rw [List.take_length]; exact List.take_append_drop c O
    rw [this] at hm; exact hm)) x hx
  rw [e]
  have : s1 O c O.length ++ s2 O c O.length = O.take O.length := by unfold s1 s2; rw [List.take_length]; exact List.take_append_drop c O
  rw [this]
end Go.Proofs.Qxb6628689a
