/-
  THE ROW OF 'FnRollSplitAgreesWithWhole': the shell's own frame, the walk imported.
-/
import Derived.Test.Qxb6628689aSplit
import Derived.WalkKit
import Derived.ProofKit
import Derived.OpenShut
import Derived.ChangeOld
import Derived.Deep.Strs
import Derived.Deep.Matrix
namespace Go.Proofs.Qxb6628689a.fnRollSplit
open Go.ChangeShapes Go.WideShapes Go.ChangeAt Go.RowKit

theorem own : ownKnob Try.prog.godebug = none := by kernel_rfl
theorem cells9 : Try.prog.cellsOf 9 = 1 := by kernel_rfl
theorem cells35 : Try.prog.cellsOf 35 = 1 := by kernel_rfl
theorem cells4 : Try.prog.cellsOf 4 = 1 := by kernel_rfl

theorem spotless {w : World} {a : Addr} {v : Value} (h : w.cell? (a.add 0) = some v) : a = ⟨a.block, a.off, none⟩ := by
  have e : a.add 0 = a := by simp [Addr.add]
  rw [e] at h
  cases hs : a.spot with
  | none => cases a; simp_all
  | some s =>
    exfalso
    unfold World.cell? at h
    rw [hs] at h
    split at h <;> simp at h
theorem rowAt_of {w : World} {a : Addr} {n cap : Nat} {E : Nat → Value} (hn : n ≤ maxLen) (h : ∀ i, i < n → w.cell? (a.add i) = some (E i)) : RowAt w (.slice (some a) n cap) n E := by
  refine ⟨some a, cap, rfl, hn, fun h0 => ⟨a.block, a.off, congrArg some (spotless (h 0 h0)), fun i hi => ?_⟩⟩
  have e := spotless (h 0 h0)
  have h2 := h i hi
  generalize a.block = ab at e ⊢
  generalize a.off = ao at e ⊢
  subst e
  rwa [Addr.add_mid] at h2

section
variable {H : Type} {enc : TypeId × Value → H} {w : World} {base : Nat} {held : Bool} {fuel : Nat} {x : DataW H × List MemPlace}
theorem open22 {a0 : Option Addr} {len cap : Nat} (h : DataW.trod enc Try.prog w base (fun _ => true) held fuel 22 [.slice a0 len cap] = some x) :
    ∃ V : Nat → ByteArray, RowAt w (.slice a0 len cap) len (fun i => .string (V i)) ∧ ∀ i, i < len → (V i).size ≤ maxLen := by
  rcases Go.Deep.open_strs Try.underlying22 Try.underlying9 cells9 h with ⟨hcs, _⟩ | ⟨a, l, c, m, V, hcs, _, hl, hm, hmm, _, hx⟩
  · simp at hcs
    obtain ⟨rfl, rfl, rfl⟩ := hcs
    exact ⟨fun _ => default, ⟨none, 0, rfl, by simp [maxLen], fun h => by omega⟩, fun i hi => by omega⟩
  · simp at hcs hmm
    obtain ⟨rfl, rfl, rfl⟩ := hcs
    exact ⟨V, rowAt_of (by omega) (fun i hi => (hx i (by omega)).1), fun i hi => (hx i (by omega)).2⟩
theorem open23 {a0 : Option Addr} {len cap : Nat} (h : DataW.trod enc Try.prog w base (fun _ => true) held fuel 23 [.slice a0 len cap] = some x) :
    ∃ (E : Nat → Value) (Z : Nat → List Int), RowAt w (.slice a0 len cap) len E ∧ ∀ i, i < len → RowAt w (E i) (Z i).length (byteE (Z i)) := by
  rcases Go.Deep.open_int_rows Try.underlying23 Try.underlying35 Try.underlying5 cells35 cells5 h with ⟨hcs, _⟩ | ⟨a, l, c, A, L, C, Z, hcs, _, hl, hm, _, hx⟩
  · simp at hcs
    obtain ⟨rfl, rfl, rfl⟩ := hcs
    exact ⟨fun _ => undef, fun _ => [], ⟨none, 0, rfl, by simp [maxLen], fun h => by omega⟩, fun i hi => by omega⟩
  · simp at hcs
    obtain ⟨rfl, rfl, rfl⟩ := hcs
    refine ⟨fun r => .slice (A r) (L r) (C r), fun r => (Z r).take (L r), rowAt_of (by omega) (fun i hi => (hx i (by omega)).1), fun i hi => ?_⟩
    obtain ⟨_, h1, h2, h3, _, h5, h6⟩ := hx i (by omega)
    have hl : ((Z i).take (L i)).length = L i := by simp; omega
    show RowAt w (.slice (A i) (L i) (C i)) ((Z i).take (L i)).length (byteE ((Z i).take (L i)))
    rw [hl]
    cases hA : A i with
    | none =>
      have h0 := h5 hA
      exact ⟨none, C i, rfl, by omega, fun h => by omega⟩
    | some a' =>
      refine rowAt_of (by omega) (fun c hc => ?_)
      rw [(h6 a' hA).2 c (by omega)]
      simp [byteE, vb, hc]
theorem open24 {a0 : Option Addr} {len cap : Nat} (h : DataW.trod enc Try.prog w base (fun _ => true) held fuel 24 [.slice a0 len cap] = some x) :
    ∃ D : Nat → Bool, RowAt w (.slice a0 len cap) len (fun i => .bool (D i)) := by
  rcases Go.Deep.open_slice1 Try.underlying24 cells4 h with ⟨hcs, _⟩ | ⟨a, l, c, m, n, V, D, Pl, hcs, _, hl, hm, hmm, _, hx⟩
  · simp at hcs
    obtain ⟨rfl, rfl, rfl⟩ := hcs
    exact ⟨fun _ => false, ⟨none, 0, rfl, by simp [maxLen], fun h => by omega⟩⟩
  · simp at hcs hmm
    obtain ⟨rfl, rfl, rfl⟩ := hcs
    have each : ∀ i, i < m → ∃ b : Bool, V i = .bool b := fun i hi => by
      obtain ⟨b, h1, _⟩ := DataW.trod_bool Try.underlying4 (hx i hi).2
      exact ⟨b, by simpa using h1⟩
    obtain ⟨B, hB⟩ := Go.Deep.choose_lt each
    exact ⟨B, rowAt_of (by omega) (fun i hi => by rw [(hx i (by omega)).1, hB i (by omega)])⟩
end

/-! ### THE ROW's STEP -/
set_option maxRecDepth 100000 in
theorem lifted (os : Os) (started : os.Started) (H : Type) (enc : TypeId × Value → H) :
    ReturnsInHanded {} Try.checked os 4 .any (Rows.fnRollSplitAgreesWithWholeSpec.pre6 enc Try.prog Try.f4 Rows.fnRollSplitAgreesWithWholeRow.domain false) (Rows.fnRollSplitAgreesWithWholeSpec.post enc Try.prog Try.f4 false true false false) := by
  refine returnsInHanded_of_change (C := Try.checked) own started (by kernel_rfl) Try.func4
    (ChangeSpec.witness6 (enc := enc) (C := Try.checked) false ⟨#[], #[.slice none 0 0, .slice none 0 0, .slice none 0 0, .slice none 0 0, .slice none 0 0, .int .i64 0], []⟩ 8 (by kernel_rfl) (by kernel_rfl) (by kernel_rfl) (by kernel_rfl)) ?_
  intro W base args ds gs before hval0 hW hcnd _
  have hval : ∀ (j : Nat) t v, Try.f4.params[j]? = some t → args[j]? = some v → Value.okWide Try.prog W .any base t v := hval0
  have hW' := hW
  obtain ⟨p, q, hA0, hV, rfl, hfz, hnd⟩ := hW
  have hA : DataW.TrodAll enc Try.prog W 0 (fun _ => true) true Try.f4.params.toList args.toList ds p := hA0
  rw [Try.params4] at hA hval
  obtain ⟨v0, vs0, d0, ds0, p0, q0, hargs, rfl, rfl, h0, r0⟩ := trodAll_cons hA
  obtain ⟨v1, vs1, d1, ds1, p1, q1, rfl, rfl, rfl, h1, r1⟩ := trodAll_cons r0
  obtain ⟨v2, vs2, d2, ds2, p2, q2, rfl, rfl, rfl, h2, r2⟩ := trodAll_cons r1
  obtain ⟨v3, vs3, d3, ds3, p3, q3, rfl, rfl, rfl, h3, r3⟩ := trodAll_cons r2
  obtain ⟨v4, vs4, d4, ds4, p4, q4, rfl, rfl, rfl, h4, r4⟩ := trodAll_cons r3
  obtain ⟨v5, vs5, d5, ds5, p5, q5, rfl, rfl, rfl, h5, r5⟩ := trodAll_cons r4
  obtain ⟨rfl, rfl, rfl⟩ := trodAll_nil r5
  obtain rfl : args = #[v0, v1, v2, v3, v4, v5] := by cases args; simp_all
  obtain ⟨rfl, rfl⟩ := trodVars_none hV
  obtain ⟨a0, l0, c0, rfl⟩ := okWide_slice Try.underlying22 (hval 0 22 v0 rfl rfl)
  obtain ⟨a1, l1, c1, rfl⟩ := okWide_slice Try.underlying23 (hval 1 23 v1 rfl rfl)
  obtain ⟨a2, l2, c2, rfl⟩ := okWide_slice Try.underlying22 (hval 2 22 v2 rfl rfl)
  obtain ⟨a3, l3, c3, rfl⟩ := okWide_slice Try.underlying23 (hval 3 23 v3 rfl rfl)
  obtain ⟨a4, l4, c4, rfl⟩ := okWide_slice Try.underlying24 (hval 4 24 v4 rfl rfl)
  obtain ⟨cut, rfl⟩ := okWide_int Try.underlying3 (hval 5 3 v5 rfl rfl)
  have lt5 : ∀ x ∈ p5, x.block < W.heap.size := by obtain ⟨m, hm⟩ := h5; exact DataW.trod_lt m _ _ _ hm
  have lt0 : ∀ x ∈ p0, x.block < W.heap.size := by obtain ⟨m, hm⟩ := h0; exact DataW.trod_lt m _ _ _ hm
  have lt1 : ∀ x ∈ p1, x.block < W.heap.size := by obtain ⟨m, hm⟩ := h1; exact DataW.trod_lt m _ _ _ hm
  have lt2 : ∀ x ∈ p2, x.block < W.heap.size := by obtain ⟨m, hm⟩ := h2; exact DataW.trod_lt m _ _ _ hm
  have lt3 : ∀ x ∈ p3, x.block < W.heap.size := by obtain ⟨m, hm⟩ := h3; exact DataW.trod_lt m _ _ _ hm
  have lt4 : ∀ x ∈ p4, x.block < W.heap.size := by obtain ⟨m, hm⟩ := h4; exact DataW.trod_lt m _ _ _ hm
  obtain ⟨V0, g0, s0⟩ : ∃ V : Nat → ByteArray, RowAt W (.slice a0 l0 c0) l0 (fun i => .string (V i)) ∧ ∀ i, i < l0 → (V i).size ≤ maxLen := by
    obtain ⟨fuel, hf⟩ := h0
    exact open22 hf
  obtain ⟨E0, Z0, g1, z0⟩ : ∃ (E : Nat → Value) (Z : Nat → List Int), RowAt W (.slice a1 l1 c1) l1 E ∧ ∀ i, i < l1 → RowAt W (E i) (Z i).length (byteE (Z i)) := by
    obtain ⟨fuel, hf⟩ := h1
    exact open23 hf
  obtain ⟨V1, g2, s1⟩ : ∃ V : Nat → ByteArray, RowAt W (.slice a2 l2 c2) l2 (fun i => .string (V i)) ∧ ∀ i, i < l2 → (V i).size ≤ maxLen := by
    obtain ⟨fuel, hf⟩ := h2
    exact open22 hf
  obtain ⟨E1, Z1, g3, z1⟩ : ∃ (E : Nat → Value) (Z : Nat → List Int), RowAt W (.slice a3 l3 c3) l3 E ∧ ∀ i, i < l3 → RowAt W (E i) (Z i).length (byteE (Z i)) := by
    obtain ⟨fuel, hf⟩ := h3
    exact open23 hf
  obtain ⟨D, g4⟩ : ∃ D : Nat → Bool, RowAt W (.slice a4 l4 c4) l4 (fun i => .bool (D i)) := by
    obtain ⟨fuel, hf⟩ := h4
    exact open24 hf
  clear hA0 hval0
  refine (split_any W _ _ _ _ _ l0 l1 l2 l3 l4 V0 V1 E0 E1 Z0 Z1 D cut ⟨g0, g1, g2, g3, g4, s0, s1, z0, z1⟩).mono fun e W' ⟨he, bel⟩ => ?_
  subst he
  exact ⟨_, rfl, _, _, _, [], _, [], hW', trodAll_mk1 (shut_bool Try.underlying4 _),
    (trodAll_cons_mk (Below.trod laidOut (by kernel_rfl) (of_decide_eq_true (by kernel_rfl)) h0 bel lt0) (trodAll_cons_mk (Below.trod laidOut (by kernel_rfl) (of_decide_eq_true (by kernel_rfl)) h1 bel lt1)
      (trodAll_cons_mk (Below.trod laidOut (by kernel_rfl) (of_decide_eq_true (by kernel_rfl)) h2 bel lt2) (trodAll_cons_mk (Below.trod laidOut (by kernel_rfl) (of_decide_eq_true (by kernel_rfl)) h3 bel lt3)
        (trodAll_cons_mk (Below.trod laidOut (by kernel_rfl) (of_decide_eq_true (by kernel_rfl)) h4 bel lt4) (trodAll_cons_mk (Below.trod laidOut (by kernel_rfl) (of_decide_eq_true (by kernel_rfl)) h5 bel lt5) trodAll_mk0)))))), rfl, bel.frame _, fun h => by cases h⟩

theorem over : Rows.fnRollSplitAgreesWithWholeRow.holds Try.pinned (OpenSpec.ofChange Rows.fnRollSplitAgreesWithWholeSpec) :=
  OpenClaim.holds_of_wide 4 Try.f4 rfl rfl rfl rfl rfl rfl rfl ⟨rfl, rfl, rfl, rfl, rfl⟩ rfl rfl rfl rfl rfl (by kernel_rfl) Try.func4 (by kernel_rfl)
    (of_decide_eq_true (by kernel_rfl)) (by unfold Func.isWrapper; first | (rw [if_pos (by decide +kernel)]; kernel_rfl) | (rw [if_neg (by decide +kernel)]; exact ⟨rfl, rfl⟩))
    (fun os started H enc _ => lifted os started H enc)

end Go.Proofs.Qxb6628689a.fnRollSplit

namespace Go.Proofs.Qxb6628689a
/-- ████ THE STATEMENT ████ -/
theorem rollSplit : Rows.FnRollSplitAgreesWithWholeSaid := fnRollSplit.over
end Go.Proofs.Qxb6628689a
