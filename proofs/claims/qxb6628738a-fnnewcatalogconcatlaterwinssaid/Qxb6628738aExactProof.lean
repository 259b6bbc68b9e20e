/-
  THE ROW OF 'FnNewCatalogExact': the shell's own frame, the walk imported.
-/
import Derived.Test.Qxb6628738aRows
import Derived.Test.Qxb6628738aExact
import Derived.WalkKit
import Derived.ProofKit
import Derived.OpenShut
import Derived.ChangeOld
import Derived.Deep.Strs
namespace Go.Proofs.Qxb6628738a.fnNewCatalogExact
open Go.ChangeShapes Go.WideShapes Go.ChangeAt Go.RowKit

theorem own : ownKnob Try.prog.godebug = none := by kernel_rfl
theorem laidOut : laidOutB Try.prog = true := by kernel_rfl
theorem cells25 : Try.prog.cellsOf 25 = 3 := by kernel_rfl
theorem cells9 : Try.prog.cellsOf 9 = 1 := by kernel_rfl

section
variable {H : Type} {enc : TypeId × Value → H} {w : World} {base : Nat} {spare : Nat → Bool} {held : Bool} {fuel : Nat} {x : DataW H × List MemPlace}

/-- ONE RELEASE, AS THE ARGUMENT READS IT -/
theorem open_rel {cs : List Value} (h : DataW.trod enc Try.prog w base spare held fuel 25 cs = some x) : ∃ v a l : ByteArray, cs = [.string v, .string a, .string l] ∧ v.size ≤ maxLen ∧ a.size ≤ maxLen ∧ l.size ≤ maxLen := by
  obtain ⟨y0, y1, y2, n, _, hl, h0, h1, h2⟩ := Go.Deep.trod_struct3 Try.underlying25 h
  rw [cells25] at hl
  match cs, hl with
  | [c0, c1, c2], _ =>
    dsimp only at h0 h1 h2
    rw [cells9] at h0 h1 h2
    simp only [List.drop_zero, List.drop_succ_cons, List.take_succ_cons, List.take_zero] at h0 h1 h2
    obtain ⟨v, e0, _, s0⟩ := DataW.trod_string Try.underlying9 h0
    obtain ⟨a, e1, _, s1⟩ := DataW.trod_string Try.underlying9 h1
    obtain ⟨l, e2, _, s2⟩ := DataW.trod_string Try.underlying9 h2
    simp only [List.cons.injEq, and_true] at e0 e1 e2
    exact ⟨v, a, l, by rw [e0, e1, e2], s0, s1, s2⟩

/-- A ROW OF RELEASES, AS THE ARGUMENT READS IT -/
theorem open_rels {a0 : Option Addr} {len cap : Nat} (h : DataW.trod enc Try.prog w base spare held fuel 22 [.slice a0 len cap] = some x) :
    len ≤ maxLen ∧ ∃ (b off : Nat) (V A L : Nat → ByteArray), (0 < len → a0 = some ⟨b, off, none⟩) ∧ (0 < len → b < w.heap.size) ∧ Rels w b off len V A L := by
  rcases Go.Deep.open_slice Try.underlying22 h with ⟨hcs, _⟩ | ⟨a, l, c, m, n, D, Pl, hcs, _, hl, hm, hmm, _, hx⟩
  · simp at hcs
    obtain ⟨rfl, rfl, rfl⟩ := hcs
    exact ⟨by unfold maxLen; omega, 0, 0, fun _ => default, fun _ => default, fun _ => default, fun h => by omega, fun h => by omega, fun i hi => by omega⟩
  · simp at hcs
    obtain ⟨rfl, rfl, rfl⟩ := hcs
    have hlm : len ≤ m := by rw [hmm]; split <;> omega
    have hsp : 0 < len → a = ⟨a.block, a.off, none⟩ := by
      intro h0
      obtain ⟨cs', hc, ht⟩ := hx 0 (by omega)
      rw [cells25] at hc
      obtain ⟨v, a', l', rfl, _, _, _⟩ := open_rel ht
      have this := (World.cells?_some hc).2.2 0 (by omega)
      have e : (a.add (0 * 3)).add 0 = a := by simp [Addr.add]
      rw [e] at this
      cases hs : a.spot with
      | none => cases a; simp_all
      | some s =>
        exfalso
        unfold World.cell? at this
        rw [hs] at this
        split at this <;> simp at this
    have hadd : 0 < len → ∀ j, a.add j = ⟨a.block, a.off + j, none⟩ := by
      intro h0 j
      have e := hsp h0
      generalize a.block = ab at e ⊢
      generalize a.off = ao at e ⊢
      subst e
      simp only [Addr.add]
      split
      · rename_i h; rw [h, Nat.add_zero]
      · rfl
    have key : ∀ i, i < len → ∃ t : ByteArray × ByteArray × ByteArray, (w.cell? ⟨a.block, a.off + i * 3, none⟩ = some (.string t.1) ∧ w.cell? ⟨a.block, a.off + i * 3 + 1, none⟩ = some (.string t.2.1) ∧ w.cell? ⟨a.block, a.off + i * 3 + 2, none⟩ = some (.string t.2.2) ∧ t.1.size ≤ maxLen ∧ t.2.1.size ≤ maxLen ∧ t.2.2.size ≤ maxLen) := by
      intro i hi
      obtain ⟨cs', hc, ht⟩ := hx i (by omega)
      rw [cells25, hadd (by omega)] at hc
      obtain ⟨v, a', l', rfl, s0, s1, s2⟩ := open_rel ht
      obtain ⟨_, _, hg⟩ := World.cells?_some hc
      have g0 := hg 0 (by omega)
      have g1 := hg 1 (by omega)
      have g2 := hg 2 (by omega)
      refine ⟨(v, a', l'), ?_, ?_, ?_, s0, s1, s2⟩
      · simpa [Addr.add] using g0
      · simpa [Addr.add] using g1
      · simpa [Addr.add] using g2
    obtain ⟨T, hT⟩ : ∃ T : Nat → ByteArray × ByteArray × ByteArray, ∀ i, i < len → (w.cell? ⟨a.block, a.off + i * 3, none⟩ = some (.string (T i).1) ∧ w.cell? ⟨a.block, a.off + i * 3 + 1, none⟩ = some (.string (T i).2.1) ∧ w.cell? ⟨a.block, a.off + i * 3 + 2, none⟩ = some (.string (T i).2.2) ∧ (T i).1.size ≤ maxLen ∧ (T i).2.1.size ≤ maxLen ∧ (T i).2.2.size ≤ maxLen) := by
      classical
      exact ⟨fun i => if hi : i < len then (key i hi).choose else default, fun i hi => by simp only [hi, dite_true]; exact (key i hi).choose_spec⟩
    exact ⟨by omega, a.block, a.off, fun i => (T i).1, fun i => (T i).2.1, fun i => (T i).2.2, fun h0 => by rw [← hsp h0], fun h0 => by have := lt_of_cell (hT 0 h0).1; exact this, fun i hi => hT i hi⟩
end

/-! ### THE ROW's STEP -/
set_option maxRecDepth 100000 in
theorem lifted (os : Os) (started : os.Started) (H : Type) (enc : TypeId × Value → H) :
    ReturnsInHanded {} Try.checked os 3 .any (Rows.fnNewCatalogExactSpec.pre6 enc Try.prog Try.f3 Rows.fnNewCatalogExactRow.domain false) (Rows.fnNewCatalogExactSpec.post enc Try.prog Try.f3 false true false false) := by
  refine returnsInHanded_of_change (C := Try.checked) own started (by kernel_rfl) Try.func3
    (ChangeSpec.witness6 (enc := enc) (C := Try.checked) false ⟨#[], #[.slice none 0 0], []⟩ 8 (by kernel_rfl) (by kernel_rfl) (by kernel_rfl) (by kernel_rfl)) ?_
  intro W base args ds gs before hval0 hW hcnd _
  have hval : ∀ (j : Nat) t v, Try.f3.params[j]? = some t → args[j]? = some v → Value.okWide Try.prog W .any base t v := hval0
  have hW' := hW
  obtain ⟨p, q, hA0, hV, rfl, hfz, hnd⟩ := hW
  have hA : DataW.TrodAll enc Try.prog W 0 (fun _ => true) true Try.f3.params.toList args.toList ds p := hA0
  rw [Try.params3] at hA hval
  obtain ⟨v0, vs0, d0, ds0, p0, q0, hargs, rfl, rfl, h0, r0⟩ := trodAll_cons hA
  obtain ⟨rfl, rfl, rfl⟩ := trodAll_nil r0
  obtain rfl : args = #[v0] := by cases args; simp_all
  obtain ⟨rfl, rfl⟩ := trodVars_none hV
  obtain ⟨a0, len0, cap0, rfl⟩ := okWide_slice Try.underlying22 (hval 0 22 v0 rfl rfl)
  have k0 := h0
  have lt0 : ∀ x ∈ p0, x.block < W.heap.size := by obtain ⟨m, hm⟩ := k0; exact DataW.trod_lt m _ _ _ hm
  obtain ⟨hl, b, off, V, A, L, ha, hb, hr⟩ : len0 ≤ maxLen ∧ ∃ (b off : Nat) (V A L : Nat → ByteArray), (0 < len0 → a0 = some ⟨b, off, none⟩) ∧ (0 < len0 → b < W.heap.size) ∧ Rels W b off len0 V A L := by
    obtain ⟨fuel, hf⟩ := h0
    exact open_rels hf
  clear hA0 hval0
  refine (exact_any a0 b off len0 cap0 V A L W (by unfold maxLen at hl; omega) ha hb hr).mono fun e W' ⟨he, bel⟩ => ?_
  subst he
  exact ⟨_, rfl, _, _, _, [], _, [], hW', trodAll_mk1 (shut_bool Try.underlying4 _), (trodAll_cons_mk (Below.trod laidOut (by kernel_rfl) (of_decide_eq_true (by kernel_rfl)) k0 bel lt0) trodAll_mk0), rfl, bel.frame _, fun h => by cases h⟩

theorem over : Rows.fnNewCatalogExactRow.holds Try.pinned (OpenSpec.ofChange Rows.fnNewCatalogExactSpec) :=
  OpenClaim.holds_of_wide 3 Try.f3 rfl rfl rfl rfl rfl rfl rfl ⟨rfl, rfl, rfl, rfl, rfl⟩ rfl rfl rfl rfl rfl (by kernel_rfl) Try.func3 (by kernel_rfl)
    (of_decide_eq_true (by kernel_rfl)) (by unfold Func.isWrapper; first | (rw [if_pos (by decide +kernel)]; kernel_rfl) | (rw [if_neg (by decide +kernel)]; exact ⟨rfl, rfl⟩))
    (fun os started H enc _ => lifted os started H enc)

end Go.Proofs.Qxb6628738a.fnNewCatalogExact

namespace Go.Proofs.Qxb6628738a
/-- ████ THE STATEMENT ████ -/
theorem catalogExact : Rows.FnNewCatalogExactSaid := fnNewCatalogExact.over
end Go.Proofs.Qxb6628738a
