/-
  THE ROW OF 'FnNewCatalogConcatLaterWins': the shell's own frame, the walk imported.
-/
import Derived.Test.Qxb6628738aExactProof
import Derived.Test.Qxb6628738aConcat
namespace Go.Proofs.Qxb6628738a.fnNewCatalogConcatLaterWins
open Go.ChangeShapes Go.WideShapes Go.ChangeAt Go.RowKit

/-! ### THE ROW's STEP -/
set_option maxRecDepth 100000 in
theorem lifted (os : Os) (started : os.Started) (H : Type) (enc : TypeId × Value → H) :
    ReturnsInHanded {} Try.checked os 4 .any (Rows.fnNewCatalogConcatLaterWinsSpec.pre6 enc Try.prog Try.f4 Rows.fnNewCatalogConcatLaterWinsRow.domain false) (Rows.fnNewCatalogConcatLaterWinsSpec.post enc Try.prog Try.f4 false true false false) := by
  refine returnsInHanded_of_change (C := Try.checked) fnNewCatalogExact.own started (by kernel_rfl) Try.func4
    (ChangeSpec.witness6 (enc := enc) (C := Try.checked) false ⟨#[], #[.slice none 0 0, .slice none 0 0], []⟩ 8 (by kernel_rfl) (by kernel_rfl) (by kernel_rfl) (by kernel_rfl)) ?_
  intro W base args ds gs before hval0 hW hcnd _
  have hval : ∀ (j : Nat) t v, Try.f4.params[j]? = some t → args[j]? = some v → Value.okWide Try.prog W .any base t v := hval0
  have hW' := hW
  obtain ⟨p, q, hA0, hV, rfl, hfz, hnd⟩ := hW
  have hA : DataW.TrodAll enc Try.prog W 0 (fun _ => true) true Try.f4.params.toList args.toList ds p := hA0
  rw [Try.params4] at hA hval
  obtain ⟨v0, vs0, d0, ds0, p0, q0, hargs, rfl, rfl, h0, r0⟩ := trodAll_cons hA
  obtain ⟨v1, vs1, d1, ds1, p1, q1, rfl, rfl, rfl, h1, r1⟩ := trodAll_cons r0
  obtain ⟨rfl, rfl, rfl⟩ := trodAll_nil r1
  obtain rfl : args = #[v0, v1] := by cases args; simp_all
  obtain ⟨rfl, rfl⟩ := trodVars_none hV
  obtain ⟨a0, len0, cap0, rfl⟩ := okWide_slice Try.underlying22 (hval 0 22 v0 rfl rfl)
  obtain ⟨a1, len1, cap1, rfl⟩ := okWide_slice Try.underlying22 (hval 1 22 v1 rfl rfl)
  have k0 := h0
  have k1 := h1
  have lt0 : ∀ x ∈ p0, x.block < W.heap.size := by obtain ⟨m, hm⟩ := k0; exact DataW.trod_lt m _ _ _ hm
  have lt1 : ∀ x ∈ p1, x.block < W.heap.size := by obtain ⟨m, hm⟩ := k1; exact DataW.trod_lt m _ _ _ hm
  obtain ⟨hl, b, off, V, A, L, ha, hb, hr⟩ : len0 ≤ maxLen ∧ ∃ (b off : Nat) (V A L : Nat → ByteArray), (0 < len0 → a0 = some ⟨b, off, none⟩) ∧ (0 < len0 → b < W.heap.size) ∧ Rels W b off len0 V A L := by
    obtain ⟨fuel, hf⟩ := h0
    exact fnNewCatalogExact.open_rels hf
  obtain ⟨hl1, b1, off1, V', A', L', ha1, hb1, hr1⟩ : len1 ≤ maxLen ∧ ∃ (b off : Nat) (V A L : Nat → ByteArray), (0 < len1 → a1 = some ⟨b, off, none⟩) ∧ (0 < len1 → b < W.heap.size) ∧ Rels W b off len1 V A L := by
    obtain ⟨fuel, hf⟩ := h1
    exact fnNewCatalogExact.open_rels hf
  clear hA0 hval0
  refine (concat_any a0 b off len0 cap0 V A L a1 b1 off1 len1 cap1 V' A' L' W (by unfold maxLen at hl; omega) ha hb hr (by unfold maxLen at hl1; omega) ha1 hb1 hr1).mono fun e W' ⟨he, bel⟩ => ?_
  subst he
  exact ⟨_, rfl, _, _, _, [], _, [], hW', trodAll_mk1 (shut_bool Try.underlying4 _), (trodAll_cons_mk (Below.trod fnNewCatalogExact.laidOut (by kernel_rfl) (of_decide_eq_true (by kernel_rfl)) k0 bel lt0) (trodAll_cons_mk (Below.trod fnNewCatalogExact.laidOut (by kernel_rfl) (of_decide_eq_true (by kernel_rfl)) k1 bel lt1) trodAll_mk0)), rfl, bel.frame _, fun h => by cases h⟩

theorem over : Rows.fnNewCatalogConcatLaterWinsRow.holds Try.pinned (OpenSpec.ofChange Rows.fnNewCatalogConcatLaterWinsSpec) :=
  OpenClaim.holds_of_wide 4 Try.f4 rfl rfl rfl rfl rfl rfl rfl ⟨rfl, rfl, rfl, rfl, rfl⟩ rfl rfl rfl rfl rfl (by kernel_rfl) Try.func4 (by kernel_rfl)
    (of_decide_eq_true (by kernel_rfl)) (by unfold Func.isWrapper; first | (rw [if_pos (by decide +kernel)]; kernel_rfl) | (rw [if_neg (by decide +kernel)]; exact ⟨rfl, rfl⟩))
    (fun os started H enc _ => lifted os started H enc)

end Go.Proofs.Qxb6628738a.fnNewCatalogConcatLaterWins

namespace Go.Proofs.Qxb6628738a
/-- ████ THE STATEMENT ████ -/
theorem concatLaterWins : Rows.FnNewCatalogConcatLaterWinsSaid := fnNewCatalogConcatLaterWins.over
end Go.Proofs.Qxb6628738a
