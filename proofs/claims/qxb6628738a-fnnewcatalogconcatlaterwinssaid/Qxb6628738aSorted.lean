/-
  WHAT slices.Sort AND slices.Compact MAKE OF A LIST OF STRINGS: strictly rising, the same members.
-/
import Derived.Lib.SlicesCompact
namespace Go.Proofs.Qxb6628738a.Sorted

abbrev Str := List UInt8

theorem le_trans' {a b c : Str} (h1 : a ≤ b) (h2 : b ≤ c) : a ≤ c := List.le_trans h1 h2
theorem lt_of_le_of_ne' {a b : Str} (h : a ≤ b) (hne : a ≠ b) : a < b := by
  rcases List.le_iff_lt_or_eq.1 h with h' | h'
  · exact h'
  · exact absurd h' hne
theorem lt_of_le_of_lt' {a b c : Str} (h1 : a ≤ b) (h2 : b < c) : a < c := by
  rcases List.le_iff_lt_or_eq.1 h1 with h' | h'
  · exact List.lt_trans h' h2
  · rw [h']; exact h2
theorem le_refl' (a : Str) : a ≤ a := List.le_refl a

theorem compactUpTo_inv (d : Array Str) (hs : ∀ i j, i ≤ j → j < d.size → d[i]! ≤ d[j]!) : ∀ m, m + 1 ≤ d.size →
    (Lib.compactUpTo d (m + 1)).Pairwise (· < ·) ∧ (∀ x ∈ Lib.compactUpTo d (m + 1), x ≤ d[m]!) ∧ (∀ x, x ∈ Lib.compactUpTo d (m + 1) ↔ ∃ j, j < m + 1 ∧ x = d[j]!)
  | 0, _ => by
    have e : Lib.compactUpTo d 1 = [d[0]!] := by
      rw [Lib.compactUpTo_succ d 0, if_pos (Lib.keeps_lt_one d 0 (by omega))]
      rfl
    rw [e]
    refine ⟨by simp, by simp, fun x => ?_⟩
    simp only [List.mem_singleton]
    constructor
    · intro h; exact ⟨0, by omega, h⟩
    · rintro ⟨j, hj, rfl⟩
      obtain rfl : j = 0 := by omega
      rfl
  | m + 1, h => by
    obtain ⟨i1, i2, i3⟩ := compactUpTo_inv d hs m (by omega)
    rw [Lib.compactUpTo_succ d (m + 1)]
    have hle : d[m]! ≤ d[m + 1]! := hs m (m + 1) (by omega) (by omega)
    by_cases hk : d[m + 1]! = d[m]!
    · have hk' : Lib.keeps d (m + 1) = false := Lib.keeps_neg (by omega) hk
      simp only [hk', Bool.false_eq_true, if_false, List.append_nil]
      refine ⟨i1, fun x hx => by rw [hk]; exact i2 x hx, fun x => ?_⟩
      rw [i3]
      constructor
      · rintro ⟨j, hj, rfl⟩; exact ⟨j, by omega, rfl⟩
      · rintro ⟨j, hj, rfl⟩
        by_cases e : j = m + 1
        · subst e; exact ⟨m, by omega, hk⟩
        · exact ⟨j, by omega, rfl⟩
    · have hk' : Lib.keeps d (m + 1) = true := Lib.keeps_pos hk
      simp only [hk', if_true]
      have hlt : d[m]! < d[m + 1]! := lt_of_le_of_ne' hle (fun e => hk e.symm)
      refine ⟨?_, fun x hx => ?_, fun x => ?_⟩
      · rw [List.pairwise_append]
        refine ⟨i1, by simp, fun x hx y hy => ?_⟩
        simp only [List.mem_singleton] at hy
        subst hy
        exact lt_of_le_of_lt' (i2 x hx) hlt
      · rcases List.mem_append.1 hx with hx | hx
        · exact le_trans' (i2 x hx) hle
        · simp only [List.mem_singleton] at hx
          subst hx; exact le_refl' _
      · rw [List.mem_append, i3, List.mem_singleton]
        constructor
        · rintro (⟨j, hj, rfl⟩ | rfl)
          · exact ⟨j, by omega, rfl⟩
          · exact ⟨m + 1, by omega, rfl⟩
        · rintro ⟨j, hj, rfl⟩
          by_cases e : j = m + 1
          · subst e; exact Or.inr rfl
          · exact Or.inl ⟨j, by omega, rfl⟩

/-- slices.Compact behind slices.Sort -/
def uniq (ss : List Str) : List Str := Lib.compact (ss.mergeSort fun x y => decide (x ≤ y))

theorem sorted_le (ss : List Str) : (ss.mergeSort fun x y => decide (x ≤ y)).Pairwise (fun a b => a ≤ b) := by
  have := List.pairwise_mergeSort (le := fun x y : Str => decide (x ≤ y)) (fun a b c h1 h2 => by simp at h1 h2 ⊢; exact le_trans' h1 h2) (fun a b => by simp; exact List.le_total a b) ss
  exact this.imp (fun h => by simpa using h)

theorem uniq_spec (ss : List Str) : (uniq ss).Pairwise (· < ·) ∧ ∀ x, x ∈ uniq ss ↔ x ∈ ss := by
  obtain ⟨ts, hts⟩ : ∃ ts, ts = ss.mergeSort (fun x y : Str => decide (x ≤ y)) := ⟨_, rfl⟩
  have hp := sorted_le ss
  have hm : ∀ x, x ∈ ts ↔ x ∈ ss := fun x => by rw [hts]; exact (List.mergeSort_perm ss _).mem_iff
  unfold uniq
  rw [← hts] at hp ⊢
  cases hz : ts.length with
  | zero =>
    obtain rfl : ts = [] := List.eq_nil_of_length_eq_zero hz
    refine ⟨by simp [Lib.compact, Lib.compactUpTo], fun x => ?_⟩
    rw [← hm]; simp [Lib.compact, Lib.compactUpTo]
  | succ m =>
    have hs : ∀ i j, i ≤ j → j < ts.toArray.size → ts.toArray[i]! ≤ ts.toArray[j]! := by
      intro i j hij hj
      have hj' : j < ts.length := by simpa using hj
      have hi' : i < ts.length := by omega
      have ei : ts.toArray[i]! = ts[i] := by rw [getElem!_pos _ i (by simpa using hi')]; simp
      have ej : ts.toArray[j]! = ts[j] := by rw [getElem!_pos _ j (by simpa using hj')]; simp
      rw [ei, ej]
      rcases Nat.lt_or_eq_of_le hij with h | h
      · exact List.pairwise_iff_getElem.1 hp i j hi' hj' h
      · subst h; exact le_refl' _
    obtain ⟨a1, _, a3⟩ := compactUpTo_inv ts.toArray hs m (by simp; omega)
    unfold Lib.compact
    rw [hz]
    refine ⟨a1, fun x => ?_⟩
    rw [a3, ← hm]
    constructor
    · rintro ⟨j, hj, rfl⟩
      have hj' : j < ts.length := by omega
      rw [getElem!_pos _ j (by simpa using hj')]
      simp
    · intro hx
      obtain ⟨j, hj, rfl⟩ := List.getElem_of_mem hx
      exact ⟨j, by omega, by rw [getElem!_pos _ j (by simpa using hj)]; simp⟩

/-- two strictly rising lists with the same members are one -/
theorem rising_ext : ∀ {l₁ l₂ : List Str}, l₁.Pairwise (· < ·) → l₂.Pairwise (· < ·) → (∀ p, p ∈ l₁ ↔ p ∈ l₂) → l₁ = l₂
  | [], [], _, _, _ => rfl
  | [], b :: s, _, _, h => by have := (h b).2 (by simp); simp at this
  | a :: r, [], _, _, h => by have := (h a).1 (by simp); simp at this
  | a :: r, b :: s, h1, h2, h => by
    obtain ⟨a1, a2⟩ := List.pairwise_cons.1 h1
    obtain ⟨b1, b2⟩ := List.pairwise_cons.1 h2
    have hab : a = b := by
      rcases List.mem_cons.1 ((h a).1 (by simp)) with e | ha
      · exact e
      · rcases List.mem_cons.1 ((h b).2 (by simp)) with e | hb
        · exact e.symm
        · exact absurd (List.lt_trans (a1 b hb) (b1 a ha)) (List.lt_irrefl a)
    subst hab
    rw [rising_ext a2 b2 (fun p => ⟨fun hp => by
      rcases List.mem_cons.1 ((h p).1 (by simp [hp])) with e | hp'
      · exact absurd (e ▸ a1 p hp) (List.lt_irrefl _)
      · exact hp', fun hp => by
      rcases List.mem_cons.1 ((h p).2 (by simp [hp])) with e | hp'
      · exact absurd (e ▸ b1 p hp) (List.lt_irrefl _)
      · exact hp'⟩)]

end Go.Proofs.Qxb6628738a.Sorted
