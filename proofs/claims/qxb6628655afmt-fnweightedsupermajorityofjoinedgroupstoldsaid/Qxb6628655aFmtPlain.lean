/-
  THE PLAIN MATHEMATICS of the two laws on WeightedSupermajority: no Go in sight. 'tot s zs': the checked total of 'zs' begun at 's' (none: a weight below 1, or past the greatest int).
-/
namespace Go.Proofs.Qxb6628655aFmt.Plain

def tot : Int → List Int → Option Int
  | s, [] => some s
  | s, z :: zs => if z < 1 then none else if 9223372036854775807 - s < z then none else tot (s + z) zs

theorem tot_at (s : Int) (zs : List Int) (k : Nat) (h : k < zs.length) :
    tot s (zs.drop k) = if zs[k]?.getD 0 < 1 then none else if 9223372036854775807 - s < zs[k]?.getD 0 then none else tot (s + zs[k]?.getD 0) (zs.drop (k + 1)) := by
  rw [List.drop_eq_getElem_cons h]
  simp [tot, List.getElem?_eq_getElem h]

theorem tot_end (s : Int) (zs : List Int) (k : Nat) (h : zs.length ≤ k) : tot s (zs.drop k) = some s := by
  rw [List.drop_eq_nil_of_le h]; rfl

/-- what a total that stands says of the next weight -/
theorem tot_next {s T : Int} {zs : List Int} {k : Nat} (h : k < zs.length) (e : tot s (zs.drop k) = some T) :
    1 ≤ zs[k]?.getD 0 ∧ zs[k]?.getD 0 ≤ 9223372036854775807 - s ∧ tot (s + zs[k]?.getD 0) (zs.drop (k + 1)) = some T := by
  rw [tot_at s zs k h] at e
  by_cases h1 : zs[k]?.getD 0 < 1
  · rw [if_pos h1] at e; cases e
  · rw [if_neg h1] at e
    by_cases h2 : 9223372036854775807 - s < zs[k]?.getD 0
    · rw [if_pos h2] at e; cases e
    · rw [if_neg h2] at e
      exact ⟨by omega, by omega, e⟩

theorem tot_low (zs : List Int) (s : Int) (k : Nat) (h : k < zs.length) (h1 : zs[k]?.getD 0 < 1) : tot s (zs.drop k) = none := by
  rw [tot_at s zs k h, if_pos h1]
theorem tot_past (zs : List Int) (s : Int) (k : Nat) (h : k < zs.length) (h2 : 9223372036854775807 - s < zs[k]?.getD 0) : tot s (zs.drop k) = none := by
  rw [tot_at s zs k h, if_pos h2]; split <;> rfl
theorem tot_on (zs : List Int) (s : Int) (k : Nat) (h : k < zs.length) (h1 : 1 ≤ zs[k]?.getD 0) (h2 : zs[k]?.getD 0 ≤ 9223372036854775807 - s) :
    tot s (zs.drop k) = tot (s + zs[k]?.getD 0) (zs.drop (k + 1)) := by
  rw [tot_at s zs k h, if_neg (by omega), if_neg (by omega)]

theorem tot_ge : ∀ (zs : List Int) (s T : Int), tot s zs = some T → s + zs.length ≤ T ∧ (s ≤ 9223372036854775807 → T ≤ 9223372036854775807)
  | [], s, T, h => by simp only [tot, Option.some.injEq] at h; subst h; simp
  | z :: zs, s, T, h => by
    unfold tot at h
    by_cases h1 : z < 1
    · rw [if_pos h1] at h; cases h
    · rw [if_neg h1] at h
      by_cases h2 : 9223372036854775807 - s < z
      · rw [if_pos h2] at h; cases h
      · rw [if_neg h2] at h
        obtain ⟨a, b⟩ := tot_ge zs (s + z) T h
        refine ⟨?_, fun _ => b (by omega)⟩
        simp only [List.length_cons]; omega

/-- the total of the joined list -/
theorem tot_append : ∀ (xs ys : List Int) (s a : Int), tot s xs = some a → tot s (xs ++ ys) = tot a ys
  | [], ys, s, a, h => by simp only [tot, Option.some.injEq] at h; subst h; rfl
  | x :: xs, ys, s, a, h => by
    unfold tot at h
    by_cases h1 : x < 1
    · rw [if_pos h1] at h; cases h
    · rw [if_neg h1] at h
      by_cases h2 : 9223372036854775807 - s < x
      · rw [if_pos h2] at h; cases h
      · rw [if_neg h2] at h
        rw [List.cons_append]
        simp only [tot]
        rw [if_neg h1, if_neg h2]
        exact tot_append xs ys (s + x) a h

/-- begun lower by d, it stands too, lower by d -/
theorem tot_lower : ∀ (ys : List Int) (s t d : Int), 0 ≤ d → tot s ys = some t → tot (s - d) ys = some (t - d)
  | [], s, t, d, _, h => by simp only [tot, Option.some.injEq] at h; subst h; rfl
  | y :: ys, s, t, d, hd, h => by
    unfold tot at h
    by_cases h1 : y < 1
    · rw [if_pos h1] at h; cases h
    · rw [if_neg h1] at h
      by_cases h2 : 9223372036854775807 - s < y
      · rw [if_pos h2] at h; cases h
      · rw [if_neg h2] at h
        unfold tot
        rw [if_neg h1, if_neg (by omega), show s - d + y = (s + y) - d by omega]
        exact tot_lower ys (s + y) t d hd h

end Go.Proofs.Qxb6628655aFmt.Plain
