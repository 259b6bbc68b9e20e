/-
  FOR FnNewCatalogConcatLaterWins: zzBytes of two lists; plain facts on two lists laid one behind the other.
-/
import Derived.Test.Qxb6628738aExact
import Derived.Test.Qxb6628738aMerge
namespace Go.Proofs.Qxb6628738a
open Go.RowKit
open Sorted

/-- zzBytes' answer over two lists -/
def Told2 (V A L : Nat → ByteArray) (n : Nat) (V' A' L' : Nat → ByteArray) (n' : Nat) (e : Ending) : Prop := ∃ bv, e = .returned (.bool bv) ∧ (bv = true → Short V A L n ∧ Short V' A' L' n')
theorem Told2.no {V A L : Nat → ByteArray} {n : Nat} {V' A' L' : Nat → ByteArray} {n' : Nat} : Told2 V A L n V' A' L' n' (.returned (.bool false)) := ⟨false, rfl, fun h => by cases h⟩
theorem Told2.yes {V A L : Nat → ByteArray} {n : Nat} {V' A' L' : Nat → ByteArray} {n' : Nat} (h : Short V A L n) (h' : Short V' A' L' n') : Told2 V A L n V' A' L' n' (.returned (.bool true)) := ⟨true, rfl, fun _ => ⟨h, h'⟩⟩

set_option maxRecDepth 100000 in
set_option maxHeartbeats 800000 in
theorem bytes14_any (a0 : Option Addr) (b off len cap : Nat) (V A L : Nat → ByteArray) (a1 : Option Addr) (b1 off1 len1 cap1 : Nat) (V' A' L' : Nat → ByteArray) (w : World) (hl : len ≤ 9223372036854775807) (ha : 0 < len → a0 = some ⟨b, off, none⟩) (hr : Rels w b off len V A L) (hl1 : len1 ≤ 9223372036854775807) (ha1 : 0 < len1 → a1 = some ⟨b1, off1, none⟩) (hr1 : Rels w b1 off1 len1 V' A' L') :
    Calls Try.prog 14 #[.slice a0 len cap, .slice a1 len1 cap1] w fun e w' => Told2 V A L len V' A' L' len1 e ∧ w' = w := by
  by_cases hbig : 1048576 < len
  · go_enter Try.func14, Try.ntmps14
    go_wp2
    go_ret
    exact ⟨Told2.no, rfl⟩
  have HA := hid ha
  have HR := hid hr
  have HA1 := hid ha1
  have HR1 := hid hr1
  clear ha hr ha1 hr1
  go_enter Try.func14, Try.ntmps14
  go_wp2
  go_loop [5, 6] (fun z i => ∃ (k n : Nat), k ≤ len ∧ n ≤ 1048576 ∧ i = .int .i64 k ∧ z = .int .i64 n ∧ Hid (Short V A L k)) (fun _ i => len - (intOf i).toNat)
  case atStart => exact ⟨0, len, Nat.zero_le _, by omega, rfl, rfl, fun i hi => by omega⟩
  case round =>
    obtain ⟨k, n, hk, hn, rfl, rfl, HS⟩ := hrel
    by_cases hlt : k < len
    · obtain rfl := HA.out (by omega)
      obtain ⟨c0, c1, c2, s0, s1, s2⟩ := HR.out k hlt
      unfold maxLen at s0 s1 s2
      go_wp2
      all_goals first | (go_ret; exact ⟨Told2.no, rfl⟩) | skip
      go_round
      case rel => exact ⟨k + 1, n + (V k).size + (A k).size + (L k).size, by omega, by omega, by go_num, by go_num, HS.out.snoc (by omega) (by omega) (by omega)⟩
      case measure => simp [intOf]; omega
    · by_cases hbig1 : 1048576 < len1
      · go_wp2
        go_ret
        exact ⟨Told2.no, rfl⟩
      by_cases hbig2 : 1048576 < n + len1
      · go_wp2
        go_ret
        exact ⟨Told2.no, rfl⟩
      obtain rfl : len = k := by omega
      go_wp2
      clear hlt hk
      go_loop [5, 7] (fun z i => ∃ (k n : Nat), k ≤ len1 ∧ n ≤ 1048576 ∧ i = .int .i64 k ∧ z = .int .i64 n ∧ Hid (Short V' A' L' k)) (fun _ i => len1 - (intOf i).toNat)
      case atStart => exact ⟨0, n + len1, Nat.zero_le _, by omega, rfl, by go_num, fun i hi => by omega⟩
      case round =>
        clear hbig2 hn
        obtain ⟨k, n, hk, hn, rfl, rfl, HS1⟩ := hrel
        by_cases hlt : k < len1
        · obtain rfl := HA1.out (by omega)
          obtain ⟨c0, c1, c2, s0, s1, s2⟩ := HR1.out k hlt
          unfold maxLen at s0 s1 s2
          go_wp2
          all_goals first | (go_ret; exact ⟨Told2.no, rfl⟩) | skip
          go_round
          case rel => exact ⟨k + 1, n + (V' k).size + (A' k).size + (L' k).size, by omega, by omega, by go_num, by go_num, HS1.out.snoc (by omega) (by omega) (by omega)⟩
          case measure => simp [intOf]; omega
        · obtain rfl : k = len1 := by omega
          go_wp2
          go_ret
          exact ⟨Told2.yes HS.out HS1.out, rfl⟩

/-- one list behind another -/
def cat2 (f g : Nat → ByteArray) (n : Nat) : Nat → ByteArray := fun i => if i < n then f i else g (i - n)
theorem cat2_lt {f g : Nat → ByteArray} {n i : Nat} (h : i < n) : cat2 f g n i = f i := by simp [cat2, h]
theorem cat2_ge {f g : Nat → ByteArray} {n i : Nat} (h : ¬ i < n) : cat2 f g n i = g (i - n) := by simp [cat2, h]
theorem cat2_add {f g : Nat → ByteArray} {n i : Nat} : cat2 f g n (n + i) = g i := by
  rw [cat2_ge (by omega)]; congr 1; omega

theorem relCells_cat (V A L V' A' L' : Nat → ByteArray) (n : Nat) : ∀ m, relCells (cat2 V V' n) (cat2 A A' n) (cat2 L L' n) (n + m) = relCells V A L n ++ relCells V' A' L' m
  | 0 => by
    have e : relCells V' A' L' 0 = [] := rfl
    rw [e, List.append_nil, Nat.add_zero]
    have : ∀ k, k ≤ n → relCells (cat2 V V' n) (cat2 A A' n) (cat2 L L' n) k = relCells V A L k := by
      intro k
      induction k with
      | zero => intro _; rfl
      | succ k ih => intro hk; rw [relCells_succ, relCells_succ, ih (by omega), cat2_lt (by omega), cat2_lt (by omega), cat2_lt (by omega)]
    exact this n (Nat.le_refl _)
  | m + 1 => by
    rw [← Nat.add_assoc, relCells_succ, relCells_succ, relCells_cat V A L V' A' L' n m, cat2_add, cat2_add, cat2_add, List.append_assoc]

theorem catM_none {g : Nat} {V A : Nat → ByteArray} {x : ByteArray × ByteArray} {m : Nat} (h : ∀ j, j < m → (V j, A j) ≠ x) : catM g V A m x = none := by
  cases hs : catM g V A m x with
  | none => rfl
  | some v =>
    obtain ⟨j, hj, e⟩ := (catM_isSome (g := g) x m).1 (by rw [hs]; rfl)
    exact absurd e (h j hj)

theorem last_of {V A : Nat → ByteArray} {x : ByteArray × ByteArray} {n : Nat} (h : ∃ j, j < n ∧ (V j, A j) = x) : ∃ l, l < n ∧ (V l, A l) = x ∧ ∀ t, l < t → t < n → (V t, A t) ≠ x := by
  induction n with
  | zero => obtain ⟨j, h, _⟩ := h; omega
  | succ n ih =>
    obtain ⟨j, h, e⟩ := h
    by_cases hn : (V n, A n) = x
    · exact ⟨n, by omega, hn, fun t h1 h2 => by omega⟩
    · have hjn : j ≠ n := by rintro rfl; exact hn e
      obtain ⟨l, h1, h2, h3⟩ := ih ⟨j, by omega, e⟩
      refine ⟨l, by omega, h2, fun t h4 h5 => ?_⟩
      by_cases e' : t = n
      · subst e'; exact hn
      · exact h3 t h4 (by omega)

theorem catM_at {g l n : Nat} {V A : Nat → ByteArray} {x : ByteArray × ByteArray} (hl : l < n) (hx : (V l, A l) = x) (h : ∀ t, l < t → t < n → (V t, A t) ≠ x) : catM g V A n x = some (.pointer (some ⟨g, l * 10, none⟩)) := by
  subst hx; exact catM_last l n hl h

/-- LATER WINS, in plain words -/
theorem later {gA gB gW la lb t : Nat} {V A V' A' : Nat → ByteArray} (ht : t < la + lb) :
    (∃ l, l < lb ∧ catM gB V' A' lb (cat2 V V' la t, cat2 A A' la t) = some (.pointer (some ⟨gB, l * 10, none⟩)) ∧ catM gW (cat2 V V' la) (cat2 A A' la) (la + lb) (cat2 V V' la t, cat2 A A' la t) = some (.pointer (some ⟨gW, (la + l) * 10, none⟩))) ∨
    (catM gB V' A' lb (cat2 V V' la t, cat2 A A' la t) = none ∧ ∃ l, l < la ∧ catM gA V A la (cat2 V V' la t, cat2 A A' la t) = some (.pointer (some ⟨gA, l * 10, none⟩)) ∧ catM gW (cat2 V V' la) (cat2 A A' la) (la + lb) (cat2 V V' la t, cat2 A A' la t) = some (.pointer (some ⟨gW, l * 10, none⟩))) := by
  obtain ⟨x, hx⟩ : ∃ x, x = (cat2 V V' la t, cat2 A A' la t) := ⟨_, rfl⟩
  rw [← hx]
  by_cases hB : ∃ j, j < lb ∧ (V' j, A' j) = x
  · left
    obtain ⟨l, h1, h2, h3⟩ := last_of hB
    refine ⟨l, h1, catM_at h1 h2 h3, catM_at (by omega) (by rw [cat2_add, cat2_add]; exact h2) (fun u hu1 hu2 => ?_)⟩
    rw [cat2_ge (by omega), cat2_ge (by omega)]
    exact h3 _ (by omega) (by omega)
  · right
    have hB' : ∀ j, j < lb → (V' j, A' j) ≠ x := fun j hj e => hB ⟨j, hj, e⟩
    have hA : ∃ j, j < la ∧ (V j, A j) = x := by
      by_cases htl : t < la
      · exact ⟨t, htl, by rw [hx, cat2_lt htl, cat2_lt htl]⟩
      · exact absurd (by rw [hx, cat2_ge htl, cat2_ge htl]) (hB' (t - la) (by omega))
    obtain ⟨l, h1, h2, h3⟩ := last_of hA
    refine ⟨catM_none hB', l, h1, catM_at h1 h2 h3, catM_at (by omega) (by rw [cat2_lt h1, cat2_lt h1]; exact h2) (fun u hu1 hu2 => ?_)⟩
    by_cases hul : u < la
    · rw [cat2_lt hul, cat2_lt hul]; exact h3 u hu1 hul
    · rw [cat2_ge hul, cat2_ge hul]; exact hB' _ (by omega)

/-- the merge is the catalog's own list of architectures -/
theorem merged_is {A A' : Nat → ByteArray} {la lb : Nat} {ws : List Str} (h : MInv (uniq (archs A la)) (uniq (archs A' lb)) (uniq (archs A la)).length (uniq (archs A' lb)).length ws) : ws = uniq (archs (cat2 A A' la) (la + lb)) := by
  have mem : ∀ {us : List Str} {x : Str}, (∃ k, ∃ _ : k < us.length, k < us.length ∧ us[k] = x) ↔ x ∈ us := fun {us x} => by
    rw [List.mem_iff_getElem]
    constructor
    · rintro ⟨k, h1, _, h2⟩; exact ⟨k, h1, h2⟩
    · rintro ⟨k, h1, h2⟩; exact ⟨k, h1, h1, h2⟩
  refine rising_ext h.1 (uniq_spec _).1 (fun p => ?_)
  rw [h.2.1, mem, mem, (uniq_spec _).2, (uniq_spec _).2, (uniq_spec _).2, mem_archs, mem_archs, mem_archs]
  constructor
  · rintro (⟨i, hi, rfl⟩ | ⟨i, hi, rfl⟩)
    · exact ⟨i, by omega, by rw [cat2_lt hi]⟩
    · exact ⟨la + i, by omega, by rw [cat2_add]⟩
  · rintro ⟨i, hi, rfl⟩
    by_cases h : i < la
    · exact Or.inl ⟨i, h, by rw [cat2_lt h]⟩
    · exact Or.inr ⟨i - la, by omega, by rw [cat2_ge h]⟩

/-- zzMergeSet at two catalogs' lists -/
theorem merge_call {A A' : Nat → ByteArray} {la lb nx ny bx bz cx cy : Nat} {ax ay : Option Addr} {SA SB : Nat → ByteArray} {W : World} (hnx : nx = (uniq (archs A la)).length) (hny : ny = (uniq (archs A' lb)).length) (hsa : SA = strAt (uniq (archs A la))) (hsb : SB = strAt (uniq (archs A' lb)))
    (h1 : nx ≤ 8192) (h2 : ny ≤ 8192) (hax : 0 < nx → ax = some ⟨bx, 0, none⟩) (hay : 0 < ny → ay = some ⟨bz, 0, none⟩) (ca : ∀ i, i < nx → W.cell? ⟨bx, i, none⟩ = some (.string (SA i))) (cb : ∀ i, i < ny → W.cell? ⟨bz, i, none⟩ = some (.string (SB i))) :
    Calls Try.prog 15 #[.slice ax nx cx, .slice ay ny cy] W fun e w' => Merged (uniq (archs A la)) (uniq (archs A' lb)) W w' e := by
  subst hnx hny hsa hsb
  exact merge_any ax ay bx bz cx cy _ _ W h1 h2 (uniq_spec _).1 (uniq_spec _).1 hax hay ca cb

/-! ### what a longer memory keeps -/
theorem cell_kept {w w' : World} (hb : Below w.heap.size w w') {a : Addr} {v : Value} (h : w.cell? a = some v) : w'.cell? a = some v := (hb.cell (lt_of_cell h)).trans h
theorem Built.kept {w w' : World} {g n : Nat} {V A : Nat → ByteArray} (h : Built w g n V A) (hb : Below w.heap.size w w') : Built w' g n V A := fun i hi => by
  obtain ⟨h0, h1, h2, h3, h4, h5, h6, r⟩ := h i hi
  exact ⟨cell_kept hb h0, cell_kept hb h1, cell_kept hb h2, cell_kept hb h3, cell_kept hb h4, cell_kept hb h5, cell_kept hb h6, r⟩
theorem ArchIs.kept {w w' : World} {sl : Value} {us : List Str} (h : ArchIs w sl us) (hb : Below w.heap.size w w') : ArchIs w' sl us := by
  obtain ⟨a0, b, cap, h1, h2, h3⟩ := h
  exact ⟨a0, b, cap, h1, h2, fun i hi => cell_kept hb (h3 i hi)⟩
theorem map_kept {w w' : World} {bm n N : Nat} {M : ByteArray × ByteArray → Option Value} (h : MapIs Try.prog w 52 key bm n M N) (hb : Below w.heap.size w w') : MapIs Try.prog w' 52 key bm n M N := h.of_block (hb.block bm h.lt)

theorem made_facts {wr w1 : World} {cap : Nat} (hown : w1.ownsRow wr.heap.size 43 10 (.slice (some ⟨wr.heap.size, 0, none⟩) 0 cap) 0 []) (hg : wr.grownBy w1 none) : Below wr.heap.size wr w1 ∧ wr.heap.size < w1.heap.size := by
  refine ⟨(Below.refl wr.heap.size wr).grown hg (Nat.le_refl _) (fun k h => by cases h), ?_⟩
  rcases hown.2 with ⟨h, _⟩ | ⟨g', cp, cur, h, _, hg', _⟩
  · cases h
  · simp only [Value.slice.injEq, Option.some.injEq, Addr.mk.injEq] at h
    obtain ⟨⟨rfl, _⟩, _⟩ := h
    exact (Array.getElem?_eq_some_iff.1 hg').1

end Go.Proofs.Qxb6628738a
