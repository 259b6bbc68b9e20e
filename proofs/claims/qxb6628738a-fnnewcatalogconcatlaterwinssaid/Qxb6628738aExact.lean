/-
  THE WALK OF FnNewCatalogExact.
-/
import Derived.Test.Qxb6628738aPlain
import Derived.Test.Qxb6628738aPtr
import Derived.Deep.QuietTactic
import Derived.BigQuiet
import Derived.WalkSmall
import Derived.Deep.RegionHeld3
namespace Go.Proofs.Qxb6628738a
open Go.RowKit
open Sorted

/-- zzBuild's row, as NewCatalog reads it -/
theorem built_of {w : World} {base g n cap : Nat} {V A L : Nat → ByteArray} (hown : w.ownsRow base 43 10 (.slice (some ⟨g, 0, none⟩) n cap) n (relCells V A L n)) (hs : ∀ i, i < n → (V i).size ≤ maxLen ∧ (A i).size ≤ maxLen) : Built w g n V A := by
  have hat : ∀ i, i < n → ∀ j, j < 10 → (relCells V A L n)[i * 10 + j]? = (relCell (V i) (A i) (L i))[j]? := by
    have hlen : ∀ m, (relCells V A L m).length = m * 10 := by
      intro m
      induction m with
      | zero => rfl
      | succ m ih => rw [relCells_succ, List.length_append, ih]; simp [relCell]; omega
    intro i hi j hj
    clear hown hs
    induction n with
    | zero => omega
    | succ n ih =>
      rw [relCells_succ]
      by_cases h : i < n
      · rw [List.getElem?_append_left (by rw [hlen]; omega), ih h]
      · obtain rfl : i = n := by omega
        rw [List.getElem?_append_right (by rw [hlen]; omega), hlen]
        congr 1; omega
  intro i hi
  obtain ⟨h1, h2⟩ := hs i hi
  have c : ∀ j, j < 10 → w.cell? ⟨g, i * 10 + j, none⟩ = (relCell (V i) (A i) (L i))[j]? := fun j hj => by
    rw [hown.cellAt (i * 10 + j) (by omega), hat i hi j hj]
  exact ⟨c 0 (by omega), c 1 (by omega), c 2 (by omega), c 3 (by omega), c 4 (by omega), c 5 (by omega), c 6 (by omega), h1, h2⟩

theorem lookup_hit (bm n N : Nat) (M : ByteArray × ByteArray → Option Value) (sl : Value) (v a : ByteArray) (w : World) (h : MapIs Try.prog w 52 key bm n M N) (hv : v.size ≤ maxLen) (ha : a.size ≤ maxLen) {p : Value} (hp : M (v, a) = some p) :
    Calls Try.prog 10 #[.agg #[.map (some bm), sl], .string v, .string a] w fun e w' => e = .returned p ∧ w' = w.alloc (.cells #[.map (some bm), sl] 32) := by
  have := lookup_any bm n N M sl v a w h hv ha
  rw [hp] at this
  exact this

/-- what the law's second half reads -/
structure St (w : World) (b off len : Nat) (V A L : Nat → ByteArray) (g bm Bc ab acap : Nat) (ar : Option Addr) (us : List Str) : Prop where
  rels : Rels w b off len V A L
  map : MapIs Try.prog w 52 key bm len (catM g V A len) (catN g V A len)
  c0 : w.cell? ⟨Bc, 0, none⟩ = some (.map (some bm))
  c1 : w.cell? ⟨Bc, 1, none⟩ = some (.slice ar us.length acap)
  arch : ∀ i, i < us.length → w.cell? ⟨ab, i, none⟩ = some (.string (strAt us i))

theorem next_ne {V A : Nat → ByteArray} {t jj i : Nat} (h : ∀ u, t < u → u < jj → (V u, A u) ≠ (V i, A i)) (hs : sameK (V jj) (A jj) (V i) (A i) = false) : ∀ u, t < u → u < jj + 1 → (V u, A u) ≠ (V i, A i) := fun u h1 h2 => by
  by_cases e : u = jj
  · subst e
    intro e'
    simp only [Prod.mk.injEq] at e'
    rw [sameK_iff.2 e'] at hs
    cases hs
  · exact h u h1 (by omega)
theorem next_ne' {V A : Nat → ByteArray} {jj i : Nat} (h : ∀ u, u < jj → (V u, A u) ≠ (V i, A i)) (hs : sameK (V jj) (A jj) (V i) (A i) = false) : ∀ u, u < jj + 1 → (V u, A u) ≠ (V i, A i) := fun u h2 => by
  by_cases e : u = jj
  · subst e
    intro e'
    simp only [Prod.mk.injEq] at e'
    rw [sameK_iff.2 e'] at hs
    cases hs
  · exact h u (by omega)

theorem lt_of_cell {w : World} {a : Addr} {v : Value} (h : w.cell? a = some v) : a.block < w.heap.size := by
  rcases Nat.lt_or_ge a.block w.heap.size with h' | h'
  · exact h'
  · simp [World.cell?, Array.getElem?_eq_none h'] at h

theorem St.alloc {w : World} {b off len : Nat} {V A L : Nat → ByteArray} {g bm Bc ab acap : Nat} {ar : Option Addr} {us : List Str} (h : St w b off len V A L g bm Bc ab acap ar us) (o : Obj) : St (w.alloc o) b off len V A L g bm Bc ab acap ar us := by
  have c : ∀ {a : Addr} {v : Value}, w.cell? a = some v → (w.alloc o).cell? a = some v := fun {a v} hv =>
    (World.cell?_of_block (Below.heap_alloc w o a.block (lt_of_cell hv))).trans hv
  refine ⟨fun i hi => ?_, h.map.alloc o, c h.c0, c h.c1, fun i hi => c (h.arch i hi)⟩
  obtain ⟨h1, h2, h3, r⟩ := h.rels i hi
  exact ⟨c h1, c h2, c h3, r⟩
theorem St.drew {w : World} {b off len : Nat} {V A L : Nat → ByteArray} {g bm Bc ab acap : Nat} {ar : Option Addr} {us : List Str} (h : St w b off len V A L g bm Bc ab acap ar us) : St w.drew b off len V A L g bm Bc ab acap ar us := ⟨h.rels, h.map, h.c0, h.c1, h.arch⟩
theorem St.drewN {w : World} {b off len : Nat} {V A L : Nat → ByteArray} {g bm Bc ab acap : Nat} {ar : Option Addr} {us : List Str} (h : St w b off len V A L g bm Bc ab acap ar us) (n : Nat) : St (w.drewN n) b off len V A L g bm Bc ab acap ar us := ⟨h.rels, h.map, h.c0, h.c1, h.arch⟩

set_option maxRecDepth 100000 in
set_option maxHeartbeats 3200000 in
theorem exact_any (a0 : Option Addr) (b off len cap : Nat) (V A L : Nat → ByteArray) (w : World) (hl : len ≤ 9223372036854775807) (ha : 0 < len → a0 = some ⟨b, off, none⟩) (hb : 0 < len → b < w.heap.size) (hr : Rels w b off len V A L) :
    Calls Try.prog 3 #[.slice a0 len cap] w fun e w' => e = .returned (.bool true) ∧ Below w.heap.size w w' := by
  have HA := hid ha
  have HR := hid hr
  have HB := hid hb
  have h5 := hid (bytes5_any a0 b off len cap V A L w hl ha hr)
  clear ha hr hb
  go_enter Try.func3, Try.ntmps3
  go_wp2_with fail
  refine h5.out.mono ?_
  rintro e w' ⟨⟨bv, rfl, hsh⟩, hw'⟩; obtain rfl := hw'.symm; clear hw' h5
  have HSH := hid hsh
  clear hsh
  cases bv
  · go_wp2
    go_ret
    exact ⟨rfl, Below.refl _ _⟩
  by_cases hbig : 4096 < len
  · go_wp2
    go_ret
    exact ⟨rfl, Below.refl _ _⟩
  go_wp2
  have hsh : Short V A L len := HSH.out (by first | trivial | rfl)
  have HS := hid hsh
  clear hsh HSH
  go_loopw [3, 29] (fun t i wr => ∃ (k s : Nat), k ≤ len ∧ s ≤ 1048576 ∧ i = .int .i64 k ∧ t = .int .i64 s ∧ Below w.heap.size w wr) (fun _ i _ => len - (intOf i).toNat)
  case atStart => exact ⟨0, 0, Nat.zero_le _, by omega, rfl, rfl, Below.refl _ _⟩
  case round =>
    obtain ⟨k, s, hk, hs, rfl, rfl, hbk⟩ := hrel
    by_cases hlt : k < len
    · obtain rfl := HA.out (by omega)
      obtain ⟨c0, c1, c2, _, _, _⟩ := (HR.out.below hbk HB.out) k hlt
      obtain ⟨t0, t1, t2⟩ := HS.out k hlt
      have hi0 : (0 : Int) ≤ (k : Int) := Int.natCast_nonneg _
      have hi1 : (k : Int) < (len : Int) := by omega
      go_wp2_with fail
      go_quiet (fail)
      go_wp2
      · go_ret
        exact ⟨rfl, below_drewN hbk _⟩
      · go_roundw
        case rel => exact ⟨k + 1, s + (48 + (V k).size + (A k).size + (L k).size), by omega, by omega, by go_num, by go_num, below_drewN hbk _⟩
        case measure => simp [intOf]; omega
    · go_wp2
      clear hs hk hlt
      go_loopw [60] (fun i wr => ∃ (k : Nat), k ≤ len ∧ i = .int .i64 k ∧ Below w.heap.size w wr) (fun i _ => len - (intOf i).toNat)
      case atStart => exact ⟨0, Nat.zero_le _, rfl, hbk⟩
      case round =>
        clear hbk
        obtain ⟨k2, hk, rfl, hbk⟩ := hrel
        by_cases hlt : k2 < len
        · obtain rfl := HA.out (by omega)
          obtain ⟨c0, _, _, s0, _, _⟩ := (HR.out.below hbk HB.out) k2 hlt
          have S0 := hid s0
          clear s0
          go_wp2_with fail
          refine (plain6_any _ _ S0.out).mono ?_
          rintro e w' ⟨⟨bv, rfl⟩, hw'⟩; obtain rfl := hw'.symm; clear hw'
          cases bv
          · go_wp2
            go_ret
            exact ⟨rfl, hbk⟩
          · go_wp2
            go_roundw
            case rel => exact ⟨k2 + 1, by omega, by go_num, hbk⟩
            case measure => simp [intOf]; omega
        · obtain ⟨i0, hi, hz0, hz1, hz2⟩ := info_parts Try.info43
          have hsr := hbk.size
          go_wp2_with (at_make; refine wpList_make_own _ rfl (.const (.int .i64 0)) (.tmp 72) 27 rfl wr.heap.size 43 i0 _ 10 Try.underlying27 hi hz0 hz1 .i64 .i64 _ len rfl rfl rfl (by rw [hz2]; omega) (by unfold maxLen; omega) (Nat.le_refl _) ?_; intro w1 hown1 hgrow1)
          clear hk hlt hi hz0 hz1 hz2
          have hb1 : Below wr.heap.size wr w1 := (Below.refl wr.heap.size wr).grown hgrow1 (Nat.le_refl _) (fun k h => by cases h)
          have hbw1 : Below w.heap.size w w1 := hbk.trans (hb1.mono hsr)
          have hs1 : wr.heap.size < w1.heap.size := by
            rcases hown1.2 with ⟨h, _⟩ | ⟨g', cp, cur, h, _, hg', _⟩
            · cases h
            · simp only [Value.slice.injEq, Option.some.injEq, Addr.mk.injEq] at h
              obtain ⟨⟨rfl, _⟩, _⟩ := h
              exact (Array.getElem?_eq_some_iff.1 hg').1
          refine (build_any wr.heap.size 0 len wr.heap.size [] a0 b off len cap V A L w1 (by omega) HA.out (HR.out.below hbw1 HB.out) (fun h => by have := HB.out h; omega) (by omega) hown1 (by omega)).mono ?_
          rintro e w2 ⟨rfl, hown2, hgrow2⟩
          rw [Nat.zero_add] at hown2 ⊢
          rw [List.nil_append] at hown2
          have hbu := built_of hown2 (fun i hi => ⟨(HR.out i hi).2.2.2.1, (HR.out i hi).2.2.2.2.1⟩)
          have hbw2 : Below w.heap.size w w2 := hbw1.grown hgrow2 (by omega) (fun j hj => by cases hj; omega)
          have hs2 : wr.heap.size < w2.heap.size := by have := hgrow2.size; omega
          clear hown1 hown2 hgrow1 hgrow2 hb1 hs1 hbw1
          obtain ⟨g, hg⟩ : ∃ g, g = wr.heap.size := ⟨_, rfl⟩
          rw [← hg] at hbu hs2 ⊢
          have hgw : w.heap.size ≤ g := by omega
          clear hg hsr hbk
          go_wp2_with fail
          refine (catalog_loop g len len V A w2 (by omega) hs2 hbu).mono ?_
          rintro e w3 ⟨bm, sl, rfl, hM, hAr, hb3⟩
          have hbw3 : Below w.heap.size w w3 := hbw2.trans (hb3.mono hbw2.size)
          obtain ⟨ar, ab, acap, rfl, har, hac⟩ := hAr.cells
          have hul := uniq_length_le (A := A) len
          obtain ⟨us, hus⟩ : ∃ us, us = uniq (archs A len) := ⟨_, rfl⟩
          rw [← hus] at har hac hul ⊢
          have HUS := hid hus
          clear hb3 hbw2 hbu hus hAr hs2
          go_wp2
          have hst : St (w3.alloc (Obj.cells #[Value.map (some bm), Value.slice ar us.length acap] 32)) b off len V A L g bm w3.heap.size ab acap ar us := by
            have c : ∀ {a : Addr} {v : Value}, w3.cell? a = some v → (w3.alloc (Obj.cells #[Value.map (some bm), Value.slice ar us.length acap] 32)).cell? a = some v := fun {a v} hv =>
              (World.cell?_of_block (Below.heap_alloc w3 _ a.block (lt_of_cell hv))).trans hv
            refine ⟨fun i hi => ?_, hM.alloc _, by simp, by simp, fun i hi => c (hac i hi)⟩
            obtain ⟨h1, h2, h3, r⟩ := (HR.out.below hbw3 HB.out) i hi
            exact ⟨c h1, c h2, c h3, r⟩
          have hbw4 : Below w.heap.size w (w3.alloc (Obj.cells #[Value.map (some bm), Value.slice ar us.length acap] 32)) := hbw3.alloc hbw3.size _
          have hsz4 : w.heap.size ≤ w3.heap.size := hbw3.size
          obtain ⟨W0, hW0⟩ : ∃ W0 : World, W0 = w3.alloc (Obj.cells #[Value.map (some bm), Value.slice ar us.length acap] 32) := ⟨_, rfl⟩
          rw [← hW0] at hst hbw4 ⊢
          obtain ⟨Bc, hBc⟩ : ∃ Bc, Bc = w3.heap.size := ⟨_, rfl⟩
          rw [← hBc] at hst hsz4 ⊢
          have HAR := hid har
          clear hW0 hBc hM hac hbw3 har
          go_loopw [9, 10] (fun d i wr => ∃ k : Nat, k ≤ len ∧ i = .int .i64 k ∧ d = .int .i64 (catN g V A k : Int) ∧ Hid (St wr b off len V A L g bm Bc ab acap ar us) ∧ Below w.heap.size w wr) (fun _ i _ => len - (intOf i).toNat)
          case atStart => exact ⟨0, Nat.zero_le _, rfl, rfl, hst, hbw4⟩
          case round =>
            clear hst hbw4
            obtain ⟨i, hi, rfl, rfl, HST, hbi⟩ := hrel
            have hcn := catN_le (g := g) (V := V) (A := A) i
            by_cases hlt : i < len
            · obtain rfl := HA.out (by omega)
              go_wp2
              go_loopw [11, 12] (fun l j wr => ∃ (t jj : Nat), i + 1 ≤ jj ∧ jj ≤ len ∧ j = .int .i64 jj ∧ l = .int .i64 t ∧ t < jj ∧ Hid (V t = V i ∧ A t = A i) ∧ Hid (∀ u, t < u → u < jj → (V u, A u) ≠ (V i, A i)) ∧ Hid (St wr b off len V A L g bm Bc ab acap ar us) ∧ Below w.heap.size w wr) (fun _ j _ => len - (intOf j).toNat)
              case atStart => exact ⟨i, i + 1, by omega, by omega, by go_num, rfl, by omega, ⟨rfl, rfl⟩, fun u h1 h2 => by omega, HST, hbi⟩
              case round =>
                clear HST hbi
                obtain ⟨t, jj, hj1, hj2, rfl, rfl, htj, HT, HU, HST, hbi⟩ := hrel
                by_cases hjl : jj < len
                · obtain ⟨c0, c1, c2, _, _, _⟩ := HST.out.rels jj hjl
                  obtain ⟨d0, d1, d2, _, _, _⟩ := HST.out.rels i hlt
                  have hi0 : (0 : Int) ≤ (jj : Int) := Int.natCast_nonneg _
                  have hi1 : (jj : Int) < (len : Int) := by omega
                  have hi2 : (0 : Int) ≤ (i : Int) := Int.natCast_nonneg _
                  have hi3 : (i : Int) < (len : Int) := by omega
                  have hsz := hbi.size
                  cases hs : sameK (V jj) (A jj) (V i) (A i) with
                  | true =>
                    have HS2 := hid hs
                    clear hs
                    go_wp2_with fail
                    go_region_held3 (fun w' => w'.cell? ⟨b, off + jj * 3, none⟩ = some (.string (V jj)) ∧ w'.cell? ⟨b, off + jj * 3 + 1, none⟩ = some (.string (A jj)) ∧ w'.cell? ⟨b, off + jj * 3 + 2, none⟩ = some (.string (L jj)) ∧ w'.cell? ⟨b, off + i * 3, none⟩ = some (.string (V i)) ∧ w'.cell? ⟨b, off + i * 3 + 1, none⟩ = some (.string (A i)) ∧ w'.cell? ⟨b, off + i * 3 + 2, none⟩ = some (.string (L i)))
                      (go_keep)
                      (first | (go_at_call 9; refine (same_any _ _ _ _ _ _ _).mono ?_; rintro e w' ⟨rfl, rfl⟩; rw [HS2.out]))
                    have hst2 : Hid (St (((wr.alloc (.cells #[.string (V jj), .string (A jj), .string (L jj)] 25)).alloc (.cells #[.string (V i), .string (A i), .string (L i)] 25)).drew) b off len V A L g bm Bc ab acap ar us) := ((HST.out.alloc _).alloc _).drew
                    have hb2 := ((hbi.alloc hsz (.cells #[.string (V jj), .string (A jj), .string (L jj)] 25)).alloc (by simp; omega) (.cells #[.string (V i), .string (A i), .string (L i)] 25)).drew
                    clear c0 c1 c2 d0 d1 d2 HST hbi
                    go_wp2
                    go_roundw
                    case rel => exact ⟨jj, jj + 1, by omega, by omega, by go_num, rfl, by omega, sameK_iff.1 HS2.out, fun u h1 h2 => by omega, hst2, hb2⟩
                    case measure => simp [intOf]; omega
                  | false =>
                    have HS2 := hid hs
                    clear hs
                    go_wp2_with fail
                    go_region_held3 (fun w' => w'.cell? ⟨b, off + jj * 3, none⟩ = some (.string (V jj)) ∧ w'.cell? ⟨b, off + jj * 3 + 1, none⟩ = some (.string (A jj)) ∧ w'.cell? ⟨b, off + jj * 3 + 2, none⟩ = some (.string (L jj)) ∧ w'.cell? ⟨b, off + i * 3, none⟩ = some (.string (V i)) ∧ w'.cell? ⟨b, off + i * 3 + 1, none⟩ = some (.string (A i)) ∧ w'.cell? ⟨b, off + i * 3 + 2, none⟩ = some (.string (L i)))
                      (go_keep)
                      (first | (go_at_call 9; refine (same_any _ _ _ _ _ _ _).mono ?_; rintro e w' ⟨rfl, rfl⟩; rw [HS2.out]))
                    have hst2 : Hid (St (((wr.alloc (.cells #[.string (V jj), .string (A jj), .string (L jj)] 25)).alloc (.cells #[.string (V i), .string (A i), .string (L i)] 25)).drew) b off len V A L g bm Bc ab acap ar us) := ((HST.out.alloc _).alloc _).drew
                    have hb2 := ((hbi.alloc hsz (.cells #[.string (V jj), .string (A jj), .string (L jj)] 25)).alloc (by simp; omega) (.cells #[.string (V i), .string (A i), .string (L i)] 25)).drew
                    clear c0 c1 c2 d0 d1 d2 HST hbi
                    go_wp2
                    go_roundw
                    case rel => exact ⟨t, jj + 1, by omega, by omega, by go_num, rfl, by omega, HT, next_ne HU.out HS2.out, hst2, hb2⟩
                    case measure => simp [intOf]; omega
                · obtain rfl : jj = len := by omega
                  have HL : Hid (catM g V A jj (V i, A i) = some (.pointer (some ⟨g, t * 10, none⟩))) := by
                    obtain ⟨e1, e2⟩ := HT.out
                    have := catM_last (g := g) (V := V) (A := A) t jj htj (fun u h1 h2 => by rw [e1, e2]; exact HU.out u h1 h2)
                    rw [e1, e2] at this
                    exact this
                  go_wp2
                  clear hjl hj1 hj2
                  go_loopw [13, 14] (fun f j wr => ∃ (m : Nat), m ≤ i ∧ j = .int .i64 m ∧ f = .bool true ∧ Hid (∀ u, u < m → (V u, A u) ≠ (V i, A i)) ∧ Hid (St wr b off jj V A L g bm Bc ab acap ar us) ∧ Below w.heap.size w wr) (fun _ j _ => i - (intOf j).toNat)
                  case atStart => exact ⟨0, Nat.zero_le _, rfl, rfl, fun u h => by omega, HST, hbi⟩
                  case round =>
                    clear HST hbi
                    obtain ⟨m, hm, rfl, rfl, HU2, HST, hbi⟩ := hrel
                    by_cases hml : m < i
                    · obtain ⟨c0, c1, c2, _, _, _⟩ := HST.out.rels m (by omega)
                      obtain ⟨d0, d1, d2, _, _, _⟩ := HST.out.rels i hlt
                      have hi0 : (0 : Int) ≤ (m : Int) := Int.natCast_nonneg _
                      have hi1 : (m : Int) < (jj : Int) := by omega
                      have hi2 : (0 : Int) ≤ (i : Int) := Int.natCast_nonneg _
                      have hi3 : (i : Int) < (jj : Int) := by omega
                      have hsz := hbi.size
                      cases hs : sameK (V m) (A m) (V i) (A i) with
                      | true =>
                        have HS2 := hid hs
                        clear hs
                        go_wp2_with fail
                        go_region_held3 (fun w' => w'.cell? ⟨b, off + m * 3, none⟩ = some (.string (V m)) ∧ w'.cell? ⟨b, off + m * 3 + 1, none⟩ = some (.string (A m)) ∧ w'.cell? ⟨b, off + m * 3 + 2, none⟩ = some (.string (L m)) ∧ w'.cell? ⟨b, off + i * 3, none⟩ = some (.string (V i)) ∧ w'.cell? ⟨b, off + i * 3 + 1, none⟩ = some (.string (A i)) ∧ w'.cell? ⟨b, off + i * 3 + 2, none⟩ = some (.string (L i)))
                      (go_keep)
                      (first | (go_at_call 9; refine (same_any _ _ _ _ _ _ _).mono ?_; rintro e w' ⟨rfl, rfl⟩; rw [HS2.out]))
                        have hst2 : Hid (St (((wr.alloc (.cells #[.string (V m), .string (A m), .string (L m)] 25)).alloc (.cells #[.string (V i), .string (A i), .string (L i)] 25)).drew) b off jj V A L g bm Bc ab acap ar us) := ((HST.out.alloc _).alloc _).drew
                        have hb2 := ((hbi.alloc hsz (.cells #[.string (V m), .string (A m), .string (L m)] 25)).alloc (by simp; omega) (.cells #[.string (V i), .string (A i), .string (L i)] 25)).drew
                        clear c0 c1 c2 d0 d1 d2 HST hbi
                        obtain ⟨W5, hW5⟩ : ∃ W5 : World, W5 = ((wr.alloc (.cells #[.string (V m), .string (A m), .string (L m)] 25)).alloc (.cells #[.string (V i), .string (A i), .string (L i)] 25)).drew := ⟨_, rfl⟩
                        rw [← hW5] at hst2 hb2 ⊢
                        clear hW5
                        go_wp2_with fail
                        obtain ⟨d0, d1, _, sV, sA, _⟩ := hst2.out.rels i hlt
                        have hc0 := hst2.out.c0
                        have hc1 := hst2.out.c1
                        have hpn : ∀ ww, (binOp .neq 35 (.pointer (some ⟨g, t * 10, none⟩)) (.pointer (some ⟨g, t * 10, none⟩))).run Try.prog ww = .ok (.bool false) ww := fun ww => by rw [neq35]; simp
                        have ht0 : (0 : Int) ≤ (t : Int) := Int.natCast_nonneg _
                        have ht1 : (t : Int) < (jj : Int) := by omega
                        have hi2 : (0 : Int) ≤ (i : Int) := Int.natCast_nonneg _
                        have hi3 : (i : Int) < (jj : Int) := by omega
                        have hszl := hb2.size
                        have LK := hid (fun ww (h : MapIs Try.prog ww 52 key bm jj (catM g V A jj) (catN g V A jj)) => lookup_hit bm jj (catN g V A jj) (catM g V A jj) (.slice ar us.length acap) (V i) (A i) ww h sV sA HL.out)
                        clear sV sA
                        go_region_held3 (fun w' => w'.cell? ⟨Bc, 0, none⟩ = some (.map (some bm)) ∧ w'.cell? ⟨Bc, 1, none⟩ = some (.slice ar us.length acap) ∧ w'.cell? ⟨b, off + i * 3, none⟩ = some (.string (V i)) ∧ w'.cell? ⟨b, off + i * 3 + 1, none⟩ = some (.string (A i)))
                          (go_keep)
                          (first | (go_at_call 10; refine (LK.out _ (by exact hst2.out.map.drew)).mono ?_; rintro e w' ⟨rfl, rfl⟩))
                        have hst3 : Hid (St ((W5.alloc (.cells #[.map (some bm), .slice ar us.length acap] 32)).drew) b off jj V A L g bm Bc ab acap ar us) := (hst2.out.alloc _).drew
                        have hb3 := (hb2.alloc hszl (.cells #[.map (some bm), .slice ar us.length acap] 32)).drew
                        clear d0 d1 hc0 hc1 LK
                        go_wp2
                        go_roundw
                        case rel => exact ⟨i + 1, by omega, by go_num, by rw [catN_again hml (by simp only [Prod.mk.injEq]; exact sameK_iff.1 HS2.out)], hst3, hb3⟩
                        case measure => simp [intOf]; omega
                      | false =>
                        have HS2 := hid hs
                        clear hs
                        go_wp2_with fail
                        go_region_held3 (fun w' => w'.cell? ⟨b, off + m * 3, none⟩ = some (.string (V m)) ∧ w'.cell? ⟨b, off + m * 3 + 1, none⟩ = some (.string (A m)) ∧ w'.cell? ⟨b, off + m * 3 + 2, none⟩ = some (.string (L m)) ∧ w'.cell? ⟨b, off + i * 3, none⟩ = some (.string (V i)) ∧ w'.cell? ⟨b, off + i * 3 + 1, none⟩ = some (.string (A i)) ∧ w'.cell? ⟨b, off + i * 3 + 2, none⟩ = some (.string (L i)))
                      (go_keep)
                      (first | (go_at_call 9; refine (same_any _ _ _ _ _ _ _).mono ?_; rintro e w' ⟨rfl, rfl⟩; rw [HS2.out]))
                        have hst2 : Hid (St (((wr.alloc (.cells #[.string (V m), .string (A m), .string (L m)] 25)).alloc (.cells #[.string (V i), .string (A i), .string (L i)] 25)).drew) b off jj V A L g bm Bc ab acap ar us) := ((HST.out.alloc _).alloc _).drew
                        have hb2 := ((hbi.alloc hsz (.cells #[.string (V m), .string (A m), .string (L m)] 25)).alloc (by simp; omega) (.cells #[.string (V i), .string (A i), .string (L i)] 25)).drew
                        clear c0 c1 c2 d0 d1 d2 HST hbi
                        go_wp2
                        go_roundw
                        case rel => exact ⟨m + 1, by omega, by go_num, rfl, next_ne' HU2.out HS2.out, hst2, hb2⟩
                        case measure => simp [intOf]; omega
                    · obtain rfl : m = i := by omega
                      go_wp2_with fail
                      obtain ⟨d0, d1, _, sV, sA, _⟩ := HST.out.rels m hlt
                      have hc0 := HST.out.c0
                      have hc1 := HST.out.c1
                      have hpn : ∀ ww, (binOp .neq 35 (.pointer (some ⟨g, t * 10, none⟩)) (.pointer (some ⟨g, t * 10, none⟩))).run Try.prog ww = .ok (.bool false) ww := fun ww => by rw [neq35]; simp
                      have ht0 : (0 : Int) ≤ (t : Int) := Int.natCast_nonneg _
                      have ht1 : (t : Int) < (jj : Int) := by omega
                      have hi2 : (0 : Int) ≤ (m : Int) := Int.natCast_nonneg _
                      have hi3 : (m : Int) < (jj : Int) := by omega
                      have hszl := hbi.size
                      have LK := hid (fun ww (h : MapIs Try.prog ww 52 key bm jj (catM g V A jj) (catN g V A jj)) => lookup_hit bm jj (catN g V A jj) (catM g V A jj) (.slice ar us.length acap) (V m) (A m) ww h sV sA HL.out)
                      clear sV sA
                      go_region_held3 (fun w' => w'.cell? ⟨Bc, 0, none⟩ = some (.map (some bm)) ∧ w'.cell? ⟨Bc, 1, none⟩ = some (.slice ar us.length acap) ∧ w'.cell? ⟨b, off + m * 3, none⟩ = some (.string (V m)) ∧ w'.cell? ⟨b, off + m * 3 + 1, none⟩ = some (.string (A m)))
                        (go_keep)
                        (first | (go_at_call 10; refine (LK.out _ (by exact HST.out.map.drew)).mono ?_; rintro e w' ⟨rfl, rfl⟩))
                      have hst3 : Hid (St ((wr.alloc (.cells #[.map (some bm), .slice ar us.length acap] 32)).drew) b off jj V A L g bm Bc ab acap ar us) := (HST.out.alloc _).drew
                      have hb3 := (hbi.alloc hszl (.cells #[.map (some bm), .slice ar us.length acap] 32)).drew
                      clear d0 d1 hc0 hc1 LK
                      go_wp2
                      go_roundw
                      case rel => exact ⟨m + 1, by omega, by go_num, by rw [catN_first HU2.out]; go_num, hst3, hb3⟩
                      case measure => simp [intOf]; omega
            · obtain rfl : len = i := by omega
              have hc0 := HST.out.c0
              have hc1 := HST.out.c1
              have hszl := hbi.size
              go_wp2_with fail
              refine (count_any bm len _ _ _ _ HST.out.map).mono ?_
              rintro e w' ⟨rfl, hw'⟩
              have hst2 : Hid (St w' b off len V A L g bm Bc ab acap ar us) := by rw [hw']; exact HST.out.alloc _
              have hb2 : Below w.heap.size w w' := by rw [hw']; exact hbi.alloc hszl _
              clear hw' HST hbi hc0 hc1 hszl hlt hi
              have hc0 := hst2.out.c0
              have hc1 := hst2.out.c1
              have hszl := hb2.size
              go_wp2_with fail
              refine (arches_any _ _ _).mono ?_
              rintro e W1 ⟨rfl, hw'⟩
              have hst3 : Hid (St W1 b off len V A L g bm Bc ab acap ar us) := by rw [hw']; exact hst2.out.alloc _
              have hb3 : Below w.heap.size w W1 := by rw [hw']; exact hb2.alloc hszl _
              clear hw' hst2 hb2 hc0 hc1 hszl
              go_wp2
              go_loopw [16] (fun i wr => ∃ k : Nat, i = .int .i64 ((k : Int) + 1) ∧ k ≤ 4096 ∧ Hid (St wr b off len V A L g bm Bc ab acap ar us) ∧ Below w.heap.size w wr) (fun i _ => us.length - (intOf i).toNat)
              case atStart => exact ⟨0, rfl, by omega, hst3, hb3⟩
              case round =>
                clear hst3 hb3
                obtain ⟨k3, rfl, hk3, HST, hbi⟩ := hrel
                by_cases hlt : k3 + 1 < us.length
                · obtain rfl := HAR.out (by omega)
                  have ca := HST.out.arch k3 (by omega)
                  have cb := HST.out.arch (k3 + 1) hlt
                  have hls : Op.bytesLess (strAt us k3).toList (strAt us (k3 + 1)).toList = true := by
                    have := HUS.out
                    subst this
                    exact arch_lt hlt
                  have hi0 : (0 : Int) ≤ (k3 : Int) := Int.natCast_nonneg _
                  have hi1 : (k3 : Int) < (us.length : Int) := by omega
                  have hi2 : (k3 : Int) + 1 < (us.length : Int) := by omega
                  go_wp2_with fail
                  go_quiet (fail)
                  go_wp2
                  go_roundw
                  case rel => exact ⟨k3 + 1, by go_num, by omega, HST.out.drewN _, below_drewN hbi _⟩
                  case measure => simp [intOf]; omega
                · go_wp2
                  clear hk3 hlt
                  go_loopw [17] (fun i wr => ∃ k : Nat, i = .int .i64 k ∧ k ≤ len ∧ Hid (St wr b off len V A L g bm Bc ab acap ar us) ∧ Below w.heap.size w wr) (fun i _ => len - (intOf i).toNat)
                  case atStart => exact ⟨0, rfl, by omega, HST, hbi⟩
                  case round =>
                    clear HST hbi
                    obtain ⟨m, rfl, hm, HST, hbi⟩ := hrel
                    by_cases hml : m < len
                    · obtain rfl := HA.out (by omega)
                      obtain ⟨_, c1, _, _, _, _⟩ := HST.out.rels m hml
                      obtain ⟨j, hj, hje⟩ : ∃ j, j < us.length ∧ strAt us j = A m := by
                        have := HUS.out
                        subst this
                        exact arch_at hml
                      have H13 := hid (has_true ar ab 0 us.length acap j (strAt us) (A m) wr (by omega) HAR.out (fun i hi => by simpa using HST.out.arch i hi) hj hje)
                      clear hje
                      go_wp2_with fail
                      refine H13.out.mono ?_
                      rintro e w' ⟨rfl, hw'⟩; obtain rfl := hw'.symm; clear hw'
                      go_wp2
                      go_roundw
                      case rel => exact ⟨m + 1, by go_num, by omega, HST, hbi⟩
                      case measure => simp [intOf]; omega
                    · obtain rfl : len = m := by omega
                      go_wp2
                      clear hml hm
                      go_loopw [18] (fun i wr => ∃ k : Nat, i = .int .i64 k ∧ k ≤ us.length ∧ Hid (St wr b off len V A L g bm Bc ab acap ar us) ∧ Below w.heap.size w wr) (fun i _ => us.length - (intOf i).toNat)
                      case atStart => exact ⟨0, rfl, by omega, HST, hbi⟩
                      case round =>
                        clear HST hbi
                        obtain ⟨k, rfl, hk, HST, hbi⟩ := hrel
                        by_cases hkl : k < us.length
                        · obtain ⟨i0, hi0, hie⟩ : ∃ i0, i0 < len ∧ A i0 = strAt us k := by
                            have := HUS.out
                            subst this
                            exact arch_of hkl
                          have HIE := hid hie
                          clear hie
                          obtain rfl := HA.out (by omega)
                          obtain rfl := HAR.out (by omega)
                          go_wp2
                          go_loopw [19, 20] (fun f i wr => ∃ k : Nat, i = .int .i64 k ∧ f = .bool false ∧ k ≤ i0 ∧ Hid (St wr b off len V A L g bm Bc ab acap (some ⟨ab, 0, none⟩) us) ∧ Below w.heap.size w wr) (fun _ i _ => len - (intOf i).toNat)
                          case atStart => exact ⟨0, rfl, rfl, by omega, HST, hbi⟩
                          case round =>
                            clear HST hbi
                            obtain ⟨m, rfl, rfl, hm, HST, hbi⟩ := hrel
                            obtain ⟨_, c1, _, _, _, _⟩ := HST.out.rels m (by omega)
                            have ca := HST.out.arch k hkl
                            have hq0 : (0 : Int) ≤ (k : Int) := Int.natCast_nonneg _
                            have hq1 : (k : Int) < (us.length : Int) := by omega
                            have hq2 : (0 : Int) ≤ (m : Int) := Int.natCast_nonneg _
                            have hq3 : (m : Int) < (len : Int) := by omega
                            cases hs : ((A m).toList == (strAt us k).toList) with
                            | true =>
                              go_wp2_with fail
                              go_quiet (fail)
                              go_wp2
                              go_roundw
                              case rel => exact ⟨k + 1, by go_num, by omega, HST.out.drewN _, below_drewN hbi _⟩
                              case measure => simp [intOf]; omega
                            | false =>
                              have hne : m ≠ i0 := by
                                rintro rfl
                                rw [HIE.out] at hs
                                simp at hs
                              go_wp2_with fail
                              go_quiet (fail)
                              go_wp2
                              go_roundw
                              case rel => exact ⟨m + 1, by go_num, rfl, by omega, HST.out.drewN _, below_drewN hbi _⟩
                              case measure => simp [intOf]; omega
                        · go_wp2
                          go_ret
                          exact ⟨rfl, hbi⟩

end Go.Proofs.Qxb6628738a
