/-
  THE WALK OF FnNewCatalogConcatLaterWins.
-/
import Derived.Test.Qxb6628738aTwo
namespace Go.Proofs.Qxb6628738a
open Go.RowKit
open Sorted

/-- one catalog -/
structure Ca (w : World) (M : ByteArray × ByteArray → Option Value) (N n bm c nx cx bx : Nat) (ax : Option Addr) (S : Nat → ByteArray) : Prop where
  map : MapIs Try.prog w 52 key bm n M N
  c0 : w.cell? ⟨c, 0, none⟩ = some (.map (some bm))
  c1 : w.cell? ⟨c, 1, none⟩ = some (.slice ax nx cx)
  arch : ∀ i, i < nx → w.cell? ⟨bx, i, none⟩ = some (.string (S i))
theorem Ca.kept {w w' : World} {M : ByteArray × ByteArray → Option Value} {N n bm c nx cx bx : Nat} {ax : Option Addr} {S : Nat → ByteArray} (h : Ca w M N n bm c nx cx bx ax S) (hb : Below w.heap.size w w') : Ca w' M N n bm c nx cx bx ax S :=
  ⟨map_kept h.map hb, cell_kept hb h.c0, cell_kept hb h.c1, fun i hi => cell_kept hb (h.arch i hi)⟩
theorem below_alloc (w : World) (o : Obj) : Below w.heap.size w (w.alloc o) := (Below.refl _ _).alloc (Nat.le_refl _) o
theorem ca_made {w : World} {M : ByteArray × ByteArray → Option Value} {N n bm nx cx bx : Nat} {ax : Option Addr} {S : Nat → ByteArray} (hm : MapIs Try.prog w 52 key bm n M N) (ha : ∀ i, i < nx → w.cell? ⟨bx, i, none⟩ = some (.string (S i))) :
    Ca (w.alloc (.cells #[.map (some bm), .slice ax nx cx] 32)) M N n bm w.heap.size nx cx bx ax S :=
  ⟨map_kept hm (below_alloc _ _), by simp, by simp, fun i hi => cell_kept (below_alloc _ _) (ha i hi)⟩

/-- what the law's second half reads -/
structure Sc (w : World) (b off la : Nat) (V A L : Nat → ByteArray) (b1 off1 lb : Nat) (V' A' L' : Nat → ByteArray) (gA gB gW bA bB bW cA cB cW nx ny nz cx cy cz bx bz by' : Nat) (ax ay az : Option Addr) (SA SB SW : Nat → ByteArray) : Prop where
  relsA : Rels w b off la V A L
  relsB : Rels w b1 off1 lb V' A' L'
  ca : Ca w (catM gA V A la) (catN gA V A la) la bA cA nx cx bx ax SA
  cb : Ca w (catM gB V' A' lb) (catN gB V' A' lb) lb bB cB ny cy bz ay SB
  cw : Ca w (catM gW (cat2 V V' la) (cat2 A A' la) (la + lb)) (catN gW (cat2 V V' la) (cat2 A A' la) (la + lb)) (la + lb) bW cW nz cz by' az SW

theorem Sc.kept {w w' : World} {b off la : Nat} {V A L : Nat → ByteArray} {b1 off1 lb : Nat} {V' A' L' : Nat → ByteArray} {gA gB gW bA bB bW cA cB cW nx ny nz cx cy cz bx bz by' : Nat} {ax ay az : Option Addr} {SA SB SW : Nat → ByteArray} (h : Sc w b off la V A L b1 off1 lb V' A' L' gA gB gW bA bB bW cA cB cW nx ny nz cx cy cz bx bz by' ax ay az SA SB SW) (hb : Below w.heap.size w w') :
    Sc w' b off la V A L b1 off1 lb V' A' L' gA gB gW bA bB bW cA cB cW nx ny nz cx cy cz bx bz by' ax ay az SA SB SW := by
  have r : ∀ {b off len : Nat} {V A L : Nat → ByteArray}, Rels w b off len V A L → Rels w' b off len V A L := fun {b off len V A L} hr i hi => by
    obtain ⟨h1, h2, h3, r⟩ := hr i hi
    exact ⟨cell_kept hb h1, cell_kept hb h2, cell_kept hb h3, r⟩
  exact ⟨r h.relsA, r h.relsB, h.ca.kept hb, h.cb.kept hb, h.cw.kept hb⟩

set_option maxRecDepth 100000 in
set_option maxHeartbeats 6400000 in
theorem concat_any (a0 : Option Addr) (b off la cap : Nat) (V A L : Nat → ByteArray) (a1 : Option Addr) (b1 off1 lb cap1 : Nat) (V' A' L' : Nat → ByteArray) (w : World) (hl : la ≤ 9223372036854775807) (ha : 0 < la → a0 = some ⟨b, off, none⟩) (hb : 0 < la → b < w.heap.size) (hr : Rels w b off la V A L)
    (hl1 : lb ≤ 9223372036854775807) (ha1 : 0 < lb → a1 = some ⟨b1, off1, none⟩) (hb1 : 0 < lb → b1 < w.heap.size) (hr1 : Rels w b1 off1 lb V' A' L') :
    Calls Try.prog 4 #[.slice a0 la cap, .slice a1 lb cap1] w fun e w' => e = .returned (.bool true) ∧ Below w.heap.size w w' := by
  have HA := hid ha
  have HR := hid hr
  have HB := hid hb
  have HA1 := hid ha1
  have HR1 := hid hr1
  have HB1 := hid hb1
  have h14 := hid (bytes14_any a0 b off la cap V A L a1 b1 off1 lb cap1 V' A' L' w hl ha hr hl1 ha1 hr1)
  clear ha hr hb ha1 hr1 hb1
  go_enter Try.func4, Try.ntmps4
  go_wp2_with fail
  refine h14.out.mono ?_
  rintro e w' ⟨⟨bv, rfl, hsh⟩, hw'⟩; obtain rfl := hw'.symm; clear hw' h14
  have HSH := hid hsh
  clear hsh
  cases bv
  · go_wp2
    go_ret
    exact ⟨rfl, Below.refl _ _⟩
  by_cases hbig : 4096 < la
  · go_wp2
    go_ret
    exact ⟨rfl, Below.refl _ _⟩
  by_cases hbig1 : 4096 < lb
  · go_wp2
    all_goals (go_ret; exact ⟨rfl, Below.refl _ _⟩)
  go_wp2
  · exfalso; omega
  obtain ⟨hsh, hsh1⟩ := HSH.out (by first | trivial | rfl)
  have HS := hid hsh
  have HS1 := hid hsh1
  clear hsh hsh1 HSH
  go_loopw [5, 40] (fun t i wr => ∃ (k s : Nat), k ≤ la ∧ s ≤ 1048576 ∧ i = .int .i64 k ∧ t = .int .i64 s ∧ Below w.heap.size w wr) (fun _ i _ => la - (intOf i).toNat)
  case atStart => exact ⟨0, 0, Nat.zero_le _, by omega, rfl, rfl, Below.refl _ _⟩
  case round =>
  obtain ⟨k, s, hk, hs, rfl, rfl, hbk⟩ := hrel
  by_cases hlt : k < la
  · obtain rfl := HA.out (by omega)
    obtain ⟨c0, c1, c2, _, _, _⟩ := (HR.out.below hbk HB.out) k hlt
    obtain ⟨t0, t1, t2⟩ := HS.out k hlt
    have hi0 : (0 : Int) ≤ (k : Int) := Int.natCast_nonneg _
    have hi1 : (k : Int) < (la : Int) := by omega
    go_wp2_with fail
    go_quiet (fail)
    go_wp2
    · go_ret
      exact ⟨rfl, below_drewN hbk _⟩
    · go_roundw
      case rel => exact ⟨k + 1, s + (48 + (V k).size + (A k).size + (L k).size), by omega, by omega, by go_num, by go_num, below_drewN hbk _⟩
      case measure => simp [intOf]; omega
  go_wp2
  clear hk hlt
  go_loopw [5, 71] (fun t i wr => ∃ (k s : Nat), k ≤ lb ∧ s ≤ 1048576 ∧ i = .int .i64 k ∧ t = .int .i64 s ∧ Below w.heap.size w wr) (fun _ i _ => lb - (intOf i).toNat)
  case atStart => exact ⟨0, s, Nat.zero_le _, hs, rfl, rfl, hbk⟩
  case round =>
  clear hs hbk
  obtain ⟨k, s, hk, hs, rfl, rfl, hbk⟩ := hrel
  by_cases hlt : k < lb
  · obtain rfl := HA1.out (by omega)
    obtain ⟨c0, c1, c2, _, _, _⟩ := (HR1.out.below hbk HB1.out) k hlt
    obtain ⟨t0, t1, t2⟩ := HS1.out k hlt
    have hi0 : (0 : Int) ≤ (k : Int) := Int.natCast_nonneg _
    have hi1 : (k : Int) < (lb : Int) := by omega
    go_wp2_with fail
    go_quiet (fail)
    go_wp2
    · go_ret
      exact ⟨rfl, below_drewN hbk _⟩
    · go_roundw
      case rel => exact ⟨k + 1, s + (48 + (V' k).size + (A' k).size + (L' k).size), by omega, by omega, by go_num, by go_num, below_drewN hbk _⟩
      case measure => simp [intOf]; omega
  go_wp2
  clear hs hk hlt
  go_loopw [102] (fun i wr => ∃ (k : Nat), k ≤ la ∧ i = .int .i64 k ∧ Below w.heap.size w wr) (fun i _ => la - (intOf i).toNat)
  case atStart => exact ⟨0, Nat.zero_le _, rfl, hbk⟩
  case round =>
  clear hbk
  obtain ⟨k2, hk, rfl, hbk⟩ := hrel
  by_cases hlt : k2 < la
  · obtain rfl := HA.out (by omega)
    obtain ⟨c0, _, _, s0, _, _⟩ := (HR.out.below hbk HB.out) k2 hlt
    have S0 := hid s0
    clear s0
    go_wp2_with fail
    refine (plain6_any _ _ S0.out).mono ?_
    rintro e w' ⟨⟨bv, rfl⟩, hw'⟩; obtain rfl := hw'.symm; clear hw'
    cases bv
    · go_wp2
      go_ret
      exact ⟨rfl, hbk⟩
    · go_wp2
      go_roundw
      case rel => exact ⟨k2 + 1, by omega, by go_num, hbk⟩
      case measure => simp [intOf]; omega
  go_wp2
  clear hk hlt
  go_loopw [115] (fun i wr => ∃ (k : Nat), k ≤ lb ∧ i = .int .i64 k ∧ Below w.heap.size w wr) (fun i _ => lb - (intOf i).toNat)
  case atStart => exact ⟨0, Nat.zero_le _, rfl, hbk⟩
  case round =>
  clear hbk
  obtain ⟨k2, hk, rfl, hbk⟩ := hrel
  by_cases hlt : k2 < lb
  · obtain rfl := HA1.out (by omega)
    obtain ⟨c0, _, _, s0, _, _⟩ := (HR1.out.below hbk HB1.out) k2 hlt
    have S0 := hid s0
    clear s0
    go_wp2_with fail
    refine (plain6_any _ _ S0.out).mono ?_
    rintro e w' ⟨⟨bv, rfl⟩, hw'⟩; obtain rfl := hw'.symm; clear hw'
    cases bv
    · go_wp2
      go_ret
      exact ⟨rfl, hbk⟩
    · go_wp2
      go_roundw
      case rel => exact ⟨k2 + 1, by omega, by go_num, hbk⟩
      case measure => simp [intOf]; omega
  obtain ⟨i0, hi, hz0, hz1, hz2⟩ := info_parts Try.info43
  -- ra
  have hsr := hbk.size
  go_wp2_with (at_make; refine wpList_make_own _ rfl (.const (.int .i64 0)) (.tmp 127) 27 rfl wr.heap.size 43 i0 _ 10 Try.underlying27 hi hz0 hz1 .i64 .i64 _ la rfl rfl rfl (by rw [hz2]; omega) (by unfold maxLen; omega) (Nat.le_refl _) ?_; intro w1 hown1 hgrow1)
  clear hk hlt
  obtain ⟨hm1, hm2⟩ := made_facts hown1 hgrow1
  have hbw1 : Below w.heap.size w w1 := hbk.trans (hm1.mono hsr)
  refine (build_any wr.heap.size 0 la wr.heap.size [] a0 b off la cap V A L w1 (by omega) HA.out (HR.out.below hbw1 HB.out) (fun h => by have := HB.out h; omega) (by omega) hown1 (by omega)).mono ?_
  rintro e w2 ⟨rfl, hown2, hgrow2⟩
  rw [Nat.zero_add] at hown2 ⊢
  rw [List.nil_append] at hown2
  have hbuA := hid (built_of hown2 (fun i hi => ⟨(HR.out i hi).2.2.2.1, (HR.out i hi).2.2.2.2.1⟩))
  have hbw2 : Below w.heap.size w w2 := hbw1.grown hgrow2 (by omega) (fun j hj => by cases hj; omega)
  have hs2 : wr.heap.size < w2.heap.size := by have := hgrow2.size; omega
  clear hown1 hown2 hgrow1 hgrow2 hm1 hm2 hbw1
  obtain ⟨gA, hg⟩ : ∃ g, g = wr.heap.size := ⟨_, rfl⟩
  rw [← hg] at hbuA hs2 ⊢
  clear hg hsr hbk
  -- rb
  have hsr := hbw2.size
  go_wp2_with (at_make; refine wpList_make_own _ rfl (.const (.int .i64 0)) (.tmp 132) 27 rfl w2.heap.size 43 i0 _ 10 Try.underlying27 hi hz0 hz1 .i64 .i64 _ lb rfl rfl rfl (by rw [hz2]; omega) (by unfold maxLen; omega) (Nat.le_refl _) ?_; intro w3 hown1 hgrow1)
  obtain ⟨hm1, hm2⟩ := made_facts hown1 hgrow1
  have hbw3 : Below w.heap.size w w3 := hbw2.trans (hm1.mono hsr)
  refine (build_any w2.heap.size 0 lb w2.heap.size [] a1 b1 off1 lb cap1 V' A' L' w3 (by omega) HA1.out (HR1.out.below hbw3 HB1.out) (fun h => by have := HB1.out h; omega) (by omega) hown1 (by omega)).mono ?_
  rintro e w4 ⟨rfl, hown2, hgrow2⟩
  rw [Nat.zero_add] at hown2 ⊢
  rw [List.nil_append] at hown2
  have hbuB := hid (built_of hown2 (fun i hi => ⟨(HR1.out i hi).2.2.2.1, (HR1.out i hi).2.2.2.2.1⟩))
  have hbw4 : Below w.heap.size w w4 := hbw3.grown hgrow2 (by omega) (fun j hj => by cases hj; omega)
  have hb24 : Below w2.heap.size w2 w4 := hm1.grown hgrow2 (by omega) (fun j hj => by cases hj; omega)
  have hs4 : w2.heap.size < w4.heap.size := by have := hgrow2.size; omega
  have hbuA4 := hid (hbuA.out.kept hb24)
  obtain ⟨gB, hg⟩ : ∃ g, g = w2.heap.size := ⟨_, rfl⟩
  rw [← hg] at hbuB hs4 ⊢
  have hgA4 : gA < w4.heap.size := by omega
  clear hown1 hown2 hgrow1 hgrow2 hm1 hm2 hbw3 hbuA hg hsr hbw2 hs2 hb24
  -- rw
  have hsr := hbw4.size
  go_wp2_with (at_make; refine wpList_make_own _ rfl (.const (.int .i64 0)) (.tmp 140) 27 rfl w4.heap.size 43 i0 _ 10 Try.underlying27 hi hz0 hz1 .i64 .i64 _ (la + lb) rfl rfl rfl (by rw [hz2]; omega) (by unfold maxLen; omega) (Nat.le_refl _) ?_; intro w5 hown1 hgrow1)
  obtain ⟨hm1, hm2⟩ := made_facts hown1 hgrow1
  have hbw5 : Below w.heap.size w w5 := hbw4.trans (hm1.mono hsr)
  refine (build_any w4.heap.size 0 (la + lb) w4.heap.size [] a0 b off la cap V A L w5 (by omega) HA.out (HR.out.below hbw5 HB.out) (fun h => by have := HB.out h; omega) (by omega) hown1 (by omega)).mono ?_
  rintro e w6 ⟨rfl, hown2, hgrow2⟩
  rw [Nat.zero_add] at hown2 ⊢
  rw [List.nil_append] at hown2
  have hbw6 : Below w.heap.size w w6 := hbw5.grown hgrow2 (by omega) (fun j hj => by cases hj; omega)
  have hb46 : Below w4.heap.size w4 w6 := hm1.grown hgrow2 (by omega) (fun j hj => by cases hj; omega)
  have hs6 : w4.heap.size < w6.heap.size := by have := hgrow2.size; omega
  clear hown1 hgrow1 hgrow2 hm1 hm2 hbw5
  have HO2 := hid hown2
  clear hown2
  go_wp2_with fail
  refine (build_any w4.heap.size la (la + lb) w4.heap.size (relCells V A L la) a1 b1 off1 lb cap1 V' A' L' w6 (by omega) HA1.out (HR1.out.below hbw6 HB1.out) (fun h => by have := HB1.out h; omega) (by omega) HO2.out (by omega)).mono ?_
  rintro e w7 ⟨rfl, hown2, hgrow2⟩
  rw [← relCells_cat] at hown2
  have hbuW := hid (built_of hown2 (fun i hi => by
    by_cases h : i < la
    · rw [cat2_lt h, cat2_lt h]; exact ⟨(HR.out i h).2.2.2.1, (HR.out i h).2.2.2.2.1⟩
    · rw [cat2_ge h, cat2_ge h]; exact ⟨(HR1.out (i - la) (by omega)).2.2.2.1, (HR1.out (i - la) (by omega)).2.2.2.2.1⟩))
  have hbw7 : Below w.heap.size w w7 := hbw6.grown hgrow2 (by omega) (fun j hj => by cases hj; omega)
  have hb47 : Below w4.heap.size w4 w7 := hb46.grown hgrow2 (by omega) (fun j hj => by cases hj; omega)
  have hs7 : w4.heap.size < w7.heap.size := by have := hgrow2.size; omega
  have hbuA7 := hid (hbuA4.out.kept hb47)
  have hbuB7 := hid (hbuB.out.kept hb47)
  obtain ⟨gW, hg⟩ : ∃ g, g = w4.heap.size := ⟨_, rfl⟩
  rw [← hg] at hbuW hs7 ⊢
  have hgA7 : gA < w7.heap.size := by omega
  have hgB7 : gB < w7.heap.size := by omega
  clear hown2 hgrow2 HO2 hbw6 hb46 hb47 hs6 hbuA4 hbuB hg hsr hbw4 hs4 hgA4 hi hz0 hz1 hz2
  -- the catalogs
  have hbuA := hbuA7
  have hbuB := hbuB7
  have hltA := hgA7
  have hltB := hgB7
  have hltW := hs7
  have hbwc := hbw7
  clear hbuA7 hbuB7 hgA7 hgB7 hs7 hbw7
  go_wp2_with fail
  refine (catalog_loop gA (la) (la) V A w7 (by omega) hltA hbuA.out).mono ?_
  rintro e w8 ⟨bA, sl, rfl, hM, hAr, hbio⟩
  obtain ⟨ax, bx, cx, rfl, hax, hac⟩ := hAr.cells
  have hulA := uniq_length_le (A := A) (la)
  obtain ⟨SA, hS⟩ : ∃ S, S = strAt (uniq (archs A (la))) := ⟨_, rfl⟩
  rw [← hS] at hac
  obtain ⟨nx, hnx⟩ : ∃ n, n = (uniq (archs A (la))).length := ⟨_, rfl⟩
  rw [← hnx] at hax hac hulA ⊢
  have HNA := hid hnx
  have HSA' := hid hS
  have HXA := hid hax
  have hkeep : Below w7.heap.size w7 (w8.alloc (Obj.cells #[Value.map (some bA), Value.slice ax nx cx] 32)) := hbio.alloc hbio.size _
  have hcaA := hid (ca_made (ax := ax) (cx := cx) hM hac)
  replace hbuB := hid (hbuB.out.kept hkeep)
  replace hbuW := hid (hbuW.out.kept hkeep)
  have hbwA : Below w.heap.size w (w8.alloc (Obj.cells #[Value.map (some bA), Value.slice ax nx cx] 32)) := hbwc.trans (hkeep.mono hbwc.size)
  have hszA : w7.heap.size ≤ (w8.alloc (Obj.cells #[Value.map (some bA), Value.slice ax nx cx] 32)).heap.size := hkeep.size
  obtain ⟨cA, hcA⟩ : ∃ c, c = w8.heap.size := ⟨_, rfl⟩
  rw [← hcA] at hcaA
  obtain ⟨w9, hwA⟩ : ∃ u, u = w8.alloc (Obj.cells #[Value.map (some bA), Value.slice ax nx cx] 32) := ⟨_, rfl⟩
  rw [← hwA] at hcaA hbwA hszA hbuB hbuW
  clear hAr hnx hax hM hac hbio hkeep hbwc hbuA hS hltA
  have hbwc := hbwA
  replace hltB := Nat.lt_of_lt_of_le hltB hszA
  replace hltW := Nat.lt_of_lt_of_le hltW hszA
  clear hbwA hszA
  go_wp2_with fail
  rw [← hwA, ← hcA]
  clear hwA hcA
  refine (catalog_loop gB (lb) (lb) V' A' w9 (by omega) hltB hbuB.out).mono ?_
  rintro e w10 ⟨bB, sl, rfl, hM, hAr, hbio⟩
  obtain ⟨ay, bz, cy, rfl, hax, hac⟩ := hAr.cells
  have hulB := uniq_length_le (A := A') (lb)
  obtain ⟨SB, hS⟩ : ∃ S, S = strAt (uniq (archs A' (lb))) := ⟨_, rfl⟩
  rw [← hS] at hac
  obtain ⟨ny, hnx⟩ : ∃ n, n = (uniq (archs A' (lb))).length := ⟨_, rfl⟩
  rw [← hnx] at hax hac hulB ⊢
  have HNB := hid hnx
  have HSB' := hid hS
  have HXB := hid hax
  have hkeep : Below w9.heap.size w9 (w10.alloc (Obj.cells #[Value.map (some bB), Value.slice ay ny cy] 32)) := hbio.alloc hbio.size _
  have hcaB := hid (ca_made (ax := ay) (cx := cy) hM hac)
  replace hbuW := hid (hbuW.out.kept hkeep)
  replace hcaA := hid (hcaA.out.kept hkeep)
  have hbwB : Below w.heap.size w (w10.alloc (Obj.cells #[Value.map (some bB), Value.slice ay ny cy] 32)) := hbwc.trans (hkeep.mono hbwc.size)
  have hszB : w9.heap.size ≤ (w10.alloc (Obj.cells #[Value.map (some bB), Value.slice ay ny cy] 32)).heap.size := hkeep.size
  obtain ⟨cB, hcB⟩ : ∃ c, c = w10.heap.size := ⟨_, rfl⟩
  rw [← hcB] at hcaB
  obtain ⟨w11, hwB⟩ : ∃ u, u = w10.alloc (Obj.cells #[Value.map (some bB), Value.slice ay ny cy] 32) := ⟨_, rfl⟩
  rw [← hwB] at hcaB hbwB hszB hbuW hcaA
  clear hAr hnx hax hM hac hbio hkeep hbwc hbuB hS hltB
  have hbwc := hbwB
  replace hltW := Nat.lt_of_lt_of_le hltW hszB
  clear hbwB hszB
  go_wp2_with fail
  rw [← hwB, ← hcB]
  clear hwB hcB
  refine (catalog_loop gW (la + lb) (la + lb) (cat2 V V' la) (cat2 A A' la) w11 (by omega) hltW hbuW.out).mono ?_
  rintro e w12 ⟨bW, sl, rfl, hM, hAr, hbio⟩
  obtain ⟨az, by', cz, rfl, hax, hac⟩ := hAr.cells
  have hulW := uniq_length_le (A := (cat2 A A' la)) (la + lb)
  obtain ⟨SW, hS⟩ : ∃ S, S = strAt (uniq (archs (cat2 A A' la) (la + lb))) := ⟨_, rfl⟩
  rw [← hS] at hac
  obtain ⟨nz, hnx⟩ : ∃ n, n = (uniq (archs (cat2 A A' la) (la + lb))).length := ⟨_, rfl⟩
  rw [← hnx] at hax hac hulW ⊢
  have HNW := hid hnx
  have HSW' := hid hS
  have HXW := hid hax
  have hkeep : Below w11.heap.size w11 (w12.alloc (Obj.cells #[Value.map (some bW), Value.slice az nz cz] 32)) := hbio.alloc hbio.size _
  have hcaW := hid (ca_made (ax := az) (cx := cz) hM hac)
  replace hcaA := hid (hcaA.out.kept hkeep)
  replace hcaB := hid (hcaB.out.kept hkeep)
  have hbwW : Below w.heap.size w (w12.alloc (Obj.cells #[Value.map (some bW), Value.slice az nz cz] 32)) := hbwc.trans (hkeep.mono hbwc.size)
  have hszW : w11.heap.size ≤ (w12.alloc (Obj.cells #[Value.map (some bW), Value.slice az nz cz] 32)).heap.size := hkeep.size
  obtain ⟨cW, hcW⟩ : ∃ c, c = w12.heap.size := ⟨_, rfl⟩
  rw [← hcW] at hcaW
  obtain ⟨w13, hwW⟩ : ∃ u, u = w12.alloc (Obj.cells #[Value.map (some bW), Value.slice az nz cz] 32) := ⟨_, rfl⟩
  rw [← hwW] at hcaW hbwW hszW hcaA hcaB
  clear hAr hnx hax hM hac hbio hkeep hbwc hbuW hS hltW
  have hbwc := hbwW
  clear hbwW hszW
  have d0 := hcaW.out.c0
  have d1 := hcaW.out.c1
  rw [hwW, hcW] at d0 d1
  go_wp2_with fail
  rw [← hwW, ← hcW]
  clear hwW hcW
  refine (arches_any _ _ _).mono ?_
  rintro e W1 ⟨rfl, hw'⟩
  have hSc : Hid (Sc W1 b off la V A L b1 off1 lb V' A' L' gA gB gW bA bB bW cA cB cW nx ny nz cx cy cz bx bz by' ax ay az SA SB SW) := by
    have h13 : Sc w13 b off la V A L b1 off1 lb V' A' L' gA gB gW bA bB bW cA cB cW nx ny nz cx cy cz bx bz by' ax ay az SA SB SW := ⟨HR.out.below hbwc HB.out, HR1.out.below hbwc HB1.out, hcaA.out, hcaB.out, hcaW.out⟩
    rw [hw']; exact h13.kept (below_alloc _ _)
  have hbW1 : Below w.heap.size w W1 := by rw [hw']; exact hbwc.alloc hbwc.size _
  clear hw' hcaA hcaB hcaW hbwc d0 d1
  go_wp2
  go_loopw [17] (fun i wr => ∃ t : Nat, t ≤ la + lb ∧ i = .int .i64 t ∧ Hid (Sc wr b off la V A L b1 off1 lb V' A' L' gA gB gW bA bB bW cA cB cW nx ny nz cx cy cz bx bz by' ax ay az SA SB SW) ∧ Below w.heap.size w wr) (fun i _ => (la + lb) - (intOf i).toNat)
  case atStart => exact ⟨0, Nat.zero_le _, rfl, hSc, hbW1⟩
  case round =>
  clear hSc hbW1
  obtain ⟨t, ht, rfl, HSC, hbi⟩ := hrel
  by_cases htl : t < la + lb
  · by_cases hta : t < la
    · obtain rfl := HA.out (by omega)
      obtain ⟨c0, c1, c2, sV, sA, _⟩ := HSC.out.relsA t hta
      replace c0 := cell_kept (below_alloc wr (.cells #[.string ⟨#[]⟩, .string ⟨#[]⟩, .string ⟨#[]⟩] 25)) c0
      replace c1 := cell_kept (below_alloc wr (.cells #[.string ⟨#[]⟩, .string ⟨#[]⟩, .string ⟨#[]⟩] 25)) c1
      replace c2 := cell_kept (below_alloc wr (.cells #[.string ⟨#[]⟩, .string ⟨#[]⟩, .string ⟨#[]⟩] 25)) c2
      have SV := hid sV
      have SA0 := hid sA
      clear sV sA
      have hi0 : (0 : Int) ≤ (t : Int) := Int.natCast_nonneg _
      have hi1 : (t : Int) < (la : Int) := by omega
      obtain ⟨j, hj, hje⟩ : ∃ j, j < nz ∧ SW j = A t := by
        obtain ⟨j, h1, h2⟩ := arch_at (A := cat2 A A' la) htl
        exact ⟨j, by rw [HNW.out]; exact h1, by rw [HSW'.out, h2]; exact cat2_lt hta⟩
      have hk0 := below_alloc wr (Obj.cells #[Value.string (V t), Value.string (A t), Value.string (L t)] 25)
      have HSC2 : Hid (Sc (wr.alloc (Obj.cells #[Value.string (V t), Value.string (A t), Value.string (L t)] 25)) b off la V A L b1 off1 lb V' A' L' gA gB gW bA bB bW cA cB cW nx ny nz cx cy cz bx bz by' ax ay az SA SB SW) := HSC.out.kept hk0
      have hb2 : Below w.heap.size w (wr.alloc (Obj.cells #[Value.string (V t), Value.string (A t), Value.string (L t)] 25)) := hbi.alloc hbi.size _
      have H13 := hid (has_true az by' 0 nz cz j SW (A t) (wr.alloc (Obj.cells #[Value.string (V t), Value.string (A t), Value.string (L t)] 25)) (by omega) HXW.out (fun i hi => by simpa using HSC2.out.cw.arch i hi) hj hje)
      have k0 : (wr.alloc (Obj.cells #[Value.string (V t), Value.string (A t), Value.string (L t)] 25)).cell? ⟨wr.heap.size, 0, none⟩ = some (.string (V t)) := by simp
      have k1 : (wr.alloc (Obj.cells #[Value.string (V t), Value.string (A t), Value.string (L t)] 25)).cell? ⟨wr.heap.size, 1, none⟩ = some (.string (A t)) := by simp
      clear hk0 hje
      go_wp2_with fail
      refine H13.out.mono ?_
      rintro e w' ⟨rfl, hw'⟩; obtain rfl := hw'.symm; clear hw' H13 c0 c1 c2
      obtain ⟨Kb, hKb⟩ : ∃ c, c = wr.heap.size := ⟨_, rfl⟩
      obtain ⟨W2, hW2⟩ : ∃ W2 : World, W2 = wr.alloc (Obj.cells #[Value.string (V t), Value.string (A t), Value.string (L t)] 25) := ⟨_, rfl⟩
      rw [← hW2] at HSC2 hb2 k0 k1 ⊢
      rw [← hKb] at k0 k1 ⊢
      clear hW2 hKb HSC hbi
      have b0 := HSC2.out.cb.c0
      have b1' := HSC2.out.cb.c1
      go_wp2_with fail
      refine (lookup_any bB lb _ _ (.slice ay ny cy) (V t) (A t) W2 HSC2.out.cb.map SV.out SA0.out).mono ?_
      rintro e W3 ⟨rfl, hw'⟩
      have HSC3 : Hid (Sc W3 b off la V A L b1 off1 lb V' A' L' gA gB gW bA bB bW cA cB cW nx ny nz cx cy cz bx bz by' ax ay az SA SB SW) := by rw [hw']; exact HSC2.out.kept (below_alloc _ _)
      have hb3 : Below w.heap.size w W3 := by rw [hw']; exact hb2.alloc hb2.size _
      replace k0 : W3.cell? ⟨Kb, 0, none⟩ = some (.string (V t)) := by rw [hw']; exact cell_kept (below_alloc _ _) k0
      replace k1 : W3.cell? ⟨Kb, 1, none⟩ = some (.string (A t)) := by rw [hw']; exact cell_kept (below_alloc _ _) k1
      clear hw' HSC2 hb2 b0 b1'
      have hlat := later (gA := gA) (gB := gB) (gW := gW) (V := V) (A := A) (V' := V') (A' := A') htl
      rw [cat2_lt hta, cat2_lt hta] at hlat
      rcases hlat with ⟨l, hl0, hB0, hW0⟩ | ⟨hB0, l, hl0, hA0, hW0⟩
      · rw [hB0, Option.getD_some]
        have HW0 := hid hW0
        clear hB0 hW0
        go_wp2_with fail
        have w0' := HSC3.out.cw.c0
        have w1' := HSC3.out.cw.c1
        go_loop [19, 21] (fun f i => ∃ m : Nat, m ≤ l ∧ i = .int .i64 m ∧ f = .pointer none) (fun _ i => lb - (intOf i).toNat)
        case atStart => exact ⟨0, Nat.zero_le _, rfl, rfl⟩
        case round =>
          obtain ⟨m, hm, rfl, rfl⟩ := hrel
          have hq0 : (0 : Int) ≤ (m : Int) := Int.natCast_nonneg _
          have hq1 : (m : Int) < (lb : Int) := by omega
          have hq2 : (0 : Int) ≤ (la : Int) + (m : Int) := by omega
          have hq3 : (la : Int) + (m : Int) < (la : Int) + (lb : Int) := by omega
          by_cases hml : m = l
          · subst hml
            have hq : ∀ ww, (binOp .eql 35 (.pointer (some ⟨gB, m * 10, none⟩)) (.pointer (some ⟨gB, m * 10, none⟩))).run Try.prog ww = .ok (.bool true) ww := fun ww => by rw [eql35]; simp
            have hpn : ∀ ww, (binOp .neq 35 (.pointer (some ⟨gW, (la + m) * 10, none⟩)) (.pointer (some ⟨gW, (la + m) * 10, none⟩))).run Try.prog ww = .ok (.bool false) ww := fun ww => by rw [neq35]; simp
            go_wp2_with fail
            refine (lookup_hit bW (la + lb) _ _ (.slice az nz cz) (V t) (A t) W3 HSC3.out.cw.map SV.out SA0.out HW0.out).mono ?_
            rintro e W9 ⟨rfl, hw'⟩
            have HSC9 : Hid (Sc W9 b off la V A L b1 off1 lb V' A' L' gA gB gW bA bB bW cA cB cW nx ny nz cx cy cz bx bz by' ax ay az SA SB SW) := by rw [hw']; exact HSC3.out.kept (below_alloc _ _)
            have hb9 : Below w.heap.size w W9 := by rw [hw']; exact hb3.alloc hb3.size _
            clear hw' HSC3 hb3 k0 k1 w0' w1' hq
            go_wp2
            go_roundw
            case rel => exact ⟨t + 1, by omega, by go_num, HSC9, hb9⟩
            case measure => simp [intOf]; omega
          · have hq : ∀ ww, (binOp .eql 35 (.pointer (some ⟨gB, m * 10, none⟩)) (.pointer (some ⟨gB, l * 10, none⟩))).run Try.prog ww = .ok (.bool false) ww := fun ww => by rw [eql35]; simp; omega
            go_wp2
            go_round
            case rel => exact ⟨m + 1, by omega, by go_num, rfl⟩
            case measure => simp [intOf]; omega
      · rw [hB0, Option.getD_none]
        have HW0 := hid hW0
        have HA0 := hid hA0
        clear hB0 hW0 hA0
        have a0' := HSC3.out.ca.c0
        have a1' := HSC3.out.ca.c1
        go_wp2_with fail
        refine (lookup_hit bA la _ _ (.slice ax nx cx) (V t) (A t) W3 HSC3.out.ca.map SV.out SA0.out HA0.out).mono ?_
        rintro e W4 ⟨rfl, hw'⟩
        have HSC4 : Hid (Sc W4 b off la V A L b1 off1 lb V' A' L' gA gB gW bA bB bW cA cB cW nx ny nz cx cy cz bx bz by' ax ay az SA SB SW) := by rw [hw']; exact HSC3.out.kept (below_alloc _ _)
        have hb4 : Below w.heap.size w W4 := by rw [hw']; exact hb3.alloc hb3.size _
        replace k0 : W4.cell? ⟨Kb, 0, none⟩ = some (.string (V t)) := by rw [hw']; exact cell_kept (below_alloc _ _) k0
        replace k1 : W4.cell? ⟨Kb, 1, none⟩ = some (.string (A t)) := by rw [hw']; exact cell_kept (below_alloc _ _) k1
        clear hw' HSC3 hb3 a0' a1'
        go_wp2_with fail
        have w0' := HSC4.out.cw.c0
        have w1' := HSC4.out.cw.c1
        go_loop [19, 23] (fun f i => ∃ m : Nat, m ≤ l ∧ i = .int .i64 m ∧ f = .pointer none) (fun _ i => la - (intOf i).toNat)
        case atStart => exact ⟨0, Nat.zero_le _, rfl, rfl⟩
        case round =>
          obtain ⟨m, hm, rfl, rfl⟩ := hrel
          have hq0 : (0 : Int) ≤ (m : Int) := Int.natCast_nonneg _
          have hq1 : (m : Int) < (la : Int) := by omega
          have hq3 : (m : Int) < (la : Int) + (lb : Int) := by omega
          by_cases hml : m = l
          · subst hml
            have hq : ∀ ww, (binOp .eql 35 (.pointer (some ⟨gA, m * 10, none⟩)) (.pointer (some ⟨gA, m * 10, none⟩))).run Try.prog ww = .ok (.bool true) ww := fun ww => by rw [eql35]; simp
            have hpn : ∀ ww, (binOp .neq 35 (.pointer (some ⟨gW, m * 10, none⟩)) (.pointer (some ⟨gW, m * 10, none⟩))).run Try.prog ww = .ok (.bool false) ww := fun ww => by rw [neq35]; simp
            go_wp2_with fail
            refine (lookup_hit bW (la + lb) _ _ (.slice az nz cz) (V t) (A t) W4 HSC4.out.cw.map SV.out SA0.out HW0.out).mono ?_
            rintro e W9 ⟨rfl, hw'⟩
            have HSC9 : Hid (Sc W9 b off la V A L b1 off1 lb V' A' L' gA gB gW bA bB bW cA cB cW nx ny nz cx cy cz bx bz by' ax ay az SA SB SW) := by rw [hw']; exact HSC4.out.kept (below_alloc _ _)
            have hb9 : Below w.heap.size w W9 := by rw [hw']; exact hb4.alloc hb4.size _
            clear hw' HSC4 hb4 k0 k1 w0' w1' hq
            go_wp2
            go_roundw
            case rel => exact ⟨t + 1, by omega, by go_num, HSC9, hb9⟩
            case measure => simp [intOf]; omega
          · have hq : ∀ ww, (binOp .eql 35 (.pointer (some ⟨gA, m * 10, none⟩)) (.pointer (some ⟨gA, l * 10, none⟩))).run Try.prog ww = .ok (.bool false) ww := fun ww => by rw [eql35]; simp; omega
            go_wp2
            go_round
            case rel => exact ⟨m + 1, by omega, by go_num, rfl⟩
            case measure => simp [intOf]; omega
    · obtain ⟨u, rfl⟩ : ∃ u, t = la + u := ⟨t - la, by omega⟩
      obtain rfl := HA1.out (by omega)
      obtain ⟨c0, c1, c2, sV, sA, _⟩ := HSC.out.relsB u (by omega)
      replace c0 := cell_kept (below_alloc wr (.cells #[.string ⟨#[]⟩, .string ⟨#[]⟩, .string ⟨#[]⟩] 25)) c0
      replace c1 := cell_kept (below_alloc wr (.cells #[.string ⟨#[]⟩, .string ⟨#[]⟩, .string ⟨#[]⟩] 25)) c1
      replace c2 := cell_kept (below_alloc wr (.cells #[.string ⟨#[]⟩, .string ⟨#[]⟩, .string ⟨#[]⟩] 25)) c2
      have SV := hid sV
      have SA0 := hid sA
      clear sV sA
      have hi0 : (0 : Int) ≤ (u : Int) := Int.natCast_nonneg _
      have hi1 : (u : Int) < (lb : Int) := by omega
      have hi2 : (la : Int) + (u : Int) - (la : Int) = (u : Int) := by omega
      obtain ⟨j, hj, hje⟩ : ∃ j, j < nz ∧ SW j = A' u := by
        obtain ⟨j, h1, h2⟩ := arch_at (A := cat2 A A' la) htl
        exact ⟨j, by rw [HNW.out]; exact h1, by rw [HSW'.out, h2]; exact cat2_add⟩
      have hk0 := below_alloc wr (Obj.cells #[Value.string (V' u), Value.string (A' u), Value.string (L' u)] 25)
      have HSC2 : Hid (Sc (wr.alloc (Obj.cells #[Value.string (V' u), Value.string (A' u), Value.string (L' u)] 25)) b off la V A L b1 off1 lb V' A' L' gA gB gW bA bB bW cA cB cW nx ny nz cx cy cz bx bz by' ax ay az SA SB SW) := HSC.out.kept hk0
      have hb2 : Below w.heap.size w (wr.alloc (Obj.cells #[Value.string (V' u), Value.string (A' u), Value.string (L' u)] 25)) := hbi.alloc hbi.size _
      have H13 := hid (has_true az by' 0 nz cz j SW (A' u) (wr.alloc (Obj.cells #[Value.string (V' u), Value.string (A' u), Value.string (L' u)] 25)) (by omega) HXW.out (fun i hi => by simpa using HSC2.out.cw.arch i hi) hj hje)
      have k0 : (wr.alloc (Obj.cells #[Value.string (V' u), Value.string (A' u), Value.string (L' u)] 25)).cell? ⟨wr.heap.size, 0, none⟩ = some (.string (V' u)) := by simp
      have k1 : (wr.alloc (Obj.cells #[Value.string (V' u), Value.string (A' u), Value.string (L' u)] 25)).cell? ⟨wr.heap.size, 1, none⟩ = some (.string (A' u)) := by simp
      clear hk0 hje
      go_wp2_with fail
      refine H13.out.mono ?_
      rintro e w' ⟨rfl, hw'⟩; obtain rfl := hw'.symm; clear hw' H13 c0 c1 c2
      obtain ⟨Kb, hKb⟩ : ∃ c, c = wr.heap.size := ⟨_, rfl⟩
      obtain ⟨W2, hW2⟩ : ∃ W2 : World, W2 = wr.alloc (Obj.cells #[Value.string (V' u), Value.string (A' u), Value.string (L' u)] 25) := ⟨_, rfl⟩
      rw [← hW2] at HSC2 hb2 k0 k1 ⊢
      rw [← hKb] at k0 k1 ⊢
      clear hW2 hKb HSC hbi
      have b0 := HSC2.out.cb.c0
      have b1' := HSC2.out.cb.c1
      go_wp2_with fail
      refine (lookup_any bB lb _ _ (.slice ay ny cy) (V' u) (A' u) W2 HSC2.out.cb.map SV.out SA0.out).mono ?_
      rintro e W3 ⟨rfl, hw'⟩
      have HSC3 : Hid (Sc W3 b off la V A L b1 off1 lb V' A' L' gA gB gW bA bB bW cA cB cW nx ny nz cx cy cz bx bz by' ax ay az SA SB SW) := by rw [hw']; exact HSC2.out.kept (below_alloc _ _)
      have hb3 : Below w.heap.size w W3 := by rw [hw']; exact hb2.alloc hb2.size _
      replace k0 : W3.cell? ⟨Kb, 0, none⟩ = some (.string (V' u)) := by rw [hw']; exact cell_kept (below_alloc _ _) k0
      replace k1 : W3.cell? ⟨Kb, 1, none⟩ = some (.string (A' u)) := by rw [hw']; exact cell_kept (below_alloc _ _) k1
      clear hw' HSC2 hb2 b0 b1'
      have hlat := later (gA := gA) (gB := gB) (gW := gW) (V := V) (A := A) (V' := V') (A' := A') htl
      rw [cat2_add, cat2_add] at hlat
      rcases hlat with ⟨l, hl0, hB0, hW0⟩ | ⟨hB0, l, hl0, hA0, hW0⟩
      · rw [hB0, Option.getD_some]
        have HW0 := hid hW0
        clear hB0 hW0
        go_wp2_with fail
        have w0' := HSC3.out.cw.c0
        have w1' := HSC3.out.cw.c1
        go_loop [19, 21] (fun f i => ∃ m : Nat, m ≤ l ∧ i = .int .i64 m ∧ f = .pointer none) (fun _ i => lb - (intOf i).toNat)
        case atStart => exact ⟨0, Nat.zero_le _, rfl, rfl⟩
        case round =>
          obtain ⟨m, hm, rfl, rfl⟩ := hrel
          have hq0 : (0 : Int) ≤ (m : Int) := Int.natCast_nonneg _
          have hq1 : (m : Int) < (lb : Int) := by omega
          have hq2 : (0 : Int) ≤ (la : Int) + (m : Int) := by omega
          have hq3 : (la : Int) + (m : Int) < (la : Int) + (lb : Int) := by omega
          by_cases hml : m = l
          · subst hml
            have hq : ∀ ww, (binOp .eql 35 (.pointer (some ⟨gB, m * 10, none⟩)) (.pointer (some ⟨gB, m * 10, none⟩))).run Try.prog ww = .ok (.bool true) ww := fun ww => by rw [eql35]; simp
            have hpn : ∀ ww, (binOp .neq 35 (.pointer (some ⟨gW, (la + m) * 10, none⟩)) (.pointer (some ⟨gW, (la + m) * 10, none⟩))).run Try.prog ww = .ok (.bool false) ww := fun ww => by rw [neq35]; simp
            go_wp2_with fail
            refine (lookup_hit bW (la + lb) _ _ (.slice az nz cz) (V' u) (A' u) W3 HSC3.out.cw.map SV.out SA0.out HW0.out).mono ?_
            rintro e W9 ⟨rfl, hw'⟩
            have HSC9 : Hid (Sc W9 b off la V A L b1 off1 lb V' A' L' gA gB gW bA bB bW cA cB cW nx ny nz cx cy cz bx bz by' ax ay az SA SB SW) := by rw [hw']; exact HSC3.out.kept (below_alloc _ _)
            have hb9 : Below w.heap.size w W9 := by rw [hw']; exact hb3.alloc hb3.size _
            clear hw' HSC3 hb3 k0 k1 w0' w1' hq
            go_wp2
            go_roundw
            case rel => exact ⟨(la + u) + 1, by omega, by go_num, HSC9, hb9⟩
            case measure => simp [intOf]; omega
          · have hq : ∀ ww, (binOp .eql 35 (.pointer (some ⟨gB, m * 10, none⟩)) (.pointer (some ⟨gB, l * 10, none⟩))).run Try.prog ww = .ok (.bool false) ww := fun ww => by rw [eql35]; simp; omega
            go_wp2
            go_round
            case rel => exact ⟨m + 1, by omega, by go_num, rfl⟩
            case measure => simp [intOf]; omega
      · rw [hB0, Option.getD_none]
        have HW0 := hid hW0
        have HA0 := hid hA0
        clear hB0 hW0 hA0
        have a0' := HSC3.out.ca.c0
        have a1' := HSC3.out.ca.c1
        go_wp2_with fail
        refine (lookup_hit bA la _ _ (.slice ax nx cx) (V' u) (A' u) W3 HSC3.out.ca.map SV.out SA0.out HA0.out).mono ?_
        rintro e W4 ⟨rfl, hw'⟩
        have HSC4 : Hid (Sc W4 b off la V A L b1 off1 lb V' A' L' gA gB gW bA bB bW cA cB cW nx ny nz cx cy cz bx bz by' ax ay az SA SB SW) := by rw [hw']; exact HSC3.out.kept (below_alloc _ _)
        have hb4 : Below w.heap.size w W4 := by rw [hw']; exact hb3.alloc hb3.size _
        replace k0 : W4.cell? ⟨Kb, 0, none⟩ = some (.string (V' u)) := by rw [hw']; exact cell_kept (below_alloc _ _) k0
        replace k1 : W4.cell? ⟨Kb, 1, none⟩ = some (.string (A' u)) := by rw [hw']; exact cell_kept (below_alloc _ _) k1
        clear hw' HSC3 hb3 a0' a1'
        go_wp2_with fail
        have w0' := HSC4.out.cw.c0
        have w1' := HSC4.out.cw.c1
        go_loop [19, 23] (fun f i => ∃ m : Nat, m ≤ l ∧ i = .int .i64 m ∧ f = .pointer none) (fun _ i => la - (intOf i).toNat)
        case atStart => exact ⟨0, Nat.zero_le _, rfl, rfl⟩
        case round =>
          obtain ⟨m, hm, rfl, rfl⟩ := hrel
          have hq0 : (0 : Int) ≤ (m : Int) := Int.natCast_nonneg _
          have hq1 : (m : Int) < (la : Int) := by omega
          have hq3 : (m : Int) < (la : Int) + (lb : Int) := by omega
          by_cases hml : m = l
          · subst hml
            have hq : ∀ ww, (binOp .eql 35 (.pointer (some ⟨gA, m * 10, none⟩)) (.pointer (some ⟨gA, m * 10, none⟩))).run Try.prog ww = .ok (.bool true) ww := fun ww => by rw [eql35]; simp
            have hpn : ∀ ww, (binOp .neq 35 (.pointer (some ⟨gW, m * 10, none⟩)) (.pointer (some ⟨gW, m * 10, none⟩))).run Try.prog ww = .ok (.bool false) ww := fun ww => by rw [neq35]; simp
            go_wp2_with fail
            refine (lookup_hit bW (la + lb) _ _ (.slice az nz cz) (V' u) (A' u) W4 HSC4.out.cw.map SV.out SA0.out HW0.out).mono ?_
            rintro e W9 ⟨rfl, hw'⟩
            have HSC9 : Hid (Sc W9 b off la V A L b1 off1 lb V' A' L' gA gB gW bA bB bW cA cB cW nx ny nz cx cy cz bx bz by' ax ay az SA SB SW) := by rw [hw']; exact HSC4.out.kept (below_alloc _ _)
            have hb9 : Below w.heap.size w W9 := by rw [hw']; exact hb4.alloc hb4.size _
            clear hw' HSC4 hb4 k0 k1 w0' w1' hq
            go_wp2
            go_roundw
            case rel => exact ⟨(la + u) + 1, by omega, by go_num, HSC9, hb9⟩
            case measure => simp [intOf]; omega
          · have hq : ∀ ww, (binOp .eql 35 (.pointer (some ⟨gA, m * 10, none⟩)) (.pointer (some ⟨gA, l * 10, none⟩))).run Try.prog ww = .ok (.bool false) ww := fun ww => by rw [eql35]; simp; omega
            go_wp2
            go_round
            case rel => exact ⟨m + 1, by omega, by go_num, rfl⟩
            case measure => simp [intOf]; omega
  · have HAB : ∀ W : World, Sc W b off la V A L b1 off1 lb V' A' L' gA gB gW bA bB bW cA cB cW nx ny nz cx cy cz bx bz by' ax ay az SA SB SW → Calls Try.prog 15 #[.slice ax nx cx, .slice ay ny cy] W fun e w' => Merged (uniq (archs A la)) (uniq (archs A' lb)) W w' e := fun W h =>
      merge_call (HNA.out) (HNB.out) (HSA'.out) (HSB'.out) (by omega) (by omega) HXA.out HXB.out h.ca.arch h.cb.arch
    obtain ⟨S, hS⟩ : ∃ S : World → Prop, S = fun W => Sc W b off la V A L b1 off1 lb V' A' L' gA gB gW bA bB bW cA cB cW nx ny nz cx cy cz bx bz by' ax ay az SA SB SW ∧ Below w.heap.size w W := ⟨_, rfl⟩
    have s0 : S wr := by rw [hS]; exact ⟨HSC.out, hbi⟩
    have s1 : ∀ W o, S W → S (W.alloc o) := by rw [hS]; intro W o h; exact ⟨h.1.kept (below_alloc _ _), h.2.alloc h.2.size o⟩
    have s2 : ∀ W, S W → S W.drew := by rw [hS]; intro W h; exact ⟨h.1.kept ((Below.refl _ _).drew), h.2.drew⟩
    have s3 : ∀ W, S W → Calls Try.prog 15 #[.slice ax nx cx, .slice ay ny cy] W fun e w' => ∃ sl ws, e = .returned sl ∧ Hid (MInv (uniq (archs A la)) (uniq (archs A' lb)) (uniq (archs A la)).length (uniq (archs A' lb)).length ws) ∧ Hid (ArchIs w' sl ws) ∧ Hid (S w') := by
      rw [hS]; intro W h
      refine (HAB W h.1).mono ?_
      rintro e w' ⟨sl, ws, rfl, h1, h2, h3⟩
      exact ⟨sl, ws, rfl, h1, h2, h.1.kept h3, h.2.trans (h3.mono h.2.size)⟩
    have s4 : ∀ W, S W → W.cell? ⟨cA, 0, none⟩ = some (.map (some bA)) ∧ W.cell? ⟨cA, 1, none⟩ = some (.slice ax nx cx) ∧ W.cell? ⟨cB, 0, none⟩ = some (.map (some bB)) ∧ W.cell? ⟨cB, 1, none⟩ = some (.slice ay ny cy) := by
      rw [hS]; intro W h; exact ⟨h.1.ca.c0, h.1.ca.c1, h.1.cb.c0, h.1.cb.c1⟩
    have s5 : ∀ W, S W → (∀ i, i < nz → W.cell? ⟨by', i, none⟩ = some (.string (SW i))) ∧ Below w.heap.size w W := by rw [hS]; intro W h; exact ⟨h.1.cw.arch, h.2⟩
    obtain ⟨a0', a1', b0', b1'⟩ := s4 wr s0
    have S0 := hid s0
    have S1 := hid s1
    have S2 := hid s2
    have S3 := hid s3
    have S4 := hid s4
    have S5 := hid s5
    clear s0 s1 s2 s3 s4 s5 hS HAB HSC hbi
    go_wp2_with fail
    go_region_held3 (fun w' => w'.cell? ⟨cA, 0, none⟩ = some (.map (some bA)) ∧ w'.cell? ⟨cA, 1, none⟩ = some (.slice ax nx cx) ∧ w'.cell? ⟨cB, 0, none⟩ = some (.map (some bB)) ∧ w'.cell? ⟨cB, 1, none⟩ = some (.slice ay ny cy))
      (go_keep)
      (first
        | (go_at_call 12; refine (arches_any _ _ _).mono ?_; rintro e w' ⟨rfl, rfl⟩)
        | (go_at_call 15; refine (S3.out _ (by first | exact S1.out _ _ (S1.out _ _ (S2.out _ S0.out)) | exact S2.out _ (S1.out _ _ (S1.out _ _ S0.out)))).mono ?_; rintro e wm ⟨sl, ws, rfl, HMI, HAR, HSw⟩;
           obtain ⟨z0, z1, z2, z3⟩ := S4.out wm HSw.out))
    clear z0 z1 z2 z3 a0' a1' b0' b1'
    obtain ⟨am, bq, cm, rfl, ham, hcm⟩ := HAR.out.cells
    have hws := merged_is HMI.out
    have hlen : ws.length = nz := by rw [hws, HNW.out]
    have hstr : strAt ws = SW := by rw [hws, HSW'.out]
    rw [hlen] at ham hcm ⊢
    rw [hstr] at hcm
    obtain ⟨hcw, hbm⟩ := S5.out wm HSw.out
    have HAM := hid ham
    have HCM := hid hcm
    have HCW := hid hcw
    clear ham hcm hcw hws hlen hstr HAR HMI S0 S1 S2 S3 S4 S5 HSw
    go_wp2
    go_loopw [25] (fun i wr => ∃ k : Nat, k ≤ nz ∧ i = .int .i64 k ∧ Hid (∀ i, i < nz → wr.cell? ⟨bq, i, none⟩ = some (.string (SW i))) ∧ Hid (∀ i, i < nz → wr.cell? ⟨by', i, none⟩ = some (.string (SW i))) ∧ Below w.heap.size w wr) (fun i _ => nz - (intOf i).toNat)
    case atStart => exact ⟨0, Nat.zero_le _, rfl, HCM, HCW, hbm⟩
    case round =>
      clear HCM HCW hbm
      obtain ⟨k, hk, rfl, HCM, HCW, hbm⟩ := hrel
      by_cases hkl : k < nz
      · obtain rfl := HAM.out (by omega)
        obtain rfl := HXW.out (by omega)
        have e0 := HCM.out k hkl
        have e1 := HCW.out k hkl
        have hq0 : (0 : Int) ≤ (k : Int) := Int.natCast_nonneg _
        have hq1 : (k : Int) < (nz : Int) := by omega
        go_wp2_with fail
        go_quiet (fail)
        go_wp2
        go_roundw
        case rel => exact ⟨k + 1, by omega, by go_num, HCM.out, HCW.out, below_drewN hbm _⟩
        case measure => simp [intOf]; omega
      · go_wp2
        go_ret
        exact ⟨rfl, hbm⟩

end Go.Proofs.Qxb6628738a
