/-
  NewCatalog.
-/
import Derived.Test.Qxb6628738aCat
import Derived.Test.Qxb6628738aSortAt
namespace Go.Proofs.Qxb6628738a
open Go.RowKit
open Sorted

/-- what the map holds behind the first k releases -/
def catM (g : Nat) (V A : Nat → ByteArray) : Nat → ByteArray × ByteArray → Option Value
  | 0 => fun _ => none
  | k + 1 => put (catM g V A k) (V k, A k) (.pointer (some ⟨g, k * 10, none⟩))
/-- how many entries it has -/
def catN (g : Nat) (V A : Nat → ByteArray) : Nat → Nat
  | 0 => 0
  | k + 1 => if (catM g V A k (V k, A k)).isSome then catN g V A k else catN g V A k + 1

/-- n releases from the head of block g on, as zzBuild lays them -/
def Built (w : World) (g n : Nat) (V A : Nat → ByteArray) : Prop :=
  ∀ i, i < n → w.cell? ⟨g, i * 10, none⟩ = some (.int .i64 0) ∧ w.cell? ⟨g, i * 10 + 1, none⟩ = some (.int .i64 0) ∧ w.cell? ⟨g, i * 10 + 2, none⟩ = some (.int .i64 0) ∧ w.cell? ⟨g, i * 10 + 3, none⟩ = some (.string ⟨#[]⟩) ∧
    w.cell? ⟨g, i * 10 + 4, none⟩ = some (.string (V i)) ∧ w.cell? ⟨g, i * 10 + 5, none⟩ = some (.string ⟨#[]⟩) ∧ w.cell? ⟨g, i * 10 + 6, none⟩ = some (.string (A i)) ∧ (V i).size ≤ maxLen ∧ (A i).size ≤ maxLen

/-- the architectures' bytes -/
def archs (A : Nat → ByteArray) (n : Nat) : List Str := (List.range n).map fun i => (A i).data.toList

/-- the slice value 'sl' reads as the strings us -/
def ArchIs (w : World) (sl : Value) (us : List Str) : Prop :=
  ∃ (a0 : Option Addr) (b cap : Nat), sl = .slice a0 us.length cap ∧ (0 < us.length → a0 = some ⟨b, 0, none⟩) ∧ ∀ i, (h : i < us.length) → w.cell? ⟨b, i, none⟩ = some (encStr us[i])

def strCells (A : Nat → ByteArray) (n : Nat) : List Value := (List.range n).map fun i => .string (A i)
theorem strCells_succ (A : Nat → ByteArray) (n : Nat) : strCells A (n + 1) = strCells A n ++ [.string (A n)] := by simp [strCells, List.range_succ]
theorem strCells_archs (A : Nat → ByteArray) (n : Nat) : strCells A n = (archs A n).map encStr := by
  simp [strCells, archs]
theorem archs_length (A : Nat → ByteArray) (n : Nat) : (archs A n).length = n := by simp [archs]

theorem make29 (n : Int) (w : World) : (Instr.makeMap 29 (some (.int .i64 n))).run Try.prog w = .ok (.map (some w.heap.size)) (w.alloc (.map #[] 0)) := by
  simp [Instr.makeMap, run_underlying Try.underlying29, asInt, asIntOf, Result.andThen]

theorem Try.info9 : (Try.prog.info? 9).map (fun i => (i.zero, i.size, i.bytes)) = some (some (.string ⟨#[]⟩), 1, 16) := by kernel_rfl


theorem far_block {w1 w2 : World} {o : Obj} {r : Option Nat} (h : ((w1.alloc o).drew).grownBy w2 r) {b : Nat} (hb : b < w1.heap.size) (hne : some b ≠ r) : w2.heap[b]? = w1.heap[b]? := by
  rw [h.block b (by simp [World.drew]; omega) hne]
  exact Below.heap_alloc w1 o b hb

theorem setCell_heap {w : World} {B o : Nat} {cs : Array Value} {t : TypeId} {fr : Nat × Nat} (h : w.heap[B]? = some (.cells cs t fr)) {v : Value} : (w.setCell ⟨B, o, none⟩ v).heap[B]? = some (.cells (cs.setIfInBounds o v) t fr) := by
  simp [World.setCell, Array.getElem?_modify, h]

/-- the three stores at the end -/
theorem end3 {w : World} {B C : Nat} {x y : Value} (hne : B ≠ C) (hb : w.heap[B]? = some (.cells #[x, y] 32 (0, 0))) (u m v : Value) :
    (((w.setCell ⟨C, 1, none⟩ u).setCell ⟨B, 0, none⟩ m).setCell ⟨B, 1, none⟩ v).cell? ⟨B, 0, none⟩ = some m ∧
    (((w.setCell ⟨C, 1, none⟩ u).setCell ⟨B, 0, none⟩ m).setCell ⟨B, 1, none⟩ v).cell? ⟨B, 1, none⟩ = some v ∧
    ∀ b, b ≠ B → b ≠ C → (((w.setCell ⟨C, 1, none⟩ u).setCell ⟨B, 0, none⟩ m).setCell ⟨B, 1, none⟩ v).heap[b]? = w.heap[b]? := by
  have h1 : (w.setCell ⟨C, 1, none⟩ u).heap[B]? = some (.cells #[x, y] 32 (0, 0)) := (Below.heap_setCell _ _ _ _ hne).trans hb
  have h2 : ((w.setCell ⟨C, 1, none⟩ u).setCell ⟨B, 0, none⟩ m).heap[B]? = some (.cells #[m, y] 32 (0, 0)) := by rw [setCell_heap h1]; rfl
  have h3 : (((w.setCell ⟨C, 1, none⟩ u).setCell ⟨B, 0, none⟩ m).setCell ⟨B, 1, none⟩ v).heap[B]? = some (.cells #[m, v] 32 (0, 0)) := by rw [setCell_heap h2]; rfl
  refine ⟨by simp [World.cell?, h3], by simp [World.cell?, h3], fun b hb1 hb2 => ?_⟩
  rw [Below.heap_setCell _ _ _ _ (by simpa using hb1), Below.heap_setCell _ _ _ _ (by simpa using hb1), Below.heap_setCell _ _ _ _ (by simpa using hb2)]

/-- what one round leaves -/
theorem cat_round {B C k g2 cap2 : Nat} {w w1 w2 : World} {o : Obj} {va : Value} {A : Nat → ByteArray} {M : ByteArray × ByteArray → Option Value} {N : Nat} (hBC : B + 1 < C) (hC1 : w1.heap[C]? = some (.cells #[.map (some (B + 1)), va] 32 (0, 0))) (hB1 : w1.heap[B]? = some (.cells #[.map none, .slice none 0 0] 32 (0, 0)))
    (hM : MapIs Try.prog w1 52 key (B + 1) (k + 1) M N) (hvb : ∀ b, b ≤ C → va.ownBlock ≠ some b) (hCs : C < w1.heap.size) (hb1 : Below B w w1)
    (hown : w2.ownsRow (C + 1) 9 1 (.slice (some ⟨g2, 0, none⟩) (k + 1) cap2) (k + 1) (strCells A k ++ [.string (A k)])) (hg : ((w1.alloc o).drew).grownBy w2 va.ownBlock) :
    Hid ((w2.setCell ⟨C, 1, none⟩ (.slice (some ⟨g2, 0, none⟩) (k + 1) cap2)).heap[C]? = some (.cells #[.map (some (B + 1)), .slice (some ⟨g2, 0, none⟩) (k + 1) cap2] 32 (0, 0))) ∧
    Hid ((w2.setCell ⟨C, 1, none⟩ (.slice (some ⟨g2, 0, none⟩) (k + 1) cap2)).heap[B]? = some (.cells #[.map none, .slice none 0 0] 32 (0, 0))) ∧
    Hid (MapIs Try.prog (w2.setCell ⟨C, 1, none⟩ (.slice (some ⟨g2, 0, none⟩) (k + 1) cap2)) 52 key (B + 1) (k + 1) M N) ∧
    Hid ((w2.setCell ⟨C, 1, none⟩ (.slice (some ⟨g2, 0, none⟩) (k + 1) cap2)).ownsRow (C + 1) 9 1 (.slice (some ⟨g2, 0, none⟩) (k + 1) cap2) (k + 1) (strCells A (k + 1))) ∧
    Below B w (w2.setCell ⟨C, 1, none⟩ (.slice (some ⟨g2, 0, none⟩) (k + 1) cap2)) ∧ C < (w2.setCell ⟨C, 1, none⟩ (.slice (some ⟨g2, 0, none⟩) (k + 1) cap2)).heap.size := by
  have f : ∀ b, b ≤ C → w2.heap[b]? = w1.heap[b]? := fun b hb => far_block hg (by omega) (Ne.symm (hvb b hb))
  have s2 : w1.heap.size + 1 ≤ w2.heap.size := by have := hg.size; simpa [World.drew] using this
  have g : ∀ b, b ≠ C → (w2.setCell ⟨C, 1, none⟩ (.slice (some ⟨g2, 0, none⟩) (k + 1) cap2)).heap[b]? = w2.heap[b]? := fun b hb => Below.heap_setCell _ _ _ _ (by simpa using hb)
  refine ⟨?_, ?_, ?_, ?_, ?_, ?_⟩
  · have := (f C (Nat.le_refl _)).trans hC1
    simp [Hid, World.setCell, Array.getElem?_modify, this]
  · exact (g B (by omega)).trans ((f B (by omega)).trans hB1)
  · exact hM.of_block ((g (B + 1) (by omega)).trans (f (B + 1) (by omega)))
  · rw [strCells_succ]
    exact ownsRow_setCell_below hown (by simp) _
  · refine ⟨?_, ?_, ?_, ?_, fun b hb => ?_⟩
    · show w2.os = w.os; rw [hg.os]; exact hb1.os
    · show w2.tape = w.tape; rw [hg.tape]; exact hb1.tape
    · show w2.output = w.output; rw [hg.output]; exact hb1.output
    · have := hb1.size; simp [World.setCell]; omega
    · rw [g b (by omega), f b (by omega)]; exact hb1.block b hb
  · simp [World.setCell]; omega

set_option maxRecDepth 100000 in
set_option maxHeartbeats 3200000 in
theorem catalog_loop (g n cap : Nat) (V A : Nat → ByteArray) (w : World) (hn : n ≤ 1048576) (hg : g < w.heap.size) (hB : Built w g n V A) :
    Calls Try.prog 8 #[.slice (some ⟨g, 0, none⟩) n cap] w fun e w' => ∃ bm sl, e = .returned (.agg #[.map (some bm), sl]) ∧ MapIs Try.prog w' 52 key bm n (catM g V A n) (catN g V A n) ∧ ArchIs w' sl (uniq (archs A n)) ∧ Below w.heap.size w w' := by
  have hmm := make29 n
  have HB := hid hB
  clear hB
  obtain ⟨B, hBw⟩ : ∃ B, B = w.heap.size := ⟨_, rfl⟩
  obtain ⟨i0, hi, hz0, hz1, hz2⟩ := info_parts Try.info9
  go_enter Try.func8, Try.ntmps8
  go_wp2
  rw [← hBw]
  rw [← hBw] at hg
  obtain ⟨W0, hW0⟩ : ∃ W0 : World, W0 = ((w.alloc (Obj.cells #[Value.map none, Value.slice none 0 0] 32)).alloc (Obj.map #[] 0)).alloc (Obj.cells #[Value.map (some (B + 1)), Value.slice none 0 0] 32) := ⟨_, rfl⟩
  rw [← hW0]
  have hs0 : W0.heap.size = B + 3 := by rw [hW0, hBw]; simp
  have hM0 : MapIs Try.prog W0 52 key (B + 1) 0 (catM g V A 0) 0 := by
    have := (MapIs.made Try.prog (w.alloc (Obj.cells #[Value.map none, Value.slice none 0 0] 32)) 52 key).alloc (Obj.cells #[Value.map (some (B + 1)), Value.slice none 0 0] 32)
    rw [← hW0] at this
    simpa [catM, hBw] using this
  have hblk : W0.heap[B + 2]? = some (.cells #[.map (some (B + 1)), .slice none 0 0] 32 (0, 0)) := by
    rw [hW0, hBw]
    show (((w.heap.push _).push _).push _)[w.heap.size + 2]? = _
    rw [Array.getElem?_push, if_pos (by simp)]
  have hb0 : Below B w W0 := by
    rw [hW0, hBw]
    exact (((Below.refl _ w).alloc (Nat.le_refl _) _).alloc (by simp) _).alloc (by simp; omega) _
  have hB0 : W0.heap[B]? = some (.cells #[.map none, .slice none 0 0] 32 (0, 0)) := by
    rw [hW0, hBw]
    show (((w.heap.push _).push _).push _)[w.heap.size]? = _
    rw [Array.getElem?_push, if_neg (by simp only [Array.size_push]; omega), Array.getElem?_push, if_neg (by simp only [Array.size_push]; omega), Array.getElem?_push, if_pos rfl]
  clear hW0 hmm
  have hblB : W0.heap[B]? = some (.cells #[.map none, .slice none 0 0] 32 (0, 0)) := hB0
  obtain ⟨C, hC⟩ : ∃ C, C = B + 1 + 1 := ⟨_, rfl⟩
  have hblC : W0.heap[C]? = some (.cells #[.map (some (B + 1)), .slice none 0 0] 32 (0, 0)) := by rw [hC]; exact hblk
  have hsC : W0.heap.size = C + 1 := by rw [hC]; exact hs0
  have hBC : B + 1 < C := by omega
  rw [← hC]
  have HCB := hid hC
  have HBW := hid hBw
  clear hC hblk hs0 hB0 hBw
  go_loopw [12] (fun i wr => ∃ (k : Nat) (va : Value), k ≤ n ∧ i = .int .i64 k ∧ Hid (wr.heap[C]? = some (.cells #[.map (some (B + 1)), va] 32 (0, 0))) ∧ Hid (wr.heap[B]? = some (.cells #[.map none, .slice none 0 0] 32 (0, 0))) ∧
      Hid (MapIs Try.prog wr 52 key (B + 1) k (catM g V A k) (catN g V A k)) ∧ Hid (wr.ownsRow (C + 1) 9 1 va k (strCells A k)) ∧ Hid (k = 0 → va = .slice none 0 0) ∧ Below B w wr ∧ C < wr.heap.size)
    (fun i _ => n - (intOf i).toNat)
  case atStart => exact ⟨0, _, Nat.zero_le _, rfl, hblC, hblB, hM0, World.ownsRow_nil _ _ _ _, fun _ => rfl, hb0, by omega⟩
  case round =>
    clear hblB hblC hM0 hb0 hsC
    obtain ⟨k, va, hk, rfl, HC, HBl, HM, HO, HV, hbk, hCs⟩ := hrel
    by_cases hlt : k < n
    · obtain ⟨c0, c1, c2, c3, c4, c5, c6, sV, sA⟩ := HB.out k hlt
      have q0 := (hbk.cell (p := ⟨g, k * 10, none⟩) hg).trans c0
      have q1 := (hbk.cell (p := ⟨g, k * 10 + 1, none⟩) hg).trans c1
      have q2 := (hbk.cell (p := ⟨g, k * 10 + 2, none⟩) hg).trans c2
      have q3 := (hbk.cell (p := ⟨g, k * 10 + 3, none⟩) hg).trans c3
      have q4 := (hbk.cell (p := ⟨g, k * 10 + 4, none⟩) hg).trans c4
      have q5 := (hbk.cell (p := ⟨g, k * 10 + 5, none⟩) hg).trans c5
      have q6 := (hbk.cell (p := ⟨g, k * 10 + 6, none⟩) hg).trans c6
      have qC : wr.cell? ⟨C, 0, none⟩ = some (.map (some (B + 1))) := by simp [World.cell?, HC.out]
      obtain ⟨kl, hkl⟩ := key_is (V k, A k) sV sA
      have KL := hid hkl
      have hi0' : (0 : Int) ≤ (k : Int) := Int.natCast_nonneg _
      have hi1 : (k : Int) < (n : Int) := by omega
      have hgr : g < wr.heap.size := by omega
      obtain ⟨w1, hrun, hM1, ht1⟩ := (HM.out.alloc (.cells #[.int .i64 0, .int .i64 0, .int .i64 0, .string ⟨#[]⟩, .string (V k), .string ⟨#[]⟩] 39)).drew.store law52 key_inj Try.underlying29 (by unfold maxLen; omega) (.pointer (some ⟨g, k * 10, none⟩)) KL.out
      simp only [key] at hrun
      have hk1 : ∀ b, b < wr.heap.size → b ≠ B + 1 → w1.heap[b]? = wr.heap[b]? := fun b hb hne => by
        rw [ht1.grown.block b (by simp [World.drew]; omega) (by simp [hne])]
        exact Below.heap_alloc wr _ b hb
      have p : ∀ b o, b < wr.heap.size → b ≠ B + 1 → w1.cell? ⟨b, o, none⟩ = wr.cell? ⟨b, o, none⟩ := fun b o hb hne => World.cell?_of_block (a := ⟨b, o, none⟩) (hk1 b hb hne)
      have pC := (p C 0 hCs (by omega)).trans qC
      have p0 := (p g (k * 10) hgr (by omega)).trans q0
      have p1 := (p g (k * 10 + 1) hgr (by omega)).trans q1
      have p2 := (p g (k * 10 + 2) hgr (by omega)).trans q2
      have p3 := (p g (k * 10 + 3) hgr (by omega)).trans q3
      have p4 := (p g (k * 10 + 4) hgr (by omega)).trans q4
      have p5 := (p g (k * 10 + 5) hgr (by omega)).trans q5
      have p6 := (p g (k * 10 + 6) hgr (by omega)).trans q6
      have HK1 := hid hk1
      have HM1 := hid hM1
      have HT1 := hid ht1
      clear c0 c1 c2 c3 c4 c5 c6 hkl p hk1 hM1 ht1
      go_wp2_with fail
      go_region_held3 (fun w' => w'.cell? ⟨C, 0, none⟩ = some (.map (some (B + 1))) ∧ w'.cell? ⟨g, k * 10, none⟩ = some (.int .i64 0) ∧ w'.cell? ⟨g, k * 10 + 1, none⟩ = some (.int .i64 0) ∧ w'.cell? ⟨g, k * 10 + 2, none⟩ = some (.int .i64 0) ∧ w'.cell? ⟨g, k * 10 + 3, none⟩ = some (.string ⟨#[]⟩) ∧ w'.cell? ⟨g, k * 10 + 4, none⟩ = some (.string (V k)) ∧ w'.cell? ⟨g, k * 10 + 5, none⟩ = some (.string ⟨#[]⟩) ∧ w'.cell? ⟨g, k * 10 + 6, none⟩ = some (.string (A k)))
        (go_keep)
        (first | (go_at_call 17; refine (verString_any _ _).mono ?_; rintro e w' ⟨rfl, rfl⟩))
      clear hrun p0 p1 p2 p3 p4 p5 q0 q1 q2 q3 q4 q5 q6 qC
      go_wp2_with fail
      have hC1 : w1.heap[C]? = some (.cells #[.map (some (B + 1)), va] 32 (0, 0)) := (HK1.out C hCs (by omega)).trans HC.out
      have hB1 : w1.heap[B]? = some (.cells #[.map none, .slice none 0 0] 32 (0, 0)) := (HK1.out B (by omega) (by omega)).trans HBl.out
      have y1 : w1.cell? ⟨C, 1, none⟩ = some va := by simp [World.cell?, hC1]
      have f1 : w1.frozen? ⟨C, 1, none⟩ = false := by simp [World.frozen?, hC1]
      have hvb : ∀ b, b ≤ C → va.ownBlock ≠ some b := fun b hb e => by
        rcases HO.out.2 with ⟨h, _⟩ | ⟨g', cp, cur, h, hbg, _⟩
        · rw [h] at e; cases e
        · rw [h] at e; simp only [Value.ownBlock, Option.some.injEq] at e; omega
      have hO1 : w1.ownsRow (C + 1) 9 1 va k (strCells A k) := ((HO.out.alloc _).drew).kept HT1.out.grown (Or.inr (hvb (B + 1) (by omega)))
      have hs1 : w1.heap.size = wr.heap.size + 1 := by
        obtain ⟨es, cl, es', cl', _, e⟩ := HT1.out
        rw [e]; simp [ChangeMaps.setBlock, World.drew]
      have hCs1 : C < w1.heap.size := by omega
      have hg1 : g < w1.heap.size := by omega
      have hb1 : Below B w w1 := by
        refine ⟨?_, ?_, ?_, ?_, fun b hb => ?_⟩
        · rw [HT1.out.grown.os]; exact hbk.os
        · rw [HT1.out.grown.tape]; exact hbk.tape
        · rw [HT1.out.grown.output]; exact hbk.output
        · have := hbk.size; omega
        · rw [HK1.out b (by omega) (by omega)]; exact hbk.block b hb
      have HC1 := hid hC1
      have HB1 := hid hB1
      have HO1 := hid hO1
      have HS1 := hid hs1
      have HVB := hid hvb
      clear hC1 hB1 hvb hO1 HK1 HT1 HO HBl HC HM pC hs1
      go_region_law ((refine step_append_lies _ (by rfl) (.tmp 32) (.tmp 37) 30 (by rfl) (C + 1) 9 i0 (.string ⟨#[]⟩) 1 16 Try.underlying30 hi hz0 hz1 hz2 rfl (by omega) va k (strCells A k) (by rfl) (by exact (HO1.out.alloc _).drew) ⟨w1.heap.size, 0, none⟩ 1 1 [.string (A k)] (by rfl) (by rfl) (by exact cell_one_new _ _ _) (by simp [Value.oneCell']) (by omega) (by unfold maxLen; omega) (by omega) (by simp; omega) (w1.heap.size + 1) (by simp) ?_; intro g2 cap2 w2 hown2 hgrow2 hat2 hlt2; have hC2 := (far_block hgrow2 hCs1 (Ne.symm (HVB.out C (Nat.le_refl _)))).trans HC1.out; have z1 : w2.cell? ⟨C, 1, none⟩ = some va := (by simp [World.cell?, hC2]); have zf : w2.frozen? ⟨C, 1, none⟩ = false := (by simp [World.frozen?, hC2])))
      all_goals
        obtain ⟨r1, r2, r3, r4, r5, r6⟩ := cat_round hBC HC1.out HB1.out HM1.out HVB.out hCs1 hb1 hown2 hgrow2
        clear hown2 hgrow2 hat2 hlt2 hC2 z1 zf hb1
        go_wp2
        go_roundw
        case rel => exact ⟨k + 1, _, by omega, by go_num, r1, r2, r3, r4, fun h => by omega, r5, r6⟩
        case measure => simp [intOf]; omega
    · obtain rfl : k = n := by omega
      have y0 : wr.cell? ⟨C, 0, none⟩ = some (.map (some (B + 1))) := by simp [World.cell?, HC.out]
      have y1 : wr.cell? ⟨C, 1, none⟩ = some va := by simp [World.cell?, HC.out]
      have f1 : wr.frozen? ⟨C, 1, none⟩ = false := by simp [World.frozen?, HC.out]
      have b0 : wr.cell? ⟨B, 0, none⟩ = some (.map none) := by simp [World.cell?, HBl.out]
      have b1 : wr.cell? ⟨B, 1, none⟩ = some (.slice none 0 0) := by simp [World.cell?, HBl.out]
      have g0 : wr.frozen? ⟨B, 0, none⟩ = false := by simp [World.frozen?, HBl.out]
      have g1 : wr.frozen? ⟨B, 1, none⟩ = false := by simp [World.frozen?, HBl.out]
      by_cases hk0 : k = 0
      · subst hk0
        obtain rfl := HV.out rfl
        go_wp2_with (first | (go_at_call 18; refine (Try.slices_Sort_string_none _ _ _).mono ?_; rintro e w' ⟨rfl, hw'⟩; obtain rfl := hw'.symm; clear hw') | (go_at_call 19; refine (Try.slices_Compact_string_empty _ _ _).mono ?_; rintro e w' ⟨rfl, hw'⟩; obtain rfl := hw'.symm; clear hw'))
        obtain ⟨e0, e1, e2⟩ := end3 (by omega : B ≠ C) HBl.out (.slice none 0 0) (.map (some (B + 1))) (.slice none 0 0)
        refine bodyPost_ret (v := .agg #[.map (some (B + 1)), .slice none 0 0]) (by simp [results, Try.results8, go_sem, e0, e1]) rfl ⟨B + 1, .slice none 0 0, rfl, HM.out.of_block (e2 _ (by omega) (by omega)), ?_, ?_⟩
        · have e : uniq (archs A 0) = [] := by simp [uniq, archs, Lib.compact, Lib.compactUpTo]
          rw [e]
          exact ⟨none, 0, 0, rfl, (fun h => by cases h), (fun i h => by cases h)⟩
        · have hs := hbk.size
          rw [← HBW.out]
          exact ⟨hbk.os, hbk.tape, hbk.output, by simpa [World.setCell] using hs, fun b hb => (e2 b (by omega) (by omega)).trans (hbk.block b hb)⟩
      · obtain ⟨g2, cap2, hva, hg2⟩ : ∃ g2 cap2, va = .slice (some ⟨g2, 0, none⟩) k cap2 ∧ C < g2 := by
          rcases HO.out.2 with ⟨_, h⟩ | ⟨g', cp, cur, h, hbg, _⟩
          · exact absurd h hk0
          · exact ⟨g', cp, h, by omega⟩
        rw [hva] at y1
        have HO2 : Hid (wr.ownsRow (C + 1) 9 1 (.slice (some ⟨g2, 0, none⟩) k cap2) k ((archs A k).map encStr)) := by
          rw [← strCells_archs, ← hva]; exact HO.out
        have HVA := hid hva
        clear hva HO
        go_wp2_with fail
        refine (sort_at (C + 1) g2 k cap2 (archs A k) wr (archs_length A k) (by omega) HO2.out).mono ?_
        rintro e wa ⟨rfl, hOa, hga⟩
        have ka : ∀ b, b ≤ C → wa.heap[b]? = wr.heap[b]? := fun b hb => hga.block b (by omega) (by simp; omega)
        have HCa : Hid (wa.heap[C]? = some (.cells #[.map (some (B + 1)), .slice (some ⟨g2, 0, none⟩) k cap2] 32 (0, 0))) := by rw [← HVA.out]; exact (ka C (Nat.le_refl _)).trans HC.out
        have HBa : Hid (wa.heap[B]? = some (.cells #[.map none, .slice none 0 0] 32 (0, 0))) := (ka B (by omega)).trans HBl.out
        have HMa : Hid (MapIs Try.prog wa 52 key (B + 1) k (catM g V A k) (catN g V A k)) := HM.out.of_block (ka (B + 1) (by omega))
        have hba : Below B w wa := hbk.grown hga (by omega) (fun j hj => by cases hj; omega)
        have hsa := hga.size
        have a1 : wa.cell? ⟨C, 1, none⟩ = some (.slice (some ⟨g2, 0, none⟩) k cap2) := by simp [World.cell?, HCa.out]
        have HOa := hid hOa
        clear hOa hga ka y0 y1 f1 b0 b1 g0 g1
        go_wp2_with fail
        refine (compact_at (C + 1) g2 k cap2 _ wa (by simp [archs_length]) (by omega) HOa.out).mono ?_
        rintro e wb ⟨rfl, hcb, hgb⟩
        have kb : ∀ b, b ≤ C → wb.heap[b]? = wa.heap[b]? := fun b hb => hgb.block b (by omega) (by simp; omega)
        have HCb := hid ((kb C (Nat.le_refl _)).trans HCa.out)
        have HBb := hid ((kb B (by omega)).trans HBa.out)
        have HMb : Hid (MapIs Try.prog wb 52 key (B + 1) k (catM g V A k) (catN g V A k)) := HMa.out.of_block (kb (B + 1) (by omega))
        have hbb : Below B w wb := hba.grown hgb (by omega) (fun j hj => by cases hj; omega)
        have hsb := hgb.size
        have y0 : wb.cell? ⟨C, 0, none⟩ = some (.map (some (B + 1))) := by simp [World.cell?, HCb.out]
        have y1 : wb.cell? ⟨C, 1, none⟩ = some (.slice (some ⟨g2, 0, none⟩) k cap2) := by simp [World.cell?, HCb.out]
        have f1 : wb.frozen? ⟨C, 1, none⟩ = false := by simp [World.frozen?, HCb.out]
        have b0 : wb.cell? ⟨B, 0, none⟩ = some (.map none) := by simp [World.cell?, HBb.out]
        have b1 : wb.cell? ⟨B, 1, none⟩ = some (.slice none 0 0) := by simp [World.cell?, HBb.out]
        have g0 : wb.frozen? ⟨B, 0, none⟩ = false := by simp [World.frozen?, HBb.out]
        have g1 : wb.frozen? ⟨B, 1, none⟩ = false := by simp [World.frozen?, HBb.out]
        have HCB2 := hid hcb
        obtain ⟨us, hus⟩ : ∃ us, us = uniq (archs A k) := ⟨_, rfl⟩
        have HUS := hid hus
        have hlu : (Lib.compact ((archs A k).mergeSort fun x y => decide (x ≤ y))).length = us.length := by rw [hus]; rfl
        rw [hlu]
        clear hcb hgb kb hus hlu
        go_wp2
        obtain ⟨e0, e1, e2⟩ := end3 (by omega : B ≠ C) HBb.out (.slice (some ⟨g2, 0, none⟩) us.length cap2) (.map (some (B + 1))) (.slice (some ⟨g2, 0, none⟩) us.length cap2)
        refine bodyPost_ret (v := .agg #[.map (some (B + 1)), .slice (some ⟨g2, 0, none⟩) us.length cap2]) (by simp [results, Try.results8, go_sem, e0, e1]) rfl ⟨B + 1, _, rfl, HMb.out.of_block (e2 _ (by omega) (by omega)), ?_, ?_⟩
        · rw [← HUS.out]
          refine ⟨some ⟨g2, 0, none⟩, g2, cap2, rfl, fun _ => rfl, fun i h => ?_⟩
          have h' : i < (Lib.compact ((archs A k).mergeSort fun x y => decide (x ≤ y))).length := by rw [HUS.out] at h; exact h
          rw [World.cell?_of_block (a := ⟨g2, i, none⟩) (e2 g2 (by omega) (by omega)), HCB2.out i h']
          congr 2
          simp only [HUS.out]; rfl
        · have hs := hbb.size
          rw [← HBW.out]
          exact ⟨hbb.os, hbb.tape, hbb.output, by simpa [World.setCell] using hs, fun b hb => (e2 b (by omega) (by omega)).trans (hbb.block b hb)⟩

end Go.Proofs.Qxb6628738a
