/-
  zzHas, zzSameKey, ZZnewVersion, zzBuild.
-/
import Derived.Test.Qxb6628738aBase
import Derived.Deep.RegionHeld3
import Derived.Deep.RegionLaw
import Derived.Deep.AppendLies
import Derived.Maps.AppendAt
namespace Go.Proofs.Qxb6628738a
open Go.RowKit

/-- append within the capacity, as one step of a region that draws -/
theorem step_append_fits {P : Program} {ops : Array Oper} {o : Oper} {a : Act} (w : World) {K : Act → World → Prop} {Q : Exit → Act → World → Prop} {E : Prop}
    (hg : o.guard = none) (s x : Operand) (t : TypeId) (hop : o.op = Op.call { callee := Callee.builtin Builtin.append, args := #[s, x], argTypes := #[t, t] })
    (base : Nat) (e : TypeId) (i : TypeInfo) (size : Nat) (h1 : P.underlying t = some (.slice e)) (h2 : P.info? e = some i) (h4 : i.size = size)
    (g k cap : Nat) (xs : List Value) (hs : a.eval s = .slice (some ⟨g, 0, none⟩) k cap) (hown : w.ownsRow base e size (.slice (some ⟨g, 0, none⟩) k cap) k xs) (ad : Addr) (m c : Nat) (news : List Value) (hx : a.eval x = .slice (some ad) m c) (hn : news.length = m * size)
    (hc : ∀ j u, news[j]? = some u → w.cell? (ad.add j) = some u) (h1c : ∀ u ∈ news, u.oneCell' = true) (b1 : k + m ≤ cap)
    (hK : ∀ w', w'.ownsRow base e size (.slice (some ⟨g, 0, none⟩) (k + m) cap) (k + m) (xs ++ news) → w.grownBy w' (some g) → K (a.put o.dst (.slice (some ⟨g, 0, none⟩) (k + m) cap)) w') :
    if Region.wanted o (yielded ops a.tmps) = true then Oper.wp P o a w K Q else E := by
  have hw : Region.wanted o (yielded ops a.tmps) = true := by simp [Region.wanted, hg]
  rw [if_pos hw]
  obtain ⟨w', hrun, r1, r2⟩ := run_append_fits (P := P) w base t o.type e i size h1 h2 h4 g k cap xs hown ad m c news hn hc h1c b1
  unfold Oper.wp
  simp [execOp, hop, resolve, invoke, builtin, hs, hx, hrun, Result.andThen]
  exact hK w' r1 r2

set_option maxHeartbeats 400000 in
/-- zzHas where the string is there -/
theorem has_true (a0 : Option Addr) (b off n cap j : Nat) (S : Nat → ByteArray) (s : ByteArray) (w : World) (hl : n ≤ 9223372036854775807) (ha : 0 < n → a0 = some ⟨b, off, none⟩)
    (hc : ∀ i, i < n → w.cell? ⟨b, off + i, none⟩ = some (.string (S i))) (hj : j < n) (hs : S j = s) :
    Calls Try.prog 13 #[.slice a0 n cap, .string s] w fun e w' => e = .returned (.bool true) ∧ w' = w := by
  obtain rfl := ha (by omega)
  have HC := hid hc
  clear hc ha
  go_enter Try.func13, Try.ntmps13
  go_wp2
  go_loop [5] (fun i => ∃ k : Nat, k ≤ j ∧ i = .int .i64 k) (fun i => n - (intOf i).toNat)
  case atStart => exact ⟨0, Nat.zero_le _, rfl⟩
  case round =>
    obtain ⟨k, hk, rfl⟩ := hrel
    have hck := HC.out k (by omega)
    by_cases hkj : k = j
    · subst hkj
      rw [hs] at hck
      go_wp2
      go_ret
      exact ⟨rfl, rfl⟩
    · go_wp2
      · go_ret
        exact ⟨rfl, rfl⟩
      · go_round
        case rel => exact ⟨k + 1, by omega, by go_num⟩
        case measure => simp [intOf]; omega

def rel (v a p : ByteArray) : Value := .agg #[.string v, .string a, .string p]
def sameK (v1 a1 v2 a2 : ByteArray) : Bool := (v1.toList == v2.toList) && (a1.toList == a2.toList)

theorem same_any (v1 a1 p1 v2 a2 p2 : ByteArray) (w : World) :
    Calls Try.prog 9 #[.agg #[.string v1, .string a1, .string p1], .agg #[.string v2, .string a2, .string p2]] w fun e w' => e = .returned (.bool (sameK v1 a1 v2 a2)) ∧ w' = (w.alloc (.cells #[.string v1, .string a1, .string p1] 25)).alloc (.cells #[.string v2, .string a2, .string p2] 25) := by
  cases h1 : (v1.toList == v2.toList) with
  | true =>
    have e : sameK v1 a1 v2 a2 = (a1.toList == a2.toList) := by simp [sameK, h1]
    rw [e]
    clear e
    go_enter Try.func9, Try.ntmps9
    go_wp2
    all_goals first | (exfalso; simp_all; done) | (go_ret; exact ⟨rfl, rfl⟩)
  | false =>
    have e : sameK v1 a1 v2 a2 = false := by simp [sameK, h1]
    rw [e]
    clear e
    go_enter Try.func9, Try.ntmps9
    go_wp2
    all_goals first | (exfalso; simp_all; done) | (go_ret; exact ⟨rfl, rfl⟩)

def verOf (s : ByteArray) : Array Value := #[.int .i64 0, .int .i64 0, .int .i64 0, .string ⟨#[]⟩, .string s, .string ⟨#[]⟩]

theorem newv_any (s : ByteArray) (w : World) :
    Calls Try.prog 16 #[.string s] w fun e w' => e = .returned (.agg #[.int .i64 0, .int .i64 0, .int .i64 0, .string ⟨#[]⟩, .string s, .string ⟨#[]⟩]) ∧ w' = w.alloc (.cells #[.int .i64 0, .int .i64 0, .int .i64 0, .string ⟨#[]⟩, .string s, .string ⟨#[]⟩] 39) := by
  go_enter Try.func16, Try.ntmps16
  go_wp2
  refine bodyPost_ret (v := .agg #[.int .i64 0, .int .i64 0, .int .i64 0, .string ⟨#[]⟩, .string s, .string ⟨#[]⟩]) (by simp [results, Try.results16, go_sem]) rfl ⟨rfl, ?_⟩
  rfl

theorem Try.info43 : (Try.prog.info? 43).map (fun i => (i.zero, i.size, i.bytes)) = some (some (.agg #[.int .i64 0, .int .i64 0, .int .i64 0, .string ⟨#[]⟩, .string ⟨#[]⟩, .string ⟨#[]⟩, .string ⟨#[]⟩, .string ⟨#[]⟩, .map none, .slice none 0 0]), 10, 136) := by kernel_rfl

/-- the ten cells of one Release -/
def relCell (v a p : ByteArray) : List Value := [.int .i64 0, .int .i64 0, .int .i64 0, .string ⟨#[]⟩, .string v, .string ⟨#[]⟩, .string a, .string p, .map none, .slice none 0 0]
def relCells (V A L : Nat → ByteArray) (n : Nat) : List Value := (List.range n).flatMap fun i => relCell (V i) (A i) (L i)
theorem relCells_succ (V A L : Nat → ByteArray) (n : Nat) : relCells V A L (n + 1) = relCells V A L n ++ relCell (V n) (A n) (L n) := by
  simp [relCells, List.range_succ]

theorem undrew {x y : World} {r : Option Nat} (h : x.drew.grownBy y r) : x.grownBy y r := ⟨h.os, h.tape, h.output, h.size, h.block⟩

theorem news_two (w : World) (o1 : Obj) (cs : Array Value) (t : TypeId) : ∀ j u, cs.toList[j]? = some u → (((w.alloc o1).alloc (.cells cs t)).drew).cell? ((⟨w.heap.size + 1, 0, none⟩ : Addr).add j) = some u := by
  intro j u hj
  have e : ((w.alloc o1).alloc (.cells cs t)).drew.heap[w.heap.size + 1]? = some (.cells cs t (0, 0)) := by
    show ((w.heap.push o1).push (.cells cs t))[w.heap.size + 1]? = _
    rw [Array.getElem?_push, if_pos (by simp)]
  have e2 : ((⟨w.heap.size + 1, 0, none⟩ : Addr).add j) = ⟨w.heap.size + 1, j, none⟩ := by
    by_cases h : j = 0
    · subst h; rfl
    · simp [Addr.add, h]
  rw [e2]
  simp only [World.cell?, e]
  simpa using hj

set_option maxRecDepth 100000 in
set_option maxHeartbeats 3200000 in
theorem build_any (g k0 cap base : Nat) (xs : List Value) (a0 : Option Addr) (b off len rcap : Nat) (V A L : Nat → ByteArray) (w : World) (hl : len ≤ 1048576) (ha : 0 < len → a0 = some ⟨b, off, none⟩) (hr : Rels w b off len V A L)
    (hb : 0 < len → b < base) (hbs : base ≤ w.heap.size) (hown : w.ownsRow base 43 10 (.slice (some ⟨g, 0, none⟩) k0 cap) k0 xs) (hcap : k0 + len ≤ cap) :
    Calls Try.prog 7 #[.slice (some ⟨g, 0, none⟩) k0 cap, .slice a0 len rcap] w fun e w' => e = .returned (.slice (some ⟨g, 0, none⟩) (k0 + len) cap) ∧
      w'.ownsRow base 43 10 (.slice (some ⟨g, 0, none⟩) (k0 + len) cap) (k0 + len) (xs ++ relCells V A L len) ∧ w.grownBy w' (some g) := by
  obtain ⟨i0, hi, hz0, hz1, hz2⟩ := info_parts Try.info43
  have HA := hid ha
  have HR := hid hr
  have HB := hid hb
  have HO := hid hown
  clear ha hr hb hown
  go_enter Try.func7, Try.ntmps7
  go_wp2
  go_loopw [0, 8] (fun v i wr => ∃ k : Nat, k ≤ len ∧ i = .int .i64 k ∧ v = .slice (some ⟨g, 0, none⟩) (k0 + k) cap ∧ Hid (wr.ownsRow base 43 10 (.slice (some ⟨g, 0, none⟩) (k0 + k) cap) (k0 + k) (xs ++ relCells V A L k)) ∧ Hid (w.grownBy wr (some g))) (fun _ i _ => len - (intOf i).toNat)
  case atStart => exact ⟨0, Nat.zero_le _, rfl, rfl, by simpa [relCells, Hid] using HO.out, World.grownBy.refl _ _⟩
  case round =>
    obtain ⟨k, hk, rfl, rfl, HOk, HG⟩ := hrel
    by_cases hlt : k < len
    · obtain rfl := HA.out (by omega)
      obtain ⟨c0, c1, c2, _, _, _⟩ := HR.out k hlt
      have hgb : base ≤ g := by
        rcases HOk.out.2 with ⟨h, _⟩ | ⟨g', cp, cur, hv, hbg, _⟩
        · cases h
        · simp only [Value.slice.injEq, Option.some.injEq, Addr.mk.injEq] at hv
          omega
      have hbb := HB.out (by omega)
      have hne : some b ≠ some g := by simp; omega
      have r0 : wr.cell? ⟨b, off + k * 3, none⟩ = some (.string (V k)) := (World.cell?_of_block (a := ⟨b, off + k * 3, none⟩) (HG.out.block b (by omega) hne)).trans c0
      have r1 : wr.cell? ⟨b, off + k * 3 + 1, none⟩ = some (.string (A k)) := (World.cell?_of_block (a := ⟨b, off + k * 3 + 1, none⟩) (HG.out.block b (by omega) hne)).trans c1
      have r2 : wr.cell? ⟨b, off + k * 3 + 2, none⟩ = some (.string (L k)) := (World.cell?_of_block (a := ⟨b, off + k * 3 + 2, none⟩) (HG.out.block b (by omega) hne)).trans c2
      have hszr : w.heap.size ≤ wr.heap.size := HG.out.size
      have hbr : b < wr.heap.size := by omega
      have hi0' : (0 : Int) ≤ (k : Int) := Int.natCast_nonneg _
      have hi1 : (k : Int) < (len : Int) := by omega
      clear c0 c1 c2
      go_wp2_with fail
      go_region_held3 (fun w' => w'.cell? ⟨b, off + k * 3, none⟩ = some (.string (V k)) ∧ w'.cell? ⟨b, off + k * 3 + 1, none⟩ = some (.string (A k)) ∧ w'.cell? ⟨b, off + k * 3 + 2, none⟩ = some (.string (L k)))
        (first | go_keep | (go_split_ands; refine ⟨?_, ?_, ?_⟩ <;> (rw [hgrow.cell_far _ (by simp; omega) hne]; go_keep)))
        (first | (go_at_call 16; refine (newv_any _ _).mono ?_; rintro e w' ⟨rfl, rfl⟩) | (refine step_append_fits _ (by rfl) (.tmp 11) (.tmp 29) 27 (by rfl) base 43 i0 10 Try.underlying27 hi hz1 g (k0 + k) cap _ (by rfl) (by exact ((HOk.out.alloc _).alloc _).drew) ⟨wr.heap.size + 1, 0, none⟩ 1 1 (relCell (V k) (A k) (L k)) (by rfl) (by rfl) (by exact news_two wr _ _ _) (by simp [relCell, Value.oneCell']) (by omega) ?_; intro w1 hown1 hgrow))
      have hown2 : Hid (w1.ownsRow base 43 10 (.slice (some ⟨g, 0, none⟩) (k0 + (k + 1)) cap) (k0 + (k + 1)) (xs ++ relCells V A L (k + 1))) := by
        rw [relCells_succ, ← List.append_assoc]; exact hown1
      have hg2 : Hid (w.grownBy w1 (some g)) := HG.out.trans ((((World.grownBy_alloc wr _ _).trans (World.grownBy_alloc _ _ _))).trans (undrew hgrow))
      clear hown1 hgrow
      go_wp2
      go_roundw
      case rel => exact ⟨k + 1, by omega, by go_num, rfl, hown2, hg2⟩
      case measure => simp [intOf]; omega
    · obtain rfl : k = len := by omega
      go_wp2
      go_ret
      exact ⟨rfl, HOk.out, HG.out⟩

end Go.Proofs.Qxb6628738a
