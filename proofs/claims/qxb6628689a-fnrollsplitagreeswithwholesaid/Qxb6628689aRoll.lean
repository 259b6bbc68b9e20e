/-
  Roll (18).
-/
import Derived.Test.Qxb6628689aKv
import Derived.Maps.RangeWalk
namespace Go.Proofs.Qxb6628689a
open Go.RowKit
open Go.Maps (Keyed)

theorem Sto.drew {w : World} {U : List ByteArray} {st ms ml : Nat} {σ : St} (h : Sto w U st ms ml σ) : Sto w.drew U st ms ml σ := h.kept (X := fun _ => False) (But.refl _ _).drew id id id (fun _ h => h.elim)
theorem Bytes.drew {w : World} {v : Value} {xs : List Int} (h : Bytes w v xs) : Bytes w.drew v xs := h.kept (X := fun _ => False) (But.refl _ _).drew (fun _ h => h.elim)
theorem keyOf_str_inv {key : Value} {kl : Lit} (h : keyOf Try.prog 9 key = some kl) : ∃ x, key = .string x := by
  cases key <;> simp [keyOf, Try.underlying9, mapKey] at h
  exact ⟨_, rfl⟩
theorem keyOf_str_lit {x : ByteArray} {kl : Lit} (h : keyOf Try.prog 9 (.string x) = some kl) : kl = .string x.data.toList := by
  simp [keyOf, Try.underlying9, mapKey] at h
  exact h.2.symm
theorem sameKey_str (x y : ByteArray) : Lit.sameKey (.string x.data.toList) (.string y.data.toList) = decide (x = y) := by
  by_cases h : x = y
  · subst h; simp [Lit.sameKey]
  · have : ¬ x.data = y.data := fun e => h (by cases x; cases y; simp_all)
    simp [Lit.sameKey, h, this]
def lit (k : ByteArray) : Lit := .string k.data.toList
def now (σ : St) (R : Rm) (left : Lit → Bool) : St := fun k => if left (lit k) then σ k else over σ R k
/-- one entry that has come is laid down -/
theorem now_step {σ : St} {R : Rm} {left : Lit → Bool} {x : ByteArray} {o : Option (List Int)} (hR : R x = some o) : ∀ k, sput (now σ R left) x o k = now σ R (fun z => left z && !z.sameKey (lit x)) k := fun k => by
  by_cases e : k = x
  · subst e
    simp [sput, now, over, lit, Lit.sameKey, hR]
  · have : Lit.sameKey (lit k) (lit x) = false := by rw [lit, lit, sameKey_str]; simp [e]
    simp [sput, now, e, this]

/-- an entry that the step has handed out is one of the map's -/
theorem came {w : World} {mr n N : Nat} {M : ByteArray → Option Value} {D : DataW Value} {x : ByteArray} {c : Value} {kl : Lit} (h2 : ∀ x kl, keyOf Try.prog 9 (Value.string x) = some kl → Maps.has D kl = (M x).isSome ∧ ∀ v z, M x = some v → D.atKey kl z = .held v)
    (_hm : MapIs Try.prog w 9 Value.string mr n M N) (hk : keyOf Try.prog 9 (.string x) = some kl) (hat : ∀ zd, D.atKey kl zd = .held c) : M x = some c := by
  obtain ⟨e1, e2⟩ := h2 x kl hk
  cases hM : M x with
  | none =>
    rw [hM] at e1
    have h := Maps.atKey_of_not_has (z := DataW.map []) e1
    rw [hat] at h
    cases h
  | some u =>
    have := (hat (.map [])).symm.trans (e2 u (.map []) hM)
    rw [DataW.held.inj this]

theorem ranges_of {w w' : World} {b r n : Nat} {D : DataW Value} {left : Lit → Bool} {cnt : Nat} (h : w.ranges Try.prog 9 raw b r n D left cnt) (hb : w'.heap[b]? = w.heap[b]?) (hr : w'.heap[r]? = w.heap[r]?) : w'.ranges Try.prog 9 raw b r n D left cnt := by
  obtain ⟨es, clock, since, seen, c0, h1, F, hs, hD, h2, rest⟩ := h
  exact ⟨es, clock, since, seen, c0, hb.trans h1, F, hs, hD, hr.trans h2, rest⟩
theorem ranges_iter {w : World} {b r n : Nat} {D : DataW Value} {left : Lit → Bool} {cnt : Nat} (h : w.ranges Try.prog 9 raw b r n D left cnt) : ¬ Rowish w r := by
  obtain ⟨es, clock, since, seen, c0, h1, F, hs, hD, h2, rest⟩ := h
  rintro ⟨arr, ha⟩
  rw [h2] at ha; cases ha
theorem Sto.lt {w : World} {U : List ByteArray} {st ms ml : Nat} {σ : St} (h : Sto w U st ms ml σ) : st < w.heap.size ∧ ms < w.heap.size ∧ ml < w.heap.size := by
  obtain ⟨hne, hblk, S, L, NS, NL, hS, hL, hN, hA⟩ := h
  exact ⟨lt_of_heap hblk, hS.lt, hL.lt⟩
theorem Rp.lt {w : World} {U : List ByteArray} {lo mr : Nat} {R : Rm} (h : Rp w U lo mr R) : mr < w.heap.size := by
  obtain ⟨M, N, h1, _⟩ := h
  exact h1.lt

set_option maxRecDepth 100000 in
set_option maxHeartbeats 1600000 in
theorem roll_any (U : List ByteArray) (st ms ml un mr lo : Nat) (σ : St) (R : Rm) (w : World) (hU : Uni U) (hun : w.heap[un]? = some (.cells #[.pointer (some ⟨st, 0, none⟩), .map (some mr)] 55 (0, 0))) (hR : Rp w U lo mr R) (hn1 : mr ≠ ms) (hn2 : mr ≠ ml) (h : Sto w U st ms ml σ) :
    Calls Try.prog 18 #[.pointer (some ⟨un, 0, none⟩)] w fun e w' => e = .returned (.tuple #[]) ∧ Sto w' U st ms ml (over σ R) ∧ But (Two ms ml) w w' := by
  have HRP := hid hR
  obtain ⟨M, N, hM, hdom, hNU, hRA⟩ := hR
  have HMM := hid hM
  obtain ⟨D, hown, h2, h3⟩ := hM
  have hc0 : w.cell? ⟨un, 1, none⟩ = some (.map (some mr)) := by simp [World.cell?, hun]
  have HU := hid hU
  have HUN := hid hun
  have HN1 := hid hn1
  have HN2 := hid hn2
  have H := hid h
  have HDOM := hid hdom
  have HRA := hid hRA
  have H2 := hid h2
  have HOWN := hid hown
  have HL0 : Hid (∀ k ∈ U, Maps.has D (lit k) = (M k).isSome) := fun k hk => (h2 k _ (str_key k (by have := hU.short k hk; unfold maxLen; omega))).1
  have HRS := hid hown.lt
  clear hU hun hn1 hn2 h hdom hRA h2 hNU h3 hown
  go_enter Try.func18, Try.ntmps18
  go_wp2_with (first
    | (at_range; refine wpList_range_own _ rfl _ 39 rfl 9 40 lawS Try.underlying39 _ mr N D rfl HOWN.out ?_; intro w0 hrg0 hg0 hs0))
  go_frame
  have hb0 : Below w.heap.size w w0 := ⟨hg0.os, hg0.tape, hg0.output, hg0.size, fun k hk => hg0.block k hk (by simp)⟩
  have HRG0 := hid hrg0
  have HB0 := hid hb0
  clear hrg0 hg0 hb0 hs0 hc0
  generalize hr : w.heap.size = r
  have HR0 : Hid (w.heap.size = r) := hr
  rw [hr] at HRG0
  clear hr
  go_loopw [2] (fun _ wr => ∃ (left : Lit → Bool) (cnt : Nat), wr.ranges Try.prog 9 raw mr r N D left cnt ∧ Hid (Sto wr U st ms ml (now σ R left) ∧ But (Two ms ml) w wr))
    (fun _ wr => wr.rangeLeft mr r)
  case atStart =>
    refine ⟨_, _, HRG0.out, (H.out.below HB0.out).congr (fun k hk => ?_), But.of_below HB0.out⟩
    unfold now
    rw [HL0.out k hk]
    have hra := HRA.out k hk
    cases hMk : M k with
    | none =>
      rw [hMk] at hra
      have : R k = none := by
        rcases hRk : R k with _ | _ | xs
        · rfl
        · rw [hRk] at hra; cases hra
        · rw [hRk] at hra; obtain ⟨p, sl, h, _⟩ := hra; cases h
      simp [over, this]
    | some v => simp
  case round =>
    obtain ⟨left, cnt, hrg, HI⟩ := hrel
    have HRG := hid hrg
    clear hrg
    go_wp2_with (first
      | (at_next; refine wpList_next_ranges _ rfl _ rfl 9 lawS raw Value.string id (fun key kl hk => keyOf_str_inv hk) (fun v y hv => ⟨v, rfl⟩) mr r N D left cnt rfl HRG.out ?_ ?_))
    · intro hc0 hl0
      have HL := hid hl0
      clear hc0 hl0
      go_wp2
      go_end0
      exact ⟨rfl, HI.out.1.congr (fun k _ => by simp [now, HL.out]), HI.out.2⟩
    · intro x c kl y1 y2 w1 cnt1 hkey hlk hrw hat hrg1 hlt hg1 hs1 hen
      simp only [raw, Option.some.injEq, Prod.mk.injEq] at hrw
      obtain ⟨rfl, rfl⟩ := hrw
      have hMx : M x = some c := came H2.out HMM.out hkey hat
      obtain rfl := keyOf_str_lit hkey
      have hx : x ∈ U := HDOM.out x (by rw [hMx]; rfl)
      have hb1 : But (· = r) wr w1 := ⟨hg1.os, hg1.tape, hg1.output, hg1.size, fun k hk hne => hg1.block k hk (by simp; exact hne)⟩
      have hbw1 : But (Two ms ml) w w1 := HI.out.2.own (hb1.mono (fun k _ e => Or.inr (by rw [HR0.out, e]; exact Nat.le_refl _)))
      obtain ⟨l1, l2, l3⟩ := H.out.lt
      have l4 := HRP.out.lt
      rw [HR0.out] at l1 l2 l3 l4
      have hS1 : Sto w1 U st ms ml (now σ R left) := HI.out.1.kept hb1 (by omega) (by omega) (by omega) (fun k e => by rw [e]; exact ranges_iter HRG.out)
      have hR1 : Rp w1 U lo mr R := HRP.out.kept hbw1 (fun h => h.elim HN1.out HN2.out) (H.out.two_apart lo)
      have hra := (HRA.out x hx).kept hbw1 (H.out.two_apart lo)
      rw [hMx] at hra
      have hune : ¬ Two ms ml un := (fun h => by
        rcases h with rfl | rfl
        · obtain ⟨_, _, S, L, NS, NL, hS, hL, _⟩ := H.out; obtain ⟨es, c, hm⟩ := hS.isMap; rw [HUN.out] at hm; cases hm
        · obtain ⟨_, _, S, L, NS, NL, hS, hL, _⟩ := H.out; obtain ⟨es, c, hm⟩ := hL.isMap; rw [HUN.out] at hm; cases hm)
      have hun1 : w1.heap[un]? = some (.cells #[.pointer (some ⟨st, 0, none⟩), .map (some mr)] 55 (0, 0)) := hbw1.heap HUN.out hune
      have HUNE := hid hune
      have HUN1 := hid hun1
      have c0 : w1.cell? ⟨un, 0, none⟩ = some (.pointer (some ⟨st, 0, none⟩)) := by simp [World.cell?, hun1]
      have hfin : ∀ w2 o, R x = some o → Sto w2 U st ms ml (sput (now σ R left) x o) → But (Two ms ml) w1 w2 →
          w2.ranges Try.prog 9 raw mr r N D (fun z => left z && !z.sameKey (lit x)) cnt1 ∧ (Sto w2 U st ms ml (now σ R (fun z => left z && !z.sameKey (lit x))) ∧ But (Two ms ml) w w2) := fun w2 o hRx h1 h2 =>
        ⟨ranges_of hrg1 (h2.block mr (Nat.lt_of_lt_of_le (Nat.lt_of_lt_of_le HRP.out.lt HI.out.2.size) hb1.size) (fun h => h.elim HN1.out HN2.out)) (h2.block r hrg1.lt (fun h => by rcases h with e | e <;> omega)), h1.congr (fun k _ => now_step hRx k), hbw1.trans h2⟩
      have HFIN := hid hfin
      have HS1 := hid hS1
      have HLT := hid hlt
      have HX := hid hx
      clear hMx hkey hlk hat hrg1 hlt hg1 hs1 hb1 hbw1 l1 l2 l3 l4 hS1 hR1 hun1 hfin hx hune
      rcases hRx : R x with _ | _ | xs
      · rw [hRx] at hra; cases hra
      · rw [hRx] at hra
        obtain rfl := Option.some.inj hra
        have HRX := hid hRx
        clear hra hRx
        go_wp2_with fail
        refine (remove_any x U st ms ml _ w1 HU.out HX.out HS1.out).mono ?_
        rintro e w2 ⟨rfl, h1, h2⟩
        have HF := hid (HFIN.out w2 none HRX.out h1 h2)
        clear h1 h2 c0 hen
        go_wp2
        go_roundw
        case rel => exact ⟨_, cnt1, HF.out.1, HF.out.2⟩
        case measure => rw [HF.out.1.left_eq, HRG.out.left_eq]; exact HLT.out
      · rw [hRx] at hra
        obtain ⟨p, sl, hc, hlo, hp, hby⟩ := hra
        obtain rfl := Option.some.inj hc
        have c1 : w1.cell? ⟨p, 0, none⟩ = some sl := by simp [World.cell?, hp]
        have HRX := hid hRx
        have HBY := hid hby
        have hk1 : ∀ w2, But (Two ms ml) w1.drew w2 → w2.cell? ⟨un, 0, none⟩ = some (.pointer (some ⟨st, 0, none⟩)) ∧ w2.cell? ⟨p, 0, none⟩ = some sl := fun w2 h2 => by
          have hb := (But.refl (Two ms ml) w1).drew.trans h2
          have e1 := hb.heap HUN1.out HUNE.out
          have e2 := hb.heap hp (fun h => (HS1.out.two_apart lo p h).2 ⟨hlo, sl, hp⟩)
          constructor
          · simp [World.cell?, e1]
          · simp [World.cell?, e2]
        have HK1 := hid hk1
        clear hc hlo hp hby hRx hk1
        go_wp2_with fail
        go_region_held3 (fun w' => w'.cell? ⟨un, 0, none⟩ = some (.pointer (some ⟨st, 0, none⟩)) ∧ w'.cell? ⟨p, 0, none⟩ = some sl)
          (go_keep)
          (first | (go_at_call 21; refine (set_any x sl xs U st ms ml _ _ HU.out HX.out HBY.out.drew HS1.out.drew).mono ?_; rintro e w2 ⟨rfl, h1, h2⟩; obtain ⟨d0, d1⟩ := HK1.out w2 h2; have HF := hid (HFIN.out w2 _ HRX.out h1 ((But.refl (Two ms ml) w1).drew.trans h2)); clear h1 h2))
        go_wp2
        go_roundw
        case rel => exact ⟨_, cnt1, HF.out.1, HF.out.2⟩
        case measure => rw [HF.out.1.left_eq, HRG.out.left_eq]; exact HLT.out
end Go.Proofs.Qxb6628689a
