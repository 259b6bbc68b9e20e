/-
  zzUpperHexValue's and zzDecodeCanonXtext's contracts (the latter at a text that EncodeXtext wrote); THE WALK OF FnEncodeXtextDecodesBackCanonically.
-/
import Derived.Test.Qxb6628765aWalks
import Derived.Deep.RegionWith
import Derived.Maps.AppendAt
namespace Go.Proofs.Qxb6628765a
open Go.RowKit Plain

/-! ### plain: where the next byte's code lies -/
def posOf (l : List UInt8) (k : Nat) : Nat := (enc (l.take k)).length

theorem enc_one (c : UInt8) : enc [c] = if isX c.toNat then [c] else [43, UInt8.ofNat (hexd (c.toNat / 16)), UInt8.ofNat (hexd (c.toNat % 16))] := by
  simp only [enc, nats, encN, enc1, List.map_cons, List.map_nil, List.flatMap_cons, List.flatMap_nil, List.append_nil]
  split
  · simp
  · rfl

theorem enc_split (l : List UInt8) (k : Nat) (h : k < l.length) : enc l = enc (l.take k) ++ (enc [l[k]] ++ enc (l.drop (k + 1))) := by
  rw [← enc_append, ← enc_append]
  congr 1
  rw [List.singleton_append, ← List.drop_eq_getElem_cons h, List.take_append_drop]

theorem posOf_succ (l : List UInt8) (k : Nat) (h : k < l.length) : posOf l (k + 1) = posOf l k + (enc [l[k]]).length := by
  unfold posOf
  rw [List.take_succ_eq_append_getElem h, enc_append, List.length_append]

theorem posOf_end (l : List UInt8) (k : Nat) (h : l.length ≤ k) : posOf l k = (enc l).length := by
  unfold posOf; rw [List.take_of_length_le h]

theorem enc_len_ge (l : List UInt8) : l.length ≤ (enc l).length := by have := enc_length l; omega

theorem at_plain (l : List UInt8) (k : Nat) (h : k < l.length) (hx : isX l[k].toNat = true) :
    posOf l k < (enc l).length ∧ (enc l)[posOf l k]? = some l[k] ∧ posOf l (k + 1) = posOf l k + 1 := by
  have e1 : enc [l[k]] = [l[k]] := by rw [enc_one, if_pos hx]
  have e2 := enc_split l k h
  have e3 := posOf_succ l k h
  rw [e1] at e2 e3
  refine ⟨?_, ?_, e3⟩
  · rw [e2]; simp [posOf]
  · rw [e2, List.getElem?_append_right (by simp [posOf])]; simp [posOf]

theorem at_hex (l : List UInt8) (k : Nat) (h : k < l.length) (hx : isX l[k].toNat = false) :
    posOf l k + 3 ≤ (enc l).length ∧ (enc l)[posOf l k]? = some 43 ∧ (enc l)[posOf l k + 1]? = some (UInt8.ofNat (hexd (l[k].toNat / 16))) ∧ (enc l)[posOf l k + 2]? = some (UInt8.ofNat (hexd (l[k].toNat % 16))) ∧ posOf l (k + 1) = posOf l k + 3 := by
  have e1 : enc [l[k]] = [43, UInt8.ofNat (hexd (l[k].toNat / 16)), UInt8.ofNat (hexd (l[k].toNat % 16))] := by rw [enc_one, if_neg (by simp [hx])]
  have e2 := enc_split l k h
  have e3 := posOf_succ l k h
  rw [e1] at e2 e3
  refine ⟨?_, ?_, ?_, ?_, e3⟩
  · rw [e2]; simp [posOf]
  · rw [e2, List.getElem?_append_right (by simp [posOf])]; simp [posOf]
  · rw [e2, List.getElem?_append_right (by simp [posOf])]
    have : posOf l k + 1 - (enc (l.take k)).length = 1 := by simp only [posOf]; omega
    rw [this]; rfl
  · rw [e2, List.getElem?_append_right (by simp [posOf])]
    have : posOf l k + 2 - (enc (l.take k)).length = 2 := by simp only [posOf]; omega
    rw [this]; rfl

theorem ba_at (x : List UInt8) (p : Nat) (c : UInt8) (h : x[p]? = some c) (hp : p < (⟨x.toArray⟩ : ByteArray).size) : ((⟨x.toArray⟩ : ByteArray)[p]'hp) = c := by
  have hp' : p < x.length := hp
  rw [List.getElem?_eq_getElem hp'] at h
  exact Option.some.inj h

theorem t_at {x : List UInt8} {t : ByteArray} (ht : t = ⟨x.toArray⟩) {p : Nat} {c : UInt8} (h : x[p]? = some c) (hp : p < t.size) : (t[p]'hp).toNat = c.toNat := by
  subst ht; rw [ba_at x p c h hp]

theorem toNat_hexd (q : Nat) (h : q < 16) : (UInt8.ofNat (hexd q)).toNat = hexd q := by
  have := hexd_lt q h
  rw [UInt8.toNat_ofNat']; omega

/-! ### the contracts -/
theorem upper_any (q : Nat) (w : World) (hq : q < 16) :
    Calls Try.prog 15 #[.int .u8 (hexd q : Int)] w fun e w' => e = .returned (.tuple #[.int .i64 (q : Int), .bool true]) ∧ w' = w := by
  by_cases h : q < 10
  · have e : hexd q = 48 + q := by unfold hexd; rw [if_pos h]
    rw [e]
    clear e
    have e2 : ((48 + q : Nat) : Int) = 48 + (q : Int) := by omega
    rw [e2]
    clear e2
    go_enter Try.func15, Try.ntmps15
    go_wp2
    all_goals first | (exfalso; omega) | (go_ret2; exact ⟨by simp; omega, rfl⟩)
  · have e : hexd q = 55 + q := by unfold hexd; rw [if_neg h]
    rw [e]
    clear e
    have e2 : ((55 + q : Nat) : Int) = 55 + (q : Int) := by omega
    rw [e2]
    clear e2
    go_enter Try.func15, Try.ntmps15
    go_wp2
    all_goals first | (exfalso; omega) | (go_ret2; exact ⟨by simp; omega, rfl⟩)

theorem addr_add (b j : Nat) : (⟨b, 0, none⟩ : Addr).add j = ⟨b, j, none⟩ := by
  by_cases h : j = 0
  · subst h; rfl
  · simp [Addr.add, h]

theorem Try.info5 : (Try.prog.info? 5).map (fun i => (i.zero, i.size, i.bytes)) = some (some (.int .u8 0), 1, 1) := by kernel_rfl

def cellsOf (l : List UInt8) : List Value := l.map fun c => Value.int .u8 (c.toNat : Int)

theorem cellsOf_snoc (l : List UInt8) (k : Nat) (h : k < l.length) : cellsOf (l.take k) ++ [.int .u8 (l[k].toNat : Int)] = cellsOf (l.take (k + 1)) := by
  unfold cellsOf
  rw [List.take_succ_eq_append_getElem h, List.map_append]; rfl

set_option maxRecDepth 100000 in
set_option maxHeartbeats 1000000 in
theorem decode_any (l : List UInt8) (t : ByteArray) (w : World) (hl : l.length ≤ 1048576) (ht : t = ⟨(enc l).toArray⟩) :
    Calls Try.prog 7 #[.string t] w fun e w' => e = .returned (.tuple #[.string ⟨l.toArray⟩, .bool true]) ∧ Below w.heap.size w w' := by
  have hts : t.size = (enc l).length := by rw [ht]; rfl
  have hup : t.size ≤ 3145728 := by have := enc_length l; have := esc_le l; omega
  have hge : l.length ≤ t.size := by rw [hts]; exact enc_len_ge l
  have HT := hid ht
  have HTS := hid hts
  clear ht hts
  obtain ⟨i0, hi, hz0, hz1, hz2⟩ := info_parts Try.info5
  go_enter Try.func7, Try.ntmps7
  go_wp2_with (at_make; refine wpList_make_own _ rfl (.const (.int .i64 0)) (.tmp 13) 29 rfl w.heap.size 5 i0 (.int .u8 0) 1 Try.underlying29 hi hz0 hz1 .i64 .i64 _ t.size rfl rfl rfl (by rw [hz2]; omega) (by unfold maxLen; omega) (Nat.le_refl _) ?_; intro w1 hown1 hgrow1)
  have hb1 := (Below.refl w.heap.size w).grown hgrow1 (Nat.le_refl _) (fun k h => by cases h)
  clear hgrow1
  go_loopw [4, 5] (fun v i wr => ∃ k p : Nat, k ≤ l.length ∧ p ≤ t.size ∧ Hid (p = posOf l k) ∧ i = .int .i64 p ∧ v = .slice (some ⟨w.heap.size, 0, none⟩) k t.size ∧ wr.ownsRow w.heap.size 5 1 (.slice (some ⟨w.heap.size, 0, none⟩) k t.size) k (cellsOf (l.take k)) ∧ Below w.heap.size w wr) (fun _ i _ => t.size - (intOf i).toNat)
  case atStart => exact ⟨0, 0, Nat.zero_le _, Nat.zero_le _, rfl, rfl, rfl, hown1, hb1⟩
  case round =>
    clear hown1 hb1
    obtain ⟨k, p, hk, hp, HP, rfl, rfl, hown, hbk⟩ := hrel
    have hsz := hbk.size
    by_cases hlt : k < l.length
    · have hc := l[k].toNat_lt
      cases hx : isX l[k].toNat with
      | true =>
        obtain ⟨q1, q2, q3⟩ := at_plain l k hlt hx
        rw [← HP.out] at q1 q2 q3
        have hpt : p < t.size := by rw [HTS.out]; exact q1
        have htp : t[p].toNat = l[k].toNat := t_at HT.out q2 hpt
        obtain ⟨n, hn⟩ : ∃ n, n = l[k].toNat := ⟨_, rfl⟩
        have HN := hid hn
        rw [← hn] at htp hc
        have hne : ((n : Int) != 43) = true := by
          have := ((isX_iff _).1 hx).2.2.1
          simp; omega
        have HX : Hid (isX n = true) := by rw [hn]; exact hx
        have Q3 := hid q3
        have HO := hid hown
        clear q1 q2 q3 hx hn hown
        go_wp2_with (first | (go_at_call 14; refine (plain_any _ _).mono ?_; rintro e w' ⟨rfl, hw'⟩; obtain rfl := hw'.symm; clear hw'; rw [HX.out]) | (at_builtin; refine wpList_append_fits _ rfl (.tmp 27) (.tmp 29) 29 rfl w.heap.size 5 i0 1 Try.underlying29 hi hz1 w.heap.size k t.size _ rfl (HO.out.alloc _) ⟨wr.heap.size, 0, none⟩ 1 1 [.int .u8 (n : Int)] rfl rfl (cell_one_new _ _ _) (by simp [Value.oneCell']) (by omega) ?_; intro w6 hown6 hgrow6))
        have hb6 : Below w.heap.size w w6 := (hbk.alloc hsz _).grown hgrow6 (by simp; omega) (fun k h => by cases h; exact Nat.le_refl _)
        rw [HN.out, cellsOf_snoc l k hlt] at hown6
        go_roundw
        case rel => exact ⟨k + 1, p + 1, by omega, by omega, Q3.out.symm, by go_num, rfl, hown6, hb6⟩
        case measure => simp [intOf]; omega
      | false =>
        obtain ⟨q1, q2, q3, q4, q5⟩ := at_hex l k hlt hx
        rw [← HP.out] at q1 q2 q3 q4 q5
        have hpt : p + 3 ≤ t.size := by rw [HTS.out]; exact q1
        have hp0 : p < t.size := by omega
        have hp1 : p + 1 < t.size := by omega
        have hp2 : p + 2 < t.size := by omega
        have htp : (t[p]'hp0).toNat = 43 := t_at HT.out q2 hp0
        have htq : (t[p + 1]'hp1).toNat = hexd (l[k].toNat / 16) := (t_at HT.out q3 hp1).trans (toNat_hexd _ (by omega))
        have htr : (t[p + 2]'hp2).toNat = hexd (l[k].toNat % 16) := (t_at HT.out q4 hp2).trans (toNat_hexd _ (by omega))
        obtain ⟨n, hn⟩ : ∃ n, n = l[k].toNat := ⟨_, rfl⟩
        have HN := hid hn
        rw [← hn] at htq htr hc
        have HX : Hid (isX n = false) := by rw [hn]; exact hx
        have Q3 := hid q5
        have HO := hid hown
        obtain ⟨x1, hx1⟩ : ∃ x, x = n / 16 := ⟨_, rfl⟩
        obtain ⟨x2, hx2⟩ : ∃ x, x = n % 16 := ⟨_, rfl⟩
        rw [← hx1] at htq
        rw [← hx2] at htr
        have b1 : x1 < 16 := by omega
        have b2 : x2 < 16 := by omega
        have HS : Hid ((x1 : Int) * 16 + (x2 : Int) = (n : Int)) := by show _ = _; omega
        clear q1 q2 q3 q4 q5 hx hn hown hx1 hx2
        go_wp2_with (first | (go_at_call_of 15 (Value.int .u8 (hexd x1 : Int)); refine (upper_any x1 _ b1).mono ?_; rintro e w' ⟨rfl, hw'⟩; obtain rfl := hw'.symm; clear hw') | (go_at_call_of 15 (Value.int .u8 (hexd x2 : Int)); refine (upper_any x2 _ b2).mono ?_; rintro e w' ⟨rfl, hw'⟩; obtain rfl := hw'.symm; clear hw'))
        rw [HS.out]
        refine (plain_any _ _).mono ?_
        rintro e w' ⟨rfl, hw'⟩; obtain rfl := hw'.symm; clear hw'; rw [HX.out]
        go_wp2_with (at_builtin; refine wpList_append_fits _ rfl (.tmp 67) (.tmp 69) 29 rfl w.heap.size 5 i0 1 Try.underlying29 hi hz1 w.heap.size k t.size _ rfl (HO.out.alloc _) ⟨wr.heap.size, 0, none⟩ 1 1 [.int .u8 (n : Int)] rfl rfl (cell_one_new _ _ _) (by simp [Value.oneCell']) (by omega) ?_; intro w6 hown6 hgrow6)
        have hb6 : Below w.heap.size w w6 := (hbk.alloc hsz _).grown hgrow6 (by simp; omega) (fun k h => by cases h; exact Nat.le_refl _)
        rw [HN.out, cellsOf_snoc l k hlt] at hown6
        go_roundw
        case rel => exact ⟨k + 1, p + 3, by omega, by omega, Q3.out.symm, by go_num, rfl, hown6, hb6⟩
        case measure => simp [intOf]; omega
    · obtain rfl : k = l.length := by omega
      have hpe : p = t.size := by rw [HP.out, HTS.out, posOf_end l _ (Nat.le_refl _)]
      have htk : l.take l.length = l := List.take_of_length_le (Nat.le_refl _)
      rw [htk] at hown
      have hconv := run_convert_bytes_back (P := Try.prog) wr 29 9 5 ⟨w.heap.size, 0, none⟩ t.size l Try.underlying29 Try.underlying5 Try.underlying9 (fun j hj => by
        have := hown.cellAt j (by omega)
        rw [addr_add, this]
        simp [cellsOf, List.getElem?_eq_getElem hj])
      clear hown htk HP HTS HT hlt hk
      subst hpe
      go_wp2
      go_ret2
      exact ⟨rfl, hbk⟩

set_option maxHeartbeats 400000 in
theorem walkD (a0 : ByteArray) (w0 : a0.size ≤ maxLen) (w : World) :
    Calls Try.prog 3 #[.string a0] w fun e w' => e = .returned (.bool true) ∧ Below w.heap.size w w' := by
  unfold maxLen at w0
  by_cases c0 : 1048576 < a0.size
  · go_enter Try.func3, Try.ntmps3
    go_wp2
    go_ret
    exact ⟨rfl, Below.refl _ _⟩
  · go_enter Try.func3, Try.ntmps3
    go_wp2_with (go_at_call 5; go_in)
    refine (encode_any a0 _ (by omega)).mono ?_
    rintro e wa ⟨rfl, hba⟩
    obtain ⟨ea, hea⟩ : ∃ ea : ByteArray, ea = ⟨(enc a0.data.toList).toArray⟩ := ⟨_, rfl⟩
    rw [← hea]
    have HEA := hid hea
    clear hea
    go_wp2_with fail
    refine (decode_any a0.data.toList ea _ (by simp; omega) HEA.out).mono ?_
    rintro e wb ⟨rfl, hbb⟩
    have hj : (⟨a0.data.toList.toArray⟩ : ByteArray) = a0 := by apply ByteArray.ext; simp
    rw [hj]
    clear hj HEA
    have hend : Below w.heap.size w wb := hba.trans (hbb.mono hba.size)
    go_wp2
    go_ret
    exact ⟨rfl, hend⟩

end Go.Proofs.Qxb6628765a
