/-
  zzCountEscaped's contract; THE WALK OF FnEncodeXtextSplitsAtAnyCut.
-/
import Derived.Test.Qxb6628765aWalks
import Derived.Deep.RegionWith
namespace Go.Proofs.Qxb6628765a
open Go.RowKit Plain

set_option maxHeartbeats 400000 in
theorem count_any (s : ByteArray) (w : World) (hs : s.size ≤ 1048576) :
    Calls Try.prog 9 #[.string s] w fun e w' => e = .returned (.int .i64 (esc s.data.toList : Int)) ∧ w' = w := by
  go_enter Try.func9, Try.ntmps9
  go_wp2
  go_loop [3, 4] (fun n i => ∃ k m : Nat, k ≤ s.size ∧ i = .int .i64 k ∧ n = .int .i64 m ∧ m ≤ k ∧ Hid (m = esc (s.data.toList.take k))) (fun _ i => s.size - (intOf i).toNat)
  case atStart => exact ⟨0, 0, Nat.zero_le _, rfl, rfl, Nat.le_refl _, rfl⟩
  case round =>
    obtain ⟨k, m, hk, rfl, rfl, hm, HM⟩ := hrel
    by_cases hlt : k < s.size
    · have E := hid ((congrArg esc (take_snoc s k hlt)).trans (esc_snoc _ _))
      cases hx : isX s[k].toNat with
      | true =>
        rw [hx] at E
        have HX := hid hx
        clear hx
        go_wp2_with (go_at_call 14; refine (plain_any _ _).mono ?_; rintro e w' ⟨rfl, hw'⟩; obtain rfl := hw'.symm; clear hw'; rw [HX.out])
        go_round
        case rel => exact ⟨k + 1, m, by omega, by go_num, rfl, by omega, HM.out.trans E.out.symm⟩
        case measure => simp [intOf]; omega
      | false =>
        rw [hx] at E
        have HX := hid hx
        clear hx
        go_wp2_with (go_at_call 14; refine (plain_any _ _).mono ?_; rintro e w' ⟨rfl, hw'⟩; obtain rfl := hw'.symm; clear hw'; rw [HX.out])
        go_round
        case rel => exact ⟨k + 1, m + 1, by omega, by go_num, by go_num, by omega, (congrArg (· + 1) HM.out).trans E.out.symm⟩
        case measure => simp [intOf]; omega
    · obtain rfl : k = s.size := by omega
      have ht : s.data.toList.take s.size = s.data.toList := List.take_of_length_le (by simp)
      have e : m = esc s.data.toList := by rw [HM.out, ht]
      subst e
      clear ht
      go_wp2
      go_ret
      exact ⟨rfl, rfl⟩

theorem ba_append (a b : ByteArray) : (a ++ b).data.toList = a.data.toList ++ b.data.toList := by simp
theorem ba_mk_append (x y : List UInt8) : (⟨x.toArray⟩ : ByteArray) ++ ⟨y.toArray⟩ = ⟨(x ++ y).toArray⟩ := by
  apply ByteArray.ext
  simp

theorem enc_size (l : List UInt8) (h : l.length ≤ 1048576) : (enc l).length ≤ 3145728 := by
  have := enc_length l
  have := esc_le l
  omega

set_option maxHeartbeats 400000 in
theorem walkS (a0 a1 : ByteArray) (w0 : a0.size ≤ maxLen) (w1 : a1.size ≤ maxLen) (w : World) :
    Calls Try.prog 4 #[.string a0, .string a1] w fun e w' => e = .returned (.bool true) ∧ Below w.heap.size w w' := by
  unfold maxLen at w0 w1
  by_cases c0 : 524288 < a0.size
  · by_cases c1 : 1048576 < a0.size
    · go_enter Try.func4, Try.ntmps4
      go_wp2
      go_ret
      exact ⟨rfl, Below.refl _ _⟩
    · by_cases c2 : 1048576 < a1.size
      · go_enter Try.func4, Try.ntmps4
        go_wp2
        go_ret
        exact ⟨rfl, Below.refl _ _⟩
      · by_cases c3 : 1048576 < a0.size + a1.size
        · go_enter Try.func4, Try.ntmps4
          go_wp2
          go_ret
          exact ⟨rfl, Below.refl _ _⟩
        · go_enter Try.func4, Try.ntmps4
          go_wp2
          go_ret
          exact ⟨rfl, Below.refl _ _⟩
  · by_cases c1 : 524288 < a1.size
    · by_cases c2 : 1048576 < a1.size
      · go_enter Try.func4, Try.ntmps4
        go_wp2
        go_ret
        exact ⟨rfl, Below.refl _ _⟩
      · by_cases c3 : 1048576 < a0.size + a1.size
        · go_enter Try.func4, Try.ntmps4
          go_wp2
          go_ret
          exact ⟨rfl, Below.refl _ _⟩
        · go_enter Try.func4, Try.ntmps4
          go_wp2
          go_ret
          exact ⟨rfl, Below.refl _ _⟩
    · go_enter Try.func4, Try.ntmps4
      go_wp2_with (go_at_call 8; go_in)
      refine (encode_any a0 _ (by omega)).mono ?_
      rintro e wa ⟨rfl, hba⟩
      obtain ⟨ea, hea⟩ : ∃ ea : ByteArray, ea = ⟨(enc a0.data.toList).toArray⟩ := ⟨_, rfl⟩
      rw [← hea]
      have HEA := hid hea
      clear hea
      go_wp2_with fail
      refine (encode_any a1 _ (by omega)).mono ?_
      rintro e wb ⟨rfl, hbb⟩
      obtain ⟨eb, heb⟩ : ∃ eb : ByteArray, eb = ⟨(enc a1.data.toList).toArray⟩ := ⟨_, rfl⟩
      rw [← heb]
      have HEB := hid heb
      clear heb
      go_wp2_with fail
      refine (encode_any (a0 ++ a1) _ (by rw [ByteArray.size_append]; omega)).mono ?_
      rintro e wc ⟨rfl, hbc⟩
      have hj : (⟨(enc (a0 ++ a1).data.toList).toArray⟩ : ByteArray) = ea ++ eb := by
        rw [HEA.out, HEB.out, ba_append, enc_append]
        exact (ba_mk_append _ _).symm
      rw [hj]
      clear hj
      have hsa : ea.size ≤ 3145728 := by rw [HEA.out]; exact enc_size _ (by simp; omega)
      have hsb : eb.size ≤ 3145728 := by rw [HEB.out]; exact enc_size _ (by simp; omega)
      have hea2 : Hid ((ea.size : Int) = a0.size + 2 * esc a0.data.toList) := by
        have := enc_length a0.data.toList
        have e2 : ea.size = (enc a0.data.toList).length := by rw [HEA.out]; rfl
        have e3 : a0.data.toList.length = a0.size := by simp
        show (ea.size : Int) = _
        omega
      have heb2 : Hid ((eb.size : Int) = a1.size + 2 * esc a1.data.toList) := by
        have := enc_length a1.data.toList
        have e2 : eb.size = (enc a1.data.toList).length := by rw [HEB.out]; rfl
        have e3 : a1.data.toList.length = a1.size := by simp
        show (eb.size : Int) = _
        omega
      have hend : Below w.heap.size w wc := (hba.trans (hbb.mono hba.size)).trans (hbc.mono (Nat.le_trans hba.size hbb.size))
      have g0 := esc_le a0.data.toList
      have g1 := esc_le a1.data.toList
      have e3 : a0.data.toList.length = a0.size := by simp
      have e4 : a1.data.toList.length = a1.size := by simp
      rw [e3] at g0
      rw [e4] at g1
      clear e3 e4 HEA HEB hba hbb hbc
      go_wp2_with (first | (go_at_call_of 9 (Value.string a0); refine (count_any a0 _ (by omega)).mono ?_; rintro e w' ⟨rfl, hw'⟩; obtain rfl := hw'.symm; clear hw') | (go_at_call_of 9 (Value.string a1); refine (count_any a1 _ (by omega)).mono ?_; rintro e w' ⟨rfl, hw'⟩; obtain rfl := hw'.symm; clear hw'))
      go_ret
      exact ⟨ret_bool (beq_iff_eq.2 (by have := hea2.out; have := heb2.out; omega)), hend⟩

end Go.Proofs.Qxb6628765a
