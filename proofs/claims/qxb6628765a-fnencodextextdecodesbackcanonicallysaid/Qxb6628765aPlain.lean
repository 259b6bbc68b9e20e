/-
  XTEXT, PLAIN: no Go in sight.
-/
namespace Go.Proofs.Qxb6628765a.Plain

/-- a byte that xtext writes as itself -/
def isX (n : Nat) : Bool := decide (33 ≤ n) && (decide (n ≤ 126) && (decide (n ≠ 43) && decide (n ≠ 61)))
theorem isX_iff (n : Nat) : isX n = true ↔ 33 ≤ n ∧ n ≤ 126 ∧ n ≠ 43 ∧ n ≠ 61 := by simp [isX]
/-- an upper-case hex digit -/
def hexd (n : Nat) : Nat := if n < 10 then 48 + n else 55 + n
def enc1 (n : Nat) : List Nat := if isX n then [n] else [43, hexd (n / 16), hexd (n % 16)]
def encN (l : List Nat) : List Nat := l.flatMap enc1
def nats (l : List UInt8) : List Nat := l.map (·.toNat)
def enc (l : List UInt8) : List UInt8 := (encN (nats l)).map UInt8.ofNat

theorem hexd_lt (n : Nat) (h : n < 16) : hexd n < 256 := by unfold hexd; split <;> omega
theorem enc1_lt (n : Nat) (h : n < 256) : ∀ x ∈ enc1 n, x < 256 := by
  intro x hx
  unfold enc1 at hx
  split at hx
  · simp at hx; omega
  · simp at hx
    have a := hexd_lt (n / 16) (by omega)
    have b := hexd_lt (n % 16) (by omega)
    rcases hx with rfl | rfl | rfl
    · omega
    · exact a
    · exact b
theorem nats_lt (l : List UInt8) : ∀ x ∈ nats l, x < 256 := by
  intro x hx
  obtain ⟨c, _, rfl⟩ := List.mem_map.1 hx
  exact c.toNat_lt
theorem encN_lt (l : List UInt8) : ∀ x ∈ encN (nats l), x < 256 := by
  intro x hx
  obtain ⟨n, hn, h⟩ := List.mem_flatMap.1 hx
  exact enc1_lt n (nats_lt l n hn) x h
theorem encN_snoc (l : List Nat) (n : Nat) : encN (l ++ [n]) = encN l ++ enc1 n := by simp [encN]
theorem encN_append (l r : List Nat) : encN (l ++ r) = encN l ++ encN r := by simp [encN]
theorem nats_append (l r : List UInt8) : nats (l ++ r) = nats l ++ nats r := by simp [nats]
theorem enc_append (l r : List UInt8) : enc (l ++ r) = enc l ++ enc r := by simp [enc, nats_append, encN_append]
theorem enc1_length (n : Nat) : (enc1 n).length = if isX n then 1 else 3 := by unfold enc1; split <;> rfl
theorem encN_length_le : ∀ l : List Nat, (encN l).length ≤ 3 * l.length
  | [] => by simp [encN]
  | n :: l => by
    have := encN_length_le l
    have e : encN (n :: l) = enc1 n ++ encN l := by simp [encN]
    rw [e, List.length_append, List.length_cons, enc1_length]
    split <;> omega
/-- how many bytes are escaped -/
def esc (l : List UInt8) : Nat := (l.filter fun c => !isX c.toNat).length
theorem esc_le (l : List UInt8) : esc l ≤ l.length := List.length_filter_le _ _
theorem esc_snoc (l : List UInt8) (c : UInt8) : esc (l ++ [c]) = esc l + if isX c.toNat then 0 else 1 := by
  unfold esc
  rw [List.filter_append]
  by_cases h : isX c.toNat = true <;> simp [h]
theorem enc_length : ∀ l : List UInt8, (enc l).length = l.length + 2 * esc l
  | [] => rfl
  | c :: l => by
    have ih := enc_length l
    have e : enc (c :: l) = enc [c] ++ enc l := enc_append [c] l
    have e1 : (enc [c]).length = if isX c.toNat then 1 else 3 := by simp [enc, nats, encN, enc1_length]
    rw [e, List.length_append, ih, e1]
    unfold esc
    by_cases h : isX c.toNat = true
    · simp [h]; omega
    · simp [h]; omega

/-- the hex digit's value, read back -/
def val (n : Nat) : Option Nat := if 48 ≤ n ∧ n ≤ 57 then some (n - 48) else if 65 ≤ n ∧ n ≤ 70 then some (n - 55) else none
theorem val_hexd (n : Nat) (h : n < 16) : val (hexd n) = some n := by
  unfold val hexd
  by_cases h' : n < 10
  · rw [if_pos h', if_pos (by omega)]; congr 1; omega
  · rw [if_neg h', if_neg (by omega), if_pos (by omega)]; congr 1; omega

end Go.Proofs.Qxb6628765a.Plain
