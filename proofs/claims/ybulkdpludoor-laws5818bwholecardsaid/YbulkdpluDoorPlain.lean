/-
  THE PLAIN LAW (no Go in sight): which ports are set, their numerals, the text that lists them; how each grows by one more bit.
-/
import Derived.Lib.ItoaNum
import Derived.Lib.Join
import Derived.Laws.BitsAllLaws
namespace Go.Proofs.YbulkdpluDoor

/-- Is bit p of the octets set (bit 0: the high bit of octet 0)? -/
def bitB (xs : List Int) (p : Nat) : Bool := (xs.getD (p / 8) 0).toNat / 2 ^ (7 - p % 8) % 2 == 1
/-- The ports below k that are set. -/
def ports (xs : List Int) (k : Nat) : List Nat := (List.range k).filter (bitB xs)
def texts (xs : List Int) (k : Nat) : List (List UInt8) := (ports xs k).map Lib.decDigits
/-- The list of the ports below k, a blank between two. -/
def wantL (xs : List Int) (k : Nat) : List UInt8 := Lib.join (texts xs k) [32]

theorem ports_zero (xs : List Int) : ports xs 0 = [] := rfl
theorem ports_hit {xs : List Int} {k : Nat} (h : bitB xs k = true) : ports xs (k + 1) = ports xs k ++ [k] := by
  unfold ports
  rw [List.range_succ, List.filter_append]
  simp [h]
theorem ports_miss {xs : List Int} {k : Nat} (h : bitB xs k = false) : ports xs (k + 1) = ports xs k := by
  unfold ports
  rw [List.range_succ, List.filter_append]
  simp [h]
theorem texts_hit {xs : List Int} {k : Nat} (h : bitB xs k = true) : texts xs (k + 1) = texts xs k ++ [Lib.decDigits k] := by
  unfold texts
  rw [ports_hit h]
  simp
theorem texts_miss {xs : List Int} {k : Nat} (h : bitB xs k = false) : texts xs (k + 1) = texts xs k := by
  unfold texts
  rw [ports_miss h]

theorem join_snoc (l : List (List UInt8)) (x sep : List UInt8) : Lib.join (l ++ [x]) sep = Lib.join l sep ++ (if l = [] then [] else sep) ++ x := by
  cases l with
  | nil => simp [Lib.join_one, Lib.join_nil]
  | cons y r =>
    rw [List.cons_append, Lib.join_cons, Lib.join_cons]
    simp [Lib.joinTail]

theorem want_hit {xs : List Int} {k : Nat} (h : bitB xs k = true) : wantL xs (k + 1) = wantL xs k ++ (if ports xs k = [] then [] else [32]) ++ Lib.decDigits k := by
  unfold wantL
  rw [texts_hit h, join_snoc]
  have e : (texts xs k = []) = (ports xs k = []) := by unfold texts; simp
  simp only [e]
theorem want_miss {xs : List Int} {k : Nat} (h : bitB xs k = false) : wantL xs (k + 1) = wantL xs k := by
  unfold wantL
  rw [texts_miss h]

theorem ports_len (xs : List Int) (k : Nat) : (ports xs k).length ≤ k := by
  have := List.length_filter_le (bitB xs) (List.range k)
  simpa [ports] using this

theorem digits_len (u : Nat) (h : u < 1000000) : (Lib.decDigits u).length ≤ 6 := by
  have step : ∀ n u : Nat, u < 10 ^ (n + 1) → (Lib.decDigits u).length ≤ n + 1 := by
    intro n
    induction n with
    | zero => intro u hu; rw [Lib.decDigits, dif_pos (by simpa using hu)]; simp
    | succ n ih =>
      intro u hu
      rw [Lib.decDigits]
      split
      · simp
      · have := ih (u / 10) (by rw [Nat.pow_succ] at hu; omega)
        simp
        omega
  exact step 5 u (by simpa using h)

theorem want_len (xs : List Int) (k : Nat) (h : k ≤ 1000000) : (wantL xs k).length ≤ 7 * k := by
  induction k with
  | zero => simp [wantL, texts, ports, Lib.join_nil]
  | succ k ih =>
    have := ih (by omega)
    cases hb : bitB xs k with
    | false => rw [want_miss hb]; omega
    | true =>
      rw [want_hit hb]
      have hd := digits_len k (by omega)
      simp only [List.length_append]
      split
      · simp; omega
      · simp; omega

theorem itoa_nat (k : Nat) : Lib.itoa (k : Int) = Lib.decDigits k := by
  unfold Lib.itoa
  rw [if_neg (by omega)]
  simp

/-! ### The two tests on a bit -/
theorem bit_and (o j : Nat) (ho : o < 256) (hj : j < 8) : (bits .and .u8 (o : Int) ((2 ^ (7 - j) : Nat) : Int) != 0) = (o / 2 ^ (7 - j) % 2 == 1) := by
  have hp : 2 ^ (7 - j) < 256 := by
    have : 2 ^ (7 - j) ≤ 2 ^ 7 := Nat.pow_le_pow_right (by omega) (by omega)
    omega
  rw [u8_and_nat o _ ho hp, nat_bit]
  have hpos : 0 < 2 ^ (7 - j) := Nat.pow_pos (by omega)
  rcases Nat.mod_two_eq_zero_or_one (o / 2 ^ (7 - j)) with h | h
  · rw [h]; simp
  · rw [h, Nat.one_mul]
    have hne : (((2 ^ (7 - j) : Nat) : Int)) ≠ 0 := by omega
    simp only [ne_eq, hne, not_false_eq_true, beq_self_eq_true, bne, beq_eq_false_iff_ne, Bool.not_eq_eq_eq_not, Bool.not_true]

theorem bit_shr (o q : Nat) (ho : o < 256) : (bits .and .u8 ((o / 2 ^ q : Nat) : Int) 1 == 1) = (o / 2 ^ q % 2 == 1) := by
  have hlt : o / 2 ^ q < 256 := Nat.lt_of_le_of_lt (Nat.div_le_self _ _) ho
  rw [show (1 : Int) = ((1 : Nat) : Int) from rfl, u8_and_nat _ 1 hlt (by omega), nat_mask1]
  rcases Nat.mod_two_eq_zero_or_one (o / 2 ^ q) with h | h <;> rw [h] <;> rfl

end Go.Proofs.YbulkdpluDoor
