/-
  THE PLAIN LAW ON BITS (no Go in sight): what the tests of the law and of wakeOwn find in the state, and that taking 256 off clears the bit that stands.
-/
import Derived.Laws.BitsAllLaws
namespace Go.Proofs.Ybulkdpnk
set_option linter.unusedSimpArgs false

theorem add_or (y z : Nat) (hy : y < 2 ^ 64) (hz : z < 2 ^ 64) (h : y &&& z = 0) : y + z = y ||| z := by
  have e : BitVec.ofNat 65 y &&& BitVec.ofNat 65 z = 0#65 := by
    apply BitVec.eq_of_toNat_eq
    rw [BitVec.toNat_and, BitVec.toNat_ofNat, BitVec.toNat_ofNat, Nat.mod_eq_of_lt (by omega), Nat.mod_eq_of_lt (by omega), h]
    rfl
  have := congrArg BitVec.toNat (BitVec.add_eq_or_of_and_eq_zero _ _ e)
  rw [BitVec.toNat_add, BitVec.toNat_or, BitVec.toNat_ofNat, BitVec.toNat_ofNat, Nat.mod_eq_of_lt (by omega), Nat.mod_eq_of_lt (by omega), Nat.mod_eq_of_lt (by omega)] at this
  exact this

theorem split256 (x : Nat) (h : x < 18446744073709551616) : (x &&& 18446744073709551359) + (x &&& 256) = x := by
  have h1 : (x &&& 18446744073709551359) &&& (x &&& 256) = 0 := by
    rw [Nat.and_comm x 256, ← Nat.and_assoc, Nat.and_assoc x]
    simp
  rw [add_or _ _ (Nat.and_lt_two_pow _ (by omega)) (Nat.and_lt_two_pow _ (by omega)) h1, ← Nat.and_or_distrib_left]
  have e : (18446744073709551359 ||| 256 : Nat) = 2 ^ 64 - 1 := by decide
  rw [e, Nat.and_two_pow_sub_one_eq_mod]
  exact Nat.mod_eq_of_lt (by omega)

/-- The state that the law lays, its three flags as they come. -/
def lay (x : Nat) (f1 f2 f3 : Bool) : Nat :=
  let s := x &&& 18446744073709550846
  let s := if f1 then s ||| 256 else s
  let s := if f2 then s ||| 1 else s
  if f3 then s ||| 512 else s

def layI (x : Int) (f1 f2 f3 : Bool) : Int :=
  let s := bits .andNot .u64 x 769
  let s := if f1 then bits .or .u64 s 256 else s
  let s := if f2 then bits .or .u64 s 1 else s
  if f3 then bits .or .u64 s 512 else s

theorem or_lt (a b : Nat) (ha : a < 18446744073709551616) (hb : b < 18446744073709551616) : a ||| b < 18446744073709551616 := by
  have := Nat.or_lt_two_pow (x := a) (y := b) (n := 64) (by omega) (by omega)
  omega

theorem or_cast (a k : Nat) (ha : a < 18446744073709551616) (hk : k < 18446744073709551616) : bits .or .u64 (a : Int) (k : Int) = ((a ||| k : Nat) : Int) := u64_or_nat a k ha hk

theorem lay_lt (x : Nat) (f1 f2 f3 : Bool) : lay x f1 f2 f3 < 18446744073709551616 := by
  have h0 : x &&& 18446744073709550846 < 18446744073709551616 := by
    have := Nat.and_lt_two_pow x (y := 18446744073709550846) (n := 64) (by omega)
    omega
  unfold lay
  cases f1 <;> cases f2 <;> cases f3 <;> simp only [if_true, if_false, Bool.false_eq_true, ↓reduceIte] <;> (repeat (first | exact h0 | apply or_lt | omega))

theorem layI_eq (x : Int) (h1 : 0 ≤ x) (h2 : x < 18446744073709551616) (f1 f2 f3 : Bool) : layI x f1 f2 f3 = (lay x.toNat f1 f2 f3 : Int) := by
  obtain ⟨X, rfl⟩ := Int.eq_ofNat_of_zero_le h1
  have e0 : bits .andNot .u64 (X : Int) 769 = ((X &&& 18446744073709550846 : Nat) : Int) := u64_andNot_nat X 769 (by omega) (by omega)
  have h0 : X &&& 18446744073709550846 < 18446744073709551616 := by
    have := Nat.and_lt_two_pow X (y := 18446744073709550846) (n := 64) (by omega)
    omega
  have o256 : ∀ a : Nat, a < 18446744073709551616 → bits .or .u64 (a : Int) 256 = ((a ||| 256 : Nat) : Int) := fun a ha => or_cast a 256 ha (by omega)
  have o1 : ∀ a : Nat, a < 18446744073709551616 → bits .or .u64 (a : Int) 1 = ((a ||| 1 : Nat) : Int) := fun a ha => or_cast a 1 ha (by omega)
  have o512 : ∀ a : Nat, a < 18446744073709551616 → bits .or .u64 (a : Int) 512 = ((a ||| 512 : Nat) : Int) := fun a ha => or_cast a 512 ha (by omega)
  have l1 : ∀ a : Nat, a < 18446744073709551616 → a ||| 256 < 18446744073709551616 := fun a ha => or_lt a 256 ha (by omega)
  have l2 : ∀ a : Nat, a < 18446744073709551616 → a ||| 1 < 18446744073709551616 := fun a ha => or_lt a 1 ha (by omega)
  unfold layI lay
  cases f1 <;> cases f2 <;> cases f3 <;> simp only [if_true, if_false, Bool.false_eq_true, ↓reduceIte, Int.toNat_natCast, e0, o256 _ h0, o1 _ h0, o512 _ h0, o1 _ (l1 _ h0), o512 _ (l1 _ h0), o512 _ (l2 _ h0), o512 _ (l2 _ (l1 _ h0))]

theorem and256 (x : Nat) (f1 f2 f3 : Bool) : lay x f1 f2 f3 &&& 256 = if f1 then 256 else 0 := by
  unfold lay
  cases f1 <;> cases f2 <;> cases f3 <;> simp [Nat.and_or_distrib_right, Nat.and_assoc]
theorem and1 (x : Nat) (f1 f2 f3 : Bool) : lay x f1 f2 f3 &&& 1 = if f2 then 1 else 0 := by
  unfold lay
  cases f1 <;> cases f2 <;> cases f3 <;> simp [-Nat.and_one_is_mod, Nat.and_or_distrib_right, Nat.and_assoc]
theorem and512 (x : Nat) (f1 f2 f3 : Bool) : lay x f1 f2 f3 &&& 512 = if f3 then 512 else 0 := by
  unfold lay
  cases f1 <;> cases f2 <;> cases f3 <;> simp [Nat.and_or_distrib_right, Nat.and_assoc]

theorem t256 (x : Int) (h1 : 0 ≤ x) (h2 : x < 18446744073709551616) (f1 f2 f3 : Bool) : bits .and .u64 (layI x f1 f2 f3) 256 = if f1 then 256 else 0 := by
  rw [layI_eq x h1 h2, show (256 : Int) = ((256 : Nat) : Int) from rfl, u64_and_nat _ _ (lay_lt _ _ _ _) (by omega), and256]
  cases f1 <;> rfl
theorem t1 (x : Int) (h1 : 0 ≤ x) (h2 : x < 18446744073709551616) (f1 f2 f3 : Bool) : bits .and .u64 (layI x f1 f2 f3) 1 = if f2 then 1 else 0 := by
  rw [layI_eq x h1 h2, show (1 : Int) = ((1 : Nat) : Int) from rfl, u64_and_nat _ _ (lay_lt _ _ _ _) (by omega), and1]
  cases f2 <;> rfl
theorem t512 (x : Int) (h1 : 0 ≤ x) (h2 : x < 18446744073709551616) (f1 f2 f3 : Bool) : bits .and .u64 (layI x f1 f2 f3) 512 = if f3 then 512 else 0 := by
  rw [layI_eq x h1 h2, show (512 : Int) = ((512 : Nat) : Int) from rfl, u64_and_nat _ _ (lay_lt _ _ _ _) (by omega), and512]
  cases f3 <;> rfl
/-- The bit stands: clearing it and taking it off are one. -/
theorem cleared (x : Int) (h1 : 0 ≤ x) (h2 : x < 18446744073709551616) (f2 f3 : Bool) : bits .andNot .u64 (layI x true f2 f3) 256 = layI x true f2 f3 - 256 := by
  have hs := split256 (lay x.toNat true f2 f3) (lay_lt _ _ _ _)
  have ha := and256 x.toNat true f2 f3
  rw [layI_eq x h1 h2, show (256 : Int) = ((256 : Nat) : Int) from rfl, u64_andNot_nat _ _ (lay_lt _ _ _ _) (by omega)]
  simp only [if_true] at ha
  have e : (18446744073709551615 - 256 : Nat) = 18446744073709551359 := by omega
  rw [e]
  omega
theorem lay_ge (x : Int) (h1 : 0 ≤ x) (h2 : x < 18446744073709551616) (f2 f3 : Bool) : 256 ≤ layI x true f2 f3 ∧ layI x true f2 f3 < 18446744073709551616 := by
  have hs := split256 (lay x.toNat true f2 f3) (lay_lt _ _ _ _)
  have ha := and256 x.toNat true f2 f3
  have hl := lay_lt x.toNat true f2 f3
  rw [layI_eq x h1 h2]
  simp only [if_true] at ha
  omega
end Go.Proofs.Ybulkdpnk
