import Derived.Test.Qxb6618085aRows
import Derived.WalkKit
namespace Go.Proofs.Qxb6618085a
open Go.RowKit

/-- The value of a hexadecimal digit, or -1. -/
def hv (c : Int) : Int := if 48 ≤ c ∧ c ≤ 57 then c - 48 else if 97 ≤ c ∧ c ≤ 102 then c - 87 else if 65 ≤ c ∧ c ≤ 70 then c - 55 else -1
theorem hv_range (c : Int) : -1 ≤ hv c ∧ hv c ≤ 15 := by unfold hv; split <;> (try split) <;> (try split) <;> omega

/-- The table of digits. -/
def tb (k : Nat) : Int := if k < 10 then 48 + k else if k < 16 then 87 + k else 49 + k
theorem tb_range (k : Nat) (h : k < 22) : 48 ≤ tb k ∧ tb k ≤ 102 := by unfold tb; split <;> (try split) <;> omega
theorem hv_tb (k : Nat) (h : k < 22) : hv (tb k) = if k < 16 then (k : Int) else (k : Int) - 6 := by
  unfold tb hv
  split
  · rw [if_pos (by omega), if_pos (by omega)]; omega
  · split
    · rw [if_neg (by omega), if_pos (by omega)]; omega
    · rw [if_neg (by omega), if_neg (by omega), if_pos (by omega)]; omega
theorem hv_none (c : Int) (h : ∀ k, k < 22 → tb k ≠ c) : hv c = -1 := by
  unfold hv
  split
  · have := h (c - 48).toNat (by omega); unfold tb at this; rw [if_pos (by omega)] at this; omega
  · split
    · have := h (c - 87).toNat (by omega); unfold tb at this; rw [if_neg (by omega), if_pos (by omega)] at this; omega
    · split
      · have := h (c - 49).toNat (by omega); unfold tb at this; rw [if_neg (by omega), if_neg (by omega)] at this; omega
      · rfl

/-- All are digits. -/
def allHex (l : List Int) : Bool := l.all fun c => decide (0 ≤ hv c)
theorem allHex_snoc (l : List Int) (c : Int) : allHex (l ++ [c]) = (allHex l && decide (0 ≤ hv c)) := by simp [allHex]
theorem allHex_append (l r : List Int) : allHex (l ++ r) = (allHex l && allHex r) := by simp [allHex]

/-- The number that hexadecimal digits spell. -/
def hx (l : List Int) : Nat := l.foldl (fun a c => a * 16 + (hv c).toNat) 0
theorem hx_snoc (l : List Int) (c : Int) : hx (l ++ [c]) = hx l * 16 + (hv c).toNat := by simp [hx]
theorem hx_from (l : List Int) (a : Nat) : l.foldl (fun a c => a * 16 + (hv c).toNat) a = a * 16 ^ l.length + hx l := by
  induction l generalizing a with
  | nil => simp [hx]
  | cons c r ih =>
    have e : hx (c :: r) = (hv c).toNat * 16 ^ r.length + hx r := by
      have := ih (0 * 16 + (hv c).toNat)
      rw [Nat.zero_mul, Nat.zero_add] at this
      rw [← this, hx, List.foldl_cons, Nat.zero_mul, Nat.zero_add]
    rw [List.foldl_cons, ih, e, List.length_cons, Nat.pow_succ, Nat.add_mul, Nat.mul_comm (16 ^ r.length) 16, Nat.mul_assoc]
    omega
theorem hx_append (l r : List Int) : hx (l ++ r) = hx l * 16 ^ r.length + hx r := by
  rw [hx, List.foldl_append, hx_from, ← hx]

theorem wrap32_step (N d : Int) : wrap32 (wrap32 (wrap32 N * 16) + d) = wrap32 (N * 16 + d) := by
  unfold wrap32
  omega

theorem pow16_split (p k : Nat) (h : k ≤ p) : (16 : Nat) ^ p = 16 ^ (p - k) * 16 ^ k := by rw [← Nat.pow_add]; congr 1; omega

/-- One round of 'hexWant', the place within 32 bits. -/
theorem want_step (N d p : Nat) (hd : d < 16) (hp : p < 8) :
    (N * 16 ^ (p + 1)) % 4294967296 ||| (d * 2 ^ (4 * p)) % 4294967296 = ((N * 16 + d) * 16 ^ p) % 4294967296 := by
  have e1 : (2 : Nat) ^ (4 * p) = 16 ^ p := by rw [Nat.pow_mul]
  rw [e1]
  have key : ∀ q, q = 16 ^ p → (N * (q * 16)) % 4294967296 = (q * 16) * ((N * (q * 16)) % 4294967296 / (q * 16)) ∧ d * q < q * 16 ∧ (N * (q * 16)) % 4294967296 + d * q = ((N * 16 + d) * q) % 4294967296 ∧ (d * q) % 4294967296 = d * q := by
    intro q hq
    have hp' : p = 0 ∨ p = 1 ∨ p = 2 ∨ p = 3 ∨ p = 4 ∨ p = 5 ∨ p = 6 ∨ p = 7 := by omega
    rcases hp' with rfl | rfl | rfl | rfl | rfl | rfl | rfl | rfl <;> (simp at hq; subst hq; omega)
  obtain ⟨k1, k2, k3, k4⟩ := key _ rfl
  have e2 : (16 : Nat) ^ (p + 1) = 16 ^ p * 16 := Nat.pow_succ ..
  have e3 : (16 : Nat) ^ p * 16 = 2 ^ (4 * p + 4) := by rw [Nat.pow_add, e1]
  rw [e2, k4, ← k3]
  have := Nat.two_pow_add_eq_or_of_lt (i := 4 * p + 4) (b := d * 16 ^ p) (by rw [← e3]; exact k2) ((N * (16 ^ p * 16)) % 4294967296 / (16 ^ p * 16))
  rw [← e3, ← k1] at this
  exact this.symm

theorem zero_high (M p : Nat) (hp : 8 ≤ p) : (M * 16 ^ p) % 4294967296 = 0 := by
  rw [pow16_split p 8 hp, ← Nat.mul_assoc]
  have : (16 : Nat) ^ 8 = 4294967296 := by decide
  rw [this]
  exact Nat.mul_mod_left _ _

theorem rune_of (N : Nat) : wrap32 ((N % 4294967296 : Nat) : Int) = wrap32 (N : Int) := by
  unfold wrap32
  omega

theorem wrap32_congr (A B C : Int) (h : A % 4294967296 = B % 4294967296) : wrap32 (wrap32 A + wrap32 C) = wrap32 (B + C) := by
  unfold wrap32
  omega
theorem wrap32_mod (A : Int) : wrap32 A % 4294967296 = A % 4294967296 := by
  unfold wrap32
  omega
theorem two_pow_32 : (2 : Int) ^ 32 = 4294967296 := by decide
theorem mul_mod_32 (A : Int) : (A * 4294967296) % 4294967296 = 0 := Int.mul_emod_left _ _

/-- The whole out of two pieces, in 32 bits. -/
theorem two_pieces (N1 N2 m : Nat) (k : Nat) (hk : k = min (4 * m) 32) : wrap32 (wrap32 (wrap32 (N1 : Int) * 2 ^ k) + wrap32 (N2 : Int)) = wrap32 ((N1 * 16 ^ m + N2 : Nat) : Int) := by
  have e3 : ((N1 * 16 ^ m + N2 : Nat) : Int) = ((N1 * 16 ^ m : Nat) : Int) + (N2 : Int) := Int.natCast_add _ _
  rw [e3]
  refine wrap32_congr _ _ _ ?_
  by_cases h : m ≤ 8
  · have e : k = 4 * m := by omega
    have e2 : (2 : Int) ^ k = ((16 ^ m : Nat) : Int) := by rw [e, Int.pow_mul, Int.natCast_pow]; rfl
    rw [e2, Int.natCast_mul]
    generalize ((16 ^ m : Nat) : Int) = q
    rw [Int.mul_emod, wrap32_mod, ← Int.mul_emod]
  · have e : k = 32 := by omega
    rw [e, two_pow_32, mul_mod_32]
    have hz := zero_high N1 m (by omega)
    generalize N1 * 16 ^ m = z at hz
    omega
end Go.Proofs.Qxb6618085a
