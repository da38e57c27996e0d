/- Eight bytes at a time: what the words' tests tell (plain facts). -/
import Derived.Test.YtnlkbbpmpgdmiaaB
namespace Go.Proofs.Ytnlkbbpmpgdmiaa
open Go.RowKit
set_option linter.unusedVariables false
set_option linter.unusedSimpArgs false

theorem ofInt_nat (a : Nat) (h : a < 18446744073709551616) : (BitVec.ofInt 64 (a : Int)).toNat = a := by
  rw [BitVec.ofInt_natCast, BitVec.toNat_ofNat]
  exact Nat.mod_eq_of_lt h

theorem wrap_nat (n : Nat) (h : n < 18446744073709551616) : IntKind.u64.wrap (n : Int) = n := by
  simp only [IntKind.wrap]
  simp [IntKind.bits, IntKind.signed]
  omega

theorem u64_and (a b : Nat) (ha : a < 18446744073709551616) (hb : b < 18446744073709551616) : bits .and .u64 (a : Int) (b : Int) = ((a &&& b : Nat) : Int) := by
  show IntKind.u64.wrap ((BitVec.ofInt 64 (a : Int) &&& BitVec.ofInt 64 (b : Int)).toNat : Int) = _
  rw [BitVec.toNat_and, ofInt_nat _ ha, ofInt_nat _ hb]
  exact wrap_nat _ (Nat.lt_of_le_of_lt Nat.and_le_left ha)
theorem u64_or (a b : Nat) (ha : a < 18446744073709551616) (hb : b < 18446744073709551616) : bits .or .u64 (a : Int) (b : Int) = ((a ||| b : Nat) : Int) := by
  show IntKind.u64.wrap ((BitVec.ofInt 64 (a : Int) ||| BitVec.ofInt 64 (b : Int)).toNat : Int) = _
  rw [BitVec.toNat_or, ofInt_nat _ ha, ofInt_nat _ hb]
  exact wrap_nat _ (Nat.or_lt_two_pow (n := 64) ha hb)
theorem u64_xor (a b : Nat) (ha : a < 18446744073709551616) (hb : b < 18446744073709551616) : bits .xor .u64 (a : Int) (b : Int) = ((a ^^^ b : Nat) : Int) := by
  show IntKind.u64.wrap ((BitVec.ofInt 64 (a : Int) ^^^ BitVec.ofInt 64 (b : Int)).toNat : Int) = _
  rw [BitVec.toNat_xor, ofInt_nat _ ha, ofInt_nat _ hb]
  exact wrap_nat _ (Nat.xor_lt_two_pow (n := 64) ha hb)
theorem u64_sub (a b : Nat) (ha : a < 18446744073709551616) (hb : b < 18446744073709551616) : IntKind.u64.wrap ((a : Int) - b) = (((a + 18446744073709551616 - b) % 18446744073709551616 : Nat) : Int) := by
  simp only [IntKind.wrap]
  simp [IntKind.bits, IntKind.signed]
  omega

/-- eight bytes as a number -/
def num8 (c0 c1 c2 c3 c4 c5 c6 c7 : Nat) : Nat := c0 + 256 * (c1 + 256 * (c2 + 256 * (c3 + 256 * (c4 + 256 * (c5 + 256 * (c6 + 256 * c7))))))

/-- the test of words for bytes below n -/
def hbb (x n : Nat) : Nat := (((x + 18446744073709551616 - n * 72340172838076673) % 18446744073709551616) &&& (18446744073709551615 ^^^ x)) &&& 9259542123273814144
/-- the test of words for bytes that are c -/
def hbe (x c : Nat) : Nat := hbb (x ^^^ (c * 72340172838076673)) 1

theorem msb_bit (i : Nat) (h : i < 8) : Nat.testBit 9259542123273814144 (8 * i + 7) = true := by
  have hi : i = 0 ∨ i = 1 ∨ i = 2 ∨ i = 3 ∨ i = 4 ∨ i = 5 ∨ i = 6 ∨ i = 7 := by omega
  rcases hi with h | h | h | h | h | h | h | h <;> subst h <;> decide

theorem max_bit (i : Nat) (h : i < 64) : Nat.testBit 18446744073709551615 i = true := by
  rw [show (18446744073709551615 : Nat) = 2 ^ 64 - 1 from rfl, Nat.testBit_two_pow_sub_one]
  simpa using h

theorem and_msb {p : Nat} (h : p &&& 9259542123273814144 = 0) (i : Nat) (hi : i < 8) : Nat.testBit p (8 * i + 7) = false := by
  have h1 := congrArg (fun z => Nat.testBit z (8 * i + 7)) h
  simp only [Nat.testBit_and, Nat.zero_testBit, msb_bit i hi, Bool.and_true] at h1
  exact h1

theorem hbb_bit {x n : Nat} (hx : x &&& 9259542123273814144 = 0) (h : hbb x n = 0) (i : Nat) (hi : i < 8) : Nat.testBit ((x + 18446744073709551616 - n * 72340172838076673) % 18446744073709551616) (8 * i + 7) = false := by
  have h1 := and_msb h i hi
  rw [Nat.testBit_and, Nat.testBit_xor, max_bit _ (by omega), and_msb hx i hi] at h1
  simpa using h1

theorem byte_lt {p : Nat} (i : Nat) (h : Nat.testBit p (8 * i + 7) = false) : p / 256 ^ i % 256 < 128 := by
  have h1 : p / 2 ^ (8 * i + 7) % 2 = 0 := by
    rw [Nat.testBit_eq_decide_div_mod_eq] at h
    have := of_decide_eq_false h
    omega
  have h2 : 2 ^ (8 * i + 7) = 256 ^ i * 128 := by
    rw [Nat.pow_add, Nat.pow_mul]
  rw [h2, ← Nat.div_div_eq_div_mul] at h1
  generalize p / 256 ^ i = q at *
  omega

theorem bytes_of (p : Nat) (hp : p < 18446744073709551616) (h : ∀ i, i < 8 → Nat.testBit p (8 * i + 7) = false) :
    ∃ d0 d1 d2 d3 d4 d5 d6 d7 : Nat, p = num8 d0 d1 d2 d3 d4 d5 d6 d7 ∧ d0 < 128 ∧ d1 < 128 ∧ d2 < 128 ∧ d3 < 128 ∧ d4 < 128 ∧ d5 < 128 ∧ d6 < 128 ∧ d7 < 128 := by
  have b0 := byte_lt 0 (h 0 (by omega))
  have b1 := byte_lt 1 (h 1 (by omega))
  have b2 := byte_lt 2 (h 2 (by omega))
  have b3 := byte_lt 3 (h 3 (by omega))
  have b4 := byte_lt 4 (h 4 (by omega))
  have b5 := byte_lt 5 (h 5 (by omega))
  have b6 := byte_lt 6 (h 6 (by omega))
  have b7 := byte_lt 7 (h 7 (by omega))
  refine ⟨_, _, _, _, _, _, _, _, ?_, b0, b1, b2, b3, b4, b5, b6, b7⟩
  clear b0 b1 b2 b3 b4 b5 b6 b7 h
  unfold num8
  omega

theorem lower (n x : Nat) (hn : n ≤ 128) {c0 c1 c2 c3 c4 c5 c6 c7 : Nat} (hx : x = num8 c0 c1 c2 c3 c4 c5 c6 c7) (k0 : c0 ≤ 255) (k1 : c1 ≤ 255) (k2 : c2 ≤ 255) (k3 : c3 ≤ 255) (k4 : c4 ≤ 255) (k5 : c5 ≤ 255) (k6 : c6 ≤ 255) (k7 : c7 ≤ 255)
    (h1 : x &&& 9259542123273814144 = 0) (h2 : hbb x n = 0) : n ≤ c0 ∧ n ≤ c1 ∧ n ≤ c2 ∧ n ≤ c3 ∧ n ≤ c4 ∧ n ≤ c5 ∧ n ≤ c6 ∧ n ≤ c7 := by
  obtain ⟨d0, d1, d2, d3, d4, d5, d6, d7, hp, e0, e1, e2, e3, e4, e5, e6, e7⟩ := bytes_of _ (Nat.mod_lt _ (by omega)) (fun i hi => hbb_bit h1 h2 i hi)
  have hxl : x < 18446744073709551616 := by rw [hx]; unfold num8; omega
  have hpl : num8 d0 d1 d2 d3 d4 d5 d6 d7 + n * 72340172838076673 = x := by
    have h3 : num8 d0 d1 d2 d3 d4 d5 d6 d7 + n * 72340172838076673 < 18446744073709551616 := by unfold num8; omega
    omega
  rw [hx] at hpl
  clear hp h1 h2 hxl hx
  unfold num8 at hpl
  have g0 : c0 = d0 + n := by omega
  subst g0
  have g1 : c1 = d1 + n := by omega
  subst g1
  have g2 : c2 = d2 + n := by omega
  subst g2
  have g3 : c3 = d3 + n := by omega
  subst g3
  have g4 : c4 = d4 + n := by omega
  subst g4
  have g5 : c5 = d5 + n := by omega
  subst g5
  have g6 : c6 = d6 + n := by omega
  subst g6
  omega
end Go.Proofs.Ytnlkbbpmpgdmiaa
