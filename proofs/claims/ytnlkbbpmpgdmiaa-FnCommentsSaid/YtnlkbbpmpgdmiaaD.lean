/- Eight bytes at a time: the walks. -/
import Derived.Test.YtnlkbbpmpgdmiaaC
namespace Go.Proofs.Ytnlkbbpmpgdmiaa
open Go.RowKit
set_option linter.unusedVariables false
set_option linter.unusedSimpArgs false

theorem xor_step (a b c d : Nat) (ha : a < 256) (hc : c < 256) : (a + 256 * b) ^^^ (c + 256 * d) = (a ^^^ c) + 256 * (b ^^^ d) := by
  have h1 : ((a + 256 * b) ^^^ (c + 256 * d)) % 2 ^ 8 = a ^^^ c := by
    rw [Nat.xor_mod_two_pow, show (a + 256 * b) % 2 ^ 8 = a from by omega, show (c + 256 * d) % 2 ^ 8 = c from by omega]
  have h2 : ((a + 256 * b) ^^^ (c + 256 * d)) / 2 ^ 8 = b ^^^ d := by
    rw [Nat.xor_div_two_pow, show (a + 256 * b) / 2 ^ 8 = b from by omega, show (c + 256 * d) / 2 ^ 8 = d from by omega]
  omega

theorem or_step (a b : Nat) (i : Nat) (ha : a < 2 ^ i) : a ||| (b * 2 ^ i) = a + b * 2 ^ i := by
  rw [Nat.or_comm, Nat.mul_comm b, ← Nat.two_pow_add_eq_or_of_lt ha, Nat.add_comm]

theorem xor_num8 (c0 c1 c2 c3 c4 c5 c6 c7 c : Nat) (k0 : c0 ≤ 255) (k1 : c1 ≤ 255) (k2 : c2 ≤ 255) (k3 : c3 ≤ 255) (k4 : c4 ≤ 255) (k5 : c5 ≤ 255) (k6 : c6 ≤ 255) (k7 : c7 ≤ 255) (hc : c ≤ 255) :
    num8 c0 c1 c2 c3 c4 c5 c6 c7 ^^^ (c * 72340172838076673) = num8 (c0 ^^^ c) (c1 ^^^ c) (c2 ^^^ c) (c3 ^^^ c) (c4 ^^^ c) (c5 ^^^ c) (c6 ^^^ c) (c7 ^^^ c) := by
  rw [show c * 72340172838076673 = num8 c c c c c c c c from by unfold num8; omega]
  unfold num8
  rw [xor_step _ _ _ _ (by omega) (by omega), xor_step _ _ _ _ (by omega) (by omega), xor_step _ _ _ _ (by omega) (by omega), xor_step _ _ _ _ (by omega) (by omega),
    xor_step _ _ _ _ (by omega) (by omega), xor_step _ _ _ _ (by omega) (by omega), xor_step _ _ _ _ (by omega) (by omega)]

theorem and_le_l (a b : Nat) : a &&& b ≤ a := Nat.and_le_left

theorem hbb_bits (x n : Nat) (hx : x < 18446744073709551616) (hn : n < 128) :
    bits .and .u64 (bits .and .u64 (IntKind.u64.wrap ((x : Int) - (n : Int) * 72340172838076673)) (bits .xor .u64 IntKind.u64.max (x : Int))) 9259542123273814144 = ((hbb x n : Nat) : Int) := by
  rw [show (n : Int) * 72340172838076673 = ((n * 72340172838076673 : Nat) : Int) from by omega, u64_sub _ _ hx (by omega),
    show IntKind.u64.max = ((18446744073709551615 : Nat) : Int) from by decide, u64_xor _ _ (by omega) hx,
    u64_and _ _ (Nat.mod_lt _ (by omega)) (Nat.xor_lt_two_pow (n := 64) (by omega) hx),
    show (9259542123273814144 : Int) = ((9259542123273814144 : Nat) : Int) from rfl, u64_and _ _ (Nat.lt_of_le_of_lt (and_le_l _ _) (Nat.mod_lt _ (by omega))) (by omega)]
  rfl

theorem hbb_any (x n : Nat) (hx : x < 18446744073709551616) (hn : n < 128) (w : World) :
    Calls Try.prog 57 #[.int .u64 x, .int .u64 n] w fun e w' => e = .returned (.int .u64 (hbb x n : Nat)) ∧ w = w' := by
  go_enter Try.func57, Try.ntmps57
  go_wp2
  go_ret
  exact ⟨ret_int (hbb_bits x n hx hn), rfl⟩
theorem hbe_any (x n : Nat) (hx : x < 18446744073709551616) (hn : n < 128) (w : World) :
    Calls Try.prog 58 #[.int .u64 x, .int .u64 n] w fun e w' => e = .returned (.int .u64 (hbe x n : Nat)) ∧ w = w' := by
  go_enter Try.func58, Try.ntmps58
  go_wp2
  go_ret
  refine ⟨ret_int ?_, rfl⟩
  rw [show (n : Int) * 72340172838076673 = ((n * 72340172838076673 : Nat) : Int) from by omega, u64_xor _ _ hx (by omega)]
  have h1 := hbb_bits (x ^^^ (n * 72340172838076673)) 1 (Nat.xor_lt_two_pow (n := 64) hx (by omega)) (by omega)
  simpa [hbe] using h1

theorem num8_bits (c0 c1 c2 c3 c4 c5 c6 c7 : UInt8) :
    bits .or .u64 (bits .or .u64 (bits .or .u64 (bits .or .u64 (bits .or .u64 (bits .or .u64 (bits .or .u64 (IntKind.u64.wrap c0.toNat) (IntKind.u64.wrap (IntKind.u64.wrap c1.toNat * 256)))
      (IntKind.u64.wrap (IntKind.u64.wrap c2.toNat * 65536))) (IntKind.u64.wrap (IntKind.u64.wrap c3.toNat * 16777216))) (IntKind.u64.wrap (IntKind.u64.wrap c4.toNat * 4294967296)))
      (IntKind.u64.wrap (IntKind.u64.wrap c5.toNat * 1099511627776))) (IntKind.u64.wrap (IntKind.u64.wrap c6.toNat * 281474976710656))) (IntKind.u64.wrap (IntKind.u64.wrap c7.toNat * 72057594037927936))
      = ((num8 c0.toNat c1.toNat c2.toNat c3.toNat c4.toNat c5.toNat c6.toNat c7.toNat : Nat) : Int) := by
  have k0 := c0.toNat_lt; have k1 := c1.toNat_lt; have k2 := c2.toNat_lt; have k3 := c3.toNat_lt
  have k4 := c4.toNat_lt; have k5 := c5.toNat_lt; have k6 := c6.toNat_lt; have k7 := c7.toNat_lt
  generalize c0.toNat = d0 at *; generalize c1.toNat = d1 at *; generalize c2.toNat = d2 at *; generalize c3.toNat = d3 at *
  generalize c4.toNat = d4 at *; generalize c5.toNat = d5 at *; generalize c6.toNat = d6 at *; generalize c7.toNat = d7 at *
  rw [wrap_nat d0 (by omega), wrap_nat d1 (by omega), wrap_nat d2 (by omega), wrap_nat d3 (by omega), wrap_nat d4 (by omega), wrap_nat d5 (by omega), wrap_nat d6 (by omega), wrap_nat d7 (by omega)]
  rw [show (d1 : Int) * 256 = ((d1 * 2 ^ 8 : Nat) : Int) from by omega, show (d2 : Int) * 65536 = ((d2 * 2 ^ 16 : Nat) : Int) from by omega, show (d3 : Int) * 16777216 = ((d3 * 2 ^ 24 : Nat) : Int) from by omega,
    show (d4 : Int) * 4294967296 = ((d4 * 2 ^ 32 : Nat) : Int) from by omega, show (d5 : Int) * 1099511627776 = ((d5 * 2 ^ 40 : Nat) : Int) from by omega,
    show (d6 : Int) * 281474976710656 = ((d6 * 2 ^ 48 : Nat) : Int) from by omega, show (d7 : Int) * 72057594037927936 = ((d7 * 2 ^ 56 : Nat) : Int) from by omega]
  rw [wrap_nat (d1 * 2 ^ 8) (by omega), wrap_nat (d2 * 2 ^ 16) (by omega), wrap_nat (d3 * 2 ^ 24) (by omega), wrap_nat (d4 * 2 ^ 32) (by omega), wrap_nat (d5 * 2 ^ 40) (by omega), wrap_nat (d6 * 2 ^ 48) (by omega), wrap_nat (d7 * 2 ^ 56) (by omega)]
  rw [u64_or d0 (d1 * 2 ^ 8) (by omega) (by omega), or_step d0 d1 8 (by omega)]
  rw [u64_or _ (d2 * 2 ^ 16) (by omega) (by omega), or_step _ d2 16 (by omega)]
  rw [u64_or _ (d3 * 2 ^ 24) (by omega) (by omega), or_step _ d3 24 (by omega)]
  rw [u64_or _ (d4 * 2 ^ 32) (by omega) (by omega), or_step _ d4 32 (by omega)]
  rw [u64_or _ (d5 * 2 ^ 40) (by omega) (by omega), or_step _ d5 40 (by omega)]
  rw [u64_or _ (d6 * 2 ^ 48) (by omega) (by omega), or_step _ d6 48 (by omega)]
  rw [u64_or _ (d7 * 2 ^ 56) (by omega) (by omega), or_step _ d7 56 (by omega)]
  unfold num8
  omega

theorem leU_any (c0 c1 c2 c3 c4 c5 c6 c7 : UInt8) (r : List UInt8) (b off cap : Nat) (w : World) (hm : Bts w b off (c0 :: c1 :: c2 :: c3 :: c4 :: c5 :: c6 :: c7 :: r)) (hc : r.length + 8 ≤ cap) (hcb : r.length + 8 ≤ 140737488351232 ∧ cap ≤ 9223372036854775807) :
    Calls Try.prog 56 #[.slice (some ⟨b, off, none⟩) (r.length + 8) cap] w fun e w' => e = .returned (.int .u64 (num8 c0.toNat c1.toNat c2.toNat c3.toNat c4.toNat c5.toNat c6.toNat c7.toNat : Nat)) ∧ ∃ n, w' = w.drewN n := by
  obtain ⟨h0, hm⟩ := hm.head
  obtain ⟨h1, hm⟩ := hm.head
  obtain ⟨h2, hm⟩ := hm.head
  obtain ⟨h3, hm⟩ := hm.head
  obtain ⟨h4, hm⟩ := hm.head
  obtain ⟨h5, hm⟩ := hm.head
  obtain ⟨h6, hm⟩ := hm.head
  obtain ⟨h7, hm⟩ := hm.head
  clear hm
  go_enter Try.func56, Try.ntmps56
  go_wp2
  go_quiet (fail)
  go_wp2
  go_ret
  exact ⟨ret_int (num8_bits c0 c1 c2 c3 c4 c5 c6 c7), nq, rfl⟩
end Go.Proofs.Ytnlkbbpmpgdmiaa
