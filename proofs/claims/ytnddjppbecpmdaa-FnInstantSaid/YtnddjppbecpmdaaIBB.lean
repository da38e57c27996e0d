/- Walks of the package's small functions on instants. -/
import Derived.Test.YtnddjppbecpmdaaIB
import Derived.Deep.RegionWith
namespace Go.Proofs.Ytnddjppbecpmdaa
open Go.RowKit
set_option linter.unusedVariables false
set_option linter.unusedSimpArgs false

theorem bits_high (n : Int) (h0 : 0 ≤ n) (h1 : n ≤ 999999999) : bits .and .u64 n 9223372036854775808 = 0 := by
  obtain ⟨k, rfl⟩ : ∃ k : Nat, n = k := ⟨n.toNat, by omega⟩
  show IntKind.u64.wrap ((BitVec.ofInt 64 (k : Int) &&& BitVec.ofInt 64 ((9223372036854775808 : Nat) : Int)).toNat : Int) = _
  rw [BitVec.toNat_and, BitVec.ofInt_natCast, BitVec.ofInt_natCast, BitVec.toNat_ofNat, BitVec.toNat_ofNat, Nat.mod_eq_of_lt (by omega), Nat.mod_eq_of_lt (by omega)]
  have h : k &&& 9223372036854775808 = 0 := by
    apply Nat.eq_of_testBit_eq
    intro i
    rw [Nat.testBit_and, Nat.zero_testBit, show (9223372036854775808 : Nat) = 2 ^ 63 from rfl, Nat.testBit_two_pow]
    by_cases hi : 63 = i
    · subst hi
      have : Nat.testBit k 63 = false := Nat.testBit_lt_two_pow (by omega)
      simp [this]
    · simp [hi]
  rw [h]
  rfl

theorem bits_low (n : Int) (h0 : 0 ≤ n) (h1 : n ≤ 999999999) : bits .and .u64 n 1073741823 = n := by
  obtain ⟨k, rfl⟩ : ∃ k : Nat, n = k := ⟨n.toNat, by omega⟩
  show IntKind.u64.wrap ((BitVec.ofInt 64 (k : Int) &&& BitVec.ofInt 64 ((1073741823 : Nat) : Int)).toNat : Int) = _
  rw [BitVec.toNat_and, BitVec.ofInt_natCast, BitVec.ofInt_natCast, BitVec.toNat_ofNat, BitVec.toNat_ofNat, Nat.mod_eq_of_lt (by omega), Nat.mod_eq_of_lt (by omega)]
  have h : k &&& 1073741823 = k := by
    rw [show (1073741823 : Nat) = 2 ^ 30 - 1 from rfl, Nat.and_two_pow_sub_one_eq_mod]
    exact Nat.mod_eq_of_lt (by omega)
  rw [h]
  simp only [IntKind.wrap]
  simp [IntKind.bits, IntKind.signed]
  omega

theorem unixTime_any (u n : Int) (w : World) (u0 : -100000000000 ≤ u) (u1 : u ≤ 400000000000) (n0 : 0 ≤ n) (n1 : n ≤ 999999999) :
    Calls Try.prog 50 #[.int .i64 u, .int .i32 n] w fun e w' => e = .returned (.agg #[.int .u64 n, .int .i64 (u + 62135596800), .pointer none]) ∧ Below w.heap.size w w' := by
  go_enter Try.func50, Try.ntmps50
  go_wp2
  refine bodyPost_ret (v := .agg #[.int .u64 n, .int .i64 (u + 62135596800), .pointer none]) (by simp [results, Try.results50, go_sem]) rfl ⟨rfl, ?_⟩
  exact (Below.refl _ _).alloc (Nat.le_refl _) _

set_option maxRecDepth 100000 in
theorem strip_any (t : Nat) (n x : Int) (v : Value) (w : World) (hb : Blk w t 77 #[.int .u64 n, .int .i64 x, v]) (n0 : 0 ≤ n) (n1 : n ≤ 999999999) :
    Calls Try.prog 55 #[.pointer (some ⟨t, 0, none⟩)] w fun e w' => e = .returned (.tuple #[]) ∧ w = w' := by
  have c := hb.cell
  simp at c
  have hh := bits_high n n0 n1
  clear hb
  go_enter Try.func55, Try.ntmps55
  go_wp2
  go_end0
  exact ⟨rfl, rfl⟩
set_option maxRecDepth 100000 in
theorem setLoc_fix (t g : Nat) (n x o : Int) (w : World) (hb : Blk w t 77 #[.int .u64 n, .int .i64 x, .pointer none]) (n0 : 0 ≤ n) (n1 : n ≤ 999999999) (hf : IsFix w g o) :
    Calls Try.prog 51 #[.pointer (some ⟨t, 0, none⟩), .pointer (some ⟨g, 0, none⟩)] w fun e w' => e = .returned (.tuple #[]) ∧ w.setCell ⟨t, 2, none⟩ (.pointer (some ⟨g, 0, none⟩)) = w' := by
  obtain ⟨gz, gt, hg, hz⟩ := hf
  have c := hb.cell
  have f := hb.frozen
  have c1 := hg.cell
  simp at c c1
  have H := Lib.hid hb
  clear hb hg hz
  go_enter Try.func51, Try.ntmps51
  go_wp2_with fail
  refine (strip_any t n x _ _ H.out n0 n1).mono ?_
  rintro e w' ⟨rfl, rfl⟩
  go_wp2_with fail
  go_end0
  exact ⟨rfl, rfl⟩

set_option maxRecDepth 100000 in
theorem setLoc_utc (t g : Nat) (n x : Int) (w : World) (hb : Blk w t 77 #[.int .u64 n, .int .i64 x, .pointer none]) (n0 : 0 ≤ n) (n1 : n ≤ 999999999) (hf : IsUtc w g) :
    Calls Try.prog 51 #[.pointer (some ⟨t, 0, none⟩), .pointer (some ⟨g, 0, none⟩)] w fun e w' => e = .returned (.tuple #[]) ∧ w.setCell ⟨t, 2, none⟩ (.pointer none) = w' := by
  have c := hb.cell
  have f := hb.frozen
  have c1 := Blk.cell hf
  simp at c c1
  have H := Lib.hid hb
  clear hb hf
  go_enter Try.func51, Try.ntmps51
  go_wp2_with fail
  refine (strip_any t n x _ _ H.out n0 n1).mono ?_
  rintro e w' ⟨rfl, rfl⟩
  go_wp2_with fail
  go_end0
  exact ⟨rfl, rfl⟩

theorem sec_any (t : Nat) (n x : Int) (v : Value) (w : World) (hb : Blk w t 77 #[.int .u64 n, .int .i64 x, v]) (n0 : 0 ≤ n) (n1 : n ≤ 999999999) (x0 : -100000000000 ≤ x) (x1 : x ≤ 500000000000) :
    Calls Try.prog 44 #[.pointer (some ⟨t, 0, none⟩)] w fun e w' => e = .returned (.int .i64 (x - 62135596800)) ∧ w = w' := by
  have c := hb.cell
  simp at c
  have hh := bits_high n n0 n1
  clear hb
  go_enter Try.func44, Try.ntmps44
  go_wp2
  go_ret
  exact ⟨ret_int' (by omega), rfl⟩

theorem unix_any (n x : Int) (v : Value) (w : World) (n0 : 0 ≤ n) (n1 : n ≤ 999999999) (x0 : -100000000000 ≤ x) (x1 : x ≤ 500000000000) :
    Calls Try.prog 30 #[.agg #[.int .u64 n, .int .i64 x, v]] w fun e w' => e = .returned (.int .i64 (x - 62135596800)) ∧ Below w.heap.size w w' := by
  go_enter Try.func30, Try.ntmps30
  go_wp2_with fail
  refine (sec_any _ n x v _ (Blk.new _ _ _) n0 n1 x0 x1).mono ?_
  rintro e w' ⟨rfl, rfl⟩
  go_wp2_with fail
  go_ret
  exact ⟨rfl, (Below.refl _ _).alloc (Nat.le_refl _) _⟩

theorem nano_any (n x : Int) (v : Value) (w : World) (n0 : 0 ≤ n) (n1 : n ≤ 999999999) :
    Calls Try.prog 31 #[.agg #[.int .u64 n, .int .i64 x, v]] w fun e w' => e = .returned (.int .i64 n) ∧ Below w.heap.size w w' := by
  have hl := bits_low n n0 n1
  go_enter Try.func31, Try.ntmps31
  go_wp2
  go_ret
  exact ⟨rfl, (Below.refl _ _).alloc (Nat.le_refl _) _⟩

end Go.Proofs.Ytnddjppbecpmdaa
