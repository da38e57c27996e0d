/- The walk of the reference's integer, a case each. -/
import Derived.Test.YtnddjppbecpmdaaI
namespace Go.Proofs.Ytnddjppbecpmdaa
open Go.RowKit
set_option linter.unusedVariables false
set_option linter.unusedSimpArgs false

def IntRes (pre : List UInt8) (β V : Nat) (v : Int) (w : World) (e : Ending) (w' : World) : Prop :=
  ∃ out : List UInt8, e = .returned (.tuple #[.string ⟨(pre ++ out).toArray⟩, .int .i64 v]) ∧ out.length ≤ 128 ∧ Hid (Body β V out) ∧ w = w'

theorem size_one (a : UInt8) : (⟨#[a]⟩ : ByteArray).size = 1 := rfl

theorem str3 (a b c : List UInt8) : ((⟨a.toArray⟩ : ByteArray) ++ ⟨b.toArray⟩) ++ ⟨c.toArray⟩ = ⟨(a ++ b ++ c).toArray⟩ := by
  apply ByteArray.ext
  simp [ByteArray.data_append]

theorem str_two (a b : UInt8) (o : List UInt8) : (⟨#[a]⟩ : ByteArray) ++ ((⟨#[b]⟩ : ByteArray) ++ ⟨o.toArray⟩) = ⟨(a :: b :: o).toArray⟩ := by
  apply ByteArray.ext
  simp [ByteArray.data_append]

theorem neg_u64 (v : Int) (h0 : -9223372036854775808 ≤ v) (h1 : v < 0) : IntKind.u64.wrap (-IntKind.u64.wrap v) = ((-v).toNat : Nat) := by
  simp only [IntKind.wrap]
  simp [IntKind.bits, IntKind.signed]
  omega

set_option maxRecDepth 100000 in
set_option maxHeartbeats 4000000 in
theorem specInt_pos0 (v : Nat) (st : Int) (w : World) (h1 : v ≤ 9223372036854775807) (s0 : 0 ≤ st) (s1 : st ≤ 65535) :
    Calls Try.prog 11 #[.int .i64 v, .int .i64 0, .int .i64 st] w (IntRes [] 10 (v) v w) := by
  have hv : decide ((v : Int) < 0) = false := by simp
  go_enter Try.func11, Try.ntmps11
  go_wp2
  go_loop [8, 12, 13] (fun a s i => ∃ (u k : Nat) (out : List UInt8), a = .int .u64 u ∧ s = .string ⟨out.toArray⟩ ∧ i = .int .i64 k ∧ u ≤ 9223372036854775808 ∧ k ≤ 64 ∧ out.length ≤ 2 * k ∧ Hid (RI 10 (v) u k out)) (fun _ _ i => 65 - (intOf i).toNat)
  case atStart => exact ⟨v, 0, [], by go_num, rfl, rfl, by omega, by omega, by simp, ri_start _ _ (by omega)⟩
  case round =>
    obtain ⟨u, k, out, rfl, rfl, rfl, hu, hk, hl, H⟩ := hrel
    by_cases hu0 : 0 < u
    · have hk64 := ri_lt H.out hu0
      by_cases hk0 : 0 < k
      · by_cases hst : (bits BinOp.and IntKind.i64 (st / 2 ^ (k % 16)) 1 == 1) = true
        · go_wp2_with fail
          · exfalso
            have h : 9223372036854775807 < (Utf8.encode (((⟨#[48, 49, 50, 51, 52, 53, 54, 55, 56, 57, 97, 98, 99, 100, 101, 102]⟩ : ByteArray)[u % 10]'(Nat.lt_of_lt_of_le (Nat.mod_lt u (by omega)) (show 10 ≤ 16 by omega))).toNat : Int)).size + (1 + out.length) := by assumption
            rw [enc_hex (u % 10) (by omega), size_one] at h
            omega
          go_round
          case rel => exact ⟨u / 10, k + 1, dch (u % 10) :: 95 :: out, by go_num, by rw [enc_hex (u % 10) (by omega), str_two], by go_num, by omega, by omega, by simp; omega, ri_step_aux H.out (by omega) (by omega) (Or.inl hu0) (Or.inr rfl) (fun _ => hk0)⟩
          case measure => simp [intOf]; omega
        · have hst2 : (bits BinOp.and IntKind.i64 (st / 2 ^ (k % 16)) 1 == 1) = false := by simpa using hst
          clear hst
          go_wp2_with fail
          · exfalso
            have h : 9223372036854775807 < (Utf8.encode (((⟨#[48, 49, 50, 51, 52, 53, 54, 55, 56, 57, 97, 98, 99, 100, 101, 102]⟩ : ByteArray)[u % 10]'(Nat.lt_of_lt_of_le (Nat.mod_lt u (by omega)) (show 10 ≤ 16 by omega))).toNat : Int)).size + out.length := by assumption
            rw [enc_hex (u % 10) (by omega), size_one] at h
            omega
          go_round
          case rel => exact ⟨u / 10, k + 1, dch (u % 10) :: out, by go_num, by rw [enc_hex (u % 10) (by omega), str_app], by go_num, by omega, by omega, by simp; omega, ri_step_aux H.out (by omega) (by omega) (Or.inl hu0) (Or.inl rfl) (fun h => hk0)⟩
          case measure => simp [intOf]; omega
      · go_wp2_with fail
        · exfalso
          have h : 9223372036854775807 < (Utf8.encode (((⟨#[48, 49, 50, 51, 52, 53, 54, 55, 56, 57, 97, 98, 99, 100, 101, 102]⟩ : ByteArray)[u % 10]'(Nat.lt_of_lt_of_le (Nat.mod_lt u (by omega)) (show 10 ≤ 16 by omega))).toNat : Int)).size + out.length := by assumption
          rw [enc_hex (u % 10) (by omega), size_one] at h
          omega
        go_round
        case rel => exact ⟨u / 10, k + 1, dch (u % 10) :: out, by go_num, by rw [enc_hex (u % 10) (by omega), str_app], by go_num, by omega, by omega, by simp; omega, ri_step_aux H.out (by omega) (by omega) (Or.inl hu0) (Or.inl rfl) (fun h => absurd (congrArg List.length h) (by simp))⟩
        case measure => simp [intOf]; omega
    · by_cases hk0 : 0 < k
      · have hk1 : ((k : Int) == 0) = false := by simp; omega
        have HB : Hid (Body 10 (v) out) := ri_end (by have h2 := H.out; rwa [show u = 0 by omega] at h2) hk0
        go_wp2_with fail
        go_ret2
        exact ⟨out, by simp [ByteArray.data_append, ByteArray.ext_iff], by omega, HB, rfl⟩
      · have hk1 : ((k : Int) == 0) = true := by simp; omega
        go_wp2_with fail
        · exfalso
          have h : 9223372036854775807 < (Utf8.encode (((⟨#[48, 49, 50, 51, 52, 53, 54, 55, 56, 57, 97, 98, 99, 100, 101, 102]⟩ : ByteArray)[u % 10]'(Nat.lt_of_lt_of_le (Nat.mod_lt u (by omega)) (show 10 ≤ 16 by omega))).toNat : Int)).size + out.length := by assumption
          rw [enc_hex (u % 10) (by omega), size_one] at h
          omega
        go_round
        case rel => exact ⟨u / 10, k + 1, dch (u % 10) :: out, by go_num, by rw [enc_hex (u % 10) (by omega), str_app], by go_num, by omega, by omega, by simp; omega, ri_step_aux H.out (by omega) (by omega) (Or.inr (by omega)) (Or.inl rfl) (fun h => absurd (congrArg List.length h) (by simp))⟩
        case measure => simp [intOf]; omega

set_option maxRecDepth 100000 in
set_option maxHeartbeats 4000000 in
theorem specInt_pos1 (v : Nat) (st : Int) (w : World) (h1 : v ≤ 9223372036854775807) (s0 : 0 ≤ st) (s1 : st ≤ 65535) :
    Calls Try.prog 11 #[.int .i64 v, .int .i64 1, .int .i64 st] w (IntRes [43] 10 (v) v w) := by
  have hv : decide ((v : Int) < 0) = false := by simp
  go_enter Try.func11, Try.ntmps11
  go_wp2
  go_loop [8, 12, 13] (fun a s i => ∃ (u k : Nat) (out : List UInt8), a = .int .u64 u ∧ s = .string ⟨out.toArray⟩ ∧ i = .int .i64 k ∧ u ≤ 9223372036854775808 ∧ k ≤ 64 ∧ out.length ≤ 2 * k ∧ Hid (RI 10 (v) u k out)) (fun _ _ i => 65 - (intOf i).toNat)
  case atStart => exact ⟨v, 0, [], by go_num, rfl, rfl, by omega, by omega, by simp, ri_start _ _ (by omega)⟩
  case round =>
    obtain ⟨u, k, out, rfl, rfl, rfl, hu, hk, hl, H⟩ := hrel
    by_cases hu0 : 0 < u
    · have hk64 := ri_lt H.out hu0
      by_cases hk0 : 0 < k
      · by_cases hst : (bits BinOp.and IntKind.i64 (st / 2 ^ (k % 16)) 1 == 1) = true
        · go_wp2_with fail
          · exfalso
            have h : 9223372036854775807 < (Utf8.encode (((⟨#[48, 49, 50, 51, 52, 53, 54, 55, 56, 57, 97, 98, 99, 100, 101, 102]⟩ : ByteArray)[u % 10]'(Nat.lt_of_lt_of_le (Nat.mod_lt u (by omega)) (show 10 ≤ 16 by omega))).toNat : Int)).size + (1 + out.length) := by assumption
            rw [enc_hex (u % 10) (by omega), size_one] at h
            omega
          go_round
          case rel => exact ⟨u / 10, k + 1, dch (u % 10) :: 95 :: out, by go_num, by rw [enc_hex (u % 10) (by omega), str_two], by go_num, by omega, by omega, by simp; omega, ri_step_aux H.out (by omega) (by omega) (Or.inl hu0) (Or.inr rfl) (fun _ => hk0)⟩
          case measure => simp [intOf]; omega
        · have hst2 : (bits BinOp.and IntKind.i64 (st / 2 ^ (k % 16)) 1 == 1) = false := by simpa using hst
          clear hst
          go_wp2_with fail
          · exfalso
            have h : 9223372036854775807 < (Utf8.encode (((⟨#[48, 49, 50, 51, 52, 53, 54, 55, 56, 57, 97, 98, 99, 100, 101, 102]⟩ : ByteArray)[u % 10]'(Nat.lt_of_lt_of_le (Nat.mod_lt u (by omega)) (show 10 ≤ 16 by omega))).toNat : Int)).size + out.length := by assumption
            rw [enc_hex (u % 10) (by omega), size_one] at h
            omega
          go_round
          case rel => exact ⟨u / 10, k + 1, dch (u % 10) :: out, by go_num, by rw [enc_hex (u % 10) (by omega), str_app], by go_num, by omega, by omega, by simp; omega, ri_step_aux H.out (by omega) (by omega) (Or.inl hu0) (Or.inl rfl) (fun h => hk0)⟩
          case measure => simp [intOf]; omega
      · go_wp2_with fail
        · exfalso
          have h : 9223372036854775807 < (Utf8.encode (((⟨#[48, 49, 50, 51, 52, 53, 54, 55, 56, 57, 97, 98, 99, 100, 101, 102]⟩ : ByteArray)[u % 10]'(Nat.lt_of_lt_of_le (Nat.mod_lt u (by omega)) (show 10 ≤ 16 by omega))).toNat : Int)).size + out.length := by assumption
          rw [enc_hex (u % 10) (by omega), size_one] at h
          omega
        go_round
        case rel => exact ⟨u / 10, k + 1, dch (u % 10) :: out, by go_num, by rw [enc_hex (u % 10) (by omega), str_app], by go_num, by omega, by omega, by simp; omega, ri_step_aux H.out (by omega) (by omega) (Or.inl hu0) (Or.inl rfl) (fun h => absurd (congrArg List.length h) (by simp))⟩
        case measure => simp [intOf]; omega
    · by_cases hk0 : 0 < k
      · have hk1 : ((k : Int) == 0) = false := by simp; omega
        have HB : Hid (Body 10 (v) out) := ri_end (by have h2 := H.out; rwa [show u = 0 by omega] at h2) hk0
        go_wp2_with fail
        go_ret2
        exact ⟨out, by simp [ByteArray.data_append, ByteArray.ext_iff], by omega, HB, rfl⟩
      · have hk1 : ((k : Int) == 0) = true := by simp; omega
        go_wp2_with fail
        · exfalso
          have h : 9223372036854775807 < (Utf8.encode (((⟨#[48, 49, 50, 51, 52, 53, 54, 55, 56, 57, 97, 98, 99, 100, 101, 102]⟩ : ByteArray)[u % 10]'(Nat.lt_of_lt_of_le (Nat.mod_lt u (by omega)) (show 10 ≤ 16 by omega))).toNat : Int)).size + out.length := by assumption
          rw [enc_hex (u % 10) (by omega), size_one] at h
          omega
        go_round
        case rel => exact ⟨u / 10, k + 1, dch (u % 10) :: out, by go_num, by rw [enc_hex (u % 10) (by omega), str_app], by go_num, by omega, by omega, by simp; omega, ri_step_aux H.out (by omega) (by omega) (Or.inr (by omega)) (Or.inl rfl) (fun h => absurd (congrArg List.length h) (by simp))⟩
        case measure => simp [intOf]; omega

set_option maxRecDepth 100000 in
set_option maxHeartbeats 4000000 in
theorem specInt_neg0 (v : Int) (U : Nat) (st : Int) (w : World) (h0 : -9223372036854775808 ≤ v) (h1 : v < 0) (hU : (-v).toNat = U) (s0 : 0 ≤ st) (s1 : st ≤ 65535) :
    Calls Try.prog 11 #[.int .i64 v, .int .i64 0, .int .i64 st] w (IntRes [45] 10 (U) v w) := by
  have hn := neg_u64 v h0 h1
  rw [hU] at hn
  have hU1 : U ≤ 9223372036854775808 := by omega
  have HU := Lib.hid hU
  clear hU
  go_enter Try.func11, Try.ntmps11
  go_wp2
  go_loop [8, 12, 13] (fun a s i => ∃ (u k : Nat) (out : List UInt8), a = .int .u64 u ∧ s = .string ⟨out.toArray⟩ ∧ i = .int .i64 k ∧ u ≤ 9223372036854775808 ∧ k ≤ 64 ∧ out.length ≤ 2 * k ∧ Hid (RI 10 (U) u k out)) (fun _ _ i => 65 - (intOf i).toNat)
  case atStart => exact ⟨U, 0, [], by go_num, rfl, rfl, by omega, by omega, by simp, ri_start _ _ (by omega)⟩
  case round =>
    obtain ⟨u, k, out, rfl, rfl, rfl, hu, hk, hl, H⟩ := hrel
    by_cases hu0 : 0 < u
    · have hk64 := ri_lt H.out hu0
      by_cases hk0 : 0 < k
      · by_cases hst : (bits BinOp.and IntKind.i64 (st / 2 ^ (k % 16)) 1 == 1) = true
        · go_wp2_with fail
          · exfalso
            have h : 9223372036854775807 < (Utf8.encode (((⟨#[48, 49, 50, 51, 52, 53, 54, 55, 56, 57, 97, 98, 99, 100, 101, 102]⟩ : ByteArray)[u % 10]'(Nat.lt_of_lt_of_le (Nat.mod_lt u (by omega)) (show 10 ≤ 16 by omega))).toNat : Int)).size + (1 + out.length) := by assumption
            rw [enc_hex (u % 10) (by omega), size_one] at h
            omega
          go_round
          case rel => exact ⟨u / 10, k + 1, dch (u % 10) :: 95 :: out, by go_num, by rw [enc_hex (u % 10) (by omega), str_two], by go_num, by omega, by omega, by simp; omega, ri_step_aux H.out (by omega) (by omega) (Or.inl hu0) (Or.inr rfl) (fun _ => hk0)⟩
          case measure => simp [intOf]; omega
        · have hst2 : (bits BinOp.and IntKind.i64 (st / 2 ^ (k % 16)) 1 == 1) = false := by simpa using hst
          clear hst
          go_wp2_with fail
          · exfalso
            have h : 9223372036854775807 < (Utf8.encode (((⟨#[48, 49, 50, 51, 52, 53, 54, 55, 56, 57, 97, 98, 99, 100, 101, 102]⟩ : ByteArray)[u % 10]'(Nat.lt_of_lt_of_le (Nat.mod_lt u (by omega)) (show 10 ≤ 16 by omega))).toNat : Int)).size + out.length := by assumption
            rw [enc_hex (u % 10) (by omega), size_one] at h
            omega
          go_round
          case rel => exact ⟨u / 10, k + 1, dch (u % 10) :: out, by go_num, by rw [enc_hex (u % 10) (by omega), str_app], by go_num, by omega, by omega, by simp; omega, ri_step_aux H.out (by omega) (by omega) (Or.inl hu0) (Or.inl rfl) (fun h => hk0)⟩
          case measure => simp [intOf]; omega
      · go_wp2_with fail
        · exfalso
          have h : 9223372036854775807 < (Utf8.encode (((⟨#[48, 49, 50, 51, 52, 53, 54, 55, 56, 57, 97, 98, 99, 100, 101, 102]⟩ : ByteArray)[u % 10]'(Nat.lt_of_lt_of_le (Nat.mod_lt u (by omega)) (show 10 ≤ 16 by omega))).toNat : Int)).size + out.length := by assumption
          rw [enc_hex (u % 10) (by omega), size_one] at h
          omega
        go_round
        case rel => exact ⟨u / 10, k + 1, dch (u % 10) :: out, by go_num, by rw [enc_hex (u % 10) (by omega), str_app], by go_num, by omega, by omega, by simp; omega, ri_step_aux H.out (by omega) (by omega) (Or.inl hu0) (Or.inl rfl) (fun h => absurd (congrArg List.length h) (by simp))⟩
        case measure => simp [intOf]; omega
    · by_cases hk0 : 0 < k
      · have hk1 : ((k : Int) == 0) = false := by simp; omega
        have HB : Hid (Body 10 (U) out) := ri_end (by have h2 := H.out; rwa [show u = 0 by omega] at h2) hk0
        go_wp2_with fail
        go_ret2
        exact ⟨out, by simp [ByteArray.data_append, ByteArray.ext_iff], by omega, HB, rfl⟩
      · have hk1 : ((k : Int) == 0) = true := by simp; omega
        go_wp2_with fail
        · exfalso
          have h : 9223372036854775807 < (Utf8.encode (((⟨#[48, 49, 50, 51, 52, 53, 54, 55, 56, 57, 97, 98, 99, 100, 101, 102]⟩ : ByteArray)[u % 10]'(Nat.lt_of_lt_of_le (Nat.mod_lt u (by omega)) (show 10 ≤ 16 by omega))).toNat : Int)).size + out.length := by assumption
          rw [enc_hex (u % 10) (by omega), size_one] at h
          omega
        go_round
        case rel => exact ⟨u / 10, k + 1, dch (u % 10) :: out, by go_num, by rw [enc_hex (u % 10) (by omega), str_app], by go_num, by omega, by omega, by simp; omega, ri_step_aux H.out (by omega) (by omega) (Or.inr (by omega)) (Or.inl rfl) (fun h => absurd (congrArg List.length h) (by simp))⟩
        case measure => simp [intOf]; omega

set_option maxRecDepth 100000 in
set_option maxHeartbeats 4000000 in
theorem specInt_neg1 (v : Int) (U : Nat) (st : Int) (w : World) (h0 : -9223372036854775808 ≤ v) (h1 : v < 0) (hU : (-v).toNat = U) (s0 : 0 ≤ st) (s1 : st ≤ 65535) :
    Calls Try.prog 11 #[.int .i64 v, .int .i64 1, .int .i64 st] w (IntRes [45] 10 (U) v w) := by
  have hn := neg_u64 v h0 h1
  rw [hU] at hn
  have hU1 : U ≤ 9223372036854775808 := by omega
  have HU := Lib.hid hU
  clear hU
  go_enter Try.func11, Try.ntmps11
  go_wp2
  go_loop [8, 12, 13] (fun a s i => ∃ (u k : Nat) (out : List UInt8), a = .int .u64 u ∧ s = .string ⟨out.toArray⟩ ∧ i = .int .i64 k ∧ u ≤ 9223372036854775808 ∧ k ≤ 64 ∧ out.length ≤ 2 * k ∧ Hid (RI 10 (U) u k out)) (fun _ _ i => 65 - (intOf i).toNat)
  case atStart => exact ⟨U, 0, [], by go_num, rfl, rfl, by omega, by omega, by simp, ri_start _ _ (by omega)⟩
  case round =>
    obtain ⟨u, k, out, rfl, rfl, rfl, hu, hk, hl, H⟩ := hrel
    by_cases hu0 : 0 < u
    · have hk64 := ri_lt H.out hu0
      by_cases hk0 : 0 < k
      · by_cases hst : (bits BinOp.and IntKind.i64 (st / 2 ^ (k % 16)) 1 == 1) = true
        · go_wp2_with fail
          · exfalso
            have h : 9223372036854775807 < (Utf8.encode (((⟨#[48, 49, 50, 51, 52, 53, 54, 55, 56, 57, 97, 98, 99, 100, 101, 102]⟩ : ByteArray)[u % 10]'(Nat.lt_of_lt_of_le (Nat.mod_lt u (by omega)) (show 10 ≤ 16 by omega))).toNat : Int)).size + (1 + out.length) := by assumption
            rw [enc_hex (u % 10) (by omega), size_one] at h
            omega
          go_round
          case rel => exact ⟨u / 10, k + 1, dch (u % 10) :: 95 :: out, by go_num, by rw [enc_hex (u % 10) (by omega), str_two], by go_num, by omega, by omega, by simp; omega, ri_step_aux H.out (by omega) (by omega) (Or.inl hu0) (Or.inr rfl) (fun _ => hk0)⟩
          case measure => simp [intOf]; omega
        · have hst2 : (bits BinOp.and IntKind.i64 (st / 2 ^ (k % 16)) 1 == 1) = false := by simpa using hst
          clear hst
          go_wp2_with fail
          · exfalso
            have h : 9223372036854775807 < (Utf8.encode (((⟨#[48, 49, 50, 51, 52, 53, 54, 55, 56, 57, 97, 98, 99, 100, 101, 102]⟩ : ByteArray)[u % 10]'(Nat.lt_of_lt_of_le (Nat.mod_lt u (by omega)) (show 10 ≤ 16 by omega))).toNat : Int)).size + out.length := by assumption
            rw [enc_hex (u % 10) (by omega), size_one] at h
            omega
          go_round
          case rel => exact ⟨u / 10, k + 1, dch (u % 10) :: out, by go_num, by rw [enc_hex (u % 10) (by omega), str_app], by go_num, by omega, by omega, by simp; omega, ri_step_aux H.out (by omega) (by omega) (Or.inl hu0) (Or.inl rfl) (fun h => hk0)⟩
          case measure => simp [intOf]; omega
      · go_wp2_with fail
        · exfalso
          have h : 9223372036854775807 < (Utf8.encode (((⟨#[48, 49, 50, 51, 52, 53, 54, 55, 56, 57, 97, 98, 99, 100, 101, 102]⟩ : ByteArray)[u % 10]'(Nat.lt_of_lt_of_le (Nat.mod_lt u (by omega)) (show 10 ≤ 16 by omega))).toNat : Int)).size + out.length := by assumption
          rw [enc_hex (u % 10) (by omega), size_one] at h
          omega
        go_round
        case rel => exact ⟨u / 10, k + 1, dch (u % 10) :: out, by go_num, by rw [enc_hex (u % 10) (by omega), str_app], by go_num, by omega, by omega, by simp; omega, ri_step_aux H.out (by omega) (by omega) (Or.inl hu0) (Or.inl rfl) (fun h => absurd (congrArg List.length h) (by simp))⟩
        case measure => simp [intOf]; omega
    · by_cases hk0 : 0 < k
      · have hk1 : ((k : Int) == 0) = false := by simp; omega
        have HB : Hid (Body 10 (U) out) := ri_end (by have h2 := H.out; rwa [show u = 0 by omega] at h2) hk0
        go_wp2_with fail
        go_ret2
        exact ⟨out, by simp [ByteArray.data_append, ByteArray.ext_iff], by omega, HB, rfl⟩
      · have hk1 : ((k : Int) == 0) = true := by simp; omega
        go_wp2_with fail
        · exfalso
          have h : 9223372036854775807 < (Utf8.encode (((⟨#[48, 49, 50, 51, 52, 53, 54, 55, 56, 57, 97, 98, 99, 100, 101, 102]⟩ : ByteArray)[u % 10]'(Nat.lt_of_lt_of_le (Nat.mod_lt u (by omega)) (show 10 ≤ 16 by omega))).toNat : Int)).size + out.length := by assumption
          rw [enc_hex (u % 10) (by omega), size_one] at h
          omega
        go_round
        case rel => exact ⟨u / 10, k + 1, dch (u % 10) :: out, by go_num, by rw [enc_hex (u % 10) (by omega), str_app], by go_num, by omega, by omega, by simp; omega, ri_step_aux H.out (by omega) (by omega) (Or.inr (by omega)) (Or.inl rfl) (fun h => absurd (congrArg List.length h) (by simp))⟩
        case measure => simp [intOf]; omega

set_option maxRecDepth 100000 in
set_option maxHeartbeats 4000000 in
theorem specInt_pos2 (v : Nat) (st : Int) (w : World) (h1 : v ≤ 9223372036854775807) (s0 : 0 ≤ st) (s1 : st ≤ 65535) :
    Calls Try.prog 11 #[.int .i64 v, .int .i64 2, .int .i64 st] w (IntRes [48, 120] 16 (v/2) ((v/2 : Nat) : Int) w) := by
  have hv : decide ((v : Int) < 0) = false := by simp
  go_enter Try.func11, Try.ntmps11
  go_wp2
  go_loop [8, 12, 13] (fun a s i => ∃ (u k : Nat) (out : List UInt8), a = .int .u64 u ∧ s = .string ⟨out.toArray⟩ ∧ i = .int .i64 k ∧ u ≤ 9223372036854775808 ∧ k ≤ 64 ∧ out.length ≤ 2 * k ∧ Hid (RI 16 (v/2) u k out)) (fun _ _ i => 65 - (intOf i).toNat)
  case atStart => exact ⟨v/2, 0, [], by go_num, rfl, rfl, by omega, by omega, by simp, ri_start _ _ (by omega)⟩
  case round =>
    obtain ⟨u, k, out, rfl, rfl, rfl, hu, hk, hl, H⟩ := hrel
    by_cases hu0 : 0 < u
    · have hk64 := ri_lt H.out hu0
      by_cases hk0 : 0 < k
      · by_cases hst : (bits BinOp.and IntKind.i64 (st / 2 ^ (k % 16)) 1 == 1) = true
        · go_wp2_with fail
          · exfalso
            have h : 9223372036854775807 < (Utf8.encode (((⟨#[48, 49, 50, 51, 52, 53, 54, 55, 56, 57, 97, 98, 99, 100, 101, 102]⟩ : ByteArray)[u % 16]'(Nat.lt_of_lt_of_le (Nat.mod_lt u (by omega)) (show 16 ≤ 16 by omega))).toNat : Int)).size + (1 + out.length) := by assumption
            rw [enc_hex (u % 16) (by omega), size_one] at h
            omega
          go_round
          case rel => exact ⟨u / 16, k + 1, dch (u % 16) :: 95 :: out, by go_num, by rw [enc_hex (u % 16) (by omega), str_two], by go_num, by omega, by omega, by simp; omega, ri_step_aux H.out (by omega) (by omega) (Or.inl hu0) (Or.inr rfl) (fun _ => hk0)⟩
          case measure => simp [intOf]; omega
        · have hst2 : (bits BinOp.and IntKind.i64 (st / 2 ^ (k % 16)) 1 == 1) = false := by simpa using hst
          clear hst
          go_wp2_with fail
          · exfalso
            have h : 9223372036854775807 < (Utf8.encode (((⟨#[48, 49, 50, 51, 52, 53, 54, 55, 56, 57, 97, 98, 99, 100, 101, 102]⟩ : ByteArray)[u % 16]'(Nat.lt_of_lt_of_le (Nat.mod_lt u (by omega)) (show 16 ≤ 16 by omega))).toNat : Int)).size + out.length := by assumption
            rw [enc_hex (u % 16) (by omega), size_one] at h
            omega
          go_round
          case rel => exact ⟨u / 16, k + 1, dch (u % 16) :: out, by go_num, by rw [enc_hex (u % 16) (by omega), str_app], by go_num, by omega, by omega, by simp; omega, ri_step_aux H.out (by omega) (by omega) (Or.inl hu0) (Or.inl rfl) (fun h => hk0)⟩
          case measure => simp [intOf]; omega
      · go_wp2_with fail
        · exfalso
          have h : 9223372036854775807 < (Utf8.encode (((⟨#[48, 49, 50, 51, 52, 53, 54, 55, 56, 57, 97, 98, 99, 100, 101, 102]⟩ : ByteArray)[u % 16]'(Nat.lt_of_lt_of_le (Nat.mod_lt u (by omega)) (show 16 ≤ 16 by omega))).toNat : Int)).size + out.length := by assumption
          rw [enc_hex (u % 16) (by omega), size_one] at h
          omega
        go_round
        case rel => exact ⟨u / 16, k + 1, dch (u % 16) :: out, by go_num, by rw [enc_hex (u % 16) (by omega), str_app], by go_num, by omega, by omega, by simp; omega, ri_step_aux H.out (by omega) (by omega) (Or.inl hu0) (Or.inl rfl) (fun h => absurd (congrArg List.length h) (by simp))⟩
        case measure => simp [intOf]; omega
    · by_cases hk0 : 0 < k
      · have hk1 : ((k : Int) == 0) = false := by simp; omega
        have HB : Hid (Body 16 (v/2) out) := ri_end (by have h2 := H.out; rwa [show u = 0 by omega] at h2) hk0
        go_wp2_with fail
        go_ret2
        exact ⟨out, by simp [ByteArray.data_append, ByteArray.ext_iff], by omega, HB, rfl⟩
      · have hk1 : ((k : Int) == 0) = true := by simp; omega
        go_wp2_with fail
        · exfalso
          have h : 9223372036854775807 < (Utf8.encode (((⟨#[48, 49, 50, 51, 52, 53, 54, 55, 56, 57, 97, 98, 99, 100, 101, 102]⟩ : ByteArray)[u % 16]'(Nat.lt_of_lt_of_le (Nat.mod_lt u (by omega)) (show 16 ≤ 16 by omega))).toNat : Int)).size + out.length := by assumption
          rw [enc_hex (u % 16) (by omega), size_one] at h
          omega
        go_round
        case rel => exact ⟨u / 16, k + 1, dch (u % 16) :: out, by go_num, by rw [enc_hex (u % 16) (by omega), str_app], by go_num, by omega, by omega, by simp; omega, ri_step_aux H.out (by omega) (by omega) (Or.inr (by omega)) (Or.inl rfl) (fun h => absurd (congrArg List.length h) (by simp))⟩
        case measure => simp [intOf]; omega

set_option maxRecDepth 100000 in
set_option maxHeartbeats 4000000 in
theorem specInt_neg2 (v : Int) (U : Nat) (st : Int) (w : World) (h0 : -9223372036854775808 ≤ v) (h1 : v < 0) (hU : (-v).toNat = U) (s0 : 0 ≤ st) (s1 : st ≤ 65535) :
    Calls Try.prog 11 #[.int .i64 v, .int .i64 2, .int .i64 st] w (IntRes [48, 120] 16 (U/2) ((U/2 : Nat) : Int) w) := by
  have hn := neg_u64 v h0 h1
  rw [hU] at hn
  have hU1 : U ≤ 9223372036854775808 := by omega
  have HU := Lib.hid hU
  clear hU
  go_enter Try.func11, Try.ntmps11
  go_wp2
  go_loop [8, 12, 13] (fun a s i => ∃ (u k : Nat) (out : List UInt8), a = .int .u64 u ∧ s = .string ⟨out.toArray⟩ ∧ i = .int .i64 k ∧ u ≤ 9223372036854775808 ∧ k ≤ 64 ∧ out.length ≤ 2 * k ∧ Hid (RI 16 (U/2) u k out)) (fun _ _ i => 65 - (intOf i).toNat)
  case atStart => exact ⟨U/2, 0, [], by go_num, rfl, rfl, by omega, by omega, by simp, ri_start _ _ (by omega)⟩
  case round =>
    obtain ⟨u, k, out, rfl, rfl, rfl, hu, hk, hl, H⟩ := hrel
    by_cases hu0 : 0 < u
    · have hk64 := ri_lt H.out hu0
      by_cases hk0 : 0 < k
      · by_cases hst : (bits BinOp.and IntKind.i64 (st / 2 ^ (k % 16)) 1 == 1) = true
        · go_wp2_with fail
          · exfalso
            have h : 9223372036854775807 < (Utf8.encode (((⟨#[48, 49, 50, 51, 52, 53, 54, 55, 56, 57, 97, 98, 99, 100, 101, 102]⟩ : ByteArray)[u % 16]'(Nat.lt_of_lt_of_le (Nat.mod_lt u (by omega)) (show 16 ≤ 16 by omega))).toNat : Int)).size + (1 + out.length) := by assumption
            rw [enc_hex (u % 16) (by omega), size_one] at h
            omega
          go_round
          case rel => exact ⟨u / 16, k + 1, dch (u % 16) :: 95 :: out, by go_num, by rw [enc_hex (u % 16) (by omega), str_two], by go_num, by omega, by omega, by simp; omega, ri_step_aux H.out (by omega) (by omega) (Or.inl hu0) (Or.inr rfl) (fun _ => hk0)⟩
          case measure => simp [intOf]; omega
        · have hst2 : (bits BinOp.and IntKind.i64 (st / 2 ^ (k % 16)) 1 == 1) = false := by simpa using hst
          clear hst
          go_wp2_with fail
          · exfalso
            have h : 9223372036854775807 < (Utf8.encode (((⟨#[48, 49, 50, 51, 52, 53, 54, 55, 56, 57, 97, 98, 99, 100, 101, 102]⟩ : ByteArray)[u % 16]'(Nat.lt_of_lt_of_le (Nat.mod_lt u (by omega)) (show 16 ≤ 16 by omega))).toNat : Int)).size + out.length := by assumption
            rw [enc_hex (u % 16) (by omega), size_one] at h
            omega
          go_round
          case rel => exact ⟨u / 16, k + 1, dch (u % 16) :: out, by go_num, by rw [enc_hex (u % 16) (by omega), str_app], by go_num, by omega, by omega, by simp; omega, ri_step_aux H.out (by omega) (by omega) (Or.inl hu0) (Or.inl rfl) (fun h => hk0)⟩
          case measure => simp [intOf]; omega
      · go_wp2_with fail
        · exfalso
          have h : 9223372036854775807 < (Utf8.encode (((⟨#[48, 49, 50, 51, 52, 53, 54, 55, 56, 57, 97, 98, 99, 100, 101, 102]⟩ : ByteArray)[u % 16]'(Nat.lt_of_lt_of_le (Nat.mod_lt u (by omega)) (show 16 ≤ 16 by omega))).toNat : Int)).size + out.length := by assumption
          rw [enc_hex (u % 16) (by omega), size_one] at h
          omega
        go_round
        case rel => exact ⟨u / 16, k + 1, dch (u % 16) :: out, by go_num, by rw [enc_hex (u % 16) (by omega), str_app], by go_num, by omega, by omega, by simp; omega, ri_step_aux H.out (by omega) (by omega) (Or.inl hu0) (Or.inl rfl) (fun h => absurd (congrArg List.length h) (by simp))⟩
        case measure => simp [intOf]; omega
    · by_cases hk0 : 0 < k
      · have hk1 : ((k : Int) == 0) = false := by simp; omega
        have HB : Hid (Body 16 (U/2) out) := ri_end (by have h2 := H.out; rwa [show u = 0 by omega] at h2) hk0
        go_wp2_with fail
        go_ret2
        exact ⟨out, by simp [ByteArray.data_append, ByteArray.ext_iff], by omega, HB, rfl⟩
      · have hk1 : ((k : Int) == 0) = true := by simp; omega
        go_wp2_with fail
        · exfalso
          have h : 9223372036854775807 < (Utf8.encode (((⟨#[48, 49, 50, 51, 52, 53, 54, 55, 56, 57, 97, 98, 99, 100, 101, 102]⟩ : ByteArray)[u % 16]'(Nat.lt_of_lt_of_le (Nat.mod_lt u (by omega)) (show 16 ≤ 16 by omega))).toNat : Int)).size + out.length := by assumption
          rw [enc_hex (u % 16) (by omega), size_one] at h
          omega
        go_round
        case rel => exact ⟨u / 16, k + 1, dch (u % 16) :: out, by go_num, by rw [enc_hex (u % 16) (by omega), str_app], by go_num, by omega, by omega, by simp; omega, ri_step_aux H.out (by omega) (by omega) (Or.inr (by omega)) (Or.inl rfl) (fun h => absurd (congrArg List.length h) (by simp))⟩
        case measure => simp [intOf]; omega

set_option maxRecDepth 100000 in
set_option maxHeartbeats 4000000 in
theorem specInt_pos3 (v : Nat) (st : Int) (w : World) (h1 : v ≤ 9223372036854775807) (s0 : 0 ≤ st) (s1 : st ≤ 65535) :
    Calls Try.prog 11 #[.int .i64 v, .int .i64 3, .int .i64 st] w (IntRes [48, 111] 8 (v/2) ((v/2 : Nat) : Int) w) := by
  have hv : decide ((v : Int) < 0) = false := by simp
  go_enter Try.func11, Try.ntmps11
  go_wp2
  go_loop [8, 12, 13] (fun a s i => ∃ (u k : Nat) (out : List UInt8), a = .int .u64 u ∧ s = .string ⟨out.toArray⟩ ∧ i = .int .i64 k ∧ u ≤ 9223372036854775808 ∧ k ≤ 64 ∧ out.length ≤ 2 * k ∧ Hid (RI 8 (v/2) u k out)) (fun _ _ i => 65 - (intOf i).toNat)
  case atStart => exact ⟨v/2, 0, [], by go_num, rfl, rfl, by omega, by omega, by simp, ri_start _ _ (by omega)⟩
  case round =>
    obtain ⟨u, k, out, rfl, rfl, rfl, hu, hk, hl, H⟩ := hrel
    by_cases hu0 : 0 < u
    · have hk64 := ri_lt H.out hu0
      by_cases hk0 : 0 < k
      · by_cases hst : (bits BinOp.and IntKind.i64 (st / 2 ^ (k % 16)) 1 == 1) = true
        · go_wp2_with fail
          · exfalso
            have h : 9223372036854775807 < (Utf8.encode (((⟨#[48, 49, 50, 51, 52, 53, 54, 55, 56, 57, 97, 98, 99, 100, 101, 102]⟩ : ByteArray)[u % 8]'(Nat.lt_of_lt_of_le (Nat.mod_lt u (by omega)) (show 8 ≤ 16 by omega))).toNat : Int)).size + (1 + out.length) := by assumption
            rw [enc_hex (u % 8) (by omega), size_one] at h
            omega
          go_round
          case rel => exact ⟨u / 8, k + 1, dch (u % 8) :: 95 :: out, by go_num, by rw [enc_hex (u % 8) (by omega), str_two], by go_num, by omega, by omega, by simp; omega, ri_step_aux H.out (by omega) (by omega) (Or.inl hu0) (Or.inr rfl) (fun _ => hk0)⟩
          case measure => simp [intOf]; omega
        · have hst2 : (bits BinOp.and IntKind.i64 (st / 2 ^ (k % 16)) 1 == 1) = false := by simpa using hst
          clear hst
          go_wp2_with fail
          · exfalso
            have h : 9223372036854775807 < (Utf8.encode (((⟨#[48, 49, 50, 51, 52, 53, 54, 55, 56, 57, 97, 98, 99, 100, 101, 102]⟩ : ByteArray)[u % 8]'(Nat.lt_of_lt_of_le (Nat.mod_lt u (by omega)) (show 8 ≤ 16 by omega))).toNat : Int)).size + out.length := by assumption
            rw [enc_hex (u % 8) (by omega), size_one] at h
            omega
          go_round
          case rel => exact ⟨u / 8, k + 1, dch (u % 8) :: out, by go_num, by rw [enc_hex (u % 8) (by omega), str_app], by go_num, by omega, by omega, by simp; omega, ri_step_aux H.out (by omega) (by omega) (Or.inl hu0) (Or.inl rfl) (fun h => hk0)⟩
          case measure => simp [intOf]; omega
      · go_wp2_with fail
        · exfalso
          have h : 9223372036854775807 < (Utf8.encode (((⟨#[48, 49, 50, 51, 52, 53, 54, 55, 56, 57, 97, 98, 99, 100, 101, 102]⟩ : ByteArray)[u % 8]'(Nat.lt_of_lt_of_le (Nat.mod_lt u (by omega)) (show 8 ≤ 16 by omega))).toNat : Int)).size + out.length := by assumption
          rw [enc_hex (u % 8) (by omega), size_one] at h
          omega
        go_round
        case rel => exact ⟨u / 8, k + 1, dch (u % 8) :: out, by go_num, by rw [enc_hex (u % 8) (by omega), str_app], by go_num, by omega, by omega, by simp; omega, ri_step_aux H.out (by omega) (by omega) (Or.inl hu0) (Or.inl rfl) (fun h => absurd (congrArg List.length h) (by simp))⟩
        case measure => simp [intOf]; omega
    · by_cases hk0 : 0 < k
      · have hk1 : ((k : Int) == 0) = false := by simp; omega
        have HB : Hid (Body 8 (v/2) out) := ri_end (by have h2 := H.out; rwa [show u = 0 by omega] at h2) hk0
        go_wp2_with fail
        go_ret2
        exact ⟨out, by simp [ByteArray.data_append, ByteArray.ext_iff], by omega, HB, rfl⟩
      · have hk1 : ((k : Int) == 0) = true := by simp; omega
        go_wp2_with fail
        · exfalso
          have h : 9223372036854775807 < (Utf8.encode (((⟨#[48, 49, 50, 51, 52, 53, 54, 55, 56, 57, 97, 98, 99, 100, 101, 102]⟩ : ByteArray)[u % 8]'(Nat.lt_of_lt_of_le (Nat.mod_lt u (by omega)) (show 8 ≤ 16 by omega))).toNat : Int)).size + out.length := by assumption
          rw [enc_hex (u % 8) (by omega), size_one] at h
          omega
        go_round
        case rel => exact ⟨u / 8, k + 1, dch (u % 8) :: out, by go_num, by rw [enc_hex (u % 8) (by omega), str_app], by go_num, by omega, by omega, by simp; omega, ri_step_aux H.out (by omega) (by omega) (Or.inr (by omega)) (Or.inl rfl) (fun h => absurd (congrArg List.length h) (by simp))⟩
        case measure => simp [intOf]; omega

set_option maxRecDepth 100000 in
set_option maxHeartbeats 4000000 in
theorem specInt_neg3 (v : Int) (U : Nat) (st : Int) (w : World) (h0 : -9223372036854775808 ≤ v) (h1 : v < 0) (hU : (-v).toNat = U) (s0 : 0 ≤ st) (s1 : st ≤ 65535) :
    Calls Try.prog 11 #[.int .i64 v, .int .i64 3, .int .i64 st] w (IntRes [48, 111] 8 (U/2) ((U/2 : Nat) : Int) w) := by
  have hn := neg_u64 v h0 h1
  rw [hU] at hn
  have hU1 : U ≤ 9223372036854775808 := by omega
  have HU := Lib.hid hU
  clear hU
  go_enter Try.func11, Try.ntmps11
  go_wp2
  go_loop [8, 12, 13] (fun a s i => ∃ (u k : Nat) (out : List UInt8), a = .int .u64 u ∧ s = .string ⟨out.toArray⟩ ∧ i = .int .i64 k ∧ u ≤ 9223372036854775808 ∧ k ≤ 64 ∧ out.length ≤ 2 * k ∧ Hid (RI 8 (U/2) u k out)) (fun _ _ i => 65 - (intOf i).toNat)
  case atStart => exact ⟨U/2, 0, [], by go_num, rfl, rfl, by omega, by omega, by simp, ri_start _ _ (by omega)⟩
  case round =>
    obtain ⟨u, k, out, rfl, rfl, rfl, hu, hk, hl, H⟩ := hrel
    by_cases hu0 : 0 < u
    · have hk64 := ri_lt H.out hu0
      by_cases hk0 : 0 < k
      · by_cases hst : (bits BinOp.and IntKind.i64 (st / 2 ^ (k % 16)) 1 == 1) = true
        · go_wp2_with fail
          · exfalso
            have h : 9223372036854775807 < (Utf8.encode (((⟨#[48, 49, 50, 51, 52, 53, 54, 55, 56, 57, 97, 98, 99, 100, 101, 102]⟩ : ByteArray)[u % 8]'(Nat.lt_of_lt_of_le (Nat.mod_lt u (by omega)) (show 8 ≤ 16 by omega))).toNat : Int)).size + (1 + out.length) := by assumption
            rw [enc_hex (u % 8) (by omega), size_one] at h
            omega
          go_round
          case rel => exact ⟨u / 8, k + 1, dch (u % 8) :: 95 :: out, by go_num, by rw [enc_hex (u % 8) (by omega), str_two], by go_num, by omega, by omega, by simp; omega, ri_step_aux H.out (by omega) (by omega) (Or.inl hu0) (Or.inr rfl) (fun _ => hk0)⟩
          case measure => simp [intOf]; omega
        · have hst2 : (bits BinOp.and IntKind.i64 (st / 2 ^ (k % 16)) 1 == 1) = false := by simpa using hst
          clear hst
          go_wp2_with fail
          · exfalso
            have h : 9223372036854775807 < (Utf8.encode (((⟨#[48, 49, 50, 51, 52, 53, 54, 55, 56, 57, 97, 98, 99, 100, 101, 102]⟩ : ByteArray)[u % 8]'(Nat.lt_of_lt_of_le (Nat.mod_lt u (by omega)) (show 8 ≤ 16 by omega))).toNat : Int)).size + out.length := by assumption
            rw [enc_hex (u % 8) (by omega), size_one] at h
            omega
          go_round
          case rel => exact ⟨u / 8, k + 1, dch (u % 8) :: out, by go_num, by rw [enc_hex (u % 8) (by omega), str_app], by go_num, by omega, by omega, by simp; omega, ri_step_aux H.out (by omega) (by omega) (Or.inl hu0) (Or.inl rfl) (fun h => hk0)⟩
          case measure => simp [intOf]; omega
      · go_wp2_with fail
        · exfalso
          have h : 9223372036854775807 < (Utf8.encode (((⟨#[48, 49, 50, 51, 52, 53, 54, 55, 56, 57, 97, 98, 99, 100, 101, 102]⟩ : ByteArray)[u % 8]'(Nat.lt_of_lt_of_le (Nat.mod_lt u (by omega)) (show 8 ≤ 16 by omega))).toNat : Int)).size + out.length := by assumption
          rw [enc_hex (u % 8) (by omega), size_one] at h
          omega
        go_round
        case rel => exact ⟨u / 8, k + 1, dch (u % 8) :: out, by go_num, by rw [enc_hex (u % 8) (by omega), str_app], by go_num, by omega, by omega, by simp; omega, ri_step_aux H.out (by omega) (by omega) (Or.inl hu0) (Or.inl rfl) (fun h => absurd (congrArg List.length h) (by simp))⟩
        case measure => simp [intOf]; omega
    · by_cases hk0 : 0 < k
      · have hk1 : ((k : Int) == 0) = false := by simp; omega
        have HB : Hid (Body 8 (U/2) out) := ri_end (by have h2 := H.out; rwa [show u = 0 by omega] at h2) hk0
        go_wp2_with fail
        go_ret2
        exact ⟨out, by simp [ByteArray.data_append, ByteArray.ext_iff], by omega, HB, rfl⟩
      · have hk1 : ((k : Int) == 0) = true := by simp; omega
        go_wp2_with fail
        · exfalso
          have h : 9223372036854775807 < (Utf8.encode (((⟨#[48, 49, 50, 51, 52, 53, 54, 55, 56, 57, 97, 98, 99, 100, 101, 102]⟩ : ByteArray)[u % 8]'(Nat.lt_of_lt_of_le (Nat.mod_lt u (by omega)) (show 8 ≤ 16 by omega))).toNat : Int)).size + out.length := by assumption
          rw [enc_hex (u % 8) (by omega), size_one] at h
          omega
        go_round
        case rel => exact ⟨u / 8, k + 1, dch (u % 8) :: out, by go_num, by rw [enc_hex (u % 8) (by omega), str_app], by go_num, by omega, by omega, by simp; omega, ri_step_aux H.out (by omega) (by omega) (Or.inr (by omega)) (Or.inl rfl) (fun h => absurd (congrArg List.length h) (by simp))⟩
        case measure => simp [intOf]; omega

set_option maxRecDepth 100000 in
set_option maxHeartbeats 4000000 in
theorem specInt_pos4 (v : Nat) (st : Int) (w : World) (h1 : v ≤ 9223372036854775807) (s0 : 0 ≤ st) (s1 : st ≤ 65535) :
    Calls Try.prog 11 #[.int .i64 v, .int .i64 4, .int .i64 st] w (IntRes [48, 98] 2 (v/2) ((v/2 : Nat) : Int) w) := by
  have hv : decide ((v : Int) < 0) = false := by simp
  go_enter Try.func11, Try.ntmps11
  go_wp2
  go_loop [8, 12, 13] (fun a s i => ∃ (u k : Nat) (out : List UInt8), a = .int .u64 u ∧ s = .string ⟨out.toArray⟩ ∧ i = .int .i64 k ∧ u ≤ 9223372036854775808 ∧ k ≤ 64 ∧ out.length ≤ 2 * k ∧ Hid (RI 2 (v/2) u k out)) (fun _ _ i => 65 - (intOf i).toNat)
  case atStart => exact ⟨v/2, 0, [], by go_num, rfl, rfl, by omega, by omega, by simp, ri_start _ _ (by omega)⟩
  case round =>
    obtain ⟨u, k, out, rfl, rfl, rfl, hu, hk, hl, H⟩ := hrel
    by_cases hu0 : 0 < u
    · have hk64 := ri_lt H.out hu0
      by_cases hk0 : 0 < k
      · by_cases hst : (bits BinOp.and IntKind.i64 (st / 2 ^ (k % 16)) 1 == 1) = true
        · go_wp2_with fail
          · exfalso
            have h : 9223372036854775807 < (Utf8.encode (((⟨#[48, 49, 50, 51, 52, 53, 54, 55, 56, 57, 97, 98, 99, 100, 101, 102]⟩ : ByteArray)[u % 2]'(Nat.lt_of_lt_of_le (Nat.mod_lt u (by omega)) (show 2 ≤ 16 by omega))).toNat : Int)).size + (1 + out.length) := by assumption
            rw [enc_hex (u % 2) (by omega), size_one] at h
            omega
          go_round
          case rel => exact ⟨u / 2, k + 1, dch (u % 2) :: 95 :: out, by go_num, by rw [enc_hex (u % 2) (by omega), str_two], by go_num, by omega, by omega, by simp; omega, ri_step_aux H.out (by omega) (by omega) (Or.inl hu0) (Or.inr rfl) (fun _ => hk0)⟩
          case measure => simp [intOf]; omega
        · have hst2 : (bits BinOp.and IntKind.i64 (st / 2 ^ (k % 16)) 1 == 1) = false := by simpa using hst
          clear hst
          go_wp2_with fail
          · exfalso
            have h : 9223372036854775807 < (Utf8.encode (((⟨#[48, 49, 50, 51, 52, 53, 54, 55, 56, 57, 97, 98, 99, 100, 101, 102]⟩ : ByteArray)[u % 2]'(Nat.lt_of_lt_of_le (Nat.mod_lt u (by omega)) (show 2 ≤ 16 by omega))).toNat : Int)).size + out.length := by assumption
            rw [enc_hex (u % 2) (by omega), size_one] at h
            omega
          go_round
          case rel => exact ⟨u / 2, k + 1, dch (u % 2) :: out, by go_num, by rw [enc_hex (u % 2) (by omega), str_app], by go_num, by omega, by omega, by simp; omega, ri_step_aux H.out (by omega) (by omega) (Or.inl hu0) (Or.inl rfl) (fun h => hk0)⟩
          case measure => simp [intOf]; omega
      · go_wp2_with fail
        · exfalso
          have h : 9223372036854775807 < (Utf8.encode (((⟨#[48, 49, 50, 51, 52, 53, 54, 55, 56, 57, 97, 98, 99, 100, 101, 102]⟩ : ByteArray)[u % 2]'(Nat.lt_of_lt_of_le (Nat.mod_lt u (by omega)) (show 2 ≤ 16 by omega))).toNat : Int)).size + out.length := by assumption
          rw [enc_hex (u % 2) (by omega), size_one] at h
          omega
        go_round
        case rel => exact ⟨u / 2, k + 1, dch (u % 2) :: out, by go_num, by rw [enc_hex (u % 2) (by omega), str_app], by go_num, by omega, by omega, by simp; omega, ri_step_aux H.out (by omega) (by omega) (Or.inl hu0) (Or.inl rfl) (fun h => absurd (congrArg List.length h) (by simp))⟩
        case measure => simp [intOf]; omega
    · by_cases hk0 : 0 < k
      · have hk1 : ((k : Int) == 0) = false := by simp; omega
        have HB : Hid (Body 2 (v/2) out) := ri_end (by have h2 := H.out; rwa [show u = 0 by omega] at h2) hk0
        go_wp2_with fail
        go_ret2
        exact ⟨out, by simp [ByteArray.data_append, ByteArray.ext_iff], by omega, HB, rfl⟩
      · have hk1 : ((k : Int) == 0) = true := by simp; omega
        go_wp2_with fail
        · exfalso
          have h : 9223372036854775807 < (Utf8.encode (((⟨#[48, 49, 50, 51, 52, 53, 54, 55, 56, 57, 97, 98, 99, 100, 101, 102]⟩ : ByteArray)[u % 2]'(Nat.lt_of_lt_of_le (Nat.mod_lt u (by omega)) (show 2 ≤ 16 by omega))).toNat : Int)).size + out.length := by assumption
          rw [enc_hex (u % 2) (by omega), size_one] at h
          omega
        go_round
        case rel => exact ⟨u / 2, k + 1, dch (u % 2) :: out, by go_num, by rw [enc_hex (u % 2) (by omega), str_app], by go_num, by omega, by omega, by simp; omega, ri_step_aux H.out (by omega) (by omega) (Or.inr (by omega)) (Or.inl rfl) (fun h => absurd (congrArg List.length h) (by simp))⟩
        case measure => simp [intOf]; omega

set_option maxRecDepth 100000 in
set_option maxHeartbeats 4000000 in
theorem specInt_neg4 (v : Int) (U : Nat) (st : Int) (w : World) (h0 : -9223372036854775808 ≤ v) (h1 : v < 0) (hU : (-v).toNat = U) (s0 : 0 ≤ st) (s1 : st ≤ 65535) :
    Calls Try.prog 11 #[.int .i64 v, .int .i64 4, .int .i64 st] w (IntRes [48, 98] 2 (U/2) ((U/2 : Nat) : Int) w) := by
  have hn := neg_u64 v h0 h1
  rw [hU] at hn
  have hU1 : U ≤ 9223372036854775808 := by omega
  have HU := Lib.hid hU
  clear hU
  go_enter Try.func11, Try.ntmps11
  go_wp2
  go_loop [8, 12, 13] (fun a s i => ∃ (u k : Nat) (out : List UInt8), a = .int .u64 u ∧ s = .string ⟨out.toArray⟩ ∧ i = .int .i64 k ∧ u ≤ 9223372036854775808 ∧ k ≤ 64 ∧ out.length ≤ 2 * k ∧ Hid (RI 2 (U/2) u k out)) (fun _ _ i => 65 - (intOf i).toNat)
  case atStart => exact ⟨U/2, 0, [], by go_num, rfl, rfl, by omega, by omega, by simp, ri_start _ _ (by omega)⟩
  case round =>
    obtain ⟨u, k, out, rfl, rfl, rfl, hu, hk, hl, H⟩ := hrel
    by_cases hu0 : 0 < u
    · have hk64 := ri_lt H.out hu0
      by_cases hk0 : 0 < k
      · by_cases hst : (bits BinOp.and IntKind.i64 (st / 2 ^ (k % 16)) 1 == 1) = true
        · go_wp2_with fail
          · exfalso
            have h : 9223372036854775807 < (Utf8.encode (((⟨#[48, 49, 50, 51, 52, 53, 54, 55, 56, 57, 97, 98, 99, 100, 101, 102]⟩ : ByteArray)[u % 2]'(Nat.lt_of_lt_of_le (Nat.mod_lt u (by omega)) (show 2 ≤ 16 by omega))).toNat : Int)).size + (1 + out.length) := by assumption
            rw [enc_hex (u % 2) (by omega), size_one] at h
            omega
          go_round
          case rel => exact ⟨u / 2, k + 1, dch (u % 2) :: 95 :: out, by go_num, by rw [enc_hex (u % 2) (by omega), str_two], by go_num, by omega, by omega, by simp; omega, ri_step_aux H.out (by omega) (by omega) (Or.inl hu0) (Or.inr rfl) (fun _ => hk0)⟩
          case measure => simp [intOf]; omega
        · have hst2 : (bits BinOp.and IntKind.i64 (st / 2 ^ (k % 16)) 1 == 1) = false := by simpa using hst
          clear hst
          go_wp2_with fail
          · exfalso
            have h : 9223372036854775807 < (Utf8.encode (((⟨#[48, 49, 50, 51, 52, 53, 54, 55, 56, 57, 97, 98, 99, 100, 101, 102]⟩ : ByteArray)[u % 2]'(Nat.lt_of_lt_of_le (Nat.mod_lt u (by omega)) (show 2 ≤ 16 by omega))).toNat : Int)).size + out.length := by assumption
            rw [enc_hex (u % 2) (by omega), size_one] at h
            omega
          go_round
          case rel => exact ⟨u / 2, k + 1, dch (u % 2) :: out, by go_num, by rw [enc_hex (u % 2) (by omega), str_app], by go_num, by omega, by omega, by simp; omega, ri_step_aux H.out (by omega) (by omega) (Or.inl hu0) (Or.inl rfl) (fun h => hk0)⟩
          case measure => simp [intOf]; omega
      · go_wp2_with fail
        · exfalso
          have h : 9223372036854775807 < (Utf8.encode (((⟨#[48, 49, 50, 51, 52, 53, 54, 55, 56, 57, 97, 98, 99, 100, 101, 102]⟩ : ByteArray)[u % 2]'(Nat.lt_of_lt_of_le (Nat.mod_lt u (by omega)) (show 2 ≤ 16 by omega))).toNat : Int)).size + out.length := by assumption
          rw [enc_hex (u % 2) (by omega), size_one] at h
          omega
        go_round
        case rel => exact ⟨u / 2, k + 1, dch (u % 2) :: out, by go_num, by rw [enc_hex (u % 2) (by omega), str_app], by go_num, by omega, by omega, by simp; omega, ri_step_aux H.out (by omega) (by omega) (Or.inl hu0) (Or.inl rfl) (fun h => absurd (congrArg List.length h) (by simp))⟩
        case measure => simp [intOf]; omega
    · by_cases hk0 : 0 < k
      · have hk1 : ((k : Int) == 0) = false := by simp; omega
        have HB : Hid (Body 2 (U/2) out) := ri_end (by have h2 := H.out; rwa [show u = 0 by omega] at h2) hk0
        go_wp2_with fail
        go_ret2
        exact ⟨out, by simp [ByteArray.data_append, ByteArray.ext_iff], by omega, HB, rfl⟩
      · have hk1 : ((k : Int) == 0) = true := by simp; omega
        go_wp2_with fail
        · exfalso
          have h : 9223372036854775807 < (Utf8.encode (((⟨#[48, 49, 50, 51, 52, 53, 54, 55, 56, 57, 97, 98, 99, 100, 101, 102]⟩ : ByteArray)[u % 2]'(Nat.lt_of_lt_of_le (Nat.mod_lt u (by omega)) (show 2 ≤ 16 by omega))).toNat : Int)).size + out.length := by assumption
          rw [enc_hex (u % 2) (by omega), size_one] at h
          omega
        go_round
        case rel => exact ⟨u / 2, k + 1, dch (u % 2) :: out, by go_num, by rw [enc_hex (u % 2) (by omega), str_app], by go_num, by omega, by omega, by simp; omega, ri_step_aux H.out (by omega) (by omega) (Or.inr (by omega)) (Or.inl rfl) (fun h => absurd (congrArg List.length h) (by simp))⟩
        case measure => simp [intOf]; omega

end Go.Proofs.Ytnddjppbecpmdaa
