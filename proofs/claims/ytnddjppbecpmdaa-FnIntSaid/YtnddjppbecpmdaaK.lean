/- Walks of the package's readers of integers. -/
import Derived.Test.YtnddjppbecpmdaaI
namespace Go.Proofs.Ytnddjppbecpmdaa
open Go.RowKit
set_option linter.unusedVariables false
set_option linter.unusedSimpArgs false

/-- what is read behind k signs -/
def bk (β : Nat) (o : List UInt8) (k : Nat) : Nat := bv β 0 (o.take k)

theorem bk_le {β V : Nat} {o : List UInt8} (h : bv β 0 o = V) (hβ : 1 ≤ β) (k : Nat) : bk β o k ≤ V := by
  rw [← h]
  conv => rhs; rw [← List.take_append_drop k o]
  rw [bv_append]
  exact bv_mono β _ _ hβ

theorem bk_step {β : Nat} {o : List UInt8} (hd : DigB β o) (h16 : β ≤ 16) {k : Nat} (hk : k < o.length) :
    ((o.getD k 0).toNat = 95 ∧ bk β o (k + 1) = bk β o k) ∨ (∃ d, d < β ∧ (o.getD k 0).toNat = (if d < 10 then 48 + d else 87 + d) ∧ bk β o (k + 1) = bk β o k * β + d) := by
  have hg : o.getD k 0 = o[k] := by simp [List.getD, hk]
  have hs : bk β o (k + 1) = if o[k].toNat = 95 then bk β o k else bk β o k * β + cdg o[k] := by
    unfold bk
    rw [List.take_succ_eq_append_getElem hk, bv_append]
    rfl
  rw [hg, hs]
  rcases hd o[k] (List.getElem_mem hk) with h | ⟨d, h1, h2⟩
  · left
    exact ⟨h, by rw [if_pos h]⟩
  · right
    have h3 := dch_ne d (by omega)
    refine ⟨d, h1, ?_, ?_⟩
    · rw [h2, dch_nat d (by omega)]
    · rw [h2, if_neg h3, cdg_dch d (by omega)]

theorem ofInt_nat (a : Nat) (h : a < 18446744073709551616) : (BitVec.ofInt 64 (a : Int)).toNat = a := by
  rw [BitVec.ofInt_natCast, BitVec.toNat_ofNat]
  exact Nat.mod_eq_of_lt h

theorem u64_or (a d s : Nat) (ha : a * 2 ^ s + d < 18446744073709551616) (hd : d < 2 ^ s) : bits .or .u64 ((a * 2 ^ s : Nat) : Int) (d : Int) = ((a * 2 ^ s + d : Nat) : Int) := by
  show IntKind.u64.wrap ((BitVec.ofInt 64 ((a * 2 ^ s : Nat) : Int) ||| BitVec.ofInt 64 (d : Int)).toNat : Int) = _
  rw [BitVec.toNat_or, ofInt_nat _ (by omega), ofInt_nat _ (by omega)]
  have h := Nat.two_pow_add_eq_or_of_lt hd a
  rw [Nat.mul_comm] at h
  rw [← h]
  generalize a * 2 ^ s + d = n at ha
  simp only [IntKind.wrap]
  simp [IntKind.bits, IntKind.signed]
  omega

theorem or_2 (a d : Nat) (ha : a * 2 + d ≤ 9223372036854775807) (hd : d < 2) : bits .or .u64 ((a : Int) * 2) (48 + (d : Int) - 48) = ((a * 2 + d : Nat) : Int) := by
  have h := u64_or a d 1 (by omega) (by omega)
  rw [show (48 + (d : Int) - 48) = d from by omega]
  simpa using h
theorem or_8 (a d : Nat) (ha : a * 8 + d ≤ 9223372036854775807) (hd : d < 8) : bits .or .u64 ((a : Int) * 8) (48 + (d : Int) - 48) = ((a * 8 + d : Nat) : Int) := by
  have h := u64_or a d 3 (by omega) (by omega)
  rw [show (48 + (d : Int) - 48) = d from by omega]
  simpa using h
theorem or_16 (a d : Nat) (x : Int) (hx : x = d) (ha : a * 16 + d ≤ 9223372036854775807) (hd : d < 16) : bits .or .u64 ((a : Int) * 16) x = ((a * 16 + d : Nat) : Int) := by
  have h := u64_or a d 4 (by omega) (by omega)
  rw [hx]
  simpa using h

set_option maxRecDepth 100000 in
set_option maxHeartbeats 4000000 in
theorem parseBin_any (o : List UInt8) (V b cap : Nat) (w : World) (hB : Body 2 V o) (hV : V ≤ 9223372036854775807) (hb : Bts w b 2 o) (hcap : o.length + 2 ≤ cap) (hl : o.length ≤ 128) :
    Calls Try.prog 36 #[.slice (some ⟨b, 0, none⟩) (o.length + 2) cap] w fun e w' => e = .returned (.tuple #[.int .i64 V, .nilIface]) ∧ w = w' := by
  have hl0 : 0 < o.length := by
    obtain ⟨d, l, _, h, _⟩ := hB.head
    rw [h]; simp
  have hne : ¬ cap = 2 := by omega
  have HB := Lib.hid hb
  have HY := Lib.hid hB
  clear hb hB
  go_enter Try.func36, Try.ntmps36
  go_wp2
  go_loop [4, 6, 10] (fun v _ i => ∃ k : Nat, k ≤ o.length ∧ i = .int .i64 k ∧ v = .int .u64 (bk 2 o k)) (fun _ _ i => o.length - (intOf i).toNat)
  case atStart => exact ⟨0, by omega, rfl, rfl⟩
  case round =>
    obtain ⟨k, hk, rfl, rfl⟩ := hrel
    have hb1 : bk 2 o k ≤ 9223372036854775807 := Nat.le_trans (bk_le HY.out.tells (by omega) k) hV
    by_cases hlt : k < o.length
    · have hc := HB.out k hlt
      have hb2 : bk 2 o (k + 1) ≤ 9223372036854775807 := Nat.le_trans (bk_le HY.out.tells (by omega) (k + 1)) hV
      have hs := bk_step HY.out.dig (by omega) hlt
      generalize hcv : (o.getD k 0).toNat = c at *
      clear hcv
      rcases hs with ⟨hc1, hs⟩ | ⟨d, hd, hc1, hs⟩
      · subst hc1
        have HS := Lib.hid hs
        clear hs
        go_wp2_with fail
        go_round
        case rel => exact ⟨k + 1, by omega, by go_num, by rw [HS.out]⟩
        case measure => simp [intOf]; omega
      · rw [hs] at hb2
        have hb3 : bk 2 o k ≤ 4611686018427387903 := by omega
        have HS := Lib.hid hs
        clear hs
        rw [if_pos (by omega)] at hc1
        subst hc1
        go_wp2_with fail
        go_round
        case rel => exact ⟨k + 1, by omega, by go_num, by rw [HS.out, or_2 _ _ hb2 hd]⟩
        case measure => simp [intOf]; omega
    · have hk : Hid (bk 2 o k = V) := by
        unfold bk
        rw [List.take_of_length_le (by omega)]
        exact HY.out.tells
      go_wp2_with fail
      go_ret2
      exact ⟨by rw [hk.out]; rfl, rfl⟩
set_option maxRecDepth 100000 in
set_option maxHeartbeats 4000000 in
theorem parseOct_any (o : List UInt8) (V b cap : Nat) (w : World) (hB : Body 8 V o) (hV : V ≤ 9223372036854775807) (hb : Bts w b 2 o) (hcap : o.length + 2 ≤ cap) (hl : o.length ≤ 128) :
    Calls Try.prog 37 #[.slice (some ⟨b, 0, none⟩) (o.length + 2) cap] w fun e w' => e = .returned (.tuple #[.int .i64 V, .nilIface]) ∧ w = w' := by
  have hl0 : 0 < o.length := by
    obtain ⟨d, l, _, h, _⟩ := hB.head
    rw [h]; simp
  have hne : ¬ cap = 2 := by omega
  have HB := Lib.hid hb
  have HY := Lib.hid hB
  clear hb hB
  go_enter Try.func37, Try.ntmps37
  go_wp2
  go_loop [4, 6, 10] (fun v _ i => ∃ k : Nat, k ≤ o.length ∧ i = .int .i64 k ∧ v = .int .u64 (bk 8 o k)) (fun _ _ i => o.length - (intOf i).toNat)
  case atStart => exact ⟨0, by omega, rfl, rfl⟩
  case round =>
    obtain ⟨k, hk, rfl, rfl⟩ := hrel
    have hb1 : bk 8 o k ≤ 9223372036854775807 := Nat.le_trans (bk_le HY.out.tells (by omega) k) hV
    by_cases hlt : k < o.length
    · have hc := HB.out k hlt
      have hb2 : bk 8 o (k + 1) ≤ 9223372036854775807 := Nat.le_trans (bk_le HY.out.tells (by omega) (k + 1)) hV
      have hs := bk_step HY.out.dig (by omega) hlt
      generalize hcv : (o.getD k 0).toNat = c at *
      clear hcv
      rcases hs with ⟨hc1, hs⟩ | ⟨d, hd, hc1, hs⟩
      · subst hc1
        have HS := Lib.hid hs
        clear hs
        go_wp2_with fail
        go_round
        case rel => exact ⟨k + 1, by omega, by go_num, by rw [HS.out]⟩
        case measure => simp [intOf]; omega
      · rw [hs] at hb2
        have hb3 : bk 8 o k ≤ 1152921504606846975 := by omega
        have HS := Lib.hid hs
        clear hs
        rw [if_pos (by omega)] at hc1
        subst hc1
        go_wp2_with fail
        go_round
        case rel => exact ⟨k + 1, by omega, by go_num, by rw [HS.out, or_8 _ _ hb2 hd]⟩
        case measure => simp [intOf]; omega
    · have hk : Hid (bk 8 o k = V) := by
        unfold bk
        rw [List.take_of_length_le (by omega)]
        exact HY.out.tells
      go_wp2_with fail
      go_ret2
      exact ⟨by rw [hk.out]; rfl, rfl⟩

set_option maxRecDepth 100000 in
set_option maxHeartbeats 4000000 in
theorem parseHex_any (o : List UInt8) (V b cap : Nat) (w : World) (hB : Body 16 V o) (hV : V ≤ 9223372036854775807) (hb : Bts w b 2 o) (hcap : o.length + 2 ≤ cap) (hl : o.length ≤ 128) :
    Calls Try.prog 35 #[.slice (some ⟨b, 0, none⟩) (o.length + 2) cap] w fun e w' => e = .returned (.tuple #[.int .i64 V, .nilIface]) ∧ w = w' := by
  have hl0 : 0 < o.length := by
    obtain ⟨d, l, _, h, _⟩ := hB.head
    rw [h]; simp
  have hne : ¬ cap = 2 := by omega
  have HB := Lib.hid hb
  have HY := Lib.hid hB
  clear hb hB
  go_enter Try.func35, Try.ntmps35
  go_wp2
  go_loop [4, 6, 7, 11] (fun v _ _ i => ∃ k : Nat, k ≤ o.length ∧ i = .int .i64 k ∧ v = .int .u64 (bk 16 o k)) (fun _ _ _ i => o.length - (intOf i).toNat)
  case atStart => exact ⟨0, by omega, rfl, rfl⟩
  case round =>
    obtain ⟨k, hk, rfl, rfl⟩ := hrel
    have hb1 : bk 16 o k ≤ 9223372036854775807 := Nat.le_trans (bk_le HY.out.tells (by omega) k) hV
    by_cases hlt : k < o.length
    · have hc := HB.out k hlt
      have hb2 : bk 16 o (k + 1) ≤ 9223372036854775807 := Nat.le_trans (bk_le HY.out.tells (by omega) (k + 1)) hV
      have hs := bk_step HY.out.dig (by omega) hlt
      generalize hcv : (o.getD k 0).toNat = c at *
      clear hcv
      rcases hs with ⟨hc1, hs⟩ | ⟨d, hd, hc1, hs⟩
      · subst hc1
        have HS := Lib.hid hs
        clear hs
        go_wp2_with fail
        go_round
        case rel => exact ⟨k + 1, by omega, by go_num, by rw [HS.out]⟩
        case measure => simp [intOf]; omega
      · rw [hs] at hb2
        have hb3 : bk 16 o k ≤ 576460752303423487 := by omega
        have HS := Lib.hid hs
        clear hs
        by_cases hd10 : d < 10
        · rw [if_pos hd10] at hc1
          subst hc1
          go_wp2_with fail
          go_round
          case rel => exact ⟨k + 1, by omega, by go_num, by rw [HS.out, or_16 _ d _ (by omega) hb2 hd]⟩
          case measure => simp [intOf]; omega
        · rw [if_neg hd10] at hc1
          subst hc1
          go_wp2_with fail
          go_round
          case rel => exact ⟨k + 1, by omega, by go_num, by rw [HS.out, or_16 _ d _ (by omega) hb2 hd]⟩
          case measure => simp [intOf]; omega
    · have hk : Hid (bk 16 o k = V) := by
        unfold bk
        rw [List.take_of_length_le (by omega)]
        exact HY.out.tells
      go_wp2_with fail
      go_ret2
      exact ⟨by rw [hk.out]; rfl, rfl⟩
end Go.Proofs.Ytnddjppbecpmdaa
