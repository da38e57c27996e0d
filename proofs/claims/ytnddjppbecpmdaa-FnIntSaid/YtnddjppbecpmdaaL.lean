/- The walk of the package's reader of figures of ten. -/
import Derived.Test.YtnddjppbecpmdaaK
namespace Go.Proofs.Ytnddjppbecpmdaa
open Go.RowKit
set_option linter.unusedVariables false
set_option linter.unusedSimpArgs false

theorem wneg (V : Nat) (h : V ≤ 9223372036854775808) : wrap64 (-wrap64 (V : Int)) = -(V : Int) := by
  unfold wrap64
  omega

set_option maxRecDepth 100000 in
set_option maxHeartbeats 4000000 in
theorem parseDec_plain (o : List UInt8) (V b cap : Nat) (w : World) (hB : Body 10 V o) (hV : V ≤ 9223372036854775807) (hb : Bts w b 0 o) (hcap : o.length ≤ cap) (hl : o.length ≤ 128) :
    Calls Try.prog 38 #[.slice (some ⟨b, 0, none⟩) o.length cap] w fun e w' => e = .returned (.tuple #[.int .i64 V, .nilIface]) ∧ w = w' := by
  have hl0 : 0 < o.length := by
    obtain ⟨d, l, _, h, _⟩ := hB.head
    rw [h]; simp
  obtain ⟨c0, hc0, n45, n43⟩ : ∃ c0 : Int, w.cell? ⟨b, 0, none⟩ = some (.int .u8 c0) ∧ (c0 == 45) = false ∧ (c0 == 43) = false := by
    obtain ⟨d, l, h1, h, _⟩ := hB.head
    have h2 := hb 0 hl0
    rw [h] at h2
    refine ⟨_, h2, ?_, ?_⟩
    all_goals
      have h3 := dch_nat d (by omega)
      rw [if_pos h1] at h3
      simp [List.getD]
      omega
  have HB := Lib.hid hb
  have HY := Lib.hid hB
  clear hb hB
  go_enter Try.func38, Try.ntmps38
  go_wp2
  go_loop [4, 7, 8] (fun i v _ => ∃ k : Nat, k ≤ o.length ∧ i = .int .i64 k ∧ v = .int .u64 (bk 10 o k)) (fun i _ _ => o.length - (intOf i).toNat)
  case atStart => exact ⟨0, by omega, rfl, rfl⟩
  case round =>
    obtain ⟨k, hk, rfl, rfl⟩ := hrel
    have hb1 : bk 10 o k ≤ 9223372036854775807 := Nat.le_trans (bk_le HY.out.tells (by omega) k) hV
    by_cases hlt : k < o.length
    · have hc := HB.out k hlt
      rw [Nat.zero_add] at hc
      have hb2 : bk 10 o (k + 1) ≤ 9223372036854775807 := Nat.le_trans (bk_le HY.out.tells (by omega) (k + 1)) hV
      have hs := bk_step HY.out.dig (by omega) hlt
      generalize hcv : (o.getD k 0).toNat = c at *
      clear hcv
      rcases hs with ⟨hc1, hs⟩ | ⟨d, hd, hc1, hs⟩
      · subst hc1
        have HS := Lib.hid hs
        clear hs
        go_wp2_with fail
        go_round
        case rel => exact ⟨k + 1, by omega, by go_num, by rw [HS.out]⟩
        case measure => simp [intOf]; omega
      · rw [hs] at hb2
        have hb3 : bk 10 o k ≤ 922337203685477580 := by omega
        have HS := Lib.hid hs
        clear hs
        rw [if_pos hd] at hc1
        subst hc1
        go_wp2_with fail
        go_round
        case rel => exact ⟨k + 1, by omega, by go_num, by rw [HS.out]; go_num⟩
        case measure => simp [intOf]; omega
    · have hk : Hid (bk 10 o k = V) := by
        unfold bk
        rw [List.take_of_length_le (by omega)]
        exact HY.out.tells
      go_wp2_with fail
      go_ret2
      exact ⟨by rw [hk.out]; rfl, rfl⟩
set_option maxRecDepth 100000 in
set_option maxHeartbeats 4000000 in
theorem parseDec_plus (o : List UInt8) (V b cap : Nat) (w : World) (hB : Body 10 V o) (hV : V ≤ 9223372036854775807) (hc0 : w.cell? ⟨b, 0, none⟩ = some (.int .u8 43)) (hb : Bts w b 1 o) (hcap : o.length + 1 ≤ cap) (hl : o.length ≤ 128) :
    Calls Try.prog 38 #[.slice (some ⟨b, 0, none⟩) (o.length + 1) cap] w fun e w' => e = .returned (.tuple #[.int .i64 V, .nilIface]) ∧ w = w' := by
  have hl0 : 0 < o.length := by
    obtain ⟨d, l, _, h, _⟩ := hB.head
    rw [h]; simp
  have HB := Lib.hid hb
  have HY := Lib.hid hB
  clear hb hB
  go_enter Try.func38, Try.ntmps38
  go_wp2
  go_loop [4, 7, 8] (fun i v _ => ∃ k : Nat, k ≤ o.length ∧ i = .int .i64 ((k : Int) + 1) ∧ v = .int .u64 (bk 10 o k)) (fun i _ _ => o.length + 1 - (intOf i).toNat)
  case atStart => exact ⟨0, by omega, rfl, rfl⟩
  case round =>
    obtain ⟨k, hk, rfl, rfl⟩ := hrel
    have hb1 : bk 10 o k ≤ 9223372036854775807 := Nat.le_trans (bk_le HY.out.tells (by omega) k) hV
    by_cases hlt : k < o.length
    · have hc := HB.out k hlt
      rw [Nat.add_comm 1 k] at hc
      have hb2 : bk 10 o (k + 1) ≤ 9223372036854775807 := Nat.le_trans (bk_le HY.out.tells (by omega) (k + 1)) hV
      have hs := bk_step HY.out.dig (by omega) hlt
      generalize hcv : (o.getD k 0).toNat = c at *
      clear hcv
      rcases hs with ⟨hc1, hs⟩ | ⟨d, hd, hc1, hs⟩
      · subst hc1
        have HS := Lib.hid hs
        clear hs
        go_wp2_with fail
        go_round
        case rel => exact ⟨k + 1, by omega, by go_num, by rw [HS.out]⟩
        case measure => simp [intOf]; omega
      · rw [hs] at hb2
        have hb3 : bk 10 o k ≤ 922337203685477580 := by omega
        have HS := Lib.hid hs
        clear hs
        rw [if_pos hd] at hc1
        subst hc1
        go_wp2_with fail
        go_round
        case rel => exact ⟨k + 1, by omega, by go_num, by rw [HS.out]; go_num⟩
        case measure => simp [intOf]; omega
    · have hk : Hid (bk 10 o k = V) := by
        unfold bk
        rw [List.take_of_length_le (by omega)]
        exact HY.out.tells
      go_wp2_with fail
      go_ret2
      exact ⟨by rw [hk.out]; rfl, rfl⟩

set_option maxRecDepth 100000 in
set_option maxHeartbeats 4000000 in
theorem parseDec_minus (o : List UInt8) (V b cap : Nat) (w : World) (hB : Body 10 V o) (hV : V ≤ 9223372036854775808) (hc0 : w.cell? ⟨b, 0, none⟩ = some (.int .u8 45)) (hb : Bts w b 1 o) (hcap : o.length + 1 ≤ cap) (hl : o.length ≤ 128) :
    Calls Try.prog 38 #[.slice (some ⟨b, 0, none⟩) (o.length + 1) cap] w fun e w' => e = .returned (.tuple #[.int .i64 (-(V : Int)), .nilIface]) ∧ w = w' := by
  have hl0 : 0 < o.length := by
    obtain ⟨d, l, _, h, _⟩ := hB.head
    rw [h]; simp
  have HB := Lib.hid hb
  have HY := Lib.hid hB
  clear hb hB
  go_enter Try.func38, Try.ntmps38
  go_wp2
  go_loop [4, 7, 8] (fun i v _ => ∃ k : Nat, k ≤ o.length ∧ i = .int .i64 ((k : Int) + 1) ∧ v = .int .u64 (bk 10 o k)) (fun i _ _ => o.length + 1 - (intOf i).toNat)
  case atStart => exact ⟨0, by omega, rfl, rfl⟩
  case round =>
    obtain ⟨k, hk, rfl, rfl⟩ := hrel
    have hb1 : bk 10 o k ≤ 9223372036854775808 := Nat.le_trans (bk_le HY.out.tells (by omega) k) hV
    by_cases hlt : k < o.length
    · have hc := HB.out k hlt
      rw [Nat.add_comm 1 k] at hc
      have hb2 : bk 10 o (k + 1) ≤ 9223372036854775808 := Nat.le_trans (bk_le HY.out.tells (by omega) (k + 1)) hV
      have hs := bk_step HY.out.dig (by omega) hlt
      generalize hcv : (o.getD k 0).toNat = c at *
      clear hcv
      rcases hs with ⟨hc1, hs⟩ | ⟨d, hd, hc1, hs⟩
      · subst hc1
        have HS := Lib.hid hs
        clear hs
        go_wp2_with fail
        go_round
        case rel => exact ⟨k + 1, by omega, by go_num, by rw [HS.out]⟩
        case measure => simp [intOf]; omega
      · rw [hs] at hb2
        have hb3 : bk 10 o k ≤ 922337203685477580 := by omega
        have HS := Lib.hid hs
        clear hs
        rw [if_pos hd] at hc1
        subst hc1
        go_wp2_with fail
        go_round
        case rel => exact ⟨k + 1, by omega, by go_num, by rw [HS.out]; go_num⟩
        case measure => simp [intOf]; omega
    · have hk : Hid (bk 10 o k = V) := by
        unfold bk
        rw [List.take_of_length_le (by omega)]
        exact HY.out.tells
      go_wp2_with fail
      go_ret2
      exact ⟨by rw [hk.out]; exact congrArg (fun x => Ending.returned (.tuple #[.int .i64 x, .nilIface])) (wneg V hV), rfl⟩
end Go.Proofs.Ytnddjppbecpmdaa
