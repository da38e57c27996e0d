/- The number 5, ahead of a blank. -/
import Derived.Test.YtnlkbbpmpgdmiaaL
namespace Go.Proofs.Ytnlkbbpmpgdmiaa
open Go.RowKit
set_option linter.unusedVariables false
set_option linter.unusedSimpArgs false

def Digit (c : UInt8) : Prop := 48 ≤ c.toNat ∧ c.toNat ≤ 57
instance (c : UInt8) : Decidable (Digit c) := by unfold Digit; infer_instance

theorem isDigit_yes (c : UInt8) (h : Digit c) (w : World) : Calls Try.prog 89 #[.int .u8 c.toNat] w fun e w' => e = .returned (.bool true) ∧ w = w' := by
  obtain ⟨h1, h2⟩ := h
  go_enter Try.func89, Try.ntmps89
  go_wp2_with fail
  go_ret
  first | exact ⟨rfl, rfl⟩ | (refine ⟨ret_bool ?_, rfl⟩; simp; omega)
theorem isDigit_no (c : UInt8) (h : ¬ Digit c) (w : World) : Calls Try.prog 89 #[.int .u8 c.toNat] w fun e w' => e = .returned (.bool false) ∧ w = w' := by
  have h0 := c.toNat_lt
  have h1 : c.toNat < 48 ∨ 57 < c.toNat := by unfold Digit at h; omega
  clear h
  rcases h1 with h1 | h1
  all_goals
    go_enter Try.func89, Try.ntmps89
    go_wp2_with fail
    go_ret
    first | exact ⟨rfl, rfl⟩ | (refine ⟨ret_bool ?_, rfl⟩; simp; omega)

theorem dts_5 (c0 c1 : UInt8) (r : List UInt8) (b off cap : Nat) (w : World) (h1 : ¬ Digit c1) (hm : Bts w b off (c0 :: c1 :: r)) (hc : r.length + 2 ≤ cap) (hcb : r.length + 2 ≤ 140737488351232 ∧ cap ≤ 9223372036854775807) :
    Calls Try.prog 80 #[.slice (some ⟨b, off, none⟩) (r.length + 2) cap] w fun e w' => e = .returned (.bool false) ∧ w = w' := by
  have x1 := hm.head.2.head.1
  clear hm
  by_cases h3 : 3 ≤ r.length + 2
  · by_cases h5 : 5 ≤ r.length + 2
    · go_enter Try.func80, Try.ntmps80
      go_wp2_with fail
      refine (isDigit_no c1 h1 w).mono ?_
      rintro e w1 ⟨rfl, rfl⟩
      go_wp2_with fail
      refine (isDigit_no c1 h1 w).mono ?_
      rintro e w1 ⟨rfl, rfl⟩
      go_wp2_with fail
      go_ret
      exact ⟨rfl, rfl⟩
    · go_enter Try.func80, Try.ntmps80
      go_wp2_with fail
      refine (isDigit_no c1 h1 w).mono ?_
      rintro e w1 ⟨rfl, rfl⟩
      go_wp2_with fail
      go_ret
      exact ⟨rfl, rfl⟩
  · go_enter Try.func80, Try.ntmps80
    go_wp2_with fail
    go_ret
    exact ⟨rfl, rfl⟩

set_option maxRecDepth 100000 in
set_option maxHeartbeats 4000000 in
theorem scanDigits_none (c0 c1 : UInt8) (r : List UInt8) (b off cap : Nat) (w : World) (h1 : c1.toNat = 32) (hm : Bts w b off (c0 :: c1 :: r)) (hc : r.length + 2 ≤ cap) (hcb : r.length + 2 ≤ 140737488351232 ∧ cap ≤ 9223372036854775807) :
    Calls Try.prog 98 #[.slice (some ⟨b, off, none⟩) (r.length + 2) cap, .int .i64 1, .func (.func 89) #[] #[]] w fun e w' => e = .returned (.tuple #[.int .i64 1, .nilIface]) ∧ w = w' := by
  have x1 := hm.head.2.head.1
  have t95 : ((c1.toNat : Int) == 95) = false := by simp; omega
  have hd : ¬ Digit c1 := by unfold Digit; omega
  clear hm h1
  go_enter Try.func98, Try.ntmps98
  go_wp2_with fail
  go_loopg [1, 8] 0 (fun g i c wx => i = .int .i64 1 ∧ wx = w)
  case atStart => exact ⟨rfl, rfl⟩
  case round =>
    obtain ⟨rfl, rfl⟩ := hrel
    go_wp2_with fail
    refine (isDigit_no c1 hd _).mono ?_
    rintro e w1 ⟨rfl, rfl⟩
    go_wp2_with fail
    go_ret2
    exact ⟨rfl, rfl⟩

def NumIs (b off cap : Nat) (kind : Int) (m : Nat) (l r : List UInt8) (w : World) (e : Ending) (w' : World) : Prop :=
  ∃ v, e = .returned (.tuple #[.int .i64 kind, .slice (some ⟨b, off, none⟩) m cap, .slice (some ⟨b, off, none⟩) m cap, v, .nilIface]) ∧ Rest b off cap l r v ∧ ∃ n, w' = w.drewN n

set_option maxRecDepth 100000 in
set_option maxHeartbeats 4000000 in
theorem scanNum_5 (r : List UInt8) (b off cap : Nat) (w : World) (hm : Bts w b off (53 :: 32 :: r)) (hc : r.length + 2 ≤ cap) (hcb : r.length + 2 ≤ 140737488351232 ∧ cap ≤ 9223372036854775807) :
    Calls Try.prog 88 #[.slice (some ⟨b, off, none⟩) (r.length + 2) cap] w (NumIs b off cap 11 1 (53 :: 32 :: r) (32 :: r) w) := by
  have x0 : w.cell? ⟨b, off, none⟩ = some (.int .u8 53) := hm.head.1
  have x1 : w.cell? ⟨b, off + 1, none⟩ = some (.int .u8 32) := hm.head.2.head.1
  have HM := Lib.hid hm
  have hck : ¬ cap = 1 := by omega
  clear hm
  go_enter Try.func88, Try.ntmps88
  go_wp2_with fail
  refine (isDigit_yes 53 (by decide) w).mono ?_
  rintro e w1 ⟨rfl, rfl⟩
  go_wp2_with fail
  refine (scanDigits_none 53 32 r b off cap w (by decide) HM.out hc hcb).mono ?_
  rintro e w1 ⟨rfl, rfl⟩
  go_wp2_with fail
  go_quiet (fail)
  go_wp2
  refine bodyPost_ret (v := .tuple #[.int .i64 11, .slice (some ⟨b, off, none⟩) 1 cap, .slice (some ⟨b, off, none⟩) 1 cap, .slice (some ⟨b, off + 1, none⟩) (r.length + 1) (cap - 1), .nilIface]) (by simp [results, Try.results88, go_sem]) rfl ?_
  exact ⟨_, rfl, Rest.drop 1 rfl (by simp) rfl (by simp) (fun _ => rfl), nq, rfl⟩
end Go.Proofs.Ytnlkbbpmpgdmiaa
