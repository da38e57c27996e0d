/- Days from 1970 on: the package's count and the reference's are one; their walks. -/
import Derived.Test.YtnddjppbecpmdaaDA
namespace Go.Proofs.Ytnddjppbecpmdaa
open Go.RowKit
set_option linter.unusedVariables false
set_option linter.unusedSimpArgs false

theorem norm_any (hi lo base : Int) (w : World) (h0 : 0 ≤ lo) (h1 : lo < base) :
    Calls Try.prog 48 #[.int .i64 hi, .int .i64 lo, .int .i64 base] w fun e w' => e = .returned (.tuple #[.int .i64 hi, .int .i64 lo]) ∧ w = w' := by
  have h2 : ¬ base ≤ lo := by omega
  go_enter Try.func48, Try.ntmps48
  go_wp2
  go_ret2
  exact ⟨rfl, rfl⟩

/-- the package's count of days -/
def absD (y m d : Int) : Int :=
  if m < 3 then 146097 * ((y - 1 + 292277022400) / 100) / 4 + (1461 * ((y - 1 + 292277022400) % 100) / 4 + (979 * (m + 12) - 2919) / 32 + d - 1)
  else 146097 * ((y + 292277022400) / 100) / 4 + (1461 * ((y + 292277022400) % 100) / 4 + (979 * m - 2919) / 32 + d - 1)

theorem ret_int' {k : IntKind} {a b : Int} (h : a = b) : Ending.returned (.int k a) = .returned (.int k b) := by rw [h]

set_option maxRecDepth 100000 in
set_option maxHeartbeats 2000000 in
theorem absDays_any (y m d : Int) (w : World) (y0 : 1 ≤ y) (y1 : y ≤ 9999) (m0 : 1 ≤ m) (m1 : m ≤ 12) (d0 : 1 ≤ d) (d1 : d ≤ 31) :
    Calls Try.prog 49 #[.int .i64 y, .int .i64 m, .int .i64 d] w fun e w' => e = .returned (.int .u64 (absD y m d)) ∧ w = w' := by
  by_cases h3 : m < 3
  · go_enter Try.func49, Try.ntmps49
    go_wp2
    go_ret
    exact ⟨ret_int' (by unfold absD; rw [if_pos h3]), rfl⟩
  · go_enter Try.func49, Try.ntmps49
    go_wp2
    go_ret
    exact ⟨ret_int' (by unfold absD; rw [if_neg (by omega)]), rfl⟩

/-- days ahead of a month -/
def cumd (y : Int) : Nat → Int
  | 0 => 0
  | k + 1 => cumd y k + mdays y (k + 1)

/-- the reference's count of days -/
def daysT (y m d : Int) : Int := d - 1 + cumd y (m - 1).toNat + 365 * (y - 1) + (y - 1) / 4 - (y - 1) / 100 + (y - 1) / 400 - 719162

theorem cent_eq (Y : Int) (h : 0 ≤ Y) : 146097 * ((Y + 292277022400) / 100) / 4 + 1461 * ((Y + 292277022400) % 100) / 4 = 365 * Y + Y / 4 - Y / 100 + Y / 400 + 106751990353932 := by
  obtain ⟨q, b, hq, hb0, hb1⟩ : ∃ q b : Int, Y / 100 = 4 * q + b ∧ 0 ≤ b ∧ b ≤ 3 := ⟨Y / 400, Y / 100 - 4 * (Y / 400), by omega, by omega, by omega⟩
  obtain ⟨c, e, hc, he0, he1⟩ : ∃ c e : Int, Y % 100 = 4 * c + e ∧ 0 ≤ e ∧ e ≤ 3 := ⟨Y % 100 / 4, Y % 100 % 4, by omega, by omega, by omega⟩
  have h1 : (Y + 292277022400) / 100 = 4 * q + b + 2922770224 := by omega
  have h2 : (Y + 292277022400) % 100 = 4 * c + e := by omega
  have h3 : Y = 100 * (4 * q + b) + (4 * c + e) := by omega
  have h4 : Y / 400 = q := by omega
  have h5 : Y / 4 = 100 * q + 25 * b + c := by omega
  rw [h1, h2, h4, h5, hq, h3]
  have hb : b = 0 ∨ b = 1 ∨ b = 2 ∨ b = 3 := by omega
  have he : e = 0 ∨ e = 1 ∨ e = 2 ∨ e = 3 := by omega
  clear h1 h2 h3 h4 h5 hq hc
  rcases hb with hb | hb | hb | hb
  all_goals
    subst hb
    rcases he with he | he | he | he
    all_goals
      subst he
      omega

theorem quo_step (y : Int) (n : Int) (hn : n = 4 ∨ n = 100 ∨ n = 400) (hy : 1 ≤ y) : y / n = (y - 1) / n + (if y % n = 0 then 1 else 0) := by
  rcases hn with rfl | rfl | rfl
  all_goals
    split <;> omega

theorem absD_eq (y m d : Int) (y0 : 1 ≤ y) (y1 : y ≤ 9999) (m0 : 1 ≤ m) (m1 : m ≤ 12) : absD y m d = daysT y m d + 106751991073400 := by
  have hm : m = 1 ∨ m = 2 ∨ m = 3 ∨ m = 4 ∨ m = 5 ∨ m = 6 ∨ m = 7 ∨ m = 8 ∨ m = 9 ∨ m = 10 ∨ m = 11 ∨ m = 12 := by omega
  have e1 := cent_eq (y - 1) (by omega)
  have e2 := cent_eq y (by omega)
  have s4 := quo_step y 4 (by omega) y0
  have s1 := quo_step y 100 (by omega) y0
  have s40 := quo_step y 400 (by omega) y0
  have hc : (if y % 4 = 0 then (1 : Int) else 0) - (if y % 100 = 0 then 1 else 0) + (if y % 400 = 0 then 1 else 0) = if y % 4 = 0 ∧ (y % 100 ≠ 0 ∨ y % 400 = 0) then 1 else 0 := by
    split <;> split <;> split <;> split <;> omega
  unfold absD daysT
  generalize 146097 * ((y + 292277022400) / 100) / 4 = A at *
  generalize 1461 * ((y + 292277022400) % 100) / 4 = B at *
  generalize 146097 * ((y - 1 + 292277022400) / 100) / 4 = A1 at *
  generalize 1461 * ((y - 1 + 292277022400) % 100) / 4 = B1 at *
  generalize (y - 1) / 4 = p4 at *
  generalize (y - 1) / 100 = p1 at *
  generalize (y - 1) / 400 = p40 at *
  rw [s4, s1, s40] at e2
  generalize (if y % 4 = 0 then (1 : Int) else 0) = u4 at *
  generalize (if y % 100 = 0 then (1 : Int) else 0) = u1 at *
  generalize (if y % 400 = 0 then (1 : Int) else 0) = u40 at *
  by_cases hl : y % 4 = 0 ∧ (y % 100 ≠ 0 ∨ y % 400 = 0)
  · rw [if_pos hl] at hc
    rcases hm with h | h | h | h | h | h | h | h | h | h | h | h
    all_goals
      subst h
      simp [cumd, mdays, hl]
      omega
  · rw [if_neg hl] at hc
    rcases hm with h | h | h | h | h | h | h | h | h | h | h | h
    all_goals
      subst h
      simp [cumd, mdays, hl]
      omega

theorem cumd_bd (y : Int) (k : Nat) : 0 ≤ cumd y k ∧ cumd y k ≤ 31 * k := by
  induction k with
  | zero => simp [cumd]
  | succ k ih =>
    have := mdays_bd y (k + 1)
    simp only [cumd]
    omega

set_option maxRecDepth 100000 in
set_option maxHeartbeats 2000000 in
theorem specDays_any (y m d : Int) (w : World) (y0 : 1 ≤ y) (y1 : y ≤ 9999) (m0 : 1 ≤ m) (m1 : m ≤ 12) (d0 : 1 ≤ d) (d1 : d ≤ 31) :
    Calls Try.prog 17 #[.int .i64 y, .int .i64 m, .int .i64 d] w fun e w' => e = .returned (.int .i64 (daysT y m d)) ∧ w = w' := by
  go_enter Try.func17, Try.ntmps17
  go_wp2_with fail
  go_loop [7, 8] (fun n k => ∃ j : Nat, (j : Int) + 1 ≤ m ∧ k = .int .i64 ((j : Int) + 1) ∧ n = .int .i64 (d - 1 + cumd y j)) (fun _ k => (m - intOf k).toNat)
  case atStart => exact ⟨0, by omega, rfl, by simp [cumd]⟩
  case round =>
    obtain ⟨j, hj, rfl, rfl⟩ := hrel
    have hcb := cumd_bd y j
    have c0 := hcb.1
    have c1 := hcb.2
    clear hcb
    by_cases hlt : (j : Int) + 1 < m
    · go_wp2_with fail
      refine (month_any _ _ _ y0 (by omega) (by omega) (by omega)).mono ?_
      rintro e w' ⟨rfl, rfl⟩
      have hmd := mdays_bd y ((j : Int) + 1)
      have hm0 := hmd.1
      have hm1 := hmd.2
      clear hmd
      go_wp2_with fail
      go_round
      case rel => exact ⟨j + 1, by omega, by go_num, by simp only [cumd]; go_num⟩
      case measure => simp [intOf]; omega
    · have hje : Hid (j = (m - 1).toNat) := by
        show j = _
        omega
      go_wp2_with fail
      go_ret
      refine ⟨ret_int' ?_, rfl⟩
      rw [hje.out]
      rfl
end Go.Proofs.Ytnddjppbecpmdaa
