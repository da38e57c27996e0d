/- Plain facts on figures and the walks of the reference's small functions. No condition but the bounds that each statement names. -/
import Derived.Test.YtnddjppbecpmdaaRows
import Derived.WalkKit
import Derived.WalkSpells
import Derived.WalkLawsBesides
import Derived.Outline
import Derived.Lib.Hide
namespace Go.Proofs.Ytnddjppbecpmdaa
open Go.RowKit
set_option linter.unusedVariables false
set_option linter.unusedSimpArgs false

/-- the last figure of a number, as its sign -/
def dgt (u : Nat) : UInt8 := UInt8.ofNat (48 + u % 10)

def fig : Nat → Nat → List UInt8
  | 0, _ => []
  | n + 1, v => fig n (v / 10) ++ [dgt v]

theorem ret_int {k : IntKind} {a b : Int} (h : a = b) : Ending.returned (.int k a) = .returned (.int k b) := by rw [h]

theorem fig_length (n v : Nat) : (fig n v).length = n := by
  induction n generalizing v with
  | zero => rfl
  | succ n ih => simp [fig, ih]

theorem encode_digit (u : Nat) : Utf8.encode (48 + (u : Int) % 10) = ⟨#[dgt u]⟩ := by
  have h1 : (48 + (u : Int) % 10) = ((48 + u % 10 : Nat) : Int) := by omega
  rw [h1]
  have hv : Utf8.valid ((48 + u % 10 : Nat) : Int) = true := by
    unfold Utf8.valid
    simp
    omega
  unfold Utf8.encode
  simp only [hv, if_true, Int.toNat_natCast]
  rw [if_pos (by omega)]
  rfl

theorem fig_step (n v j u : Nat) (o : List UInt8) (hj : 0 < j) (h : fig j u ++ o = fig n v) : fig (j - 1) (u / 10) ++ (dgt u :: o) = fig n v := by
  obtain ⟨i, rfl⟩ : ∃ i, j = i + 1 := ⟨j - 1, by omega⟩
  rw [← h]
  simp [fig]

theorem pow_step (j u : Nat) (hj : 0 < j) (h : u < 10 ^ j) : u / 10 < 10 ^ (j - 1) := by
  obtain ⟨i, rfl⟩ : ∃ i, j = i + 1 := ⟨j - 1, by omega⟩
  rw [Nat.pow_succ] at h
  exact Nat.div_lt_of_lt_mul (by simpa [Nat.mul_comm] using h)

theorem str_app (a : UInt8) (o : List UInt8) : (⟨#[a]⟩ : ByteArray) ++ ⟨o.toArray⟩ = ⟨(a :: o).toArray⟩ := by
  apply ByteArray.ext
  simp [ByteArray.data_append]

set_option maxHeartbeats 400000 in
theorem figures_any (v n : Nat) (w : World) (hv : v < 10 ^ n) (hn1 : n ≤ 9) :
    Calls Try.prog 10 #[.int .i64 v, .int .i64 n] w fun e w' => e = .returned (.string ⟨(fig n v).toArray⟩) ∧ w = w' := by
  have hvb : v < 1000000000 := Nat.lt_of_lt_of_le hv (Nat.pow_le_pow_right (by omega) hn1 : 10 ^ n ≤ 10 ^ 9)
  have HV : Hid (v < 10 ^ n) := hv
  clear hv
  go_enter Try.func10, Try.ntmps10
  go_wp2
  go_loop [0, 1, 5] (fun a b c => ∃ (u j : Nat) (o : List UInt8), a = .int .i64 u ∧ b = .int .i64 j ∧ c = .string ⟨o.toArray⟩ ∧ j ≤ n ∧ u < 1000000000 ∧ o.length ≤ 9 - j ∧ Hid (u < 10 ^ j) ∧ Hid (fig j u ++ o = fig n v)) (fun _ b _ => (intOf b).toNat)
  case atStart => exact ⟨v, n, [], rfl, rfl, rfl, by omega, hvb, by simp, HV, by simp [Hid]⟩
  case round =>
    obtain ⟨u, j, o, rfl, rfl, rfl, hj, hu, hl, H1, H2⟩ := hrel
    by_cases hj0 : 0 < j
    · have he := encode_digit u
      by_cases hu0 : 0 < u
      all_goals
        go_wp2
        all_goals
          go_round
          case rel => exact ⟨u / 10, j - 1, dgt u :: o, by go_num, by go_num, by rw [str_app], by omega, by omega, by simp; omega, pow_step j u hj0 H1.out, fig_step n v j u o hj0 H2.out⟩
          case measure => simp [intOf]; omega
    · have hu0 : ¬ 0 < u := by
        have h1 := H1.out
        have hz : j = 0 := by omega
        rw [hz] at h1
        omega
      have HF : Hid (o = fig n v) := by
        have hf := H2.out
        have hz : j = 0 := by omega
        rw [hz] at hf
        exact hf
      clear H1 H2
      go_wp2
      go_ret
      exact ⟨by rw [HF.out]; rfl, rfl⟩

/-- how many days a month has -/
def mdays (y m : Int) : Int :=
  if m = 2 then (if y % 4 = 0 ∧ (y % 100 ≠ 0 ∨ y % 400 = 0) then 29 else 28) else if m = 4 ∨ m = 6 ∨ m = 9 ∨ m = 11 then 30 else 31

theorem month_any (y m : Int) (w : World) (h0 : 1 ≤ y) (h1 : y ≤ 10000) (h2 : 1 ≤ m) (h3 : m ≤ 12) :
    Calls Try.prog 18 #[.int .i64 y, .int .i64 m] w fun e w' => e = .returned (.int .i64 (mdays y m)) ∧ w = w' := by
  go_enter Try.func18, Try.ntmps18
  go_wp2
  all_goals (try simp only [beq_iff_eq, beq_eq_false_iff_ne, ne_eq] at *)
  all_goals (go_ret; refine ⟨ret_int ?_, rfl⟩; unfold mdays; repeat' split)
  all_goals omega

theorem daysIn_any (y m : Int) (w : World) (h0 : 1 ≤ y) (h1 : y ≤ 10000) (h2 : 1 ≤ m) (h3 : m ≤ 12) :
    Calls Try.prog 34 #[.int .i64 m, .int .i64 y] w fun e w' => e = .returned (.int .i64 (mdays y m)) ∧ w = w' := by
  go_enter Try.func34, Try.ntmps34
  go_wp2
  all_goals (try simp only [beq_iff_eq, beq_eq_false_iff_ne, ne_eq] at *)
  all_goals (go_ret; refine ⟨ret_int ?_, rfl⟩; unfold mdays; repeat' split)
  all_goals omega
end Go.Proofs.Ytnddjppbecpmdaa
