/- The law FnDateClock's walk. -/
import Derived.Test.YtnddjppbecpmdaaDA
namespace Go.Proofs.Ytnddjppbecpmdaa
open Go.RowKit
set_option linter.unusedVariables false
set_option linter.unusedSimpArgs false

theorem ctext_length (h m s part : Int) (f : Nat) : 8 ≤ (ctext h m s part f).length := by
  unfold ctext
  split
  · rw [clk_length]; omega
  · simp [clk_length]

set_option maxRecDepth 100000 in
set_option maxHeartbeats 2000000 in
theorem fnDateClock_walk (a0 a1 a2 a3 a4 a5 : Int) (a6 : Bool) (h0 : 0 ≤ a0) (h0' : a0 ≤ 65535) (h1 : 0 ≤ a1) (h1' : a1 ≤ 255) (h2 : 0 ≤ a2) (h2' : a2 ≤ 255) (h3 : 0 ≤ a3) (h3' : a3 ≤ 255) (h4 : 0 ≤ a4) (h4' : a4 ≤ 4294967295) (h5 : 0 ≤ a5) (h5' : a5 ≤ 255) (w : World) :
    Calls Try.prog 6 #[.int .u16 a0, .int .u8 a1, .int .u8 a2, .int .u8 a3, .int .u32 a4, .int .u8 a5, .bool a6] w fun e w' => e = .returned (.bool true) ∧ Below w.heap.size w w' := by
  go_enter Try.func6, Try.ntmps6
  go_wp2_with fail
  refine (month_call _ _ _ (by omega) (by omega) (by omega) (by omega)).mono ?_
  rintro e w' ⟨rfl, rfl⟩
  have hmd := mdays_bd (1 + a0 % 9999) (1 + a1 % 12)
  generalize hD : mdays (1 + a0 % 9999) (1 + a1 % 12) = D at *
  have HD := Lib.hid hD
  have hm0 := hmd.1
  have hm1 := hmd.2
  have e1 : 0 ≤ a2 % D := Int.emod_nonneg _ (by omega)
  have e2 : a2 % D < D := Int.emod_lt_of_pos _ (by omega)
  clear hmd hD
  go_wp2_with fail
  refine (specClock_any _ _ _ _ _ _ (by omega) (by omega) (by omega) (by omega) (by omega) (by omega) (by omega) (by omega) (by omega) (by omega)).mono ?_
  rintro e w1 ⟨L, rfl, hl, HL, hb⟩
  have hz := hb.size
  have HB := Lib.hid hb
  clear hb
  have ht := timeText_any (a3 % 24) (a3 % 60) (a2 % 60) (a4 % 1000000000) (a5 % 10).toNat (by omega) (by omega) (by omega) (by omega) (by omega) (by omega) (by omega) (by omega) (by omega)
  have hle := ctext_length (a3 % 24) (a3 % 60) (a2 % 60) (a4 % 1000000000) (a5 % 10).toNat
  rw [← HL.out] at ht hle
  have HT := Lib.hid ht
  clear ht
  generalize cnano (a4 % 1000000000) (a5 % 10).toNat = N at *
  cases a6
  all_goals
    go_wp2_with fail
    refine (figures_int _ _ 4 _ rfl (by omega) (by omega) (by omega)).mono ?_
    rintro e w' ⟨L1, rfl, l1, H1, rfl⟩
    go_wp2_with fail
    refine (figures_int _ _ 2 _ rfl (by omega) (by omega) (by omega)).mono ?_
    rintro e w' ⟨L2, rfl, l2, H2, rfl⟩
    go_wp2_with fail
    refine (figures_int _ _ 2 _ rfl (by omega) (by omega) (by omega)).mono ?_
    rintro e w' ⟨L3, rfl, l3, H3, rfl⟩
    go_wp2_with fail
    refine (implDateClock_int _ _ _ _ _ _ _ _ _ L1 L2 L3 L _ (by omega) (by omega) (by omega) (by omega) (by omega) (by rw [HD.out]; omega) (by decide) H1.out H2.out H3.out HT.out hle).mono ?_
    rintro e w2 ⟨rfl, hb⟩
    have B0 := (Blk.new w1 35 #[.int .i64 (a3 % 24), .int .i64 (a3 % 60), .int .i64 (a2 % 60), .int .i64 N]).below hb (by simp)
    have b2 : Below w.heap.size w w2 := (HB.out.alloc hz _).trans (hb.mono (by simp; omega))
    have hz2 := hb.size
    simp at hz2
    have HB2 := Lib.hid b2
    clear hb b2
    have c0 := B0.cell
    clear B0
    simp at c0
    have he := eq41 (1 + a0 % 9999) (1 + a1 % 12) (1 + a2 % D) (a3 % 24) (a3 % 60) (a2 % 60) N
    have hz0 : w1.heap.size < w2.heap.size := by omega
    go_wp2_with fail
    go_ret
    exact ⟨rfl, HB2.out.alloc (by omega) _⟩
end Go.Proofs.Ytnddjppbecpmdaa
