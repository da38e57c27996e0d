/- The law FnClock's walk. -/
import Derived.Test.YtnddjppbecpmdaaX
namespace Go.Proofs.Ytnddjppbecpmdaa
open Go.RowKit
set_option linter.unusedVariables false
set_option linter.unusedSimpArgs false

/-- the text of a time, with parts of a second in f figures (0: none) -/
def ctext (h m s part : Int) (f : Nat) : List UInt8 := if f = 0 then clk h m s else clk h m s ++ 46 :: (fig 9 part.toNat).take f
/-- the parts of a second that it tells -/
def cnano (part : Int) (f : Nat) : Int := if f = 0 then 0 else (val ((fig 9 part.toNat).take f) : Int) * (nsp f : Nat)

theorem specClock_any (h m s part f : Int) (w : World) (h0 : 0 ≤ h) (h1 : h ≤ 23) (m0 : 0 ≤ m) (m1 : m ≤ 59) (s0 : 0 ≤ s) (s1 : s ≤ 59) (p0 : 0 ≤ part) (p1 : part < 1000000000) (f0 : 0 ≤ f) (f1 : f ≤ 9) :
    Calls Try.prog 13 #[.int .i64 h, .int .i64 m, .int .i64 s, .int .i64 part, .int .i64 f] w (ClockRes (ctext h m s part f.toNat) h m s (cnano part f.toNat) w) := by
  by_cases hf : f = 0
  · subst hf
    exact specClock_zero h m s part w h0 h1 m0 m1 s0 s1
  · have h2 := specClock_some h m s part f.toNat w h0 h1 m0 m1 s0 s1 p0 p1 (by omega) (by omega)
    rw [Int.toNat_of_nonneg f0] at h2
    unfold ctext cnano
    rw [if_neg (by omega), if_neg (by omega)]
    exact h2

theorem timeText_any (h m s part : Int) (f : Nat) (h0 : 0 ≤ h) (h1 : h ≤ 23) (m0 : 0 ≤ m) (m1 : m ≤ 59) (s0 : 0 ≤ s) (s1 : s ≤ 59) (p0 : 0 ≤ part) (p1 : part < 1000000000) (f1 : f ≤ 9) :
    TimeText (ctext h m s part f) h m s (cnano part f) f := by
  have e1 := val_figI 2 h h0 (by omega)
  have e2 := val_figI 2 m m0 (by omega)
  have e3 := val_figI 2 s s0 (by omega)
  unfold ctext cnano
  by_cases hf : f = 0
  · subst hf
    have t := timeText_plain (fig 2 h.toNat) (fig 2 m.toNat) (fig 2 s.toNat) (fig_length _ _) (fig_length _ _) (fig_length _ _) (fig_digs _ _) (fig_digs _ _) (fig_digs _ _) (by omega) (by omega) (by omega)
    rw [e1, e2, e3] at t
    exact t
  · rw [if_neg hf, if_neg hf]
    have hl : ((fig 9 part.toNat).take f).length = f := by rw [List.length_take, fig_length]; omega
    have t := timeText_frac (fig 2 h.toNat) (fig 2 m.toNat) (fig 2 s.toNat) ((fig 9 part.toNat).take f) (fig_length _ _) (fig_length _ _) (fig_length _ _) (fig_digs _ _) (fig_digs _ _) (fig_digs _ _) (by omega) (by omega) (by omega) (digs_take _ (fig_digs _ _) _) (by omega) (by omega)
    rw [e1, e2, e3, hl] at t
    exact t

theorem eq35 (a b c d : Int) (w : World) : (Op.equalIn 10000 35 (.agg #[.int .i64 a, .int .i64 b, .int .i64 c, .int .i64 d]) (.agg #[.int .i64 a, .int .i64 b, .int .i64 c, .int .i64 d])).run Try.prog w = .ok true w := by
  have u3 := Try.underlying3
  have a3 := Try.isAgg3
  have z3 := Try.sizeOf3
  rw [show (10000 : Nat) = 9999 + 1 from rfl, Op.equalIn]
  simp only [Sem.run_bind, run_underlying Try.underlying35, Result.andThen_ok]
  simp only [Std.Legacy.Range.forIn_eq_forIn_range', Std.Legacy.Range.size, Nat.sub_zero, Nat.add_sub_cancel, Nat.div_one, List.range'_succ, List.range'_zero, List.forIn_cons, List.forIn_nil]
  go_simp

set_option maxRecDepth 100000 in
set_option maxHeartbeats 1000000 in
theorem fnClock_walk (a0 a1 a2 a3 a4 : Int) (h0 : 0 ≤ a0) (h0' : a0 ≤ 255) (h1 : 0 ≤ a1) (h1' : a1 ≤ 255) (h2 : 0 ≤ a2) (h2' : a2 ≤ 255) (h3 : 0 ≤ a3) (h3' : a3 ≤ 4294967295) (h4 : 0 ≤ a4) (h4' : a4 ≤ 255) (w : World) :
    Calls Try.prog 5 #[.int .u8 a0, .int .u8 a1, .int .u8 a2, .int .u32 a3, .int .u8 a4] w fun e w' => e = .returned (.bool true) ∧ Below w.heap.size w w' := by
  go_enter Try.func5, Try.ntmps5
  go_wp2_with fail
  refine (specClock_any _ _ _ _ _ _ (by omega) (by omega) (by omega) (by omega) (by omega) (by omega) (by omega) (by omega) (by omega) (by omega)).mono ?_
  rintro e w1 ⟨L, rfl, hl, HL, hb⟩
  have hz := hb.size
  have HB := Lib.hid hb
  clear hb
  have ht := timeText_any (a0 % 24) (a1 % 60) (a2 % 60) (a3 % 1000000000) (a4 % 10).toNat (by omega) (by omega) (by omega) (by omega) (by omega) (by omega) (by omega) (by omega) (by omega)
  rw [← HL.out] at ht
  have HT := Lib.hid ht
  clear ht
  generalize cnano (a3 % 1000000000) (a4 % 10).toNat = N at *
  go_wp2_with fail
  refine (implClock_any L _ _ _ _ _ _ HT.out).mono ?_
  rintro e w2 ⟨rfl, hb⟩
  obtain ⟨hc, hf, hz2⟩ := bcell hb
  have HB2 := Lib.hid hb
  clear hb
  simp at hz2 hc hf
  have hz0 : w1.heap.size < w2.heap.size := by omega
  have c0 := fun o => hc w1.heap.size o (by omega)
  clear hc hf
  have he := eq35 (a0 % 24) (a1 % 60) (a2 % 60) N
  go_wp2_with fail
  go_ret
  exact ⟨rfl, ((HB.out.alloc hz _).trans (HB2.out.mono (by simp; omega))).alloc (by omega) _⟩
end Go.Proofs.Ytnddjppbecpmdaa
