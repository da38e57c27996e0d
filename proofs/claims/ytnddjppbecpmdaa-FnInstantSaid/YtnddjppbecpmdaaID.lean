/- The walk of the package's reader of instants. -/
import Derived.Test.YtnddjppbecpmdaaIC
namespace Go.Proofs.Ytnddjppbecpmdaa
open Go.RowKit
set_option linter.unusedVariables false
set_option linter.unusedSimpArgs false

/-- what the reader of instants hands back -/
def InstRes (u n o : Int) (w : World) (e : Ending) (w' : World) : Prop :=
  ∃ loc, e = .returned (.tuple #[TimeV u n loc, .nilIface]) ∧ ((loc = none ∧ o = 0) ∨ ∃ g, loc = some ⟨g, 0, none⟩ ∧ IsFix w' g o) ∧ Below w.heap.size w w'

structure Nums (y m d h mi s n : Int) : Prop where
  y0 : 1 ≤ y
  y1 : y ≤ 9999
  m0 : 1 ≤ m
  m1 : m ≤ 12
  d0 : 1 ≤ d
  d1 : d ≤ 31
  h0 : 0 ≤ h
  h1 : h ≤ 23
  i0 : 0 ≤ mi
  i1 : mi ≤ 59
  s0 : 0 ≤ s
  s1 : s ≤ 59
  n0 : 0 ≤ n
  n1 : n ≤ 999999999

set_option maxRecDepth 100000 in
set_option maxHeartbeats 4000000 in
theorem pdt_z (y m d h mi s n p : Int) (b off cap len : Nat) (w : World) (hn : Nums y m d h mi s n)
    (hc : ∀ o, Calls Try.prog 27 #[.slice (some ⟨b, 0, none⟩) len cap] (w.alloc o) (DtRes y m d h mi s n p b off 1 (w.alloc o)))
    (hz : w.cell? ⟨b, off, none⟩ = some (.int .u8 90)) (lt : b < w.heap.size) :
    Calls Try.prog 28 #[.slice (some ⟨b, 0, none⟩) len cap] w (InstRes (daysT y m d * 86400 + (h * 3600 + mi * 60 + s)) n 0 w) := by
  have HC := Lib.hid hc
  have HN := Lib.hid hn
  clear hc hn
  go_enter Try.func28, Try.ntmps28
  go_wp2_with fail
  refine (HC.out _).mono ?_
  rintro e w1 ⟨A, k, rfl, hk, hA, hb⟩
  have hA1 := hA (by omega)
  subst hA1
  have hz1 := hb.size
  simp at hz1
  have q0 : w.heap.size < w1.heap.size := by omega
  have q1 : b < w1.heap.size := by omega
  have b1 : Below w.heap.size w w1 := ((Below.refl _ _).alloc (Nat.le_refl _) _).trans (hb.mono (by simp))
  have hz2 := (b1.cell (p := ⟨b, off, none⟩) lt).trans hz
  have B0 := (Blk.new w 77 #[.int .u64 0, .int .i64 0, .pointer none]).below hb (by simp)
  have BB := Lib.hid b1
  have HB0 := Lib.hid B0
  clear hb b1 hA B0 hz
  by_cases hk1 : k = 1
  all_goals
    go_wp2_with fail
    refine (utc_any _).mono ?_
    rintro e w2 ⟨g, rfl, hu, hb, hgl⟩
    have hz3 := hb.size
    simp at hz3
    have q2 : w1.heap.size < w2.heap.size := by omega
    have D0 := (Blk.new w1 66 #[.int .i64 y, .int .i64 m, .int .i64 d, .int .i64 h, .int .i64 mi, .int .i64 s, .int .i64 n, .int .i64 p]).below hb (by simp)
    have b2 : Below w.heap.size w w2 := ((BB.out.alloc (by omega) _).trans (hb.mono (by simp; omega)))
    have R0 := (HB0.out.alloc (.cells #[.int .i64 y, .int .i64 m, .int .i64 d, .int .i64 h, .int .i64 mi, .int .i64 s, .int .i64 n, .int .i64 p] 66)).below hb (by simp; omega)
    have c := D0.cell
    simp at c
    have HB2 := Lib.hid b2
    have HR0 := Lib.hid R0
    have HU := Lib.hid hu
    clear D0 hb b2 R0 hu
    go_wp2_with fail
    refine (date_utc y m d h mi s n g _ HN.out.y0 HN.out.y1 HN.out.m0 HN.out.m1 HN.out.d0 HN.out.d1 HN.out.h0 HN.out.h1 HN.out.i0 HN.out.i1 HN.out.s0 HN.out.s1 HN.out.n0 HN.out.n1 HU.out).mono ?_
    rintro e w3 ⟨rfl, hb⟩
    have hz4 := hb.size
    have q3 : w.heap.size < w3.heap.size := by omega
    have R1 := HR0.out.below hb (by omega)
    have c1 := R1.cell
    have f1 := R1.frozen
    simp at c1
    have HB3 := Lib.hid hb
    clear hb R1 c
    generalize daysT y m d * 86400 + (h * 3600 + mi * 60 + s) = u at *
    unfold TimeV
    go_wp2_with fail
    refine bodyPost_ret (v := .tuple #[.agg #[.int .u64 n, .int .i64 (u + 62135596800), .pointer none], .nilIface]) (by simp [results, Try.results28, go_sem, c1, q3]) rfl ⟨none, rfl, Or.inl ⟨rfl, rfl⟩, ?_⟩
    refine Below.alloc ?_ (by simp; omega) _
    exact (((HB2.out.trans (HB3.out.mono (by omega))).setCell (by simp) _).setCell (by simp) _).setCell (by simp) _
end Go.Proofs.Ytnddjppbecpmdaa
