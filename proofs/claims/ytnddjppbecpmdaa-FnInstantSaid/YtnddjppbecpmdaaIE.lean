/- The walk of the package's reader of instants, with an offset. -/
import Derived.Test.YtnddjppbecpmdaaID
namespace Go.Proofs.Ytnddjppbecpmdaa
open Go.RowKit
set_option linter.unusedVariables false
set_option linter.unusedSimpArgs false

theorem Blk.ne_ {w : World} {g g' : Nat} {t t' : TypeId} {cs cs' : Array Value} (h : Blk w g t cs) (h' : Blk w g' t' cs') (hne : t ≠ t') : g ≠ g' := by
  rintro rfl
  unfold Blk at h h'
  rw [h] at h'
  injection h' with h'
  injection h' with _ ht
  exact hne ht

theorem isFix_tail {w3 : World} {N g : Nat} {o : Int} {cs : Array Value} (h : IsFix w3 g o) (hN : Blk w3 N 77 cs) (u1 u2 u3 : Value) (ob : Obj) : IsFix ((((w3.setCell ⟨N, 0, none⟩ u1).setCell ⟨N, 1, none⟩ u2).setCell ⟨N, 2, none⟩ u3).alloc ob) g o := by
  obtain ⟨gz, gt, h1, h2⟩ := h
  have n1 := h1.ne_ hN (by decide)
  have n2 := h2.ne_ hN (by decide)
  exact ⟨gz, gt, (((h1.far (p := ⟨N, 0, none⟩) n1 u1).far (p := ⟨N, 1, none⟩) n1 u2).far (p := ⟨N, 2, none⟩) n1 u3).alloc ob, (((h2.far (p := ⟨N, 0, none⟩) n2 u1).far (p := ⟨N, 1, none⟩) n2 u2).far (p := ⟨N, 2, none⟩) n2 u3).alloc ob⟩

set_option maxRecDepth 100000 in
set_option maxHeartbeats 4000000 in
theorem pdt_plus (y m d h mi s n p sg : Int) (H M : List UInt8) (b off cap len : Nat) (w : World) (hn : Nums y m d h mi s n)
    (hc : ∀ o, Calls Try.prog 27 #[.slice (some ⟨b, 0, none⟩) len cap] (w.alloc o) (DtRes y m d h mi s n p b off 6 (w.alloc o)))
    (hz : w.cell? ⟨b, off, none⟩ = some (.int .u8 sg)) (hsg : sg = 43) (hH : Bts w b (off + 1) H) (h3 : w.cell? ⟨b, off + 3, none⟩ = some (.int .u8 58)) (hM : Bts w b (off + 4) M) (lH : H.length = 2) (lM : M.length = 2) (gH : Digs H) (gM : Digs M) (vH : val H ≤ 23) (vM : val M ≤ 59) (lt : b < w.heap.size) :
    Calls Try.prog 28 #[.slice (some ⟨b, 0, none⟩) len cap] w (InstRes (daysT y m d * 86400 + (h * 3600 + mi * 60 + s) - ((val H : Int) * 3600 + (val M : Int) * 60)) n ((val H : Int) * 3600 + (val M : Int) * 60) w) := by
  subst hsg
  have HC := Lib.hid hc
  have HN := Lib.hid hn
  have H1 := Lib.hid hH
  have H2 := Lib.hid hM
  have H3 := Lib.hid lH
  have H4 := Lib.hid lM
  have H5 := Lib.hid gH
  have H6 := Lib.hid gM
  clear hc hn hH hM lH lM gH gM
  go_enter Try.func28, Try.ntmps28
  go_wp2_with fail
  refine (HC.out _).mono ?_
  rintro e w1 ⟨A, k, rfl, hk, hA, hb⟩
  have hA1 := hA (by omega)
  subst hA1
  have hz1 := hb.size
  simp at hz1
  have q0 : w.heap.size < w1.heap.size := by omega
  have q1 : b < w1.heap.size := by omega
  have b1 : Below w.heap.size w w1 := ((Below.refl _ _).alloc (Nat.le_refl _) _).trans (hb.mono (by simp))
  have hz2 := (b1.cell (p := ⟨b, off, none⟩) lt).trans hz
  have hz3 := (b1.cell (p := ⟨b, off + 3, none⟩) lt).trans h3
  have B0 := (Blk.new w 77 #[.int .u64 0, .int .i64 0, .pointer none]).below hb (by simp)
  have BB := Lib.hid b1
  have HB0 := Lib.hid B0
  clear hb b1 hA B0 hz h3
  go_wp2_with fail
  refine (pdd_any H b _ 2 _ _ H3.out H5.out (by omega) ((H1.out.below BB.out lt).alloc q1 _)).mono ?_
  rintro e w' ⟨rfl, rfl⟩
  go_wp2_with fail
  refine (pdd_any M b _ 2 _ _ H4.out H6.out (by omega) ((H2.out.below BB.out lt).alloc q1 _)).mono ?_
  rintro e w' ⟨rfl, rfl⟩
  by_cases ho : (val H : Int) * 3600 + (val M : Int) * 60 = 0
  · have hob : ((val H : Int) * 3600 + (val M : Int) * 60 == 0) = true := beq_iff_eq.2 ho
    have HO := Lib.hid ho
    clear ho
    by_cases hk6 : k = 6
    all_goals
      go_wp2_with fail
      refine (utc_any _).mono ?_
      rintro e w2 ⟨g, rfl, hu, hb, hgl⟩
      have hz3 := hb.size
      simp at hz3
      have q2 : w1.heap.size < w2.heap.size := by omega
      have D0 := (Blk.new w1 66 #[.int .i64 y, .int .i64 m, .int .i64 d, .int .i64 h, .int .i64 mi, .int .i64 s, .int .i64 n, .int .i64 p]).below hb (by simp)
      have b2 : Below w.heap.size w w2 := ((BB.out.alloc (by omega) _).trans (hb.mono (by simp; omega)))
      have R0 := (HB0.out.alloc (.cells #[.int .i64 y, .int .i64 m, .int .i64 d, .int .i64 h, .int .i64 mi, .int .i64 s, .int .i64 n, .int .i64 p] 66)).below hb (by simp; omega)
      have c := D0.cell
      simp at c
      have HB2 := Lib.hid b2
      have HR0 := Lib.hid R0
      have HU := Lib.hid hu
      clear D0 hb b2 R0 hu
      go_wp2_with fail
      refine (date_utc y m d h mi s n g _ HN.out.y0 HN.out.y1 HN.out.m0 HN.out.m1 HN.out.d0 HN.out.d1 HN.out.h0 HN.out.h1 HN.out.i0 HN.out.i1 HN.out.s0 HN.out.s1 HN.out.n0 HN.out.n1 HU.out).mono ?_
      rintro e w3 ⟨rfl, hb⟩
      have hz4 := hb.size
      have q3 : w.heap.size < w3.heap.size := by omega
      have R1 := HR0.out.below hb (by omega)
      have c1 := R1.cell
      have f1 := R1.frozen
      simp at c1
      have HB3 := Lib.hid hb
      clear hb R1 c
      generalize daysT y m d * 86400 + (h * 3600 + mi * 60 + s) = u at *
      unfold TimeV
      go_wp2_with fail
      refine bodyPost_ret (v := .tuple #[.agg #[.int .u64 n, .int .i64 (u + 62135596800), .pointer none], .nilIface]) (by simp [results, Try.results28, go_sem, c1, q3]) rfl ⟨none, by rw [HO.out, Int.sub_zero]; rfl, Or.inl ⟨rfl, HO.out⟩, ?_⟩
      refine Below.alloc ?_ (by simp; omega) _
      exact (((HB2.out.trans (HB3.out.mono (by omega))).setCell (by simp) _).setCell (by simp) _).setCell (by simp) _
  · have hob : ((val H : Int) * 3600 + (val M : Int) * 60 == 0) = false := beq_eq_false_iff_ne.2 ho
    clear ho
    by_cases hk6 : k = 6
    all_goals
      go_wp2_with fail
      generalize hO : (val H : Int) * 3600 + (val M : Int) * 60 = O at *
      have o0 : -86400 ≤ O := by omega
      have o1 : O ≤ 86400 := by omega
      clear hO
      refine (fixedZone_any _ _).mono ?_
      rintro e w2 ⟨g, rfl, hu, hb, hgl⟩
      have hz3 := hb.size
      simp at hz3 hgl
      have q2 : w1.heap.size < w2.heap.size := by omega
      have D0 := (Blk.new w1 66 #[.int .i64 y, .int .i64 m, .int .i64 d, .int .i64 h, .int .i64 mi, .int .i64 s, .int .i64 n, .int .i64 p]).below hb (by simp)
      have b2 : Below w.heap.size w w2 := ((BB.out.alloc (by omega) _).trans (hb.mono (by simp; omega)))
      have R0 := (HB0.out.alloc (.cells #[.int .i64 y, .int .i64 m, .int .i64 d, .int .i64 h, .int .i64 mi, .int .i64 s, .int .i64 n, .int .i64 p] 66)).below hb (by simp; omega)
      have c := D0.cell
      simp at c
      have HB2 := Lib.hid b2
      have HR0 := Lib.hid R0
      have HU := Lib.hid hu
      clear D0 hb b2 R0 hu
      go_wp2_with fail
      refine (date_fix y m d h mi s n O g _ HN.out.y0 HN.out.y1 HN.out.m0 HN.out.m1 HN.out.d0 HN.out.d1 HN.out.h0 HN.out.h1 HN.out.i0 HN.out.i1 HN.out.s0 HN.out.s1 HN.out.n0 HN.out.n1 o0 o1 hob HU.out).mono ?_
      rintro e w3 ⟨rfl, hb⟩
      have hz4 := hb.size
      have q3 : w.heap.size < w3.heap.size := by omega
      have R1 := HR0.out.below hb (by omega)
      have c1 := R1.cell
      have f1 := R1.frozen
      simp at c1
      have HB3 := Lib.hid hb
      have HR1 := Lib.hid R1
      clear hb R1 c
      generalize daysT y m d * 86400 + (h * 3600 + mi * 60 + s) - O = u at *
      unfold TimeV
      go_wp2_with fail
      refine bodyPost_ret (v := .tuple #[.agg #[.int .u64 n, .int .i64 (u + 62135596800), .pointer (some ⟨g, 0, none⟩)], .nilIface]) (by simp [results, Try.results28, go_sem, c1, q3]) rfl ⟨some ⟨g, 0, none⟩, rfl, Or.inr ⟨g, rfl, ?_⟩, ?_⟩
      · exact isFix_tail (HU.out.below HB3.out) HR1.out _ _ _ _
      · refine Below.alloc ?_ (by simp; omega) _
        exact (((HB2.out.trans (HB3.out.mono (by omega))).setCell (by simp) _).setCell (by simp) _).setCell (by simp) _
end Go.Proofs.Ytnddjppbecpmdaa
