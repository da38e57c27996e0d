/- The law FnInstant's walk. -/
import Derived.Test.YtnddjppbecpmdaaIH
namespace Go.Proofs.Ytnddjppbecpmdaa
open Go.RowKit
set_option linter.unusedVariables false
set_option linter.unusedSimpArgs false

theorem cnano_bd (part : Int) (f : Nat) (h9 : f ≤ 9) : 0 ≤ cnano part f ∧ cnano part f ≤ 999999999 := by
  unfold cnano
  split
  · omega
  · have hl : ((fig 9 part.toNat).take f).length = f := by rw [List.length_take, fig_length]; omega
    have h1 := val_lt ((fig 9 part.toNat).take f) (digs_take _ (fig_digs _ _) _) f (by omega)
    rw [List.take_of_length_le (by omega)] at h1
    exact nsp_mul _ f h1 h9

set_option maxRecDepth 100000 in
set_option maxHeartbeats 4000000 in
theorem fnInstant_walk (a0 a1 a2 a3 a4 a5 a6 : Int) (a7 : Bool) (h0 : 0 ≤ a0) (h0' : a0 ≤ 65535) (h1 : 0 ≤ a1) (h1' : a1 ≤ 255) (h2 : 0 ≤ a2) (h2' : a2 ≤ 255) (h3 : 0 ≤ a3) (h3' : a3 ≤ 255) (h4 : 0 ≤ a4) (h4' : a4 ≤ 4294967295) (h5 : 0 ≤ a5) (h5' : a5 ≤ 255) (h6 : -32768 ≤ a6) (h6' : a6 ≤ 32767) (w : World) :
    Calls Try.prog 7 #[.int .u16 a0, .int .u8 a1, .int .u8 a2, .int .u8 a3, .int .u32 a4, .int .u8 a5, .int .i16 a6, .bool a7] w fun e w' => e = .returned (.bool true) ∧ Below w.heap.size w w' := by
  go_enter Try.func7, Try.ntmps7
  go_wp2_with fail
  refine (month_call _ _ _ (by omega) (by omega) (by omega) (by omega)).mono ?_
  rintro e w' ⟨rfl, rfl⟩
  have hmd := mdays_bd (1 + a0 % 9999) (1 + a1 % 12)
  generalize hD : mdays (1 + a0 % 9999) (1 + a1 % 12) = D at *
  have HD := Lib.hid hD
  have hm0 := hmd.1
  have hm1 := hmd.2
  have e1 : 0 ≤ a2 % D := Int.emod_nonneg _ (by omega)
  have e2 : a2 % D < D := Int.emod_lt_of_pos _ (by omega)
  clear hmd hD
  go_wp2_with fail
  refine (specClock_any _ _ _ _ _ _ (by omega) (by omega) (by omega) (by omega) (by omega) (by omega) (by omega) (by omega) (by omega) (by omega)).mono ?_
  rintro e w1 ⟨L, rfl, hl, HL, hb⟩
  have hz := hb.size
  have HB := Lib.hid hb
  clear hb
  have ht := timeText_any (a3 % 24) (a3 % 60) (a2 % 60) (a4 % 1000000000) (a5 % 10).toNat (by omega) (by omega) (by omega) (by omega) (by omega) (by omega) (by omega) (by omega) (by omega)
  have hle := ctext_length (a3 % 24) (a3 % 60) (a2 % 60) (a4 % 1000000000) (a5 % 10).toNat
  rw [← HL.out] at ht hle
  have hN := cnano_bd (a4 % 1000000000) (a5 % 10).toNat (by omega)
  have HT := Lib.hid ht
  clear ht
  generalize cnano (a4 % 1000000000) (a5 % 10).toNat = N at *
  have hN0 := hN.1
  have hN1 := hN.2
  clear hN
  have hnum : Hid (Nums (1 + a0 % 9999) (1 + a1 % 12) (1 + a2 % D) (a3 % 24) (a3 % 60) (a2 % 60) N) := ⟨by omega, by omega, by omega, by omega, by omega, by omega, by omega, by omega, by omega, by omega, by omega, by omega, hN0, hN1⟩
  have tm0 : -1440 < a6.tmod 1440 := Int.lt_tmod_of_pos _ (by omega)
  have tm1 : a6.tmod 1440 < 1440 := Int.tmod_lt_of_pos _ (by omega)
  by_cases hsign : a6.tmod 1440 < 0
  all_goals
    cases a7
  · obtain ⟨a, ha0, ha1, hT⟩ : ∃ a : Int, 0 < a ∧ a ≤ 1439 ∧ a6.tmod 1440 = -a := ⟨-a6.tmod 1440, by omega, by omega, by omega⟩
    clear hsign tm0 tm1
    go_wp2_with fail
    clear hT
    refine (figures_int _ _ 2 _ rfl (by omega) (by omega) (by omega)).mono ?_
    rintro e w' ⟨L4, rfl, l4, H4, rfl⟩
    go_wp2_with fail
    refine (figures_int _ _ 2 _ rfl (by omega) (by omega) (by omega)).mono ?_
    rintro e w' ⟨L5, rfl, l5, H5, rfl⟩
    go_wp2_with fail
    refine (figures_int _ _ 4 _ rfl (by omega) (by omega) (by omega)).mono ?_
    rintro e w' ⟨L1, rfl, l1, H1, rfl⟩
    go_wp2_with fail
    refine (figures_int _ _ 2 _ rfl (by omega) (by omega) (by omega)).mono ?_
    rintro e w' ⟨L2, rfl, l2, H2, rfl⟩
    go_wp2_with fail
    refine (figures_int _ _ 2 _ rfl (by omega) (by omega) (by omega)).mono ?_
    rintro e w' ⟨L3, rfl, l3, H3, rfl⟩
    go_wp2_with fail
    refine (impl_off _ _ _ _ _ _ _ _ a 45 (-a) L1 L2 L3 L4 L5 L _ hnum.out (by rw [HD.out]; omega) H1.out H2.out H3.out HT.out hle (by omega) ha1 H4.out H5.out (Or.inr ⟨rfl, rfl⟩)).mono ?_
    rintro e w2 ⟨rfl, hb⟩
    have B0 := (Blk.new w1 35 #[.int .i64 (a3 % 24), .int .i64 (a3 % 60), .int .i64 (a2 % 60), .int .i64 N]).below hb (by simp)
    have b2 : Below w.heap.size w w2 := (HB.out.alloc hz _).trans (hb.mono (by simp; omega))
    have HB2 := Lib.hid b2
    have HB0 := Lib.hid B0
    have lt0 := B0.lt
    have hdb := daysT_bd (1 + a0 % 9999) (1 + a1 % 12) (1 + a2 % D) (by omega) (by omega) (by omega) (by omega) (by omega) (by omega)
    have hsd := fun W => specDays_any (1 + a0 % 9999) (1 + a1 % 12) (1 + a2 % D) W (by omega) (by omega) (by omega) (by omega) (by omega) (by omega)
    generalize daysT (1 + a0 % 9999) (1 + a1 % 12) (1 + a2 % D) = Dy at *
    have dy0 := hdb.1
    have dy1 := hdb.2
    have HSD := Lib.hid hsd
    clear hb b2 B0 hdb hsd
    go_wp2_with fail
    refine region_class (fun W => Below w2.heap.size w2 W) (by kernel_rfl) (by kernel_rfl) (Below.refl _ _).drew ?_
    repeat (go_big_quiet_step ((intro hW; first | exact rfl | exact (HSD.out _).mono (fun e w' h => ⟨h.1, h.2 ▸ hW⟩) | (have c := ((HB0.out.below hW lt0).cell); simp at c; simp [c]; exact rfl))))
    refine wpQuiet_nil ?_
    intro w3 hW
    have hz3 := hW.size
    have c := (HB0.out.below hW lt0).cell
    simp at c
    go_wp2
    go_ret
    exact ⟨rfl, HB2.out.trans (hW.mono HB2.out.size)⟩
  · clear hsign tm0 tm1
    go_wp2_with fail
    refine (figures_int _ _ 4 _ rfl (by omega) (by omega) (by omega)).mono ?_
    rintro e w' ⟨L1, rfl, l1, H1, rfl⟩
    go_wp2_with fail
    refine (figures_int _ _ 2 _ rfl (by omega) (by omega) (by omega)).mono ?_
    rintro e w' ⟨L2, rfl, l2, H2, rfl⟩
    go_wp2_with fail
    refine (figures_int _ _ 2 _ rfl (by omega) (by omega) (by omega)).mono ?_
    rintro e w' ⟨L3, rfl, l3, H3, rfl⟩
    go_wp2_with fail
    refine (impl_z _ _ _ _ _ _ _ _ L1 L2 L3 L _ hnum.out (by rw [HD.out]; omega) H1.out H2.out H3.out HT.out hle).mono ?_
    rintro e w2 ⟨rfl, hb⟩
    have B0 := (Blk.new w1 35 #[.int .i64 (a3 % 24), .int .i64 (a3 % 60), .int .i64 (a2 % 60), .int .i64 N]).below hb (by simp)
    have b2 : Below w.heap.size w w2 := (HB.out.alloc hz _).trans (hb.mono (by simp; omega))
    have HB2 := Lib.hid b2
    have HB0 := Lib.hid B0
    have lt0 := B0.lt
    have hdb := daysT_bd (1 + a0 % 9999) (1 + a1 % 12) (1 + a2 % D) (by omega) (by omega) (by omega) (by omega) (by omega) (by omega)
    have hsd := fun W => specDays_any (1 + a0 % 9999) (1 + a1 % 12) (1 + a2 % D) W (by omega) (by omega) (by omega) (by omega) (by omega) (by omega)
    generalize daysT (1 + a0 % 9999) (1 + a1 % 12) (1 + a2 % D) = Dy at *
    have dy0 := hdb.1
    have dy1 := hdb.2
    have HSD := Lib.hid hsd
    clear hb b2 B0 hdb hsd
    go_wp2_with fail
    refine region_class (fun W => Below w2.heap.size w2 W) (by kernel_rfl) (by kernel_rfl) (Below.refl _ _).drew ?_
    repeat (go_big_quiet_step ((intro hW; first | exact rfl | exact (HSD.out _).mono (fun e w' h => ⟨h.1, h.2 ▸ hW⟩) | (have c := ((HB0.out.below hW lt0).cell); simp at c; simp [c]; exact rfl))))
    refine wpQuiet_nil ?_
    intro w3 hW
    have hz3 := hW.size
    have c := (HB0.out.below hW lt0).cell
    simp at c
    go_wp2
    go_ret
    exact ⟨rfl, HB2.out.trans (hW.mono HB2.out.size)⟩
  · obtain ⟨a, ha0, ha1, hT⟩ : ∃ a : Int, 0 ≤ a ∧ a ≤ 1439 ∧ a6.tmod 1440 = a := ⟨a6.tmod 1440, by omega, by omega, by omega⟩
    clear hsign tm0 tm1
    go_wp2_with fail
    clear hT
    refine (figures_int _ _ 2 _ rfl (by omega) (by omega) (by omega)).mono ?_
    rintro e w' ⟨L4, rfl, l4, H4, rfl⟩
    go_wp2_with fail
    refine (figures_int _ _ 2 _ rfl (by omega) (by omega) (by omega)).mono ?_
    rintro e w' ⟨L5, rfl, l5, H5, rfl⟩
    go_wp2_with fail
    refine (figures_int _ _ 4 _ rfl (by omega) (by omega) (by omega)).mono ?_
    rintro e w' ⟨L1, rfl, l1, H1, rfl⟩
    go_wp2_with fail
    refine (figures_int _ _ 2 _ rfl (by omega) (by omega) (by omega)).mono ?_
    rintro e w' ⟨L2, rfl, l2, H2, rfl⟩
    go_wp2_with fail
    refine (figures_int _ _ 2 _ rfl (by omega) (by omega) (by omega)).mono ?_
    rintro e w' ⟨L3, rfl, l3, H3, rfl⟩
    go_wp2_with fail
    refine (impl_off _ _ _ _ _ _ _ _ a 43 a L1 L2 L3 L4 L5 L _ hnum.out (by rw [HD.out]; omega) H1.out H2.out H3.out HT.out hle (by omega) ha1 H4.out H5.out (Or.inl ⟨rfl, rfl⟩)).mono ?_
    rintro e w2 ⟨rfl, hb⟩
    have B0 := (Blk.new w1 35 #[.int .i64 (a3 % 24), .int .i64 (a3 % 60), .int .i64 (a2 % 60), .int .i64 N]).below hb (by simp)
    have b2 : Below w.heap.size w w2 := (HB.out.alloc hz _).trans (hb.mono (by simp; omega))
    have HB2 := Lib.hid b2
    have HB0 := Lib.hid B0
    have lt0 := B0.lt
    have hdb := daysT_bd (1 + a0 % 9999) (1 + a1 % 12) (1 + a2 % D) (by omega) (by omega) (by omega) (by omega) (by omega) (by omega)
    have hsd := fun W => specDays_any (1 + a0 % 9999) (1 + a1 % 12) (1 + a2 % D) W (by omega) (by omega) (by omega) (by omega) (by omega) (by omega)
    generalize daysT (1 + a0 % 9999) (1 + a1 % 12) (1 + a2 % D) = Dy at *
    have dy0 := hdb.1
    have dy1 := hdb.2
    have HSD := Lib.hid hsd
    clear hb b2 B0 hdb hsd
    go_wp2_with fail
    refine region_class (fun W => Below w2.heap.size w2 W) (by kernel_rfl) (by kernel_rfl) (Below.refl _ _).drew ?_
    repeat (go_big_quiet_step ((intro hW; first | exact rfl | exact (HSD.out _).mono (fun e w' h => ⟨h.1, h.2 ▸ hW⟩) | (have c := ((HB0.out.below hW lt0).cell); simp at c; simp [c]; exact rfl))))
    refine wpQuiet_nil ?_
    intro w3 hW
    have hz3 := hW.size
    have c := (HB0.out.below hW lt0).cell
    simp at c
    go_wp2
    go_ret
    exact ⟨rfl, HB2.out.trans (hW.mono HB2.out.size)⟩
  · clear hsign tm0 tm1
    go_wp2_with fail
    refine (figures_int _ _ 4 _ rfl (by omega) (by omega) (by omega)).mono ?_
    rintro e w' ⟨L1, rfl, l1, H1, rfl⟩
    go_wp2_with fail
    refine (figures_int _ _ 2 _ rfl (by omega) (by omega) (by omega)).mono ?_
    rintro e w' ⟨L2, rfl, l2, H2, rfl⟩
    go_wp2_with fail
    refine (figures_int _ _ 2 _ rfl (by omega) (by omega) (by omega)).mono ?_
    rintro e w' ⟨L3, rfl, l3, H3, rfl⟩
    go_wp2_with fail
    refine (impl_z _ _ _ _ _ _ _ _ L1 L2 L3 L _ hnum.out (by rw [HD.out]; omega) H1.out H2.out H3.out HT.out hle).mono ?_
    rintro e w2 ⟨rfl, hb⟩
    have B0 := (Blk.new w1 35 #[.int .i64 (a3 % 24), .int .i64 (a3 % 60), .int .i64 (a2 % 60), .int .i64 N]).below hb (by simp)
    have b2 : Below w.heap.size w w2 := (HB.out.alloc hz _).trans (hb.mono (by simp; omega))
    have HB2 := Lib.hid b2
    have HB0 := Lib.hid B0
    have lt0 := B0.lt
    have hdb := daysT_bd (1 + a0 % 9999) (1 + a1 % 12) (1 + a2 % D) (by omega) (by omega) (by omega) (by omega) (by omega) (by omega)
    have hsd := fun W => specDays_any (1 + a0 % 9999) (1 + a1 % 12) (1 + a2 % D) W (by omega) (by omega) (by omega) (by omega) (by omega) (by omega)
    generalize daysT (1 + a0 % 9999) (1 + a1 % 12) (1 + a2 % D) = Dy at *
    have dy0 := hdb.1
    have dy1 := hdb.2
    have HSD := Lib.hid hsd
    clear hb b2 B0 hdb hsd
    go_wp2_with fail
    refine region_class (fun W => Below w2.heap.size w2 W) (by kernel_rfl) (by kernel_rfl) (Below.refl _ _).drew ?_
    repeat (go_big_quiet_step ((intro hW; first | exact rfl | exact (HSD.out _).mono (fun e w' h => ⟨h.1, h.2 ▸ hW⟩) | (have c := ((HB0.out.below hW lt0).cell); simp at c; simp [c]; exact rfl))))
    refine wpQuiet_nil ?_
    intro w3 hW
    have hz3 := hW.size
    have c := (HB0.out.below hW lt0).cell
    simp at c
    go_wp2
    go_ret
    exact ⟨rfl, HB2.out.trans (hW.mono HB2.out.size)⟩
end Go.Proofs.Ytnddjppbecpmdaa
