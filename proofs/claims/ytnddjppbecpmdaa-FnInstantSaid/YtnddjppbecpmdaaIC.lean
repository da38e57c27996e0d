/- The walk of the package's date with a zone. -/
import Derived.Test.YtnddjppbecpmdaaIBB
namespace Go.Proofs.Ytnddjppbecpmdaa
open Go.RowKit
set_option linter.unusedVariables false
set_option linter.unusedSimpArgs false

theorem daysT_bd (y m d : Int) (y0 : 1 ≤ y) (y1 : y ≤ 9999) (m0 : 1 ≤ m) (m1 : m ≤ 12) (d0 : 1 ≤ d) (d1 : d ≤ 31) : -800000 ≤ daysT y m d ∧ daysT y m d ≤ 3700000 := by
  have h := cumd_bd y (m - 1).toNat
  unfold daysT
  generalize cumd y (m - 1).toNat = c at *
  omega

/-- the instant u behind 1970, with n parts of a second, in a zone -/
def TimeV (u n : Int) (loc : Option Addr) : Value := .agg #[.int .u64 n, .int .i64 (u + 62135596800), .pointer loc]
def DateRes (u n : Int) (loc : Option Addr) (w : World) (e : Ending) (w' : World) : Prop := e = .returned (TimeV u n loc) ∧ Below w.heap.size w w'

set_option maxRecDepth 100000 in
set_option maxHeartbeats 4000000 in
theorem date_fix (y m d h mi s n o : Int) (g : Nat) (w : World) (y0 : 1 ≤ y) (y1 : y ≤ 9999) (m0 : 1 ≤ m) (m1 : m ≤ 12) (d0 : 1 ≤ d) (d1 : d ≤ 31) (h0 : 0 ≤ h) (h1 : h ≤ 23) (i0 : 0 ≤ mi) (i1 : mi ≤ 59) (s0 : 0 ≤ s) (s1 : s ≤ 59) (n0 : 0 ≤ n) (n1 : n ≤ 999999999)
    (o0 : -86400 ≤ o) (o1 : o ≤ 86400) (hne : (o == 0) = false) (hf : IsFix w g o) :
    Calls Try.prog 42 #[.int .i64 y, .int .i64 m, .int .i64 d, .int .i64 h, .int .i64 mi, .int .i64 s, .int .i64 n, .pointer (some ⟨g, 0, none⟩)] w (DateRes (daysT y m d * 86400 + (h * 3600 + mi * 60 + s) - o) n (some ⟨g, 0, none⟩) w) := by
  have hgl := hf.lt
  have HF := Lib.hid hf
  clear hf
  go_enter Try.func42, Try.ntmps42
  go_wp2_with fail
  refine (norm_any _ _ _ _ (by omega) (by omega)).mono ?_
  rintro e w' ⟨rfl, rfl⟩
  go_wp2_with fail
  refine (norm_any _ _ _ _ (by omega) (by omega)).mono ?_
  rintro e w' ⟨rfl, rfl⟩
  go_wp2_with fail
  refine (norm_any _ _ _ _ (by omega) (by omega)).mono ?_
  rintro e w' ⟨rfl, rfl⟩
  go_wp2_with fail
  refine (norm_any _ _ _ _ (by omega) (by omega)).mono ?_
  rintro e w' ⟨rfl, rfl⟩
  go_wp2_with fail
  refine (norm_any _ _ _ _ (by omega) (by omega)).mono ?_
  rintro e w' ⟨rfl, rfl⟩
  go_wp2_with fail
  refine (absDays_any _ _ _ _ y0 y1 m0 m1 d0 d1).mono ?_
  rintro e w' ⟨rfl, rfl⟩
  have hN := daysT_bd y m d y0 y1 m0 m1 d0 d1
  have hX := absD_eq y m d y0 y1 m0 m1
  generalize absD y m d = X at *
  generalize hNe : daysT y m d = N at *
  have HN := Lib.hid hNe
  clear hNe
  have x0 : 106751990000000 ≤ X := by omega
  have x1 : X ≤ 106751995000000 := by omega
  have hN0 := hN.1
  have hN1 := hN.2
  have HX := Lib.hid hX
  clear hX hN
  go_wp2_with fail
  have hU : wrap64 (wrap64 (wrap64 (X * 86400) + (h * 3600 + mi * 60 + s)) + -9223372028741760000) = N * 86400 + (h * 3600 + mi * 60 + s) := by
    rw [HX.out]
    unfold wrap64
    omega
  rw [hU]
  have u0 : -70000000000 ≤ N * 86400 + (h * 3600 + mi * 60 + s) := by omega
  have u1 : N * 86400 + (h * 3600 + mi * 60 + s) ≤ 330000000000 := by omega
  generalize hUe : N * 86400 + (h * 3600 + mi * 60 + s) = U at *
  have HU := Lib.hid hUe
  clear hUe hU
  refine (lookup_fix o U g _ (HF.out.below ((Below.refl _ _).alloc (Nat.le_refl _) _)) (by omega) (by omega)).mono ?_
  rintro e w' ⟨rfl, rfl⟩
  go_wp2_with fail
  refine (unixTime_any _ _ _ (by omega) (by omega) n0 n1).mono ?_
  rintro e w1 ⟨rfl, hb⟩
  have hz := hb.size
  simp at hz
  have hz0 : w.heap.size < w1.heap.size := by omega
  have B0 := (Blk.new w 77 #[.int .u64 0, .int .i64 0, .pointer none]).below hb (by simp)
  have b1 : Below w.heap.size w w1 := ((Below.refl _ _).alloc (Nat.le_refl _) _).trans (hb.mono (by simp))
  have c0 := B0.cell
  have f0 := B0.frozen
  simp at c0
  have BB := Lib.hid b1
  clear hb B0 b1
  go_wp2_with fail
  refine (setLoc_fix _ g n _ o _ (Blk.new _ _ _) n0 n1 ((HF.out.below BB.out).below ((Below.refl _ _).alloc (Nat.le_refl _) _))).mono ?_
  rintro e w2 ⟨rfl, rfl⟩
  go_wp2_with fail
  refine bodyPost_ret (v := .agg #[.int .u64 n, .int .i64 (U - o + 62135596800), .pointer (some ⟨g, 0, none⟩)]) (by simp [results, Try.results42, go_sem, c0, hz0]) rfl ⟨rfl, ?_⟩
  refine Below.alloc ?_ (by simp; omega) _
  exact ((BB.out.setCell (by simp) _).setCell (by simp) _).setCell (by simp) _

set_option maxRecDepth 100000 in
set_option maxHeartbeats 4000000 in
theorem date_utc (y m d h mi s n : Int) (g : Nat) (w : World) (y0 : 1 ≤ y) (y1 : y ≤ 9999) (m0 : 1 ≤ m) (m1 : m ≤ 12) (d0 : 1 ≤ d) (d1 : d ≤ 31) (h0 : 0 ≤ h) (h1 : h ≤ 23) (i0 : 0 ≤ mi) (i1 : mi ≤ 59) (s0 : 0 ≤ s) (s1 : s ≤ 59) (n0 : 0 ≤ n) (n1 : n ≤ 999999999)
    (hf : IsUtc w g) :
    Calls Try.prog 42 #[.int .i64 y, .int .i64 m, .int .i64 d, .int .i64 h, .int .i64 mi, .int .i64 s, .int .i64 n, .pointer (some ⟨g, 0, none⟩)] w (DateRes (daysT y m d * 86400 + (h * 3600 + mi * 60 + s)) n none w) := by
  have hgl := Blk.lt hf
  have HF := Lib.hid hf
  clear hf
  go_enter Try.func42, Try.ntmps42
  go_wp2_with fail
  refine (norm_any _ _ _ _ (by omega) (by omega)).mono ?_
  rintro e w' ⟨rfl, rfl⟩
  go_wp2_with fail
  refine (norm_any _ _ _ _ (by omega) (by omega)).mono ?_
  rintro e w' ⟨rfl, rfl⟩
  go_wp2_with fail
  refine (norm_any _ _ _ _ (by omega) (by omega)).mono ?_
  rintro e w' ⟨rfl, rfl⟩
  go_wp2_with fail
  refine (norm_any _ _ _ _ (by omega) (by omega)).mono ?_
  rintro e w' ⟨rfl, rfl⟩
  go_wp2_with fail
  refine (norm_any _ _ _ _ (by omega) (by omega)).mono ?_
  rintro e w' ⟨rfl, rfl⟩
  go_wp2_with fail
  refine (absDays_any _ _ _ _ y0 y1 m0 m1 d0 d1).mono ?_
  rintro e w' ⟨rfl, rfl⟩
  have hN := daysT_bd y m d y0 y1 m0 m1 d0 d1
  have hX := absD_eq y m d y0 y1 m0 m1
  generalize absD y m d = X at *
  generalize hNe : daysT y m d = N at *
  have HN := Lib.hid hNe
  clear hNe
  have x0 : 106751990000000 ≤ X := by omega
  have x1 : X ≤ 106751995000000 := by omega
  have hN0 := hN.1
  have hN1 := hN.2
  have HX := Lib.hid hX
  clear hX hN
  go_wp2_with fail
  have hU : wrap64 (wrap64 (wrap64 (X * 86400) + (h * 3600 + mi * 60 + s)) + -9223372028741760000) = N * 86400 + (h * 3600 + mi * 60 + s) := by
    rw [HX.out]
    unfold wrap64
    omega
  rw [hU]
  have u0 : -70000000000 ≤ N * 86400 + (h * 3600 + mi * 60 + s) := by omega
  have u1 : N * 86400 + (h * 3600 + mi * 60 + s) ≤ 330000000000 := by omega
  generalize hUe : N * 86400 + (h * 3600 + mi * 60 + s) = U at *
  have HU := Lib.hid hUe
  clear hUe hU
  refine (lookup_utc U g _ (HF.out.below ((Below.refl _ _).alloc (Nat.le_refl _) _))).mono ?_
  rintro e w' ⟨rfl, rfl⟩
  go_wp2_with fail
  refine (unixTime_any _ _ _ (by omega) (by omega) n0 n1).mono ?_
  rintro e w1 ⟨rfl, hb⟩
  have hz := hb.size
  simp at hz
  have hz0 : w.heap.size < w1.heap.size := by omega
  have B0 := (Blk.new w 77 #[.int .u64 0, .int .i64 0, .pointer none]).below hb (by simp)
  have b1 : Below w.heap.size w w1 := ((Below.refl _ _).alloc (Nat.le_refl _) _).trans (hb.mono (by simp))
  have c0 := B0.cell
  have f0 := B0.frozen
  simp at c0
  have BB := Lib.hid b1
  clear hb B0 b1
  go_wp2_with fail
  refine (setLoc_utc _ g n _ _ (Blk.new _ _ _) n0 n1 ((HF.out.below BB.out).below ((Below.refl _ _).alloc (Nat.le_refl _) _))).mono ?_
  rintro e w2 ⟨rfl, rfl⟩
  go_wp2_with fail
  refine bodyPost_ret (v := .agg #[.int .u64 n, .int .i64 (U + 62135596800), .pointer none]) (by simp [results, Try.results42, go_sem, c0, hz0]) rfl ⟨rfl, ?_⟩
  refine Below.alloc ?_ (by simp; omega) _
  exact ((BB.out.setCell (by simp) _).setCell (by simp) _).setCell (by simp) _

end Go.Proofs.Ytnddjppbecpmdaa
