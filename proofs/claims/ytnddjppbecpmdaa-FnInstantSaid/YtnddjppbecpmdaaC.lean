/- Walks of the thin package's date, and the law FnDate. -/
import Derived.Test.YtnddjppbecpmdaaB
namespace Go.Proofs.Ytnddjppbecpmdaa
open Go.RowKit
set_option linter.unusedVariables false
set_option linter.unusedSimpArgs false

theorem IsDate.drew {w : World} {b off : Nat} {ys ms ds : List UInt8} (h : IsDate w b off ys ms ds) : IsDate w.drew b off ys ms ds :=
  ⟨h.ly, h.lm, h.ld, h.gy, h.gm, h.gd, h.cy.drew, h.cm.drew, h.cd.drew, h.c4, h.c7, h.lt, h.y1, h.m1, h.m2, h.d1, h.d2⟩

set_option maxHeartbeats 1000000 in
theorem implDate_any (ys ms ds : List UInt8) (w : World) (ly : ys.length = 4) (lm : ms.length = 2) (ld : ds.length = 2) (gy : Digs ys) (gm : Digs ms) (gd : Digs ds)
    (y1 : 1 ≤ val ys) (m1 : 1 ≤ val ms) (m2 : val ms ≤ 12) (d1 : 1 ≤ val ds) (d2 : (val ds : Int) ≤ mdays (val ys) (val ms)) :
    Calls Try.prog 9 #[.string ⟨(dateL ys ms ds).toArray⟩] w fun e w' => e = .returned (.tuple #[.agg #[.int .i64 (val ys), .int .i64 (val ms), .int .i64 (val ds)], .bool true]) ∧ Below w.heap.size w w' := by
  obtain ⟨C, cap, fr, hconv, hcap, hC⟩ := conv_any (w.alloc (.cells #[.int .i64 0, .int .i64 0, .int .i64 0] 24)) (dateL ys ms ds)
  have hl : (dateL ys ms ds).length = 10 := by simp [dateL, ly, lm, ld]
  have hb0 := bts_of_new (w := w.alloc (.cells #[.int .i64 0, .int .i64 0, .int .i64 0] 24)) (t := 5) (fr := fr) hC
  have hd := (isDate_of (r := []) (by simpa using hb0) ly lm ld gy gm gd (by simp) y1 m1 m2 d1 d2).1
  rw [hl] at hconv hcap
  have HL := Lib.hid hl
  have HC := Lib.hid hC
  have HD := Lib.hid hd
  clear hl hC hd hb0 ly lm ld gy gm gd y1 m1 m2 d1 d2
  generalize dateL ys ms ds = l at *
  go_enter Try.func9, Try.ntmps9
  go_wp2_with fail
  refine (zzdate_any ys ms ds _ cap _ HD.out.drew hcap).mono ?_
  rintro e w' ⟨rfl, hb⟩
  obtain ⟨hc, hf, hz⟩ := bcell hb
  have HB := Lib.hid hb
  clear hb
  simp at hz hc hf
  have hz0 : w.heap.size < w'.heap.size := by omega
  have c0 := fun o => hc w.heap.size o (by omega)
  have hz1 : w.heap.size + 1 < w'.heap.size := by omega
  go_wp2_with fail
  refine bodyPost_ret (v := .tuple #[.agg #[.int .i64 (val ys), .int .i64 (val ms), .int .i64 (val ds)], .bool true]) (by simp [results, Try.results9, go_sem, c0, hz0]) rfl ⟨rfl, ?_⟩
  exact (((((((Below.refl _ _).alloc (Nat.le_refl _) _).alloc (by simp) _).drew.trans (HB.out.mono (by simp; omega))).setCell (by simp) _).setCell (by simp) _).setCell (by simp) _).alloc (by simp; omega) _

theorem fig_digs (n v : Nat) : Digs (fig n v) := by
  induction n generalizing v with
  | zero => intro k hk; simp [fig] at hk
  | succ n ih =>
    intro k hk
    rw [fig_length] at hk
    by_cases h : k < n
    · have := ih (v / 10) k (by rw [fig_length]; exact h)
      simp only [fig, List.getD_eq_getElem?_getD] at this ⊢
      rw [List.getElem?_append_left (by rw [fig_length]; exact h)]
      exact this
    · have hk' : k = n := by omega
      subst hk'
      simp only [fig, List.getD_eq_getElem?_getD]
      rw [List.getElem?_append_right (by rw [fig_length]; omega)]
      simp [fig_length, dgt]
      omega

theorem val_fig (n v : Nat) (h : v < 10 ^ n) : val (fig n v) = v := by
  induction n generalizing v with
  | zero => simp at h; simp [fig, val, h]
  | succ n ih =>
    have h1 := ih (v / 10) (by rw [Nat.pow_succ] at h; exact Nat.div_lt_of_lt_mul (by simpa [Nat.mul_comm] using h))
    unfold val at h1 ⊢
    simp only [fig, List.foldl_append, h1, List.foldl_cons, List.foldl_nil]
    have h2 : (dgt v).toNat = 48 + v % 10 := by
      unfold dgt
      simp
      omega
    rw [h2]
    omega

theorem month_call (y m : Int) (w : World) (h0 : 1 ≤ y) (h1 : y ≤ 10000) (h2 : 1 ≤ m) (h3 : m ≤ 12) :
    Calls Try.prog 8 #[.int .i64 y, .int .i64 m] w fun e w' => e = .returned (.int .i64 (mdays y m)) ∧ w = w' := by
  go_enter Try.func8, Try.ntmps8
  go_wp2_with (go_at_call 18; refine (month_any _ _ _ h0 h1 h2 h3).mono ?_; rintro e w' ⟨rfl, rfl⟩)
  go_ret
  exact ⟨rfl, rfl⟩

theorem mdays_bd (y m : Int) : 28 ≤ mdays y m ∧ mdays y m ≤ 31 := by
  unfold mdays
  repeat' split
  all_goals omega

def Figs (n : Nat) (v : Int) (w : World) (e : Ending) (w' : World) : Prop := ∃ L : List UInt8, e = .returned (.string ⟨L.toArray⟩) ∧ L.length ≤ n ∧ Hid (L = fig n v.toNat) ∧ w = w'

theorem figures_int (v m : Int) (n : Nat) (w : World) (hm : m = n) (h0 : 0 ≤ v) (hv : v.toNat < 10 ^ n) (hn1 : n ≤ 9) :
    Calls Try.prog 10 #[.int .i64 v, .int .i64 m] w (Figs n v w) := by
  have h := figures_any v.toNat n w hv hn1
  rw [Int.toNat_of_nonneg h0] at h
  rw [hm]
  exact h.mono fun e w' ⟨he, hw⟩ => ⟨_, he, by rw [fig_length]; omega, rfl, hw⟩

theorem app_data (a b : List UInt8) : (⟨a.toArray⟩ : ByteArray) ++ ⟨b.toArray⟩ = ⟨(a ++ b).toArray⟩ := by
  apply ByteArray.ext
  simp [ByteArray.data_append]

theorem val_figI (n : Nat) (v : Int) (h0 : 0 ≤ v) (h : v.toNat < 10 ^ n) : ((val (fig n v.toNat) : Nat) : Int) = v := by
  rw [val_fig n _ h]
  omega

theorem implDate_int (y m d : Int) (w : World) (y1 : 1 ≤ y) (y2 : y ≤ 9999) (m1 : 1 ≤ m) (m2 : m ≤ 12) (d1 : 1 ≤ d) (d2 : d ≤ mdays y m) :
    Calls Try.prog 9 #[.string (⟨(fig 4 y.toNat).toArray⟩ ++ ⟨#[45]⟩ ++ ⟨(fig 2 m.toNat).toArray⟩ ++ ⟨#[45]⟩ ++ ⟨(fig 2 d.toNat).toArray⟩)] w fun e w' => e = .returned (.tuple #[.agg #[.int .i64 y, .int .i64 m, .int .i64 d], .bool true]) ∧ Below w.heap.size w w' := by
  have b1 := mdays_bd y m
  have e1 := val_figI 4 y (by omega) (by omega)
  have e2 := val_figI 2 m (by omega) (by omega)
  have e3 := val_figI 2 d (by omega) (by omega)
  have h := implDate_any (fig 4 y.toNat) (fig 2 m.toNat) (fig 2 d.toNat) w (fig_length _ _) (fig_length _ _) (fig_length _ _) (fig_digs _ _) (fig_digs _ _) (fig_digs _ _) (by omega) (by omega) (by omega) (by omega) (by rw [e1, e2, e3]; exact d2)
  rw [e1, e2, e3] at h
  have hs : (⟨(dateL (fig 4 y.toNat) (fig 2 m.toNat) (fig 2 d.toNat)).toArray⟩ : ByteArray) = ⟨(fig 4 y.toNat).toArray⟩ ++ ⟨#[45]⟩ ++ ⟨(fig 2 m.toNat).toArray⟩ ++ ⟨#[45]⟩ ++ ⟨(fig 2 d.toNat).toArray⟩ := by
    apply ByteArray.ext
    simp [ByteArray.data_append, dateL]
  rw [hs] at h
  exact h

theorem eq24 (a b c : Int) (w : World) : (Op.equalIn 10000 24 (.agg #[.int .i64 a, .int .i64 b, .int .i64 c]) (.agg #[.int .i64 a, .int .i64 b, .int .i64 c])).run Try.prog w = .ok true w := by
  have u3 := Try.underlying3
  have a3 := Try.isAgg3
  have z3 := Try.sizeOf3
  rw [show (10000 : Nat) = 9999 + 1 from rfl, Op.equalIn]
  simp only [Sem.run_bind, run_underlying Try.underlying24, Result.andThen_ok]
  simp only [Std.Legacy.Range.forIn_eq_forIn_range', Std.Legacy.Range.size, Nat.sub_zero, Nat.add_sub_cancel, Nat.div_one, List.range'_succ, List.range'_zero, List.forIn_cons, List.forIn_nil]
  go_simp

set_option maxRecDepth 100000 in
set_option maxHeartbeats 1000000 in
theorem fnDate_walk (a0 a1 a2 : Int) (h0 : 0 ≤ a0) (h0' : a0 ≤ 65535) (h1 : 0 ≤ a1) (h1' : a1 ≤ 255) (h2 : 0 ≤ a2) (h2' : a2 ≤ 255) (w : World) :
    Calls Try.prog 3 #[.int .u16 a0, .int .u8 a1, .int .u8 a2] w fun e w' => e = .returned (.bool true) ∧ Below w.heap.size w w' := by
  go_enter Try.func3, Try.ntmps3
  go_wp2_with fail
  refine (month_call _ _ _ (by omega) (by omega) (by omega) (by omega)).mono ?_
  rintro e w' ⟨rfl, rfl⟩
  have hmd := mdays_bd (1 + a0 % 9999) (1 + a1 % 12)
  generalize hD : mdays (1 + a0 % 9999) (1 + a1 % 12) = D at *
  have HD := Lib.hid hD
  have hm0 := hmd.1
  have hm1 := hmd.2
  have e1 : 0 ≤ a2 % D := Int.emod_nonneg _ (by omega)
  have e2 : a2 % D < D := Int.emod_lt_of_pos _ (by omega)
  clear hmd hD
  go_wp2_with fail
  refine (figures_int _ _ 4 _ rfl (by omega) (by omega) (by omega)).mono ?_
  rintro e w' ⟨L1, rfl, l1, H1, rfl⟩
  go_wp2_with fail
  refine (figures_int _ _ 2 _ rfl (by omega) (by omega) (by omega)).mono ?_
  rintro e w' ⟨L2, rfl, l2, H2, rfl⟩
  go_wp2_with fail
  refine (figures_int _ _ 2 _ rfl (by omega) (by omega) (by omega)).mono ?_
  rintro e w' ⟨L3, rfl, l3, H3, rfl⟩
  go_wp2_with fail
  have hcall := implDate_int (1 + a0 % 9999) (1 + a1 % 12) (1 + a2 % D) w (by omega) (by omega) (by omega) (by omega) (by omega) (by rw [HD.out]; omega)
  rw [← H1.out, ← H2.out, ← H3.out] at hcall
  refine hcall.mono ?_
  clear hcall
  rintro e w' ⟨rfl, hb⟩
  have hz := hb.size
  have HB := Lib.hid hb
  clear hb
  have he := eq24 (1 + a0 % 9999) (1 + a1 % 12) (1 + a2 % D)
  go_wp2_with fail
  go_ret
  exact ⟨rfl, HB.out.alloc hz _⟩
end Go.Proofs.Ytnddjppbecpmdaa
