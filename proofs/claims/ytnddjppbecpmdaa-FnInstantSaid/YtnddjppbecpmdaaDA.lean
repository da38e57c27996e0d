/- Walks of the thin package's date with a time. -/
import Derived.Test.YtnddjppbecpmdaaZ
namespace Go.Proofs.Ytnddjppbecpmdaa
open Go.RowKit
set_option linter.unusedVariables false
set_option linter.unusedSimpArgs false

set_option maxRecDepth 100000 in
set_option maxHeartbeats 2000000 in
theorem zzdt_any (ys ms ds tl : List UInt8) (sep : UInt8) (y m d h mi s n p : Int) (b cap len : Nat) (w : World) (ho : DayOk ys ms ds y m d) (hsep : sep.toNat = 84 ∨ sep.toNat = 32) (ht : TimeText tl h mi s n p)
    (hb : Bts w b 0 (dateL ys ms ds ++ (sep :: tl))) (lt : b < w.heap.size) (hlen : len = 11 + tl.length) (hcap : len ≤ cap) (htl : 8 ≤ tl.length) :
    Calls Try.prog 22 #[.slice (some ⟨b, 0, none⟩) len cap] w fun e w' => e = .returned (.tuple #[.agg #[.int .i64 y, .int .i64 m, .int .i64 d, .int .i64 h, .int .i64 mi, .int .i64 s, .int .i64 n, .int .i64 p], .int .i64 0, .nilIface]) ∧ Below w.heap.size w w' := by
  have hcall : ∀ o, Calls Try.prog 27 #[.slice (some ⟨b, 0, none⟩) len cap] (w.alloc o) (DtRes y m d h mi s n p b (11 + tl.length) 0 (w.alloc o)) := fun o =>
    pldt_any ys ms ds tl [] sep y m d h mi s n p b cap len (w.alloc o) ho hsep ht (fun c q h => by cases h) (by simpa using hb.alloc lt o) (by simp; omega) (by simpa using hlen) hcap htl
  have HC := Lib.hid hcall
  clear hcall hb ht ho hsep
  clear hlen
  go_enter Try.func22, Try.ntmps22
  go_wp2_with fail
  refine (HC.out _).mono ?_
  rintro e w' ⟨A, k', rfl, _, _, hb⟩
  have hz := hb.size
  simp at hz
  have hz0 : w.heap.size < w'.heap.size := by omega
  have B0 := (Blk.new w 66 #[.int .i64 0, .int .i64 0, .int .i64 0, .int .i64 0, .int .i64 0, .int .i64 0, .int .i64 0, .int .i64 0]).below hb (by simp)
  have HB := Lib.hid hb
  clear hb
  have c0 := B0.cell
  have f0 := B0.frozen
  clear B0
  simp at c0
  go_wp2_with fail
  refine bodyPost_ret (v := .tuple #[.agg #[.int .i64 y, .int .i64 m, .int .i64 d, .int .i64 h, .int .i64 mi, .int .i64 s, .int .i64 n, .int .i64 p], .int .i64 0, .nilIface]) (by simp [results, Try.results22, go_sem, c0, hz0]) rfl ⟨rfl, ?_⟩
  have b2 : Below w.heap.size w w' := ((Below.refl _ _).alloc (Nat.le_refl _) _).trans (HB.out.mono (by simp))
  exact (below8 b2 (by simp) (by simp) (by simp) (by simp) (by simp) (by simp) (by simp) (by simp)).alloc (by simp; omega) _

set_option maxRecDepth 100000 in
set_option maxHeartbeats 2000000 in
theorem implDateClock_any (ys ms ds tl : List UInt8) (sep : UInt8) (y m d h mi s n p : Int) (w : World) (ho : DayOk ys ms ds y m d) (hsep : sep.toNat = 84 ∨ sep.toNat = 32) (ht : TimeText tl h mi s n p) (htl : 8 ≤ tl.length) :
    Calls Try.prog 15 #[.string ⟨(dateL ys ms ds ++ (sep :: tl)).toArray⟩] w fun e w' => e = .returned (.tuple #[.agg #[.int .i64 y, .int .i64 m, .int .i64 d, .int .i64 h, .int .i64 mi, .int .i64 s, .int .i64 n], .bool true]) ∧ Below w.heap.size w w' := by
  obtain ⟨C, cap, fr, hconv, hcap, hC⟩ := conv_any (w.alloc (.cells #[.int .i64 0, .int .i64 0, .int .i64 0, .int .i64 0, .int .i64 0, .int .i64 0, .int .i64 0] 41)) (dateL ys ms ds ++ (sep :: tl))
  have hb0 := bts_of_new (w := w.alloc (.cells #[.int .i64 0, .int .i64 0, .int .i64 0, .int .i64 0, .int .i64 0, .int .i64 0, .int .i64 0] 41)) (t := 5) (fr := fr) hC
  have hl : (dateL ys ms ds ++ (sep :: tl)).length = 11 + tl.length := by simp [dateL, ho.ly, ho.lm, ho.ld]; omega
  have hd := zzdt_any ys ms ds tl sep y m d h mi s n p _ cap _ _ ho hsep ht hb0.drew (by simp) hl hcap htl
  generalize dateL ys ms ds ++ (sep :: tl) = l at *
  have HD := Lib.hid hd
  clear hd hb0 hC ht hcap hl ho hsep
  go_enter Try.func15, Try.ntmps15
  go_wp2_with fail
  refine (show Calls Try.prog 22 #[.slice (some ⟨w.heap.size + 1, 0, none⟩) l.length cap] _ _ by simpa using HD.out).mono ?_
  rintro e w' ⟨rfl, hb⟩
  have hz := hb.size
  simp at hz
  have hz0 : w.heap.size < w'.heap.size := by omega
  have hz1 : w.heap.size + 1 < w'.heap.size := by omega
  have B0 := ((Blk.new w 41 #[.int .i64 0, .int .i64 0, .int .i64 0, .int .i64 0, .int .i64 0, .int .i64 0, .int .i64 0]).alloc (.cells C 5 fr)).drew.below hb (by omega)
  have b2 : Below w.heap.size w w' := (((Below.refl _ _).alloc (Nat.le_refl _) _).alloc (by simp) _).drew.trans (hb.mono (by omega))
  have HB := Lib.hid b2
  clear hb b2
  have c0 := B0.cell
  have f0 := B0.frozen
  clear B0
  simp at c0
  go_wp2_with fail
  refine bodyPost_ret (v := .tuple #[.agg #[.int .i64 y, .int .i64 m, .int .i64 d, .int .i64 h, .int .i64 mi, .int .i64 s, .int .i64 n], .bool true]) (by simp [results, Try.results15, go_sem, c0, hz0]) rfl ⟨rfl, ?_⟩
  refine Below.alloc ?_ (by simp; omega) _
  exact ((((((HB.out.setCell (by simp) _).setCell (by simp) _).setCell (by simp) _).setCell (by simp) _).setCell (by simp) _).setCell (by simp) _).setCell (by simp) _

theorem eq41 (a b c d e f g : Int) (w : World) : (Op.equalIn 10000 41 (.agg #[.int .i64 a, .int .i64 b, .int .i64 c, .int .i64 d, .int .i64 e, .int .i64 f, .int .i64 g]) (.agg #[.int .i64 a, .int .i64 b, .int .i64 c, .int .i64 d, .int .i64 e, .int .i64 f, .int .i64 g])).run Try.prog w = .ok true w := by
  have u3 := Try.underlying3
  have a3 := Try.isAgg3
  have z3 := Try.sizeOf3
  rw [show (10000 : Nat) = 9999 + 1 from rfl, Op.equalIn]
  simp only [Sem.run_bind, run_underlying Try.underlying41, Result.andThen_ok]
  simp only [Std.Legacy.Range.forIn_eq_forIn_range', Std.Legacy.Range.size, Nat.sub_zero, Nat.add_sub_cancel, Nat.div_one, List.range'_succ, List.range'_zero, List.forIn_cons, List.forIn_nil]
  go_simp

/-- what the thin package's date with a time says of such a text -/
def DcRes (y m d h mi s n : Int) (w : World) (e : Ending) (w' : World) : Prop :=
  e = .returned (.tuple #[.agg #[.int .i64 y, .int .i64 m, .int .i64 d, .int .i64 h, .int .i64 mi, .int .i64 s, .int .i64 n], .bool true]) ∧ Below w.heap.size w w'

theorem dayOk_int (y m d : Int) (y1 : 1 ≤ y) (y2 : y ≤ 9999) (m1 : 1 ≤ m) (m2 : m ≤ 12) (d1 : 1 ≤ d) (d2 : d ≤ mdays y m) : DayOk (fig 4 y.toNat) (fig 2 m.toNat) (fig 2 d.toNat) y m d := by
  have b1 := mdays_bd y m
  exact ⟨fig_length _ _, fig_length _ _, fig_length _ _, fig_digs _ _, fig_digs _ _, fig_digs _ _, val_figI 4 y (by omega) (by omega), val_figI 2 m (by omega) (by omega), val_figI 2 d (by omega) (by omega), y1, m1, m2, d1, d2⟩

theorem implDateClock_int (y m d h mi s n p : Int) (sep : UInt8) (L1 L2 L3 tl : List UInt8) (w : World) (y1 : 1 ≤ y) (y2 : y ≤ 9999) (m1 : 1 ≤ m) (m2 : m ≤ 12) (d1 : 1 ≤ d) (d2 : d ≤ mdays y m) (hsep : sep.toNat = 84 ∨ sep.toNat = 32)
    (e1 : L1 = fig 4 y.toNat) (e2 : L2 = fig 2 m.toNat) (e3 : L3 = fig 2 d.toNat) (ht : TimeText tl h mi s n p) (htl : 8 ≤ tl.length) :
    Calls Try.prog 15 #[.string (⟨L1.toArray⟩ ++ ⟨#[45]⟩ ++ ⟨L2.toArray⟩ ++ ⟨#[45]⟩ ++ ⟨L3.toArray⟩ ++ ⟨#[sep]⟩ ++ ⟨tl.toArray⟩)] w (DcRes y m d h mi s n w) := by
  have hc := implDateClock_any _ _ _ tl sep y m d h mi s n p w (dayOk_int y m d y1 y2 m1 m2 d1 d2) hsep ht htl
  rw [← e1, ← e2, ← e3] at hc
  have hs : (⟨(dateL L1 L2 L3 ++ (sep :: tl)).toArray⟩ : ByteArray) = ⟨L1.toArray⟩ ++ ⟨#[45]⟩ ++ ⟨L2.toArray⟩ ++ ⟨#[45]⟩ ++ ⟨L3.toArray⟩ ++ ⟨#[sep]⟩ ++ ⟨tl.toArray⟩ := by
    apply ByteArray.ext
    simp [ByteArray.data_append, dateL]
  rw [hs] at hc
  exact hc
end Go.Proofs.Ytnddjppbecpmdaa
