/- The walk of the thin package's instant. -/
import Derived.Test.YtnddjppbecpmdaaIBC
import Derived.Test.YtnddjppbecpmdaaIF
namespace Go.Proofs.Ytnddjppbecpmdaa
open Go.RowKit
set_option linter.unusedVariables false
set_option linter.unusedSimpArgs false

def ZzRes (u n o : Int) (w : World) (e : Ending) (w' : World) : Prop := e = .returned (.tuple #[.int .i64 u, .int .i64 n, .int .i64 o, .nilIface]) ∧ Below w.heap.size w w'

theorem unix_u (u n : Int) (v : Value) (w : World) (n0 : 0 ≤ n) (n1 : n ≤ 999999999) (u0 : -100000000000 ≤ u) (u1 : u ≤ 400000000000) :
    Calls Try.prog 30 #[.agg #[.int .u64 n, .int .i64 (u + 62135596800), v]] w fun e w' => e = .returned (.int .i64 u) ∧ Below w.heap.size w w' := by
  have h := unix_any n (u + 62135596800) v w n0 n1 (by omega) (by omega)
  rw [show u + 62135596800 - 62135596800 = u from by omega] at h
  exact h

set_option maxRecDepth 100000 in
set_option maxHeartbeats 2000000 in
theorem zzinst_any (u n o : Int) (b cap len : Nat) (w : World) (n0 : 0 ≤ n) (n1 : n ≤ 999999999) (u0 : -100000000000 ≤ u) (u1 : u ≤ 400000000000)
    (hc : Calls Try.prog 28 #[.slice (some ⟨b, 0, none⟩) len cap] w (InstRes u n o w)) :
    Calls Try.prog 23 #[.slice (some ⟨b, 0, none⟩) len cap] w (ZzRes u n o w) := by
  have HC := Lib.hid hc
  clear hc
  go_enter Try.func23, Try.ntmps23
  go_wp2_with fail
  refine HC.out.mono ?_
  rintro e w1 ⟨loc, rfl, hl, hb⟩
  have HB := Lib.hid hb
  have hz := hb.size
  clear hb
  unfold TimeV
  have hzone : ∀ W, Below w1.heap.size w1 W → Calls Try.prog 29 #[.agg #[.int .u64 n, .int .i64 (u + 62135596800), .pointer loc]] W fun e w' => (∃ nm, e = .returned (.tuple #[.string nm, .int .i64 o])) ∧ Below W.heap.size W w' := by
    intro W hW
    rcases hl with ⟨rfl, rfl⟩ | ⟨g, rfl, hf⟩
    · exact (zone_nil n (u + 62135596800) W n0 n1 (by omega) (by omega)).mono fun e w' h => ⟨⟨_, h.1⟩, h.2⟩
    · exact (zone_fix n (u + 62135596800) o g W (hf.below hW) n0 n1 (by omega) (by omega)).mono fun e w' h => ⟨⟨_, h.1⟩, h.2⟩
  have HZ := Lib.hid hzone
  clear hl hzone
  go_wp2_with fail
  refine (HZ.out _ ((Below.refl _ _).alloc (Nat.le_refl _) _)).mono ?_
  rintro e w2 ⟨⟨nm, rfl⟩, hb⟩
  have B0 := (Blk.new w1 77 #[.int .u64 n, .int .i64 (u + 62135596800), .pointer loc]).below hb (by simp)
  have hz2 := hb.size
  simp at hz2
  have b2 : Below w.heap.size w w2 := (HB.out.alloc hz _).trans (hb.mono (by simp; omega))
  have HB2 := Lib.hid b2
  have HB0 := Lib.hid B0
  have lt0 := B0.lt
  clear hb b2 B0
  go_wp2_with fail
  refine region_class (fun W => Below w2.heap.size w2 W) (by kernel_rfl) (by kernel_rfl) (Below.refl _ _).drew ?_
  go_big_quiet_step ((intro hW; have c := ((HB0.out.below hW lt0).cell); simp at c; simp [c]; exact rfl))
  go_big_quiet_step ((intro hW; exact (unix_u u n _ _ n0 n1 u0 u1).mono (fun e w' h => ⟨h.1, hW.trans (h.2.mono hW.size)⟩)))
  go_big_quiet_step ((intro hW; have c := ((HB0.out.below hW lt0).cell); simp at c; simp [c]; exact rfl))
  go_big_quiet_step ((intro hW; exact (nano_any n _ _ _ n0 n1).mono (fun e w' h => ⟨h.1, hW.trans (h.2.mono hW.size)⟩)))
  repeat (go_big_quiet_step ((intro hW; exact rfl)))
  refine wpQuiet_nil ?_
  intro w3 hW
  have hz3 := hW.size
  go_wp2
  refine bodyPost_ret (v := .tuple #[.int .i64 u, .int .i64 n, .int .i64 o, .nilIface]) (by simp [results, Try.results23, go_sem]) rfl ⟨rfl, HB2.out.trans (hW.mono HB2.out.size)⟩

set_option maxRecDepth 100000 in
set_option maxHeartbeats 2000000 in
theorem implInst_any (l : List UInt8) (u n o : Int) (w : World) (n0 : 0 ≤ n) (n1 : n ≤ 999999999) (u0 : -100000000000 ≤ u) (u1 : u ≤ 400000000000)
    (hc : ∀ (w : World) (b cap : Nat), Bts w b 0 l → b < w.heap.size → l.length ≤ cap → Calls Try.prog 28 #[.slice (some ⟨b, 0, none⟩) l.length cap] w (InstRes u n o w)) :
    Calls Try.prog 16 #[.string ⟨l.toArray⟩] w fun e w' => e = .returned (.tuple #[.int .i64 u, .int .i64 n, .int .i64 o, .bool true]) ∧ Below w.heap.size w w' := by
  obtain ⟨C, cap, fr, hconv, hcap, hC⟩ := conv_any w l
  have hb0 := bts_of_new (w := w) (t := 5) (fr := fr) hC
  have hd := zzinst_any u n o w.heap.size cap l.length (w.alloc (.cells C 5 fr)).drew n0 n1 u0 u1 (hc _ _ _ hb0.drew (by simp) hcap)
  have HD := Lib.hid hd
  clear hd hb0 hC hc hcap
  go_enter Try.func16, Try.ntmps16
  go_wp2_with fail
  refine HD.out.mono ?_
  rintro e w1 ⟨rfl, hb⟩
  have hb1 : Below w.heap.size w w1 := ((Below.refl _ _).alloc (Nat.le_refl _) _).drew.trans (hb.mono (by simp))
  have HB := Lib.hid hb1
  clear hb hb1
  go_wp2_with fail
  refine bodyPost_ret (v := .tuple #[.int .i64 u, .int .i64 n, .int .i64 o, .bool true]) (by simp [results, Try.results16, go_sem]) rfl ⟨rfl, HB.out⟩
end Go.Proofs.Ytnddjppbecpmdaa
