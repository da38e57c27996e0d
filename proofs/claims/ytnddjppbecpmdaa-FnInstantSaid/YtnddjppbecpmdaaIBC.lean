/- The walk of an instant's zone. -/
import Derived.Test.YtnddjppbecpmdaaIBB
import Derived.Deep.QuietTactic
import Derived.BigQuiet
namespace Go.Proofs.Ytnddjppbecpmdaa
open Go.RowKit
set_option linter.unusedVariables false
set_option linter.unusedSimpArgs false

/-- one walk of a region that draws its order, over a class of worlds -/
theorem region_class {P : Program} {id : Nat} {Q : Exit → Act → World → Prop} {a : Act} {w : World} {l : List Oper} (C : World → Prop) (hm : P.follows .mixedOrders = true) (hB : Region.lexB .any l.toArray = true) (hC : C w.drew)
    (h : wpQuiet P l.toArray C (fun a' => ∀ w', C w' → Q .normal a' w') l a) : (Code.region id l.toArray true).wp P Q a w :=
  wp_region_quiet (C := C) hm hB hC (by simpa using h)

set_option maxRecDepth 100000 in
set_option maxHeartbeats 2000000 in
theorem zone_fix (n x o : Int) (g : Nat) (w : World) (hf : IsFix w g o) (n0 : 0 ≤ n) (n1 : n ≤ 999999999) (x0 : -100000000000 ≤ x) (x1 : x ≤ 500000000000) :
    Calls Try.prog 29 #[.agg #[.int .u64 n, .int .i64 x, .pointer (some ⟨g, 0, none⟩)]] w fun e w' => e = .returned (.tuple #[.string ⟨#[]⟩, .int .i64 o]) ∧ Below w.heap.size w w' := by
  have HF := Lib.hid hf
  clear hf
  go_enter Try.func29, Try.ntmps29
  go_wp2_with fail
  have hb0 := Blk.new w 77 #[.int .u64 n, .int .i64 x, .pointer (some ⟨g, 0, none⟩)]
  generalize hw1 : w.alloc (.cells #[.int .u64 n, .int .i64 x, .pointer (some ⟨g, 0, none⟩)] 77) = w1 at *
  have b0 : Below w.heap.size w w1 := by rw [← hw1]; exact (Below.refl _ _).alloc (Nat.le_refl _) _
  have HB := Lib.hid hb0
  have lt0 := hb0.lt
  have HB0 := Lib.hid b0
  clear hw1 hb0 b0
  refine region_class (fun W => Below w1.heap.size w1 W) (by kernel_rfl) (by kernel_rfl) (Below.refl _ _).drew ?_
  go_big_quiet_step ((intro hW; exact rfl))
  go_big_quiet_step ((intro hW; have c := ((HB.out.below hW lt0).cell 2); simp at c; simp [c]; exact rfl))
  go_big_quiet_step ((intro hW; exact (sec_any _ n x _ _ (HB.out.below hW lt0) n0 n1 x0 x1).mono (fun e w' h => ⟨h.1, h.2 ▸ hW⟩)))
  go_big_quiet_step ((intro hW; exact (lookup_fix o _ g _ ((HF.out.below HB0.out).below hW) (by omega) (by omega)).mono (fun e w' h => ⟨h.1, h.2 ▸ hW⟩)))
  repeat (go_big_quiet_step ((intro hW; exact rfl)))
  refine wpQuiet_nil ?_
  intro w2 hW
  have hz := hW.size
  go_wp2
  go_ret2
  exact ⟨rfl, HB0.out.trans (hW.mono (HB0.out.size))⟩
set_option maxRecDepth 100000 in
set_option maxHeartbeats 2000000 in
theorem zone_nil (n x : Int) (w : World) (n0 : 0 ≤ n) (n1 : n ≤ 999999999) (x0 : -100000000000 ≤ x) (x1 : x ≤ 500000000000) :
    Calls Try.prog 29 #[.agg #[.int .u64 n, .int .i64 x, .pointer none]] w fun e w' => e = .returned (.tuple #[.string ⟨#[85, 84, 67]⟩, .int .i64 0]) ∧ Below w.heap.size w w' := by
  go_enter Try.func29, Try.ntmps29
  go_wp2_with fail
  have hb0 := Blk.new w 77 #[.int .u64 n, .int .i64 x, .pointer none]
  generalize hw1 : w.alloc (.cells #[.int .u64 n, .int .i64 x, .pointer none] 77) = w1 at *
  have b0 : Below w.heap.size w w1 := by rw [← hw1]; exact (Below.refl _ _).alloc (Nat.le_refl _) _
  have HB := Lib.hid hb0
  have lt0 := hb0.lt
  have HB0 := Lib.hid b0
  clear hw1 hb0 b0
  refine region_class (fun W => Below w1.heap.size w1 W) (by kernel_rfl) (by kernel_rfl) (Below.refl _ _).drew ?_
  go_big_quiet_step ((intro hW; exact rfl))
  go_big_quiet_step ((intro hW; have c := ((HB.out.below hW lt0).cell 2); simp at c; simp [c]; exact rfl))
  go_big_quiet_step ((intro hW; exact (sec_any _ n x _ _ (HB.out.below hW lt0) n0 n1 x0 x1).mono (fun e w' h => ⟨h.1, h.2 ▸ hW⟩)))
  go_big_quiet_step ((intro hW; exact (lookup_nil _ _).mono (fun e w' h => ⟨h.1, hW.trans (h.2.mono hW.size)⟩)))
  repeat (go_big_quiet_step ((intro hW; exact rfl)))
  refine wpQuiet_nil ?_
  intro w2 hW
  have hz := hW.size
  go_wp2
  go_ret2
  exact ⟨rfl, HB0.out.trans (hW.mono (HB0.out.size))⟩
end Go.Proofs.Ytnddjppbecpmdaa
