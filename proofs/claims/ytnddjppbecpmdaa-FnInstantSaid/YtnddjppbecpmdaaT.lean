/- Walks of the package's functions on times of a day. -/
import Derived.Test.YtnddjppbecpmdaaC
import Derived.RegionTactic
namespace Go.Proofs.Ytnddjppbecpmdaa
open Go.RowKit
set_option linter.unusedVariables false
set_option linter.unusedSimpArgs false

/-- a time as its signs, up to the seconds -/
structure IsTime (w : World) (b off : Nat) (hs ms ss : List UInt8) : Prop where
  lh : hs.length = 2
  lm : ms.length = 2
  ls : ss.length = 2
  gh : Digs hs
  gm : Digs ms
  gs : Digs ss
  ch : Bts w b off hs
  cm : Bts w b (off + 3) ms
  cs : Bts w b (off + 6) ss
  c2 : w.cell? ⟨b, off + 2, none⟩ = some (.int .u8 58)
  c5 : w.cell? ⟨b, off + 5, none⟩ = some (.int .u8 58)
  lt : b < w.heap.size
  h1 : val hs ≤ 23
  m1 : val ms ≤ 59
  s1 : val ss ≤ 59

/-- what a reader of times hands back: the time, and the rest of rl bytes, which lies from place off on -/
def TimeRes (h m s n p : Int) (b off rl : Nat) (w : World) (e : Ending) (w' : World) : Prop :=
  ∃ (A : Option Addr) (k : Nat), e = .returned (.tuple #[.agg #[.int .i64 h, .int .i64 m, .int .i64 s, .int .i64 n, .int .i64 p], .slice A rl k, .nilIface]) ∧ rl ≤ k ∧ (0 < rl → A = some ⟨b, off, none⟩) ∧ Below w.heap.size w w'

set_option maxRecDepth 100000 in
set_option maxHeartbeats 2000000 in
theorem plt_plain (hs ms ss : List UInt8) (b off len cap : Nat) (w : World) (h : IsTime w b off hs ms ss) (hlen : 8 ≤ len) (hcap : len ≤ cap)
    (hc : 8 < len → ∃ c : Int, w.cell? ⟨b, off + 5 + 3, none⟩ = some (.int .u8 c) ∧ (c == 46) = false) :
    Calls Try.prog 26 #[.slice (some ⟨b, off, none⟩) len cap] w (TimeRes (val hs) (val ms) (val ss) 0 0 b (off + 5 + 3) (len - 5 - 3) w) := by
  have c2 := h.c2
  have c5 := h.c5
  have lt := h.lt
  have lt1 : b < w.heap.size + 1 := by omega
  have lt2 : b < w.heap.size + 1 + 1 := by omega
  have h1 := h.h1
  have m1 := h.m1
  have s1 := h.s1
  have H := Lib.hid h
  have HC := Lib.hid hc
  clear h hc
  go_enter Try.func26, Try.ntmps26
  go_wp2_with fail
  refine (pdd_any hs b _ 2 _ _ H.out.lh H.out.gh (by omega) ((((H.out.ch.alloc lt _).alloc (by simp; omega) _).alloc (by simp; omega) _))).mono ?_
  rintro e w' ⟨rfl, rfl⟩
  go_wp2_with fail
  refine (pdd_any ms b _ 2 _ _ H.out.lm H.out.gm (by omega) ((((H.out.cm.alloc lt _).alloc (by simp; omega) _).alloc (by simp; omega) _))).mono ?_
  rintro e w' ⟨rfl, rfl⟩
  go_wp2_with fail
  refine (pdd_any ss b _ 2 _ _ H.out.ls H.out.gs (by omega) ((((Bts.alloc (show Bts w b (off + 5 + 1) ss from H.out.cs) lt _).alloc (by simp; omega) _).alloc (by simp; omega) _))).mono ?_
  rintro e w' ⟨rfl, rfl⟩
  by_cases hl : 8 < len
  · obtain ⟨c, c8, hne⟩ := HC.out hl
    go_wp2_with fail
    refine bodyPost_ret (v := .tuple #[.agg #[.int .i64 (val hs), .int .i64 (val ms), .int .i64 (val ss), .int .i64 0, .int .i64 0], .slice (some ⟨b, off + 5 + 3, none⟩) (len - 5 - 3) (cap - 5 - 3), .nilIface]) (by simp [results, Try.results26, go_sem]) rfl ⟨_, _, rfl, by omega, fun _ => rfl, ?_⟩
    exact ((((Below.refl _ _).alloc (Nat.le_refl _) _).alloc (by simp) _).alloc (by simp; omega) _)
  · by_cases hk : cap = 8
    · go_wp2_with fail
      refine bodyPost_ret (v := .tuple #[.agg #[.int .i64 (val hs), .int .i64 (val ms), .int .i64 (val ss), .int .i64 0, .int .i64 0], .slice (some ⟨b, off + 5, none⟩) (len - 5 - 3) 0, .nilIface]) (by simp [results, Try.results26, go_sem]) rfl ⟨_, _, rfl, by omega, fun _ => by omega, ?_⟩
      exact ((((Below.refl _ _).alloc (Nat.le_refl _) _).alloc (by simp) _).alloc (by simp; omega) _)
    · go_wp2_with fail
      refine bodyPost_ret (v := .tuple #[.agg #[.int .i64 (val hs), .int .i64 (val ms), .int .i64 (val ss), .int .i64 0, .int .i64 0], .slice (some ⟨b, off + 5 + 3, none⟩) (len - 5 - 3) (cap - 5 - 3), .nilIface]) (by simp [results, Try.results26, go_sem]) rfl ⟨_, _, rfl, by omega, fun _ => rfl, ?_⟩
      exact ((((Below.refl _ _).alloc (Nat.le_refl _) _).alloc (by simp) _).alloc (by simp; omega) _)

end Go.Proofs.Ytnddjppbecpmdaa
