/- The walk of the package's function on times of a day with parts of a second. -/
import Derived.Test.YtnddjppbecpmdaaT
namespace Go.Proofs.Ytnddjppbecpmdaa
open Go.RowKit
set_option linter.unusedVariables false
set_option linter.unusedSimpArgs false

/-- the powers of ten by which parts of a second are taken -/
def nsp (k : Nat) : Nat := 10 ^ (9 - k)

theorem nsp_at (k : Nat) (h1 : 1 ≤ k) (h9 : k ≤ 9) : ([Value.int IntKind.i64 0, Value.int IntKind.i64 100000000, Value.int IntKind.i64 10000000, Value.int IntKind.i64 1000000, Value.int IntKind.i64 100000, Value.int IntKind.i64 10000, Value.int IntKind.i64 1000, Value.int IntKind.i64 100, Value.int IntKind.i64 10, Value.int IntKind.i64 1] : List Value)[k]? = some (.int .i64 (nsp k : Nat)) := by
  have h : k = 1 ∨ k = 2 ∨ k = 3 ∨ k = 4 ∨ k = 5 ∨ k = 6 ∨ k = 7 ∨ k = 8 ∨ k = 9 := by omega
  rcases h with h | h | h | h | h | h | h | h | h <;> subst h <;> rfl

theorem nsp_mul (v k : Nat) (h : v < 10 ^ k) (h9 : k ≤ 9) : 0 ≤ (v : Int) * (nsp k : Nat) ∧ (v : Int) * (nsp k : Nat) ≤ 999999999 := by
  have h1 : v * nsp k < 10 ^ 9 := by
    have h2 : 10 ^ 9 = 10 ^ k * nsp k := by
      unfold nsp
      rw [← Nat.pow_add]
      congr 1
      omega
    rw [h2]
    exact Nat.mul_lt_mul_of_pos_right h (Nat.pow_pos (by omega))
  have h3 : (v : Int) * (nsp k : Nat) = ((v * nsp k : Nat) : Int) := by simp
  rw [h3]
  omega

theorem time_close {hs ms ss fs : List UInt8} {b off len k k' : Nat} {w w' : World} {A : Option Addr} (hke : fs.length = k) (hl : len - 5 - 3 - (1 + k) ≤ k') (hA : 0 < len - 5 - 3 - (1 + k) → A = some ⟨b, off + 5 + 3 + (1 + k), none⟩) (hb : Below w.heap.size w w') :
    TimeRes (val hs) (val ms) (val ss) ((val fs : Int) * (nsp fs.length : Nat)) fs.length b (off + 5 + 3 + 1 + fs.length) (len - 5 - 3 - 1 - fs.length) w
      (.returned (.tuple #[.agg #[.int .i64 (val hs), .int .i64 (val ms), .int .i64 (val ss), .int .i64 ((val (fs.take k) : Int) * (nsp k : Nat)), .int .i64 k], .slice A (len - 5 - 3 - (1 + k)) k', .nilIface])) w' := by
  subst hke
  refine ⟨A, k', ?_, by omega, fun h => ?_, hb⟩
  · rw [List.take_of_length_le (Nat.le_refl _), show len - 5 - 3 - 1 - fs.length = len - 5 - 3 - (1 + fs.length) from by omega]
  · rw [hA (by omega), show off + 5 + 3 + 1 + fs.length = off + 5 + 3 + (1 + fs.length) from by omega]

theorem below3 (w : World) (o1 o2 o3 : Obj) : Below w.heap.size w (((w.alloc o1).alloc o2).alloc o3) :=
  (((Below.refl _ _).alloc (Nat.le_refl _) _).alloc (by simp) _).alloc (by simp; omega) _

set_option maxRecDepth 100000 in
set_option maxHeartbeats 8000000 in
theorem plt_frac (hs ms ss fs : List UInt8) (b off len cap : Nat) (w : World) (h : IsTime w b off hs ms ss) (hlen : 9 + fs.length ≤ len) (hcap : len ≤ cap)
    (h8 : w.cell? ⟨b, off + 5 + 3, none⟩ = some (.int .u8 46)) (gf : Digs fs) (bf : Bts w b (off + 5 + 3 + 1) fs) (l1 : 1 ≤ fs.length) (l9 : fs.length ≤ 9)
    (hc : 9 + fs.length < len → ∃ c : Int, w.cell? ⟨b, off + 5 + 3 + 1 + fs.length, none⟩ = some (.int .u8 c) ∧ 0 ≤ c ∧ c ≤ 255 ∧ (c < 48 ∨ 57 < c)) :
    Calls Try.prog 26 #[.slice (some ⟨b, off, none⟩) len cap] w (TimeRes (val hs) (val ms) (val ss) ((val fs : Int) * (nsp fs.length : Nat)) fs.length b (off + 5 + 3 + 1 + fs.length) (len - 5 - 3 - 1 - fs.length) w) := by
  have c2 := h.c2
  have c5 := h.c5
  have lt := h.lt
  have lt1 : b < w.heap.size + 1 := by omega
  have lt2 : b < w.heap.size + 1 + 1 := by omega
  have h1 := h.h1
  have m1 := h.m1
  have s1 := h.s1
  have H := Lib.hid h
  have HC := Lib.hid hc
  have GF := Lib.hid gf
  have BF := Lib.hid bf
  clear h hc gf bf
  go_enter Try.func26, Try.ntmps26
  go_wp2_with fail
  refine (pdd_any hs b _ 2 _ _ H.out.lh H.out.gh (by omega) ((((H.out.ch.alloc lt _).alloc (by simp; omega) _).alloc (by simp; omega) _))).mono ?_
  rintro e w' ⟨rfl, rfl⟩
  go_wp2_with fail
  refine (pdd_any ms b _ 2 _ _ H.out.lm H.out.gm (by omega) ((((H.out.cm.alloc lt _).alloc (by simp; omega) _).alloc (by simp; omega) _))).mono ?_
  rintro e w' ⟨rfl, rfl⟩
  go_wp2_with fail
  refine (pdd_any ss b _ 2 _ _ H.out.ls H.out.gs (by omega) ((((Bts.alloc (show Bts w b (off + 5 + 1) ss from H.out.cs) lt _).alloc (by simp; omega) _).alloc (by simp; omega) _))).mono ?_
  rintro e w' ⟨rfl, rfl⟩
  go_wp2_with fail
  go_loop [9, 10, 11, 12, 13, 117] (fun f p d _ _ i => ∃ k : Nat, k ≤ fs.length ∧ i = .int .i64 k ∧ p = .int .i64 k ∧ d = .int .i64 k ∧ f = .int .i64 (val (fs.take k))) (fun _ _ _ _ _ i => fs.length - (intOf i).toNat)
  case atStart => exact ⟨0, by omega, rfl, rfl, rfl, rfl⟩
  case round =>
    obtain ⟨k, hk, rfl, rfl, rfl, rfl⟩ := hrel
    have hb1 : val (fs.take k) < 1000000000 := Nat.lt_of_lt_of_le (val_lt fs GF.out k hk) (pow9 (by omega))
    by_cases hlt : k < fs.length
    · obtain ⟨c, hc, hb2, hb3, HS⟩ := digit_at BF.out GF.out hlt
      go_wp2
      go_round
      case rel => exact ⟨k + 1, by omega, by go_num, by go_num, by go_num, by rw [← HS.out]⟩
      case measure => simp [intOf]; omega
    · have hb2 : val (fs.take k) < 10 ^ k := val_lt fs GF.out k hk
      have hk1 : 1 ≤ k := by omega
      have hk9 : k ≤ 9 := by omega
      have hn := nsp_at k hk1 hk9
      have hmul := nsp_mul _ k hb2 hk9
      have hmu0 := hmul.1
      have hmu1 := hmul.2
      clear hmul
      have HB2 := Lib.hid hb2
      clear hb2
      have hk0 : ((k : Int) == 0) = false := by simp; omega
      by_cases hl : 9 + fs.length < len
      · obtain ⟨c, hc, k0, k1, k2⟩ := HC.out hl
        have hke : fs.length = k := by omega
        rw [hke] at hc
        have HKE := Lib.hid hke
        clear hke
        rcases k2 with k2 | k2
        · go_wp2
          go_region
          go_wp2
          refine bodyPost_ret (v := .tuple #[.agg #[.int .i64 (val hs), .int .i64 (val ms), .int .i64 (val ss), .int .i64 ((val (fs.take k) : Int) * (nsp k : Nat)), .int .i64 k], .slice (some ⟨b, off + 5 + 3 + (1 + k), none⟩) (len - 5 - 3 - (1 + k)) (cap - 5 - 3 - (1 + k)), .nilIface]) (by simp [results, Try.results26, go_sem]) rfl (time_close HKE.out (by omega) (fun _ => rfl) ?_)
          exact (below3 _ _ _ _).drew
        · have k3 : decide (c ≤ 57) = false := by simp; omega
          go_wp2
          go_region
          go_wp2
          refine bodyPost_ret (v := .tuple #[.agg #[.int .i64 (val hs), .int .i64 (val ms), .int .i64 (val ss), .int .i64 ((val (fs.take k) : Int) * (nsp k : Nat)), .int .i64 k], .slice (some ⟨b, off + 5 + 3 + (1 + k), none⟩) (len - 5 - 3 - (1 + k)) (cap - 5 - 3 - (1 + k)), .nilIface]) (by simp [results, Try.results26, go_sem]) rfl (time_close HKE.out (by omega) (fun _ => rfl) ?_)
          exact (below3 _ _ _ _).drew
      · have HKE := Lib.hid (show fs.length = k by omega)
        by_cases hcp : cap - 5 - 3 = 1 + k
        · go_wp2
          go_region
          go_wp2
          refine bodyPost_ret (v := .tuple #[.agg #[.int .i64 (val hs), .int .i64 (val ms), .int .i64 (val ss), .int .i64 ((val (fs.take k) : Int) * (nsp k : Nat)), .int .i64 k], .slice (some ⟨b, off + 5 + 3, none⟩) (len - 5 - 3 - (1 + k)) (1 + k - (1 + k)), .nilIface]) (by simp [results, Try.results26, go_sem]) rfl (time_close HKE.out (by omega) (fun _ => by omega) ?_)
          exact (below3 _ _ _ _).drew
        · go_wp2
          go_region
          go_wp2
          refine bodyPost_ret (v := .tuple #[.agg #[.int .i64 (val hs), .int .i64 (val ms), .int .i64 (val ss), .int .i64 ((val (fs.take k) : Int) * (nsp k : Nat)), .int .i64 k], .slice (some ⟨b, off + 5 + 3 + (1 + k), none⟩) (len - 5 - 3 - (1 + k)) (cap - 5 - 3 - (1 + k)), .nilIface]) (by simp [results, Try.results26, go_sem]) rfl (time_close HKE.out (by omega) (fun _ => rfl) ?_)
          exact (below3 _ _ _ _).drew
end Go.Proofs.Ytnddjppbecpmdaa
