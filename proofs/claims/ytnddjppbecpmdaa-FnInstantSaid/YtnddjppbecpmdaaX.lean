/- The walk of the reference's clock. -/
import Derived.Test.YtnddjppbecpmdaaV
namespace Go.Proofs.Ytnddjppbecpmdaa
open Go.RowKit
set_option linter.unusedVariables false
set_option linter.unusedSimpArgs false

/-- what the reference's clock hands back -/
def ClockRes (l : List UInt8) (h m s n : Int) (w : World) (e : Ending) (w' : World) : Prop :=
  ∃ L : List UInt8, e = .returned (.tuple #[.string ⟨L.toArray⟩, .agg #[.int .i64 h, .int .i64 m, .int .i64 s, .int .i64 n]]) ∧ L.length ≤ 18 ∧ Hid (L = l) ∧ Below w.heap.size w w'

def clk (h m s : Int) : List UInt8 := clockL (fig 2 h.toNat) (fig 2 m.toNat) (fig 2 s.toNat)

theorem clk_eq (h m s : Int) {L1 L2 L3 : List UInt8} (e1 : L1 = fig 2 h.toNat) (e2 : L2 = fig 2 m.toNat) (e3 : L3 = fig 2 s.toNat) : (⟨L1.toArray⟩ : ByteArray) ++ ⟨#[58]⟩ ++ ⟨L2.toArray⟩ ++ ⟨#[58]⟩ ++ ⟨L3.toArray⟩ = ⟨(clk h m s).toArray⟩ := by
  subst e1 e2 e3
  apply ByteArray.ext
  simp [ByteArray.data_append, clk, clockL]

theorem clk_length (h m s : Int) : (clk h m s).length = 8 := by simp [clk, clockL, fig_length]

set_option maxRecDepth 100000 in
set_option maxHeartbeats 1000000 in
theorem specClock_zero (h m s part : Int) (w : World) (h0 : 0 ≤ h) (h1 : h ≤ 23) (m0 : 0 ≤ m) (m1 : m ≤ 59) (s0 : 0 ≤ s) (s1 : s ≤ 59) :
    Calls Try.prog 13 #[.int .i64 h, .int .i64 m, .int .i64 s, .int .i64 part, .int .i64 0] w (ClockRes (clk h m s) h m s 0 w) := by
  go_enter Try.func13, Try.ntmps13
  go_wp2_with fail
  refine (figures_int _ _ 2 _ rfl (by omega) (by omega) (by omega)).mono ?_
  rintro e w' ⟨L1, rfl, l1, H1, rfl⟩
  go_wp2_with fail
  refine (figures_int _ _ 2 _ rfl (by omega) (by omega) (by omega)).mono ?_
  rintro e w' ⟨L2, rfl, l2, H2, rfl⟩
  go_wp2_with fail
  refine (figures_int _ _ 2 _ rfl (by omega) (by omega) (by omega)).mono ?_
  rintro e w' ⟨L3, rfl, l3, H3, rfl⟩
  go_wp2_with fail
  have he := clk_eq h m s H1.out H2.out H3.out
  rw [he]
  refine bodyPost_ret (v := .tuple #[.string ⟨(clk h m s).toArray⟩, .agg #[.int .i64 h, .int .i64 m, .int .i64 s, .int .i64 0]]) (by simp [results, Try.results13, go_sem]) rfl ⟨_, rfl, by rw [clk_length]; omega, rfl, ?_⟩
  exact (Below.refl _ _).alloc (Nat.le_refl _) _

/-- the parts of a second behind k rounds -/
def npart (F : List UInt8) (k : Nat) : Nat := val (F.take k) * 10 ^ (k - F.length)

theorem npart_lt (F : List UInt8) (h : Digs F) (k : Nat) : npart F k < 10 ^ k := by
  unfold npart
  by_cases hk : k ≤ F.length
  · rw [show k - F.length = 0 from by omega, Nat.pow_zero, Nat.mul_one]
    exact val_lt F h k hk
  · have h1 := val_lt F h F.length (Nat.le_refl _)
    rw [List.take_of_length_le (by omega)]
    rw [List.take_of_length_le (Nat.le_refl _)] at h1
    have h2 : 10 ^ k = 10 ^ F.length * 10 ^ (k - F.length) := by rw [← Nat.pow_add]; congr 1; omega
    rw [h2]
    exact Nat.mul_lt_mul_of_pos_right h1 (Nat.pow_pos (by omega))

theorem npart_in (F : List UInt8) (h : Digs F) (k : Nat) (hk : k < F.length) : ∃ c : Int, 48 ≤ c ∧ c ≤ 57 ∧ Hid (∀ hk' : k < (⟨F.toArray⟩ : ByteArray).size, ((((⟨F.toArray⟩ : ByteArray)[k]'hk').toNat : Nat) : Int) = c) ∧ Hid ((npart F k : Int) * 10 + (c - 48) = (npart F (k + 1) : Int)) := by
  have h1 := h k hk
  refine ⟨((F.getD k 0).toNat : Int), by omega, by omega, ?_, ?_⟩
  · intro hk'
    have e : (⟨F.toArray⟩ : ByteArray)[k]'hk' = F[k] := rfl
    rw [e]
    simp [List.getD, hk]
  unfold Hid npart
  rw [show k - F.length = 0 from by omega, show k + 1 - F.length = 0 from by omega, Nat.pow_zero, Nat.mul_one, Nat.mul_one, val_take F k hk]
  omega

theorem npart_out (F : List UInt8) (k : Nat) (hk : F.length ≤ k) : (npart F k : Int) * 10 = (npart F (k + 1) : Int) := by
  unfold npart
  rw [List.take_of_length_le hk, List.take_of_length_le (by omega), show k + 1 - F.length = (k - F.length) + 1 from by omega, Nat.pow_succ]
  simp [Int.mul_assoc]

theorem npart_end (F : List UInt8) : npart F 9 = val F * nsp F.length ∨ 9 < F.length := by
  by_cases h : F.length ≤ 9
  · left
    unfold npart nsp
    rw [List.take_of_length_le h]
  · right; omega

theorem digs_take (l : List UInt8) (h : Digs l) (k : Nat) : Digs (l.take k) := by
  intro j hj
  rw [List.length_take] at hj
  have := h j (by omega)
  rw [List.getD_eq_getElem?_getD, List.getElem?_take, if_pos (by omega)]
  rw [List.getD_eq_getElem?_getD] at this
  exact this

theorem str_take (l : List UInt8) (k : Nat) (h : k ≤ l.length) : (⟨l.toArray⟩ : ByteArray).extract 0 k = ⟨(l.take k).toArray⟩ := by
  apply ByteArray.ext
  simp [ByteArray.data_extract]

set_option maxRecDepth 100000 in
set_option maxHeartbeats 2000000 in
theorem specClock_some (h m s part : Int) (f : Nat) (w : World) (h0 : 0 ≤ h) (h1 : h ≤ 23) (m0 : 0 ≤ m) (m1 : m ≤ 59) (s0 : 0 ≤ s) (s1 : s ≤ 59) (p0 : 0 ≤ part) (p1 : part < 1000000000) (f0 : 1 ≤ f) (f1 : f ≤ 9) :
    Calls Try.prog 13 #[.int .i64 h, .int .i64 m, .int .i64 s, .int .i64 part, .int .i64 f] w (ClockRes (clk h m s ++ 46 :: (fig 9 part.toNat).take f) h m s ((val ((fig 9 part.toNat).take f) : Int) * (nsp f : Nat)) w) := by
  have hf0 : ((f : Int) == 0) = false := by simp; omega
  go_enter Try.func13, Try.ntmps13
  go_wp2_with fail
  refine (figures_int _ _ 2 _ rfl (by omega) (by omega) (by omega)).mono ?_
  rintro e w' ⟨L1, rfl, l1, H1, rfl⟩
  go_wp2_with fail
  refine (figures_int _ _ 2 _ rfl (by omega) (by omega) (by omega)).mono ?_
  rintro e w' ⟨L2, rfl, l2, H2, rfl⟩
  go_wp2_with fail
  refine (figures_int _ _ 2 _ rfl (by omega) (by omega) (by omega)).mono ?_
  rintro e w' ⟨L3, rfl, l3, H3, rfl⟩
  go_wp2_with fail
  refine (figures_int _ _ 9 _ rfl (by omega) (by omega) (by omega)).mono ?_
  rintro e w' ⟨L4, rfl, l4, H4, rfl⟩
  have l4' : 9 ≤ L4.length := by rw [H4.out, fig_length]; omega
  have hst := str_take L4 f (by omega)
  have hfl : (L4.take f).length = f := by rw [List.length_take]; omega
  have hdg : Digs (L4.take f) := by rw [H4.out]; exact digs_take _ (fig_digs _ _) _
  generalize hF : L4.take f = F at hst hfl hdg
  have HF := Lib.hid hF
  have HDG := Lib.hid hdg
  have HFL := Lib.hid hfl
  have f2 : F.length ≤ f := by omega
  have f3 : f ≤ F.length := by omega
  clear hF hdg hfl
  go_wp2_with fail
  clear hst
  go_loop [14, 15, 37] (fun n _ i => ∃ k : Nat, k ≤ 9 ∧ i = .int .i64 k ∧ n = .int .i64 (npart F k)) (fun _ _ i => 9 - (intOf i).toNat)
  case atStart => exact ⟨0, by omega, rfl, by simp [npart, val]⟩
  case round =>
    obtain ⟨k, hk, rfl, rfl⟩ := hrel
    have hb1 : npart F k < 1000000000 := Nat.lt_of_lt_of_le (npart_lt F HDG.out k) (pow9 (by omega))
    by_cases hlt : k < 9
    · by_cases hkf : k < F.length
      · obtain ⟨c, c0, c1, hc, HS⟩ := npart_in F HDG.out k hkf
        go_wp2_with fail
        go_round
        case rel =>
          refine ⟨k + 1, by omega, by go_num, ?_⟩
          rw [← HS.out, ← Int.emod_eq_of_lt (a := c - 48) (b := 256) (by omega) (by omega)]
          exact congrArg (fun x : Int => Value.int .i64 ((npart F k : Int) * 10 + (x - 48) % 256)) (hc.out _)
        case measure => simp [intOf]; omega
      · have HS := Lib.hid (npart_out F k (by omega))
        have hb2 : npart F (k + 1) < 1000000000 := Nat.lt_of_lt_of_le (npart_lt F HDG.out (k + 1)) (pow9 (by omega))
        go_wp2_with fail
        go_round
        case rel => exact ⟨k + 1, by omega, by go_num, by rw [← HS.out]⟩
        case measure => simp [intOf]; omega
    · have HK := Lib.hid (show k = 9 by omega)
      have he := clk_eq h m s H1.out H2.out H3.out
      have HE := Lib.hid he
      clear he
      go_wp2_with fail
      have hval : ((npart F k : Nat) : Int) = (val F : Int) * (nsp f : Nat) := by
        have h9 := npart_end F
        have e1 := HFL.out
        rw [HK.out]
        rcases h9 with h9 | h9
        · rw [h9, e1]
          simp
        · omega
      have HV := Lib.hid hval
      clear hval
      refine bodyPost_ret (v := .tuple #[.string ⟨(clk h m s ++ 46 :: F).toArray⟩, .agg #[.int .i64 h, .int .i64 m, .int .i64 s, .int .i64 (npart F k)]]) (by simp [results, Try.results13, go_sem]; rw [HE.out]; apply ByteArray.ext; simp [ByteArray.data_append]) rfl ⟨clk h m s ++ 46 :: F, ?_, by simp [clk_length]; omega, by rw [← HF.out, H4.out]; rfl, ?_⟩
      · rw [HV.out, ← HF.out, H4.out]
      · exact (Below.refl _ _).alloc (Nat.le_refl _) _
end Go.Proofs.Ytnddjppbecpmdaa
