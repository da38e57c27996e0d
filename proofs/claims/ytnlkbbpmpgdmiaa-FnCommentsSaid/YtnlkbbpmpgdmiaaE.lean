/- scanComment. -/
import Derived.Test.YtnlkbbpmpgdmiaaD
import Derived.Deep.LoopGhost
namespace Go.Proofs.Ytnlkbbpmpgdmiaa
open Go.RowKit
set_option linter.unusedVariables false
set_option linter.unusedSimpArgs false

/-- signs that stand in the remarks of our texts -/
def Plain (c : UInt8) : Prop := 32 ≤ c.toNat ∧ c.toNat ≤ 126

/-- the end of a line, or of the text, or a sign that may not stand in a remark -/
def LineEnd (l : List UInt8) : Prop := l = [] ∨ (∃ r, l = 10 :: r) ∨ (∃ r, l = 13 :: 10 :: r)

theorem Bts.drewN {w : World} {b off : Nat} {l : List UInt8} (h : Bts w b off l) (n : Nat) : Bts (w.drewN n) b off l := h

theorem LineEnd.low {l : List UInt8} (h : LineEnd l) (c : UInt8) (r : List UInt8) (e : l = c :: r) : c.toNat < 32 := by
  rcases h with h | ⟨q, h⟩ | ⟨q, h⟩
  · rw [h] at e; cases e
  · rw [h] at e; injection e with e _; subst e; decide
  · rw [h] at e; injection e with e _; subst e; decide

theorem eight {q s : List UInt8} (h : 8 ≤ q.length + s.length) : ∃ c0 c1 c2 c3 c4 c5 c6 c7 r, q ++ s = c0 :: c1 :: c2 :: c3 :: c4 :: c5 :: c6 :: c7 :: r := by
  rw [← List.length_append] at h
  generalize q ++ s = l at h
  match l, h with
  | c0 :: c1 :: c2 :: c3 :: c4 :: c5 :: c6 :: c7 :: r, _ => exact ⟨c0, c1, c2, c3, c4, c5, c6, c7, r, rfl⟩

/-- eight bytes that are no ends of lines lie in the line -/
theorem in_line {q s : List UInt8} (hs : ∀ c r, s = c :: r → c.toNat < 32) {c0 c1 c2 c3 c4 c5 c6 c7 : UInt8} {r : List UInt8} (h : q ++ s = c0 :: c1 :: c2 :: c3 :: c4 :: c5 :: c6 :: c7 :: r)
    (k0 : 32 ≤ c0.toNat) (k1 : 32 ≤ c1.toNat) (k2 : 32 ≤ c2.toNat) (k3 : 32 ≤ c3.toNat) (k4 : 32 ≤ c4.toNat) (k5 : 32 ≤ c5.toNat) (k6 : 32 ≤ c6.toNat) (k7 : 32 ≤ c7.toNat) :
    ∃ q', q = c0 :: c1 :: c2 :: c3 :: c4 :: c5 :: c6 :: c7 :: q' := by
  have one : ∀ (q : List UInt8) {c : UInt8} {r : List UInt8}, q ++ s = c :: r → 32 ≤ c.toNat → ∃ q', q = c :: q' ∧ q' ++ s = r := by
    intro q c r h hc
    cases q with
    | nil => exact absurd (hs c r h) (by omega)
    | cons d q' => injection h with h1 h2; subst h1; exact ⟨q', rfl, h2⟩
  obtain ⟨q0, e0, h0⟩ := one q h k0
  obtain ⟨q1, e1, h1⟩ := one q0 h0 k1
  obtain ⟨q2, e2, h2⟩ := one q1 h1 k2
  obtain ⟨q3, e3, h3⟩ := one q2 h2 k3
  obtain ⟨q4, e4, h4⟩ := one q3 h3 k4
  obtain ⟨q5, e5, h5⟩ := one q4 h4 k5
  obtain ⟨q6, e6, h6⟩ := one q5 h5 k6
  obtain ⟨q7, e7, h7⟩ := one q6 h6 k7
  exact ⟨q7, by rw [e0, e1, e2, e3, e4, e5, e6, e7]⟩

def ScanOk (b off cap m : Nat) (l r : List UInt8) (w : World) (e : Ending) (w' : World) : Prop :=
  ∃ v, e = .returned (.tuple #[.slice (some ⟨b, off, none⟩) m cap, v, .nilIface]) ∧ Rest b off cap l r v ∧ ∃ n, w' = w.drewN n

theorem leU_at (m : Nat) (c0 c1 c2 c3 c4 c5 c6 c7 : UInt8) (r : List UInt8) (b off cap : Nat) (w : World) (hm : Bts w b off (c0 :: c1 :: c2 :: c3 :: c4 :: c5 :: c6 :: c7 :: r)) (hl : m = r.length + 8) (hc : r.length + 8 ≤ cap) (hcb : r.length + 8 ≤ 140737488351232 ∧ cap ≤ 9223372036854775807) :
    Calls Try.prog 56 #[.slice (some ⟨b, off, none⟩) m cap] w fun e w' => e = .returned (.int .u64 (num8 c0.toNat c1.toNat c2.toNat c3.toNat c4.toNat c5.toNat c6.toNat c7.toNat : Nat)) ∧ ∃ n, w' = w.drewN n := by
  subst hl
  exact leU_any c0 c1 c2 c3 c4 c5 c6 c7 r b off cap w hm hc hcb

theorem num8_lt (c0 c1 c2 c3 c4 c5 c6 c7 : UInt8) : num8 c0.toNat c1.toNat c2.toNat c3.toNat c4.toNat c5.toNat c6.toNat c7.toNat < 18446744073709551616 := by
  have k0 := c0.toNat_lt; have k1 := c1.toNat_lt; have k2 := c2.toNat_lt; have k3 := c3.toNat_lt
  have k4 := c4.toNat_lt; have k5 := c5.toNat_lt; have k6 := c6.toNat_lt; have k7 := c7.toNat_lt
  unfold num8
  omega

theorem hbb_lt (x n : Nat) : hbb x n < 18446744073709551616 := Nat.lt_of_le_of_lt Nat.and_le_right (by omega)
theorem hbe_lt (x n : Nat) : hbe x n < 18446744073709551616 := hbb_lt _ _

theorem at_suffix {w : World} {b off : Nat} {c0 : UInt8} {p rest q : List UInt8} (h : Bts w b off (c0 :: (p ++ rest))) (hq : q <:+ p) {k : Nat} (hk : k + q.length = p.length + 1) : Bts w b (off + k) (q ++ rest) := by
  have h1 : q ++ rest <:+ c0 :: (p ++ rest) := by
    obtain ⟨t, rfl⟩ := hq
    exact ⟨c0 :: t, by simp⟩
  have h2 := h.suffix h1
  have e : (c0 :: (p ++ rest)).length - (q ++ rest).length = k := by simp; omega
  rw [e] at h2
  exact h2

theorem scan_fin {w w' : World} {b off cap k R k2 c2 m c3 : Nat} {c0 : UInt8} {p rest : List UInt8} (hR : rest.length = R) (hk : k = p.length + 1) (hc : p.length + R + 1 ≤ cap) {A : Addr} (hA : 0 < R → A = ⟨b, off + k, none⟩)
    (e1 : k2 = k) (e2 : c2 = cap) (e3 : m = R) (e4 : c3 = cap - k) (hw : ∃ n, w' = w.drewN n) :
    ScanOk b off cap (p.length + 1) (c0 :: (p ++ rest)) rest w (.returned (.tuple #[.slice (some ⟨b, off, none⟩) k2 c2, .slice (some A) m c3, .nilIface])) w' := by
  subst hk hR e1 e2 e3 e4
  refine ⟨_, rfl, Rest.drop (p.length + 1) (by simp) (by simp) rfl (by simp) (fun h => hA (by simp at h; omega)), hw⟩

def wordBad (X : Nat) : Bool := bits .or .u64 (bits .or .u64 (bits .and .u64 X 9259542123273814144) (hbb X 32 : Nat)) (hbe X 127 : Nat) != 0

theorem or_zero {a b : Nat} (h : a ||| b = 0) : a = 0 ∧ b = 0 := by
  constructor
  · exact Nat.eq_zero_of_le_zero (h ▸ Nat.left_le_or)
  · exact Nat.eq_zero_of_le_zero (h ▸ Nat.right_le_or)

theorem wordBad_low {X : Nat} (hX : X < 18446744073709551616) (h : wordBad X = false) : X &&& 9259542123273814144 = 0 ∧ hbb X 32 = 0 ∧ hbe X 127 = 0 := by
  unfold wordBad at h
  have hand : X &&& 9259542123273814144 < 18446744073709551616 := Nat.lt_of_le_of_lt Nat.and_le_left hX
  rw [show (9259542123273814144 : Int) = ((9259542123273814144 : Nat) : Int) from rfl, u64_and _ _ hX (by omega), u64_or _ _ hand (hbb_lt _ _), u64_or _ _ (Nat.or_lt_two_pow (n := 64) hand (hbb_lt _ _)) (hbe_lt _ _)] at h
  have h2 : ((X &&& 9259542123273814144) ||| hbb X 32) ||| hbe X 127 = 0 := by
    simpa using h
  obtain ⟨h3, h4⟩ := or_zero h2
  obtain ⟨h5, h6⟩ := or_zero h3
  exact ⟨h5, h6, h4⟩

theorem bt {c : UInt8} {n : Nat} (h : c.toNat = n) : ((c.toNat : Int) == (n : Int)) = true := by simp [h]
theorem bf {c : UInt8} {n : Nat} (h : c.toNat ≠ n) : ((c.toNat : Int) == (n : Int)) = false := by simp; omega

set_option maxRecDepth 100000 in
set_option maxHeartbeats 4000000 in
theorem scanComment_any (c0 : UInt8) (p rest : List UInt8) (hp : ∀ c ∈ p, Plain c) (hr : LineEnd rest) (b off cap : Nat) (w : World) (hm : Bts w b off (c0 :: (p ++ rest))) (hc : p.length + rest.length + 1 ≤ cap) (hcb : p.length + rest.length + 1 ≤ 140737488351232 ∧ cap ≤ 9223372036854775807) :
    Calls Try.prog 36 #[.slice (some ⟨b, off, none⟩) (p.length + rest.length + 1) cap] w (ScanOk b off cap (p.length + 1) (c0 :: (p ++ rest)) rest w) := by
  have HM := Lib.hid hm
  have HP := Lib.hid hp
  have HR := Lib.hid hr
  clear hm hp hr
  generalize hR : rest.length = R at *
  have HRR := Lib.hid hR
  clear hR
  go_enter Try.func36, Try.ntmps36
  go_wp2_with fail
  go_loopg [5, 6, 7] (p.length + R) (fun g i x c wr => ∃ (q : List UInt8) (k : Nat), i = .int .i64 k ∧ k + q.length = p.length + 1 ∧ g = q.length + R ∧ Hid (q <:+ p) ∧ Hid (∃ n, wr = w.drewN n))
  case atStart => exact ⟨p, 1, rfl, by omega, rfl, List.suffix_refl _, 0, rfl⟩
  case round =>
    obtain ⟨q, k, rfl, hk, rfl, HQ, HW⟩ := hrel
    by_cases he : p.length + R + 1 ≤ k
    · obtain ⟨n, rfl⟩ := HW.out
      by_cases hcap : cap = k
      · go_wp2_with fail
        go_quiet (fail)
        go_wp2
        go_ret3
        exact scan_fin (k := k) HRR.out (by omega) (by omega) (fun h => by omega) rfl hcap.symm (by omega) (by omega) ⟨_, World.drewN_drewN ..⟩
      · go_wp2_with fail
        go_quiet (fail)
        go_wp2
        go_ret3
        exact scan_fin (k := k) HRR.out (by omega) (by omega) (fun h => rfl) rfl rfl (by omega) (by omega) ⟨_, World.drewN_drewN ..⟩
    · have he2 : k < p.length + R + 1 := by omega
      clear he
      have tb : decide ((k : Int) < (p.length : Int) + (R : Int) + 1) = true := by simp; omega
      go_wp2_with fail
      go_loopg [5, 6] (q.length + R) (fun g i x wi => ∃ (q' : List UInt8) (k' : Nat), i = .int .i64 k' ∧ k' + q'.length = p.length + 1 ∧ q'.length ≤ q.length ∧ g = q'.length + R ∧ Hid (q' <:+ p) ∧ Hid (∃ n, wi = w.drewN n))
      case atStart => exact ⟨q, k, rfl, hk, Nat.le_refl _, rfl, HQ.out, HW.out⟩
      case round =>
        clear HW HQ
        obtain ⟨q', k', rfl, hk', hq', rfl, HQ, HW⟩ := hrel
        obtain ⟨n, rfl⟩ := HW.out
        clear HW
        by_cases h8 : k' + 8 ≤ p.length + R + 1
        · obtain ⟨d0, d1, d2, d3, d4, d5, d6, d7, r, hq8⟩ := eight (q := q') (s := rest) (by rw [HRR.out]; omega)
          have HL : Hid (p.length + R + 1 - k' = r.length + 8) := by
            have := congrArg List.length hq8
            simp at this
            have h2 := HRR.out
            show _ = _
            omega
          have HB : Hid (Bts w b (off + k') (d0 :: d1 :: d2 :: d3 :: d4 :: d5 :: d6 :: d7 :: r)) := by
            have := at_suffix HM.out HQ.out hk'
            rw [hq8] at this
            exact this
          have H8 := Lib.hid hq8
          clear hq8
          have hck : k' < cap := by omega
          go_wp2_with fail
          refine (leU_at _ d0 d1 d2 d3 d4 d5 d6 d7 r b (off + k') _ _ (HB.out.drewN _) HL.out (by have := HL.out; omega) (by have := HL.out; omega)).mono ?_
          rintro e w1 ⟨rfl, n2, rfl⟩
          have hx := num8_lt d0 d1 d2 d3 d4 d5 d6 d7
          generalize hX : num8 d0.toNat d1.toNat d2.toNat d3.toNat d4.toNat d5.toNat d6.toNat d7.toNat = X at *
          have HX := Lib.hid hX
          clear hX
          go_wp2_with fail
          refine (hbb_any X 32 hx (by omega) _).mono ?_
          rintro e w1 ⟨rfl, rfl⟩
          go_wp2_with fail
          refine (hbe_any X 127 hx (by omega) _).mono ?_
          rintro e w1 ⟨rfl, rfl⟩
          cases hwb : wordBad X with
          | false =>
            have hq3 : Hid (∃ q3, q' = d0 :: d1 :: d2 :: d3 :: d4 :: d5 :: d6 :: d7 :: q3) := by
              obtain ⟨h1, h2, h3⟩ := wordBad_low hx hwb
              obtain ⟨g0, g1, g2, g3, g4, g5, g6, g7⟩ := lower 32 X (by omega) HX.out.symm (by have := d0.toNat_lt; omega) (by have := d1.toNat_lt; omega) (by have := d2.toNat_lt; omega) (by have := d3.toNat_lt; omega) (by have := d4.toNat_lt; omega) (by have := d5.toNat_lt; omega) (by have := d6.toNat_lt; omega) (by have := d7.toNat_lt; omega) h1 h2
              exact in_line HR.out.low H8.out g0 g1 g2 g3 g4 g5 g6 g7
            obtain ⟨q3, rfl⟩ := hq3.out
            simp only [wordBad] at hwb
            simp only [List.length_cons] at hk' hq'
            go_wp2_with fail
            go_roundg (q3.length + R)
            case measure => simp; omega
            case rel => exact ⟨q3, k' + 8, by go_num, by omega, by omega, rfl, (((((((((List.suffix_cons _ _).trans (List.suffix_cons _ _)).trans (List.suffix_cons _ _)).trans (List.suffix_cons _ _)).trans (List.suffix_cons _ _)).trans (List.suffix_cons _ _)).trans (List.suffix_cons _ _)).trans (List.suffix_cons _ _)).trans HQ.out), _, rfl⟩
          | true =>
            simp only [wordBad] at hwb
            clear H8 HB HL HX
            by_cases he3 : p.length + R + 1 ≤ k'
            · first | (exfalso; omega) | (
                                           by_cases hcap : cap = k'
                                           · go_wp2_with fail
                                             go_quiet (fail)
                                             go_wp2
                                             go_ret3
                                             exact scan_fin (k := k') HRR.out (by omega) (by omega) (fun h => by omega) rfl hcap.symm (by omega) (by omega) ⟨_, World.drewN_drewN ..⟩
                                           · go_wp2_with fail
                                             go_quiet (fail)
                                             go_wp2
                                             go_ret3
                                             exact scan_fin (k := k') HRR.out (by omega) (by omega) (fun h => rfl) rfl rfl (by omega) (by omega) ⟨_, World.drewN_drewN ..⟩)
            · have he4 : k' < p.length + R + 1 := by omega
              clear he3
              cases q' with
              | cons c q3 =>
                have hc0 := (at_suffix HM.out HQ.out hk').head.1
                obtain ⟨hc1, hc2⟩ := HP.out c (HQ.out.subset (by simp))
                have t1 : ((c.toNat : Int) < 128) := by omega
                simp only [List.length_cons] at hk' hq'
                go_wp2_with fail
                go_roundg (q3.length + R)
                case measure => simp; omega
                case rel => exact ⟨q3, k' + 1, by go_num, by omega, rfl, (List.suffix_cons _ _).trans HQ.out, _, rfl⟩
              | nil =>
                have hat := at_suffix HM.out HQ.out hk'
                simp only [List.length_nil] at hk' hq'
                rcases HR.out with h | ⟨r, h⟩ | ⟨r, h⟩
                · rw [h] at HRR; have := HRR.out; simp at this; omega
                · rw [h] at hat
                  have hc0 := hat.head.1
                  clear hat h
                  have hcap : ¬ cap = k' := by omega
                  go_wp2_with fail
                  go_quiet (fail)
                  go_wp2
                  go_ret3
                  exact scan_fin (k := k') HRR.out (by omega) (by omega) (fun h => rfl) rfl rfl (by omega) (by omega) ⟨_, World.drewN_drewN ..⟩
                · rw [h] at hat
                  have hc0 := hat.head.1
                  have hc1 := hat.head.2.head.1
                  have hR2 : 2 ≤ R := by have := HRR.out; rw [h] at this; simp at this; omega
                  have hc1' := hc1
                  rw [Nat.add_assoc] at hc1'
                  clear hat h
                  have hcap : ¬ cap = k' := by omega
                  go_wp2_with fail
                  go_quiet (fail)
                  go_wp2
                  go_ret3
                  exact scan_fin (k := k') HRR.out (by omega) (by omega) (fun h => rfl) rfl rfl (by omega) (by omega) ⟨_, World.drewN_drewN ..⟩
        · by_cases he3 : p.length + R + 1 ≤ k'
          · first | (exfalso; omega) | (
                                         by_cases hcap : cap = k'
                                         · go_wp2_with fail
                                           go_quiet (fail)
                                           go_wp2
                                           go_ret3
                                           exact scan_fin (k := k') HRR.out (by omega) (by omega) (fun h => by omega) rfl hcap.symm (by omega) (by omega) ⟨_, World.drewN_drewN ..⟩
                                         · go_wp2_with fail
                                           go_quiet (fail)
                                           go_wp2
                                           go_ret3
                                           exact scan_fin (k := k') HRR.out (by omega) (by omega) (fun h => rfl) rfl rfl (by omega) (by omega) ⟨_, World.drewN_drewN ..⟩)
          · have he4 : k' < p.length + R + 1 := by omega
            clear he3
            cases q' with
            | cons c q3 =>
              have hc0 := (at_suffix HM.out HQ.out hk').head.1
              obtain ⟨hc1, hc2⟩ := HP.out c (HQ.out.subset (by simp))
              have t1 : ((c.toNat : Int) < 128) := by omega
              simp only [List.length_cons] at hk' hq'
              go_wp2_with fail
              go_roundg (q3.length + R)
              case measure => simp; omega
              case rel => exact ⟨q3, k' + 1, by go_num, by omega, rfl, (List.suffix_cons _ _).trans HQ.out, _, rfl⟩
            | nil =>
              have hat := at_suffix HM.out HQ.out hk'
              simp only [List.length_nil] at hk' hq'
              rcases HR.out with h | ⟨r, h⟩ | ⟨r, h⟩
              · rw [h] at HRR; have := HRR.out; simp at this; omega
              · rw [h] at hat
                have hc0 := hat.head.1
                clear hat h
                have hcap : ¬ cap = k' := by omega
                go_wp2_with fail
                go_quiet (fail)
                go_wp2
                go_ret3
                exact scan_fin (k := k') HRR.out (by omega) (by omega) (fun h => rfl) rfl rfl (by omega) (by omega) ⟨_, World.drewN_drewN ..⟩
              · rw [h] at hat
                have hc0 := hat.head.1
                have hc1 := hat.head.2.head.1
                have hR2 : 2 ≤ R := by have := HRR.out; rw [h] at this; simp at this; omega
                have hc1' := hc1
                rw [Nat.add_assoc] at hc1'
                clear hat h
                have hcap : ¬ cap = k' := by omega
                go_wp2_with fail
                go_quiet (fail)
                go_wp2
                go_ret3
                exact scan_fin (k := k') HRR.out (by omega) (by omega) (fun h => rfl) rfl rfl (by omega) (by omega) ⟨_, World.drewN_drewN ..⟩
end Go.Proofs.Ytnlkbbpmpgdmiaa
