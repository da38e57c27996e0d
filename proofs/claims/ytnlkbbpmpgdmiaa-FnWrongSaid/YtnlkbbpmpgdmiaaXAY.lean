/- Errors of the parser: Read refuses; Errors of the parser: strings and remarks with a bad sign; Errors of the parser: strings in two quotes and remarks with a bad sign; Errors of the parser: escapes; Errors of the parser: strings with a bad escape; Errors of the parser: values that are refused at once; Errors of the parser: lists that are not closed, or lack a comma. -/
import Derived.Test.YtnlkbbpmpgdmiaaXAX
namespace Go.Proofs.Ytnlkbbpmpgdmiaa
open Go.RowKit
set_option linter.unusedVariables false
set_option linter.unusedSimpArgs false
def ReadBad (W : World) (e : Ending) (w' : World) : Prop := e = .returned (.tuple #[.slice none 0 0, .bool false]) ∧ Below W.heap.size W w'
def Refused (D : List UInt8) : Prop := ∀ (B g b cap k : Nat) (a : Addr) (w : World), PS B w g b cap false D (.slice (some a) D.length k) [] .nilIface 0 → Inp w b cap D → Pos b cap D D a k → Calls Try.prog 18 #[.pointer (some ⟨g, 0, none⟩)] w (NextBad B g b cap D w)
set_option maxRecDepth 100000 in
set_option maxHeartbeats 2000000 in
theorem read_bad {W : World} {v : Value} {D : List UInt8} (hd : RdIs W v D) (hb : D.length ≤ 4000000) (hbad : Refused D) : Calls Try.prog 13 #[v] W (ReadBad W) := by
 have HD := Lib.hid hd
 have HBAD := Lib.hid hbad
 clear hd hbad
 obtain ⟨blk, off, c, a, hv, -⟩ := HD.out
 go_enter Try.func13, Try.ntmps13
 go_wp2_with fail
 have hd2 : RdIs (W.alloc (.cells #[.bool false, .slice none 0 0, .slice none 0 0, .slice none 0 0, .nilIface, .int .i64 0] 52)) (.slice (some a) D.length c) D := by rw [← hv]; exact HD.out.alloc _
 have HD2 := Lib.hid hd2
 clear hd2 hv
 have hsz : (W.alloc (.cells #[.bool false, .slice none 0 0, .slice none 0 0, .slice none 0 0, .nilIface, .int .i64 0] 52)).heap.size = W.heap.size + 1 := by simp
 have HSZ := Lib.hid hsz
 clear hsz
 refine (clone_rd4 HD2.out hb).mono ?_
 rintro e w1 ⟨b, cap, A, rfl, hin, hps, hb1⟩
 have HIN := Lib.hid hin
 have HPS := Lib.hid hps
 have hg1 : Blk w1 W.heap.size 52 #[.bool false, .slice none 0 0, .slice none 0 0, .slice none 0 0, .nilIface, .int .i64 0] := (Blk.new W 52 _).below hb1 (by rw [HSZ.out]; omega)
 have HG1 := Lib.hid hg1
 have HB1 : Hid (Below W.heap.size W w1) := ((Below.refl _ W).alloc (Nat.le_refl _) _).trans (hb1.mono (by rw [HSZ.out]; omega))
 clear hin hps hg1 hb1
 go_wp2_with fail
 refine (reset_new HG1.out (some A) D.length cap).mono ?_
 rintro e w2 ⟨rfl, hg2, hbl, hkp⟩
 have HC := Lib.hid (HBAD.out W.heap.size W.heap.size b cap cap A w2 ⟨A, _, hg2, Nat.le_refl _, .inl ⟨rfl, rfl⟩, by have := hg2.lt; omega⟩ (HIN.out.kp hkp) HPS.out)
 have HB2 : Hid (Below W.heap.size W w2) := HB1.out.trans (hbl _ (Nat.le_refl _))
 clear hg2 hbl hkp
 go_wp2_with fail
 go_loopg [5] 0 (fun gg s5 wx => s5 = .slice none 0 0 ∧ wx = w2)
 case atStart => exact ⟨rfl, rfl⟩
 case round =>
   obtain ⟨rfl, rfl⟩ := hrel
   go_wp2_with fail
   refine HC.out.mono ?_
   rintro e w3 ⟨rfl, hb3, left, ns, pe, hps3⟩
   have HB3 := Lib.hid hb3
   have HPS3 := Lib.hid hps3
   clear hb3 hps3
   go_wp2_with fail
   refine (error_any HPS3.out).mono ?_
   rintro e w4 ⟨rfl, rfl⟩
   go_wp2_with fail
   go_ret2
   exact ⟨rfl, HB2.out.trans HB3.out⟩
end Go.Proofs.Ytnlkbbpmpgdmiaa
namespace Go.Proofs.Ytnlkbbpmpgdmiaa
open Go.RowKit
set_option linter.unusedVariables false
set_option linter.unusedSimpArgs false
theorem wordBadL_all {X c : Nat} (hX : X < 18446744073709551616) (h : wordBadL X c = false) : X &&& 9259542123273814144 = 0 ∧ hbb X 32 = 0 ∧ hbe X c = 0 ∧ hbe X 127 = 0 := by
 unfold wordBadL at h
 have hand : X &&& 9259542123273814144 < 18446744073709551616 := Nat.lt_of_le_of_lt Nat.and_le_left hX
 have h1 := Nat.or_lt_two_pow (n := 64) hand (hbb_lt X 32)
 have h2 := Nat.or_lt_two_pow (n := 64) h1 (hbe_lt X c)
 rw [show (9259542123273814144 : Int) = ((9259542123273814144 : Nat) : Int) from rfl, u64_and _ _ hX (by omega), u64_or _ _ hand (hbb_lt _ _), u64_or _ _ h1 (hbe_lt _ _), u64_or _ _ h2 (hbe_lt _ _)] at h
 have h2 : (((X &&& 9259542123273814144) ||| hbb X 32) ||| hbe X c) ||| hbe X 127 = 0 := by
   simpa using h
 obtain ⟨h3, h4⟩ := or_zero h2
 obtain ⟨h5, h6⟩ := or_zero h3
 obtain ⟨h7, h8⟩ := or_zero h5
 exact ⟨h7, h8, h6, h4⟩
theorem wordBadB_all {X : Nat} (hX : X < 18446744073709551616) (h : wordBadB X = false) : X &&& 9259542123273814144 = 0 ∧ hbb X 32 = 0 ∧ hbe X 92 = 0 := by
 unfold wordBadB at h
 have hand : X &&& 9259542123273814144 < 18446744073709551616 := Nat.lt_of_le_of_lt Nat.and_le_left hX
 have h1 := Nat.or_lt_two_pow (n := 64) hand (hbb_lt X 32)
 have h2 := Nat.or_lt_two_pow (n := 64) h1 (hbe_lt X 34)
 have h3 := Nat.or_lt_two_pow (n := 64) h2 (hbe_lt X 92)
 rw [show (9259542123273814144 : Int) = ((9259542123273814144 : Nat) : Int) from rfl, u64_and _ _ hX (by omega), u64_or _ _ hand (hbb_lt _ _), u64_or _ _ h1 (hbe_lt _ _), u64_or _ _ h2 (hbe_lt _ _), u64_or _ _ h3 (hbe_lt _ _)] at h
 have h2 : ((((X &&& 9259542123273814144) ||| hbb X 32) ||| hbe X 34) ||| hbe X 92) ||| hbe X 127 = 0 := by
   simpa using h
 obtain ⟨h3, h4⟩ := or_zero h2
 obtain ⟨h5, h6⟩ := or_zero h3
 obtain ⟨h7, h8⟩ := or_zero h5
 obtain ⟨h9, h10⟩ := or_zero h7
 exact ⟨h9, h10, h6⟩
set_option maxRecDepth 100000 in
set_option maxHeartbeats 4000000 in
theorem lit_bad (p : List UInt8) (c : UInt8) (rest : List UInt8) (hp1 : p.length ≤ 1) (hp : ∀ x ∈ p, 32 ≤ x.toNat ∧ x.toNat < 127 ∧ x.toNat ≠ 39 ∧ x.toNat ≠ 34 ∧ x.toNat ≠ 92) (hc : c.toNat = 10 ∨ c.toNat = 127) (pv : Value) (b off cap M : Nat) (w : World) (hm : Bts w b off (39 :: (p ++ c :: rest))) (hM : (p ++ c :: rest).length = M) (hcp : M + 1 ≤ cap) (hcb : M + 1 ≤ 140737488351232 ∧ cap ≤ 9223372036854775807) :
   Calls Try.prog 75 #[pv, .slice (some ⟨b, off, none⟩) (M + 1) cap] w (BadS w) := by
 have HM := Lib.hid hm
 have HP := Lib.hid hp
 have HP1 := Lib.hid hp1
 have HC := Lib.hid hc
 have HMM := Lib.hid hM
 have hPM : p.length + 1 ≤ M := by rw [← hM, List.length_append, List.length_cons]; omega
 clear hm hp hc hM hp1
 go_enter Try.func75, Try.ntmps75
 go_wp2_with fail
 go_loopg [8, 9, 10, 11] p.length (fun g s8 s9 s10 s11 wx => ∃ (q : List UInt8) (k : Nat), s8 = .int .i64 k ∧ k + q.length = p.length + 1 ∧ g = q.length ∧ Hid (q <:+ p) ∧ Hid (∃ n, wx = w.drewN n))
 case atStart => exact ⟨p, 1, rfl, by omega, rfl, List.suffix_refl _, 0, rfl⟩
 case round =>
   obtain ⟨q, k, rfl, hk, rfl, HQ0, HW⟩ := hrel
   go_wp2_with fail
   go_loopg [8, 9] q.length (fun g s8 s9 wx => ∃ (q' : List UInt8) (k' : Nat), s8 = .int .i64 k' ∧ k' + q'.length = p.length + 1 ∧ q'.length ≤ q.length ∧ g = q'.length ∧ Hid (q' <:+ p) ∧ Hid (∃ n, wx = w.drewN n))
   case atStart => exact ⟨q, k, rfl, hk, Nat.le_refl _, rfl, HQ0.out, HW.out⟩
   case round =>
     clear HW HQ0 hk
     obtain ⟨q', k', rfl, hk', hq', rfl, HQ, HW⟩ := hrel
     obtain ⟨n, rfl⟩ := HW.out
     clear HW
     have hk1 : 1 ≤ k' := by have := HQ.out.length_le; omega
     by_cases h8 : k' + 8 ≤ M + 1
     focus
       obtain ⟨d0, d1, d2, d3, d4, d5, d6, d7, r, hq8⟩ := eight (q := q') (s := c :: rest) (by have := HMM.out; rw [List.length_append] at this; have := HP1.out; omega)
       have HL : Hid (M + 1 - k' = r.length + 8) := by
         have h1 := congrArg List.length hq8
         have h2 := HMM.out
         simp only [List.length_append, List.length_cons] at h1 h2
         show _ = _
         omega
       have HB : Hid (Bts w b (off + k') (d0 :: d1 :: d2 :: d3 :: d4 :: d5 :: d6 :: d7 :: r)) := by
         have := at_suffix HM.out HQ.out hk'
         rw [hq8] at this
         exact this
       have hq1 : q'.length ≤ 1 := Nat.le_trans HQ.out.length_le HP1.out
       have H8 : Hid (c = d0 ∨ c = d1) := by
         cases q' with
         | nil => injection hq8 with h _; exact .inl h
         | cons x q3 =>
           cases q3 with
           | nil => injection hq8 with _ h; injection h with h _; exact .inr h
           | cons y q4 => simp at hq1
       clear hq8 hq1
       have hck : k' < cap := by omega
       go_wp2_with fail
       refine (leU_at _ d0 d1 d2 d3 d4 d5 d6 d7 r b (off + k') _ _ (HB.out.drewN _) HL.out (by have := HL.out; omega) (by have := HL.out; omega)).mono ?_
       rintro e w1 ⟨rfl, n2, rfl⟩
       have hx := num8_lt d0 d1 d2 d3 d4 d5 d6 d7
       generalize hX : num8 d0.toNat d1.toNat d2.toNat d3.toNat d4.toNat d5.toNat d6.toNat d7.toNat = X at *
       have HX := Lib.hid hX
       have l0 := d0.toNat_lt; have l1 := d1.toNat_lt; have l2 := d2.toNat_lt; have l3 := d3.toNat_lt; have l4 := d4.toNat_lt; have l5 := d5.toNat_lt; have l6 := d6.toNat_lt; have l7 := d7.toNat_lt
       have HLT : Hid (X &&& 9259542123273814144 = 0 → hbb X 32 = 0 → 32 ≤ d0.toNat ∧ 32 ≤ d1.toNat) := fun h1 h2 => by
         obtain ⟨g0, g1, -⟩ := lower 32 X (by omega) HX.out.symm (by omega) (by omega) (by omega) (by omega) (by omega) (by omega) (by omega) (by omega) h1 h2
         exact ⟨g0, g1⟩
       have HNB : Hid (∀ z, z ≤ 127 → (z * 72340172838076673) &&& 9259542123273814144 = 0 → X &&& 9259542123273814144 = 0 → hbe X z = 0 → d0.toNat ≠ z ∧ d1.toNat ≠ z) := fun z hz hz2 h1 h2 => by
         obtain ⟨g0, g1, -⟩ := noByte z X hz hz2 HX.out.symm (by omega) (by omega) (by omega) (by omega) (by omega) (by omega) (by omega) (by omega) h1 h2
         exact ⟨g0, g1⟩
       clear hX l0 l1 l2 l3 l4 l5 l6 l7
       go_wp2_with fail
       refine (hbb_any X 32 hx (by omega) _).mono ?_
       rintro e w1 ⟨rfl, rfl⟩
       go_wp2_with fail
       refine (hbe_any X 39 hx (by omega) _).mono ?_
       rintro e w1 ⟨rfl, rfl⟩
       go_wp2_with fail
       refine (hbe_any X 127 hx (by omega) _).mono ?_
       rintro e w1 ⟨rfl, rfl⟩
       cases hwb : wordBadL X 39
       · exfalso
         obtain ⟨h1, h2, h3, h4⟩ := wordBadL_all hx hwb
         have g1 := HLT.out h1 h2
         have g2 := HNB.out 127 (by omega) (by decide) h1 h4
         have g3 := HC.out
         rcases H8.out with rfl | rfl <;> omega
       simp only [wordBadL] at hwb
       clear H8 HB HL HX HLT HNB
     all_goals
       have hat := at_suffix HM.out HQ.out hk'
       cases q' with
       | nil =>
         simp only [List.nil_append, List.length_nil] at hk' hq' hat
         have hc0 := hat.head.1
         have hC := HC.out
         clear hat
         rcases hC with h | h
         · rw [h] at hc0
           go_wp2_with fail
           refine (newErr_e _ _ _ _ _ (by omega) (by omega)).mono ?_
           rintro e w1 ⟨pe, rfl, hE, hbE⟩
           have HE := Lib.hid hE
           have HBE := Lib.hid hbE
           clear hE hbE
           go_wp2_with fail
           ((try simp only [Exit.inBlock, Exit.then]); refine bodyPost_ret (results_tmp4 rfl _ _ _) rfl ?_)
           exact ⟨pe, rfl, HE.out, by first | exact (Fr.drewN w _).1.trans HBE.out | exact ((Fr.drewN w _).1.trans (Fr.drewN _ _).1).trans HBE.out⟩
         · rw [h] at hc0
           go_wp2_with fail
           refine (newErr_e _ _ _ _ _ (by omega) (by omega)).mono ?_
           rintro e w1 ⟨pe, rfl, hE, hbE⟩
           have HE := Lib.hid hE
           have HBE := Lib.hid hbE
           clear hE hbE
           go_wp2_with fail
           ((try simp only [Exit.inBlock, Exit.then]); refine bodyPost_ret (results_tmp4 rfl _ _ _) rfl ?_)
           exact ⟨pe, rfl, HE.out, by first | exact (Fr.drewN w _).1.trans HBE.out | exact ((Fr.drewN w _).1.trans (Fr.drewN _ _).1).trans HBE.out⟩
       | cons x q3 =>
         have hX := HP.out x (HQ.out.subset (by simp))
         simp only [List.cons_append, List.length_cons] at hk' hq' hat
         have hc0 := hat.head.1
         have HQ3 : Hid (q3 <:+ p) := (List.suffix_cons _ _).trans HQ.out
         obtain ⟨h1, h2, h3, h4, h5⟩ : (32 ≤ (x.toNat : Int) ∧ (x.toNat : Int) < 127 ∧ (x.toNat : Int) ≠ 39 ∧ (x.toNat : Int) ≠ 34 ∧ (x.toNat : Int) ≠ 92) := by omega
         clear hat HQ hX
         generalize (x.toNat : Int) = x at *
         go_wp2_with fail
         go_roundg q3.length
         case measure => omega
         case rel => exact ⟨q3, k' + 1, by go_num, by omega, rfl, HQ3.out, _, rfl⟩
end Go.Proofs.Ytnlkbbpmpgdmiaa
namespace Go.Proofs.Ytnlkbbpmpgdmiaa
open Go.RowKit
set_option linter.unusedVariables false
set_option linter.unusedSimpArgs false
set_option maxRecDepth 100000 in
set_option maxHeartbeats 4000000 in
theorem bas_bad (p : List UInt8) (c : UInt8) (rest : List UInt8) (hp1 : p.length ≤ 1) (hp : ∀ x ∈ p, 32 ≤ x.toNat ∧ x.toNat < 127 ∧ x.toNat ≠ 39 ∧ x.toNat ≠ 34 ∧ x.toNat ≠ 92) (pv : Value) (b off cap M : Nat) (w : World) (hm : Bts w b off (34 :: (p ++ c :: rest))) (hc : (c.toNat = 10 ∨ c.toNat = 1) ∨ (c.toNat = 92 ∧ ∀ n, Calls Try.prog 84 #[pv, .slice (some ⟨b, off, none⟩) (M + 1) cap, .int .i64 (p.length + 1 : Int)] (w.drewN n) (BadS (w.drewN n)))) (hM : (p ++ c :: rest).length = M) (hcp : M + 1 ≤ cap) (hcb : M + 1 ≤ 140737488351232 ∧ cap ≤ 9223372036854775807) :
   Calls Try.prog 73 #[pv, .slice (some ⟨b, off, none⟩) (M + 1) cap] w (BadS w) := by
 have HM := Lib.hid hm
 have HP := Lib.hid hp
 have HP1 := Lib.hid hp1
 have HC := Lib.hid hc
 have HMM := Lib.hid hM
 have hPM : p.length + 1 ≤ M := by rw [← hM, List.length_append, List.length_cons]; omega
 clear hm hp hc hM hp1
 go_enter Try.func73, Try.ntmps73
 go_wp2_with fail
 go_loopg [8] p.length (fun g s8 wx => ∃ (q : List UInt8) (k : Nat), s8 = .int .i64 k ∧ k + q.length = p.length + 1 ∧ g = q.length ∧ Hid (q <:+ p) ∧ Hid (∃ n, wx = w.drewN n))
 case atStart => exact ⟨p, 1, rfl, by omega, rfl, List.suffix_refl _, 0, rfl⟩
 case round =>
   obtain ⟨q, k, rfl, hk, rfl, HQ0, HW⟩ := hrel
   go_wp2_with fail
   go_loopg [8] q.length (fun g s8 wx => ∃ (q' : List UInt8) (k' : Nat), s8 = .int .i64 k' ∧ k' + q'.length = p.length + 1 ∧ q'.length ≤ q.length ∧ g = q'.length ∧ Hid (q' <:+ p) ∧ Hid (∃ n, wx = w.drewN n))
   case atStart => exact ⟨q, k, rfl, hk, Nat.le_refl _, rfl, HQ0.out, HW.out⟩
   case round =>
     clear HW HQ0 hk
     obtain ⟨q', k', rfl, hk', hq', rfl, HQ, HW⟩ := hrel
     obtain ⟨n, rfl⟩ := HW.out
     clear HW
     have hk1 : 1 ≤ k' := by have := HQ.out.length_le; omega
     by_cases h8 : k' + 8 ≤ M + 1
     focus
       obtain ⟨d0, d1, d2, d3, d4, d5, d6, d7, r, hq8⟩ := eight (q := q') (s := c :: rest) (by have := HMM.out; rw [List.length_append] at this; have := HP1.out; omega)
       have HL : Hid (M + 1 - k' = r.length + 8) := by
         have h1 := congrArg List.length hq8
         have h2 := HMM.out
         simp only [List.length_append, List.length_cons] at h1 h2
         show _ = _
         omega
       have HB : Hid (Bts w b (off + k') (d0 :: d1 :: d2 :: d3 :: d4 :: d5 :: d6 :: d7 :: r)) := by
         have := at_suffix HM.out HQ.out hk'
         rw [hq8] at this
         exact this
       have hq1 : q'.length ≤ 1 := Nat.le_trans HQ.out.length_le HP1.out
       have H8 : Hid (c = d0 ∨ c = d1) := by
         cases q' with
         | nil => injection hq8 with h _; exact .inl h
         | cons x q3 =>
           cases q3 with
           | nil => injection hq8 with _ h; injection h with h _; exact .inr h
           | cons y q4 => simp at hq1
       clear hq8 hq1
       have hck : k' < cap := by omega
       go_wp2_with fail
       refine (leU_at _ d0 d1 d2 d3 d4 d5 d6 d7 r b (off + k') _ _ (HB.out.drewN _) HL.out (by have := HL.out; omega) (by have := HL.out; omega)).mono ?_
       rintro e w1 ⟨rfl, n2, rfl⟩
       have hx := num8_lt d0 d1 d2 d3 d4 d5 d6 d7
       generalize hX : num8 d0.toNat d1.toNat d2.toNat d3.toNat d4.toNat d5.toNat d6.toNat d7.toNat = X at *
       have HX := Lib.hid hX
       have l0 := d0.toNat_lt; have l1 := d1.toNat_lt; have l2 := d2.toNat_lt; have l3 := d3.toNat_lt; have l4 := d4.toNat_lt; have l5 := d5.toNat_lt; have l6 := d6.toNat_lt; have l7 := d7.toNat_lt
       have HLT : Hid (X &&& 9259542123273814144 = 0 → hbb X 32 = 0 → 32 ≤ d0.toNat ∧ 32 ≤ d1.toNat) := fun h1 h2 => by
         obtain ⟨g0, g1, -⟩ := lower 32 X (by omega) HX.out.symm (by omega) (by omega) (by omega) (by omega) (by omega) (by omega) (by omega) (by omega) h1 h2
         exact ⟨g0, g1⟩
       have HNB : Hid (∀ z, z ≤ 127 → (z * 72340172838076673) &&& 9259542123273814144 = 0 → X &&& 9259542123273814144 = 0 → hbe X z = 0 → d0.toNat ≠ z ∧ d1.toNat ≠ z) := fun z hz hz2 h1 h2 => by
         obtain ⟨g0, g1, -⟩ := noByte z X hz hz2 HX.out.symm (by omega) (by omega) (by omega) (by omega) (by omega) (by omega) (by omega) (by omega) h1 h2
         exact ⟨g0, g1⟩
       clear hX l0 l1 l2 l3 l4 l5 l6 l7
       go_wp2_with fail
       refine (hbb_any X 32 hx (by omega) _).mono ?_
       rintro e w1 ⟨rfl, rfl⟩
       go_wp2_with fail
       refine (hbe_any X 34 hx (by omega) _).mono ?_
       rintro e w1 ⟨rfl, rfl⟩
       go_wp2_with fail
       refine (hbe_any X 92 hx (by omega) _).mono ?_
       rintro e w1 ⟨rfl, rfl⟩
       go_wp2_with fail
       refine (hbe_any X 127 hx (by omega) _).mono ?_
       rintro e w1 ⟨rfl, rfl⟩
       cases hwb : wordBadB X
       · exfalso
         obtain ⟨h1, h2, h3⟩ := wordBadB_all hx hwb
         have g1 := HLT.out h1 h2
         have g2 := HNB.out 92 (by omega) (by decide) h1 h3
         rcases H8.out with rfl | rfl <;> rcases HC.out with (h | h) | ⟨h, -⟩ <;> omega
       simp only [wordBadB] at hwb
       clear H8 HB HL HX HLT HNB
     all_goals
       have hat := at_suffix HM.out HQ.out hk'
       cases q' with
       | nil =>
         simp only [List.nil_append, List.length_nil] at hk' hq' hat
         have hc0 := hat.head.1
         have hC := HC.out
         clear hat
         rcases hC.symm with ⟨h, h84⟩ | (h | h)
         focus
           rw [h] at hc0
           have H84' : Hid (∀ n, Calls Try.prog 84 #[pv, .slice (some ⟨b, off, none⟩) (M + 1) cap, .int .i64 (k' : Int)] (w.drewN n) (BadS (w.drewN n))) := by
             rw [show ((p.length : Int) + 1) = (k' : Int) from by omega] at h84
             exact h84
           clear h84
           go_wp2_with fail
           refine (H84'.out _).mono ?_
           rintro e w1 ⟨pe, rfl, hE, hb⟩
           have HE := Lib.hid hE
           have HB2 := Lib.hid hb
           clear hE hb
           go_wp2_with fail
           ((try simp only [Exit.inBlock, Exit.then]); refine bodyPost_ret (results_tmp4 rfl _ _ _) rfl ?_)
           exact ⟨pe, rfl, HE.out, (Fr.drewN w _).1.trans HB2.out⟩
         all_goals
           rw [h] at hc0
           go_wp2_with fail
           refine (newErr_e _ _ _ _ _ (by omega) (by omega)).mono ?_
           rintro e w1 ⟨pe, rfl, hE, hbE⟩
           have HE := Lib.hid hE
           have HBE := Lib.hid hbE
           clear hE hbE
           go_wp2_with fail
           ((try simp only [Exit.inBlock, Exit.then]); refine bodyPost_ret (results_tmp4 rfl _ _ _) rfl ?_)
           exact ⟨pe, rfl, HE.out, by first | exact (Fr.drewN w _).1.trans HBE.out | exact ((Fr.drewN w _).1.trans (Fr.drewN _ _).1).trans HBE.out⟩
       | cons x q3 =>
         have hX := HP.out x (HQ.out.subset (by simp))
         simp only [List.cons_append, List.length_cons] at hk' hq' hat
         have hc0 := hat.head.1
         have HQ3 : Hid (q3 <:+ p) := (List.suffix_cons _ _).trans HQ.out
         obtain ⟨h1, h2, h3, h4, h5⟩ : (32 ≤ (x.toNat : Int) ∧ (x.toNat : Int) < 127 ∧ (x.toNat : Int) ≠ 39 ∧ (x.toNat : Int) ≠ 34 ∧ (x.toNat : Int) ≠ 92) := by omega
         clear hat HQ hX
         generalize (x.toNat : Int) = x at *
         have e34 : (x == 34) = false := by simp; omega
         have e92 : (x == 92) = false := by simp; omega
         go_wp2_with fail
         go_roundg q3.length
         case measure => omega
         case rel => exact ⟨q3, k' + 1, by go_num, by omega, rfl, HQ3.out, _, rfl⟩
set_option maxRecDepth 100000 in
set_option maxHeartbeats 4000000 in
theorem com_bad (p : List UInt8) (c : UInt8) (rest : List UInt8) (hp1 : p.length ≤ 1) (hp : ∀ x ∈ p, 32 ≤ x.toNat ∧ x.toNat < 127) (hc : c.toNat = 1) (b off cap M : Nat) (w : World) (hm : Bts w b off (35 :: (p ++ c :: rest))) (hM : (p ++ c :: rest).length = M) (hcp : M + 1 ≤ cap) (hcb : M + 1 ≤ 140737488351232 ∧ cap ≤ 9223372036854775807) :
   Calls Try.prog 36 #[.slice (some ⟨b, off, none⟩) (M + 1) cap] w (BadC w) := by
 have HM := Lib.hid hm
 have HP := Lib.hid hp
 have HP1 := Lib.hid hp1
 have HC := Lib.hid hc
 have HMM := Lib.hid hM
 have hPM : p.length + 1 ≤ M := by rw [← hM, List.length_append, List.length_cons]; omega
 clear hm hp hc hM hp1
 go_enter Try.func36, Try.ntmps36
 go_wp2_with fail
 go_loopg [5, 6, 7] p.length (fun g s8 s9 s10 wx => ∃ (q : List UInt8) (k : Nat), s8 = .int .i64 k ∧ k + q.length = p.length + 1 ∧ g = q.length ∧ Hid (q <:+ p) ∧ Hid (∃ n, wx = w.drewN n))
 case atStart => exact ⟨p, 1, rfl, by omega, rfl, List.suffix_refl _, 0, rfl⟩
 case round =>
   obtain ⟨q, k, rfl, hk, rfl, HQ0, HW⟩ := hrel
   have he2 : k < M + 1 := by omega
   have tb : decide ((k : Int) < (M : Int) + 1) = true := by simp; omega
   go_wp2_with fail
   go_loopg [5, 6] q.length (fun g s8 s9 wx => ∃ (q' : List UInt8) (k' : Nat), s8 = .int .i64 k' ∧ k' + q'.length = p.length + 1 ∧ q'.length ≤ q.length ∧ g = q'.length ∧ Hid (q' <:+ p) ∧ Hid (∃ n, wx = w.drewN n))
   case atStart => exact ⟨q, k, rfl, hk, Nat.le_refl _, rfl, HQ0.out, HW.out⟩
   case round =>
     clear HW HQ0 hk tb he2
     obtain ⟨q', k', rfl, hk', hq', rfl, HQ, HW⟩ := hrel
     obtain ⟨n, rfl⟩ := HW.out
     clear HW
     have hk1 : 1 ≤ k' := by have := HQ.out.length_le; omega
     by_cases h8 : k' + 8 ≤ M + 1
     focus
       obtain ⟨d0, d1, d2, d3, d4, d5, d6, d7, r, hq8⟩ := eight (q := q') (s := c :: rest) (by have := HMM.out; rw [List.length_append] at this; have := HP1.out; omega)
       have HL : Hid (M + 1 - k' = r.length + 8) := by
         have h1 := congrArg List.length hq8
         have h2 := HMM.out
         simp only [List.length_append, List.length_cons] at h1 h2
         show _ = _
         omega
       have HB : Hid (Bts w b (off + k') (d0 :: d1 :: d2 :: d3 :: d4 :: d5 :: d6 :: d7 :: r)) := by
         have := at_suffix HM.out HQ.out hk'
         rw [hq8] at this
         exact this
       have hq1 : q'.length ≤ 1 := Nat.le_trans HQ.out.length_le HP1.out
       have H8 : Hid (c = d0 ∨ c = d1) := by
         cases q' with
         | nil => injection hq8 with h _; exact .inl h
         | cons x q3 =>
           cases q3 with
           | nil => injection hq8 with _ h; injection h with h _; exact .inr h
           | cons y q4 => simp at hq1
       clear hq8 hq1
       have hck : k' < cap := by omega
       go_wp2_with fail
       refine (leU_at _ d0 d1 d2 d3 d4 d5 d6 d7 r b (off + k') _ _ (HB.out.drewN _) HL.out (by have := HL.out; omega) (by have := HL.out; omega)).mono ?_
       rintro e w1 ⟨rfl, n2, rfl⟩
       have hx := num8_lt d0 d1 d2 d3 d4 d5 d6 d7
       generalize hX : num8 d0.toNat d1.toNat d2.toNat d3.toNat d4.toNat d5.toNat d6.toNat d7.toNat = X at *
       have HX := Lib.hid hX
       have l0 := d0.toNat_lt; have l1 := d1.toNat_lt; have l2 := d2.toNat_lt; have l3 := d3.toNat_lt; have l4 := d4.toNat_lt; have l5 := d5.toNat_lt; have l6 := d6.toNat_lt; have l7 := d7.toNat_lt
       have HLT : Hid (X &&& 9259542123273814144 = 0 → hbb X 32 = 0 → 32 ≤ d0.toNat ∧ 32 ≤ d1.toNat) := fun h1 h2 => by
         obtain ⟨g0, g1, -⟩ := lower 32 X (by omega) HX.out.symm (by omega) (by omega) (by omega) (by omega) (by omega) (by omega) (by omega) (by omega) h1 h2
         exact ⟨g0, g1⟩
       have HNB : Hid (∀ z, z ≤ 127 → (z * 72340172838076673) &&& 9259542123273814144 = 0 → X &&& 9259542123273814144 = 0 → hbe X z = 0 → d0.toNat ≠ z ∧ d1.toNat ≠ z) := fun z hz hz2 h1 h2 => by
         obtain ⟨g0, g1, -⟩ := noByte z X hz hz2 HX.out.symm (by omega) (by omega) (by omega) (by omega) (by omega) (by omega) (by omega) (by omega) h1 h2
         exact ⟨g0, g1⟩
       clear hX l0 l1 l2 l3 l4 l5 l6 l7
       go_wp2_with fail
       refine (hbb_any X 32 hx (by omega) _).mono ?_
       rintro e w1 ⟨rfl, rfl⟩
       go_wp2_with fail
       refine (hbe_any X 127 hx (by omega) _).mono ?_
       rintro e w1 ⟨rfl, rfl⟩
       cases hwb : wordBad X
       · exfalso
         obtain ⟨h1, h2, h3⟩ := wordBad_low hx hwb
         have g1 := HLT.out h1 h2
         have g3 := HC.out
         rcases H8.out with rfl | rfl <;> omega
       simp only [wordBad] at hwb
       clear H8 HB HL HX HLT HNB
     all_goals
       have hat := at_suffix HM.out HQ.out hk'
       cases q' with
       | nil =>
         simp only [List.nil_append, List.length_nil] at hk' hq' hat
         have hc0 := hat.head.1
         have hC := HC.out
         clear hat
         rw [hC] at hc0
         go_wp2_with fail
         refine (newErr_e _ _ _ _ _ (by omega) (by omega)).mono ?_
         rintro e w1 ⟨pe, rfl, hE, hbE⟩
         have HE := Lib.hid hE
         have HBE := Lib.hid hbE
         clear hE hbE
         go_wp2_with fail
         go_ret3
         exact ⟨pe, rfl, HE.out, by first | exact (Fr.drewN w _).1.trans HBE.out | exact ((Fr.drewN w _).1.trans (Fr.drewN _ _).1).trans HBE.out⟩
       | cons x q3 =>
         have hX := HP.out x (HQ.out.subset (by simp))
         simp only [List.cons_append, List.length_cons] at hk' hq' hat
         have hc0 := hat.head.1
         have HQ3 : Hid (q3 <:+ p) := (List.suffix_cons _ _).trans HQ.out
         obtain ⟨h1, h2⟩ : (32 ≤ (x.toNat : Int) ∧ (x.toNat : Int) < 127) := by omega
         clear hat HQ hX
         generalize (x.toNat : Int) = x at *
         go_wp2_with fail
         go_roundg q3.length
         case measure => omega
         case rel => exact ⟨q3, k' + 1, by go_num, by omega, rfl, HQ3.out, _, rfl⟩
end Go.Proofs.Ytnlkbbpmpgdmiaa
namespace Go.Proofs.Ytnlkbbpmpgdmiaa
open Go.RowKit
set_option linter.unusedVariables false
set_option linter.unusedSimpArgs false
def BadE (w : World) (e : Ending) (w' : World) : Prop := ∃ pe, e = .returned (.tuple #[.slice none 0 0, .int .i64 0, eV pe]) ∧ EAt w.heap.size w' pe ∧ Below w.heap.size w w'
set_option maxRecDepth 100000 in
set_option maxHeartbeats 1000000 in
theorem hex12_bad {r : List UInt8} (v : Value) (b off cap n : Nat) (w : World) (hm : Bts w b (off + 3) (49 :: 50 :: 34 :: r)) (hn : 7 ≤ n) (hc : n ≤ cap) (hcb : n ≤ 140737488351232 ∧ cap ≤ 9223372036854775807) :
   Calls Try.prog 101 #[v, .slice (some ⟨b, off, none⟩) n cap, .int .i64 3, .int .i64 4] w (BadE w) := by
 have c0 : w.cell? ⟨b, off + 3, none⟩ = some (.int .u8 49) := hm.head.1
 have c1 : w.cell? ⟨b, off + 4, none⟩ = some (.int .u8 50) := hm.head.2.head.1
 have c2 : w.cell? ⟨b, off + 5, none⟩ = some (.int .u8 34) := hm.head.2.head.2.head.1
 clear hm
 go_enter Try.func101, Try.ntmps101
 go_wp2_with fail
 go_loopg [11, 12] 4 (fun g s11 s12 wx => ∃ k : Nat, s12 = .int .i64 k ∧ k + g = 4 ∧ 2 ≤ g ∧ s11 = .int .u32 (if k = 0 then 0 else if k = 1 then 1 else 18) ∧ wx = w)
 case atStart => exact ⟨0, rfl, by omega, by omega, rfl, rfl⟩
 case round =>
   obtain ⟨k, rfl, hk, hg2, rfl, rfl⟩ := hrel
   obtain rfl | rfl | rfl : k = 0 ∨ k = 1 ∨ k = 2 := by omega
   · obtain rfl : gk = 4 := by omega
     go_wp2_with fail
     go_roundg 3
     case measure => omega
     case rel => exact ⟨1, by first | rfl | go_num, by omega, by omega, by rfl, rfl⟩
   · obtain rfl : gk = 3 := by omega
     go_wp2_with fail
     go_roundg 2
     case measure => omega
     case rel => exact ⟨2, by first | rfl | go_num, by omega, by omega, by rfl, rfl⟩
   · go_wp2_with fail
     refine (newErr_e _ _ _ _ _ (by omega) (by omega)).mono ?_
     rintro e w1 ⟨pe, rfl, hE, hbE⟩
     have HE := Lib.hid hE
     have HBE := Lib.hid hbE
     clear hE hbE
     go_wp2_with fail
     go_ret3
     exact ⟨pe, rfl, HE.out, HBE.out⟩
set_option maxRecDepth 100000 in
set_option maxHeartbeats 1000000 in
theorem hexD8_bad {r : List UInt8} (v : Value) (b off cap n : Nat) (w : World) (hm : Bts w b (off + 3) (68 :: 56 :: 48 :: 48 :: r)) (hn : 7 ≤ n) (hc : n ≤ cap) (hcb : n ≤ 140737488351232 ∧ cap ≤ 9223372036854775807) :
   Calls Try.prog 101 #[v, .slice (some ⟨b, off, none⟩) n cap, .int .i64 3, .int .i64 4] w (BadE w) := by
 have c0 : w.cell? ⟨b, off + 3, none⟩ = some (.int .u8 68) := hm.head.1
 have c1 : w.cell? ⟨b, off + 4, none⟩ = some (.int .u8 56) := hm.head.2.head.1
 have c2 : w.cell? ⟨b, off + 5, none⟩ = some (.int .u8 48) := hm.head.2.head.2.head.1
 have c3 : w.cell? ⟨b, off + 6, none⟩ = some (.int .u8 48) := hm.head.2.head.2.head.2.head.1
 clear hm
 go_enter Try.func101, Try.ntmps101
 go_wp2_with fail
 go_loopg [11, 12] 4 (fun g s11 s12 wx => ∃ k : Nat, s12 = .int .i64 k ∧ k + g = 4 ∧ s11 = .int .u32 (if k = 0 then 0 else if k = 1 then 13 else if k = 2 then 216 else if k = 3 then 3456 else 55296) ∧ wx = w)
 case atStart => exact ⟨0, rfl, by omega, rfl, rfl⟩
 case round =>
   obtain ⟨k, rfl, hk, rfl, rfl⟩ := hrel
   obtain rfl | rfl | rfl | rfl | rfl : k = 0 ∨ k = 1 ∨ k = 2 ∨ k = 3 ∨ k = 4 := by omega
   · obtain rfl : gk = 4 := by omega
     go_wp2_with fail
     go_roundg 3
     case measure => omega
     case rel => exact ⟨4 - 3, by first | rfl | go_num, by omega, by rfl, rfl⟩
   · obtain rfl : gk = 3 := by omega
     go_wp2_with fail
     go_roundg 2
     case measure => omega
     case rel => exact ⟨4 - 2, by first | rfl | go_num, by omega, by rfl, rfl⟩
   · obtain rfl : gk = 2 := by omega
     go_wp2_with fail
     go_roundg 1
     case measure => omega
     case rel => exact ⟨4 - 1, by first | rfl | go_num, by omega, by rfl, rfl⟩
   · obtain rfl : gk = 1 := by omega
     go_wp2_with fail
     go_roundg 0
     case measure => omega
     case rel => exact ⟨4 - 0, by first | rfl | go_num, by omega, by rfl, rfl⟩
   · go_wp2_with fail
     refine (newErr_e _ _ _ _ _ (by omega) (by omega)).mono ?_
     rintro e w1 ⟨pe, rfl, hE, hbE⟩
     have HE := Lib.hid hE
     have HBE := Lib.hid hbE
     clear hE hbE
     go_wp2_with fail
     go_ret3
     exact ⟨pe, rfl, HE.out, HBE.out⟩
def BadEsc (n : Nat) (s : List UInt8) : Prop := (∃ r, s = 113 :: r) ∨ (7 ≤ n ∧ ((∃ r, s = 117 :: 49 :: 50 :: 34 :: r) ∨ (∃ r, s = 117 :: 68 :: 56 :: 48 :: 48 :: r)))
set_option maxRecDepth 100000 in
set_option maxHeartbeats 1000000 in
theorem esc_bad {s : List UInt8} {n : Nat} (hs : BadEsc n s) (v : Value) (b off cap : Nat) (w : World) (hm : Bts w b (off + 2) s) (hn : 5 ≤ n) (hc : n ≤ cap) (hcb : n ≤ 140737488351232 ∧ cap ≤ 9223372036854775807) :
   Calls Try.prog 93 #[v, .slice (some ⟨b, off, none⟩) n cap, .int .i64 2] w (BadE w) := by
 rcases hs with ⟨r, rfl⟩ | ⟨hn, hs⟩
 · have c0 : w.cell? ⟨b, off + 2, none⟩ = some (.int .u8 113) := hm.head.1
   clear hm
   go_enter Try.func93, Try.ntmps93
   go_wp2_with fail
   refine (newErr_e _ _ _ _ _ (by omega) (by omega)).mono ?_
   rintro e w1 ⟨pe, rfl, hE, hbE⟩
   have HE := Lib.hid hE
   have HBE := Lib.hid hbE
   clear hE hbE
   go_wp2_with fail
   go_ret3
   exact ⟨pe, rfl, HE.out, HBE.out⟩
 · have HC : Hid (Calls Try.prog 101 #[v, .slice (some ⟨b, off, none⟩) n cap, .int .i64 3, .int .i64 4] w (BadE w)) := by
     rcases hs with ⟨r, rfl⟩ | ⟨r, rfl⟩
     · exact hex12_bad v b off cap n w hm.head.2 hn hc hcb
     · exact hexD8_bad v b off cap n w hm.head.2 hn hc hcb
   have c0 : w.cell? ⟨b, off + 2, none⟩ = some (.int .u8 117) := by rcases hs with ⟨r, rfl⟩ | ⟨r, rfl⟩ <;> exact hm.head.1
   clear hm hs
   go_enter Try.func93, Try.ntmps93
   go_wp2_with fail
   refine HC.out.mono ?_
   rintro e w1 ⟨pe, rfl, hE, hb⟩
   have HE := Lib.hid hE
   have HB := Lib.hid hb
   clear hE hb
   go_wp2_with fail
   go_ret3
   exact ⟨pe, rfl, HE.out, HB.out⟩
end Go.Proofs.Ytnlkbbpmpgdmiaa
namespace Go.Proofs.Ytnlkbbpmpgdmiaa
open Go.RowKit
set_option linter.unusedVariables false
set_option linter.unusedSimpArgs false
set_option maxRecDepth 100000 in
set_option maxHeartbeats 4000000 in
theorem basEsc_bad {s : List UInt8} {n : Nat} (hs : BadEsc n s) (pv : Value) (b off cap : Nat) (w : World) (hm : Bts w b off (34 :: 92 :: s)) (hl : (34 :: 92 :: s).length = n) (hn : 5 ≤ n) (hc : n ≤ cap) (hcb : n ≤ 140737488351232 ∧ cap ≤ 9223372036854775807) :
   Calls Try.prog 84 #[pv, .slice (some ⟨b, off, none⟩) n cap, .int .i64 1] w (BadS w) := by
 have HM := Lib.hid hm
 have HS := Lib.hid hs
 have HF : Hid (Calls Try.prog 94 #[.slice (some ⟨b, off, none⟩) n cap, .int .i64 1] w (FoundIs 1 n w)) := findBas_at (i := 1) n hl.symm hm hc hcb (by omega)
 have HbB : Hid (b < w.heap.size) := lt_of_cell HM.out.head.1
 clear hm hs hl
 generalize hB : w.heap.size = B at *
 have HB := Lib.hid hB
 clear hB
 obtain ⟨i5, hi5, hz5, hs5, hb5⟩ := info_parts info5
 have HB5 : Hid (∀ m : Nat, m ≤ 140737488351232 → i5.bytes * m ≤ 281474976710656) := fun m hm => by rw [hb5]; omega
 have HI5 := Lib.hid hi5
 have HZ5 := Lib.hid hz5
 have HS5 := Lib.hid hs5
 clear hi5 hz5 hs5 hb5
 go_enter Try.func84, Try.ntmps84
 go_wp2_with fail
 refine HF.out.mono ?_
 rintro e w1 ⟨r, hr, rfl, rfl⟩
 rcases hr with rfl | ⟨hr1, hr2⟩
 · go_upto_region 7 with (at_make
                          refine wpList_mk rfl _ _ 25 rfl 5 i5 _ 1 Try.underlying25 HI5.out HZ5.out HS5.out _ _ _ _ 0 ((n - 1)) rfl rfl (by first | rfl | simp) (by first | rfl | omega | (simp; omega)) (by omega) (HB5.out _ (by omega)) (by omega) ?_
                          intro wm hwm
                          rw [HB.out]
                          have HG : Hid (Blk wm B 5 (madeCells (Value.int IntKind.u8 0).cells (((n - 1)) * 1))) := by
                            rw [hwm, ← HB.out]
                            exact Blk.new w 5 _
                          have HBW : Hid (Below B w wm) := by rw [hwm]; exact Below.alloc' (by rw [HB.out]; exact Nat.le_refl _) _
                          have HMW : Hid (Bts wm b (off + 1) []) := fun i hi => absurd hi (by simp)
                          obtain ⟨wc, hr3, hbuf, hbw⟩ := copy_made (sc := cap - 1) HG.out HMW.out (P0 := 0) rfl (by omega) (by omega) HBW.out
                          have HBUF := Lib.hid hbuf
                          have HBC := Lib.hid hbw
                          have HBS : Hid (Bts wc b off (34 :: 92 :: s)) := HM.out.below hbw HbB.out
                          have HBZ : Hid (B ≤ wc.heap.size) := by have := hbw.size; have := HB.out; show _ ≤ _; omega
                          clear hwm hbuf hbw)
   have c1 : wc.cell? ⟨b, off + 1, none⟩ = some (.int .u8 92) := HBS.out.head.2.head.1
   have HS2 : Hid (Bts wc b (off + 2) s) := HBS.out.head.2.head.2
   go_loopg [2, 12] 0 (fun g s2 s12 wx => s2 = .int .i64 1 ∧ (∃ m, s12 = .slice (some ⟨B, 0, none⟩) 0 m) ∧ wx = wc)
   case atStart => exact ⟨by first | rfl | go_num, ⟨_, rfl⟩, rfl⟩
   case round =>
     obtain ⟨rfl, ⟨m, rfl⟩, rfl⟩ := hrel
     go_wp2_with fail
     refine (esc_bad HS.out _ b off cap _ HS2.out hn hc hcb).mono ?_
     rintro e w1 ⟨pe, rfl, hE, hb⟩
     have HE := Lib.hid (hE.mono HBZ.out)
     have HB1 := Lib.hid (hb.mono HBZ.out)
     clear hE hb
     go_wp2_with fail
     ((try simp only [Exit.inBlock, Exit.then]); refine bodyPost_ret (results_tmp4 rfl _ _ _) rfl ?_)
     rw [← HB.out] at HE HB1 HBC
     exact ⟨pe, rfl, HE.out, HBC.out.trans HB1.out⟩
 · obtain ⟨q, rfl⟩ : ∃ q : Nat, r = q := ⟨r.toNat, by omega⟩
   have hq1 : 1 ≤ q := by omega
   have hq2 : q < n := by omega
   clear hr1 hr2
   go_upto_region 7 with (at_make
                          refine wpList_mk rfl _ _ 25 rfl 5 i5 _ 1 Try.underlying25 HI5.out HZ5.out HS5.out _ _ _ _ 0 ((q - 1)) rfl rfl (by first | rfl | simp) (by first | rfl | omega | (simp; omega)) (by omega) (HB5.out _ (by omega)) (by omega) ?_
                          intro wm hwm
                          rw [HB.out]
                          have HG : Hid (Blk wm B 5 (madeCells (Value.int IntKind.u8 0).cells (((q - 1)) * 1))) := by
                            rw [hwm, ← HB.out]
                            exact Blk.new w 5 _
                          have HBW : Hid (Below B w wm) := by rw [hwm]; exact Below.alloc' (by rw [HB.out]; exact Nat.le_refl _) _
                          have HMW : Hid (Bts wm b (off + 1) []) := fun i hi => absurd hi (by simp)
                          obtain ⟨wc, hr3, hbuf, hbw⟩ := copy_made (sc := cap - 1) HG.out HMW.out (P0 := 0) rfl (by omega) (by omega) HBW.out
                          have HBUF := Lib.hid hbuf
                          have HBC := Lib.hid hbw
                          have HBS : Hid (Bts wc b off (34 :: 92 :: s)) := HM.out.below hbw HbB.out
                          have HBZ : Hid (B ≤ wc.heap.size) := by have := hbw.size; have := HB.out; show _ ≤ _; omega
                          clear hwm hbuf hbw)
   have c1 : wc.cell? ⟨b, off + 1, none⟩ = some (.int .u8 92) := HBS.out.head.2.head.1
   have HS2 : Hid (Bts wc b (off + 2) s) := HBS.out.head.2.head.2
   go_loopg [2, 12] 0 (fun g s2 s12 wx => s2 = .int .i64 1 ∧ (∃ m, s12 = .slice (some ⟨B, 0, none⟩) 0 m) ∧ wx = wc)
   case atStart => exact ⟨by first | rfl | go_num, ⟨_, rfl⟩, rfl⟩
   case round =>
     obtain ⟨rfl, ⟨m, rfl⟩, rfl⟩ := hrel
     go_wp2_with fail
     refine (esc_bad HS.out _ b off cap _ HS2.out hn hc hcb).mono ?_
     rintro e w1 ⟨pe, rfl, hE, hb⟩
     have HE := Lib.hid (hE.mono HBZ.out)
     have HB1 := Lib.hid (hb.mono HBZ.out)
     clear hE hb
     go_wp2_with fail
     ((try simp only [Exit.inBlock, Exit.then]); refine bodyPost_ret (results_tmp4 rfl _ _ _) rfl ?_)
     rw [← HB.out] at HE HB1 HBC
     exact ⟨pe, rfl, HE.out, HBC.out.trans HB1.out⟩
end Go.Proofs.Ytnlkbbpmpgdmiaa
namespace Go.Proofs.Ytnlkbbpmpgdmiaa
open Go.RowKit
set_option linter.unusedVariables false
set_option linter.unusedSimpArgs false
set_option maxRecDepth 100000 in
set_option maxHeartbeats 1000000 in
theorem v69_bas {B g b cap k : Nat} {D t : List UInt8} {y z : UInt8} {left err : Value} {nest : Nat} {ns : List Nd} {w : World} {a : Addr} (hps : PS B w g b cap false D left ns err nest) (hi : Inp w b cap D) (hp : Pos b cap D (34 :: y :: z :: t) a k) (hy : y.toNat ≠ 34) (m : Nat) (hm : m = (34 :: y :: z :: t).length)
   (h7 : ∀ pv, Calls Try.prog 73 #[pv, .slice (some a) m k] w (BadS w)) : Calls Try.prog 69 #[.pointer (some ⟨g, 0, none⟩), .slice (some a) m k] w (BadR B g b cap D left err nest w) := by
 have hb0 := hi.doc.suffix hp.suf
 have ha := hp.addr (by simp)
 have c0 : w.cell? a = some (.int .u8 34) := by rw [ha]; exact hb0.head.1
 have c1 : w.cell? ⟨b, D.length - (34 :: y :: z :: t).length + 1, none⟩ = some (.int .u8 y.toNat) := hb0.head.2.head.1
 have hroom := hp.room
 have hle := hp.le
 have hfits := hi.fits
 have hbnd := hi.bound
 have hm2 : 3 ≤ m := by rw [hm]; simp
 rw [← hm] at hroom hle
 generalize D.length - (34 :: y :: z :: t).length = o at *
 subst ha
 have e1 : ((y.toNat : Int) == 34) = false := by simp; omega
 have HC := Lib.hid (h7 (.pointer (some ⟨g, 0, none⟩)))
 have HPS := Lib.hid hps
 clear hps hi hp h7 hb0 hm hy
 go_enter Try.func69, Try.ntmps69
 go_wp2_with fail
 refine HC.out.mono ?_
 rintro e w1 ⟨pe, rfl, hE, hb⟩
 have HE := Lib.hid hE
 have HB := Lib.hid hb
 clear hE hb
 go_wp2_with fail
 go_ret3
 exact ⟨pe, _, rfl, HE.out.mono HPS.out.le, HPS.out.kp HB.out, Fr.of_below HB.out HPS.out.le⟩
set_option maxRecDepth 100000 in
set_option maxHeartbeats 1000000 in
theorem v69_lit {B g b cap k : Nat} {D t : List UInt8} {y z : UInt8} {left err : Value} {nest : Nat} {ns : List Nd} {w : World} {a : Addr} (hps : PS B w g b cap false D left ns err nest) (hi : Inp w b cap D) (hp : Pos b cap D (39 :: y :: z :: t) a k) (hy : y.toNat ≠ 39) (m : Nat) (hm : m = (39 :: y :: z :: t).length)
   (h7 : ∀ pv, Calls Try.prog 75 #[pv, .slice (some a) m k] w (BadS w)) : Calls Try.prog 69 #[.pointer (some ⟨g, 0, none⟩), .slice (some a) m k] w (BadR B g b cap D left err nest w) := by
 have hb0 := hi.doc.suffix hp.suf
 have ha := hp.addr (by simp)
 have c0 : w.cell? a = some (.int .u8 39) := by rw [ha]; exact hb0.head.1
 have c1 : w.cell? ⟨b, D.length - (39 :: y :: z :: t).length + 1, none⟩ = some (.int .u8 y.toNat) := hb0.head.2.head.1
 have hroom := hp.room
 have hle := hp.le
 have hfits := hi.fits
 have hbnd := hi.bound
 have hm2 : 3 ≤ m := by rw [hm]; simp
 rw [← hm] at hroom hle
 generalize D.length - (39 :: y :: z :: t).length = o at *
 subst ha
 have e1 : ((y.toNat : Int) == 39) = false := by simp; omega
 have HC := Lib.hid (h7 (.pointer (some ⟨g, 0, none⟩)))
 have HPS := Lib.hid hps
 clear hps hi hp h7 hb0 hm hy
 go_enter Try.func69, Try.ntmps69
 go_wp2_with fail
 refine HC.out.mono ?_
 rintro e w1 ⟨pe, rfl, hE, hb⟩
 have HE := Lib.hid hE
 have HB := Lib.hid hb
 clear hE hb
 go_wp2_with fail
 go_ret3
 exact ⟨pe, _, rfl, HE.out.mono HPS.out.le, HPS.out.kp HB.out, Fr.of_below HB.out HPS.out.le⟩
set_option maxRecDepth 100000 in
set_option maxHeartbeats 1000000 in
theorem v69_def {B g b cap k : Nat} {D t : List UInt8} {c : UInt8} {left err : Value} {nest : Nat} {ns : List Nd} {w : World} {a : Addr} (hps : PS B w g b cap false D left ns err nest) (hi : Inp w b cap D) (hp : Pos b cap D (c :: t) a k) (hc : c.toNat = 10 ∨ c.toNat = 93) (m : Nat) (hm : m = (c :: t).length) :
   Calls Try.prog 69 #[.pointer (some ⟨g, 0, none⟩), .slice (some a) m k] w (BadR B g b cap D left err nest w) := by
 have ha := hp.addr (by simp)
 have c0 : w.cell? a = some (.int .u8 c.toNat) := by rw [ha]; exact (hi.doc.suffix hp.suf).head.1
 have hroom := hp.room
 have hle := hp.le
 have hfits := hi.fits
 have hbnd := hi.bound
 have hm2 : 1 ≤ m := by rw [hm]; simp
 rw [← hm] at hroom hle
 have HPS := Lib.hid hps
 clear hps hi hp hm ha
 rcases hc with h | h
 all_goals
   rw [h] at c0
   go_enter Try.func69, Try.ntmps69
   go_wp2_with fail
   refine (newErr_e _ _ _ _ _ (by omega) (by omega)).mono ?_
   rintro e w1 ⟨pe, rfl, hE, hbE⟩
   have HE := Lib.hid hE
   have HBE := Lib.hid hbE
   clear hE hbE
   go_wp2_with fail
   go_ret3
   exact ⟨pe, _, rfl, HE.out.mono HPS.out.le, HPS.out.kp HBE.out, Fr.of_below HBE.out HPS.out.le⟩
set_option maxRecDepth 100000 in
set_option maxHeartbeats 1000000 in
theorem v69_tru {B g b cap k : Nat} {D t : List UInt8} {left err : Value} {nest : Nat} {ns : List Nd} {w : World} {a : Addr} (hps : PS B w g b cap false D left ns err nest) (hi : Inp w b cap D) (hp : Pos b cap D (116 :: 114 :: 117 :: 10 :: t) a k) (m : Nat) (hm : m = (116 :: 114 :: 117 :: 10 :: t).length) :
   Calls Try.prog 69 #[.pointer (some ⟨g, 0, none⟩), .slice (some a) m k] w (BadR B g b cap D left err nest w) := by
 have ha := hp.addr (by simp)
 have hb0 := hi.doc.suffix hp.suf
 have c0 : w.cell? a = some (.int .u8 116) := by rw [ha]; exact hb0.head.1
 have hcv : ∀ c, (convert 25 9 (.slice (some a) 4 c)).run Try.prog w = .ok (.string ⟨#[116, 114, 117, 10]⟩) w := fun c => by
   rw [ha]
   exact conv_bts (c := c) (s := [116, 114, 117, 10]) (Bts.pre (r := t) hb0)
 have hroom := hp.room
 have hle := hp.le
 have hfits := hi.fits
 have hbnd := hi.bound
 have hm2 : 4 ≤ m := by rw [hm]; simp
 rw [← hm] at hroom hle
 have HPS := Lib.hid hps
 have H85 : Hid (Calls Try.prog 85 #[.slice (some a) m k, .string ⟨#[116, 114, 117, 101]⟩, .int .i64 9] w (fun e w' => ∃ pe, e = .returned (.tuple #[.int .i64 0, .slice none 0 0, .slice none 0 0, .slice none 0 0, eV pe]) ∧ EAt w.heap.size w' pe ∧ Below w.heap.size w w')) := by
   have h4 : ∀ c, (convert 25 9 (.slice (some a) 4 c)).run Try.prog w = .ok (.string ⟨#[116, 114, 117, 10]⟩) w := hcv
   clear hps hi hp hm ha c0 hb0 HPS
   go_enter Try.func85, Try.ntmps85
   go_wp2_with fail
   refine (newErr_e _ _ _ _ _ (by omega) (by omega)).mono ?_
   rintro e w1 ⟨pe, rfl, hE, hbE⟩
   have HE := Lib.hid hE
   have HBE := Lib.hid hbE
   clear hE hbE
   go_wp2_with fail
   ((try simp only [Exit.inBlock, Exit.then]); refine bodyPost_ret (results_tmp5 rfl _ _ _) rfl ?_)
   exact ⟨pe, rfl, HE.out, HBE.out⟩
 have H76 : Hid (Calls Try.prog 76 #[.pointer (some ⟨g, 0, none⟩), .slice (some a) m k, .string ⟨#[116, 114, 117, 101]⟩, .int .i64 9] w (BadR B g b cap D left err nest w)) := by
   clear hps hi hp hm ha c0 hb0 hcv
   go_enter Try.func76, Try.ntmps76
   go_wp2_with fail
   refine H85.out.mono ?_
   rintro e w1 ⟨pe, rfl, hE, hb⟩
   have HE := Lib.hid hE
   have HB := Lib.hid hb
   clear hE hb
   go_wp2_with fail
   go_ret3
   exact ⟨pe, _, rfl, HE.out.mono HPS.out.le, HPS.out.kp HB.out, Fr.of_below HB.out HPS.out.le⟩
 clear hps hi hp hm ha hb0 hcv H85
 go_enter Try.func69, Try.ntmps69
 go_wp2_with fail
 refine H76.out.mono ?_
 rintro e w1 ⟨pe, ns', rfl, hE, hps1, hf1⟩
 have HE := Lib.hid hE
 have HPS1 := Lib.hid hps1
 have HF1 := Lib.hid hf1
 clear hE hps1 hf1
 go_wp2_with fail
 go_ret3
 exact ⟨pe, _, rfl, HE.out, HPS1.out, HF1.out⟩
end Go.Proofs.Ytnlkbbpmpgdmiaa
namespace Go.Proofs.Ytnlkbbpmpgdmiaa
open Go.RowKit
set_option linter.unusedVariables false
set_option linter.unusedSimpArgs false
inductive Junk : Bool → List UInt8 → Prop
 | nil (av : Bool) : Junk av []
 | ws (av : Bool) (s : List UInt8) (c : UInt8) : c = 32 ∨ c = 9 → Junk av s → Junk av (c :: s)
 | nl (av : Bool) (s : List UInt8) : Junk av s → Junk av (10 :: s)
 | crnl (av : Bool) (s : List UInt8) : Junk av s → Junk av (13 :: 10 :: s)
 | com (av : Bool) (p s : List UInt8) : (∀ c ∈ p, Plain c) → LineBr s → Junk av s → Junk av (35 :: (p ++ s))
 | hd (s : List UInt8) (c : UInt8) : Hd c → Junk true (c :: s)
 | comma (s : List UInt8) : Junk false s → Junk true (44 :: s)
 | comma2 (s : List UInt8) : Junk false (44 :: s)
theorem DocTxt.junk {es : List Ex} {s : List UInt8} (h : DocTxt [] es s) : Junk true s := by
 induction h with
 | nil => exact .nil _
 | ws es s c h1 _ ih => exact .ws _ _ _ h1 ih
 | nl es s _ ih => exact .nl _ _ ih
 | crnl es s _ ih => exact .crnl _ _ ih
 | com es p s h1 h2 _ ih => exact .com _ _ _ h1 h2 ih
 | ex x es t u s h1 _ _ _ _ _ =>
   obtain ⟨c, r, rfl, hc, _⟩ := h1.head
   exact .hd _ _ hc
theorem Junk.strip {av : Bool} {s : List UInt8} (h : Junk av s) : ∃ s', Junk av s' ∧ skipWs s = s' ∧ s'.length ≤ s.length ∧ ∀ c r, s' = c :: r → ¬ (c = 32 ∨ c = 9) := by
 induction h with
 | nil av => exact ⟨[], .nil av, rfl, Nat.le_refl _, fun c r h => by cases h⟩
 | ws av s c h1 h2 ih =>
   obtain ⟨s', g1, g2, g3, g4⟩ := ih
   refine ⟨s', g1, ?_, by simp only [List.length_cons]; omega, g4⟩
   rw [skipWs_yes (by rcases h1 with rfl | rfl <;> decide)]
   exact g2
 | nl av s h => exact ⟨_, .nl av s h, skipWs_no (by decide), Nat.le_refl _, fun c r h => by injection h with h _; subst h; decide⟩
 | crnl av s h => exact ⟨_, .crnl av s h, skipWs_no (by decide), Nat.le_refl _, fun c r h => by injection h with h _; subst h; decide⟩
 | com av p s h1 h2 h => exact ⟨_, .com av p s h1 h2 h, skipWs_no (by decide), Nat.le_refl _, fun c r h => by injection h with h _; subst h; decide⟩
 | hd s c hc => exact ⟨_, .hd s c hc, skipWs_no hc.noWs, Nat.le_refl _, fun c' r h => by injection h with h _; subst h; rintro (h | h) <;> exact absurd hc.facts (by rw [h]; decide)⟩
 | comma s h => exact ⟨_, .comma s h, skipWs_no (by decide), Nat.le_refl _, fun c r h => by injection h with h _; subst h; decide⟩
 | comma2 s => exact ⟨_, .comma2 s, skipWs_no (by decide), Nat.le_refl _, fun c r h => by injection h with h _; subst h; decide⟩
theorem Pos.skip {b cap k1 o1 : Nat} {D P s3 : List UInt8} (h : Pos b cap D (P ++ s3) ⟨b, o1, none⟩ k1) (hf : D.length ≤ cap) (ho : D.length - (P ++ s3).length = o1) :
   ∃ o2 k2, Hid (Pos b cap D s3 ⟨b, o2, none⟩ k2) ∧ ((k1 = P.length ∧ o2 = o1 ∧ k2 = 0) ∨ (k1 ≠ P.length ∧ o2 = o1 + P.length ∧ k2 = k1 - P.length)) := by
 have h1 := h.room
 rw [List.length_append] at h1
 by_cases hk : k1 = P.length
 · exact ⟨o1, 0, h.after hf (fun h => by omega) (by omega), .inl ⟨hk, rfl, rfl⟩⟩
 · exact ⟨o1 + P.length, k1 - P.length, h.after hf (fun _ => by rw [ho]) rfl, .inr ⟨hk, rfl, rfl⟩⟩
def ItGot (B g b cap : Nat) (D : List UInt8) (left err : Value) (nest : Nat) (ns : List Nd) (j : List UInt8) (w : World) (e : Ending) (w' : World) : Prop :=
 ∃ ys a2 k2, e = .returned (.tuple #[.int .i32 ((ns.length : Int) + 1), .slice (some a2) j.length k2, .nilIface]) ∧ Pos b cap D j a2 k2 ∧ PS B w' g b cap false D left (ns ++ ys) err nest ∧ Fr B w w'
def JRel (t j : List UInt8) (B g b cap : Nat) (D : List UInt8) (left err : Value) (nest : Nat) (ns : List Nd) (nd : Nd) (pb arb lcb : Nat) (w : World) (gg : Nat) (s1 s12 : Value) (wx : World) : Prop :=
 ∃ (s : List UInt8) (av : Bool) (a : Addr) (k : Nat) (xs : List Nd), gg = s.length ∧ s1 = .slice (some a) s.length k ∧ s12 = .bool av ∧ Pos b cap D s a k ∧ PS B wx g b cap false D left xs err nest ∧ Inp wx b cap D ∧ Fr B w wx ∧ Blk wx pb 63 #[.pointer (some ⟨g, 0, none⟩)] ∧
   ((s = t ++ j ∧ av = false ∧ xs = ns ++ [nd] ∧ Blk wx lcb 21 #[.int .i32 0] ∧ Blk wx arb 21 #[.int .i32 ((ns.length : Int) + 1)]) ∨ Junk av s)
set_option maxRecDepth 100000 in
set_option maxHeartbeats 8000000 in
theorem list77_bad {B g b cap k : Nat} {D t j : List UInt8} {c : UInt8} {r : List UInt8} {left err : Value} {nest : Nat} {ns : List Nd} {w : World} {a : Addr} {c0 : UInt8} (hps : PS B w g b cap false D left ns err nest) (hi : Inp w b cap D) (ht : t = c :: r) (hc : Hd c) (hj : Junk true j) (hjt : j.length < (t ++ j).length)
   (hp : Pos b cap D (c0 :: (t ++ j)) a k) (hn : ns.length ≤ 300000) (m : Nat) (hm : m = (t ++ j).length + 1)
   (hval : ∀ (w' : World) (a' : Addr) (k' : Nat) (nd : Nd), PS B w' g b cap false D left (ns ++ [nd]) err nest → Inp w' b cap D → Pos b cap D (t ++ j) a' k' → Calls Try.prog 69 #[.pointer (some ⟨g, 0, none⟩), .slice (some a') (t ++ j).length k'] w' (ItGot B g b cap D left err nest (ns ++ [nd]) j w')) :
   Calls Try.prog 77 #[.pointer (some ⟨g, 0, none⟩), .slice (some a) m k] w (BadR B g b cap D left err nest w) := by
 have HSK0 : Hid (skipWs (t ++ j) = t ++ j) := by rw [ht]; exact skipWs_no hc.noWs
 have HT0 := Lib.hid ht
 have HC0 := Lib.hid hc
 have HJ := Lib.hid hj
 have HJT := Lib.hid hjt
 have HVAL := Lib.hid hval
 have HPOS0 : Hid (0 < (t ++ j).length) := by show _ < _; omega
 have hpos0 : 0 < (t ++ j).length := by omega
 clear ht hc hj hjt hval
 have hroom := hp.room
 have hle := hp.le
 have hfits := hi.fits
 have hbnd := hi.bound
 have ha := hp.addr (by simp)
 simp only [List.length_cons] at hroom hle
 generalize ho : D.length - (c0 :: (t ++ j) : List UInt8).length = o at *
 have hp1 : Pos b cap D (t ++ j) ⟨b, o + 1, none⟩ (k - 1) := hp.tail hfits (fun _ => by rw [ho]) rfl
 have HP1 := Lib.hid hp1
 have HP0 := Lib.hid hp
 have HI := Lib.hid hi
 have HPS := Lib.hid hps
 have hns := hps.le
 subst ha
 have hk1 : ¬ k = 1 := by omega
 have hk2 : 1 ≤ k := by omega
 have hm1 : 1 ≤ m := by omega
 have HM : Hid (m - 1 = (t ++ j).length) := by show _ = _; omega
 have hm2 : m ≤ k := by omega
 have hkb : k ≤ 9223372036854775807 := by omega
 have HRG : Hid (∀ {w' : World}, PS B w' g b cap false D left ns err nest → Calls Try.prog 39 #[.pointer (some ⟨g, 0, none⟩), .slice (some ⟨b, o, none⟩) 1 k] w' (RangeIs w')) := fun h => range_at h HI.out.fits HI.out.bound HP0.out 1 (by simp)
 have hns4 : ns.length ≤ 400000 := by omega
 clear hps hi hp hp1 ho hroom hle hfits hbnd hpos0 hm
 go_enter Try.func77, Try.ntmps77
 go_wp2_with fail
 refine (push_any (HPS.out.kp ((Below.refl _ _).alloc (Nat.le_refl _) _)) 6 0 0 (.slice none 0 0) rfl hns4).mono ?_
 rintro e w1 ⟨rfl, hps1, hf1⟩
 have HPS2 := Lib.hid hps1
 have HF1 := Lib.hid hf1
 clear hps1 hf1
 go_wp2_with fail
 have hsz1 : w.heap.size + 1 ≤ w1.heap.size := by have := HF1.out.1.size; simp at this; omega
 have hB1 : B ≤ w1.heap.size := by omega
 have HPW : Hid (PS B ((w1.alloc (Obj.cells #[Value.int IntKind.i32 (↑ns.length + 1)] 21)).alloc (Obj.cells #[Value.int IntKind.i32 0] 21)) g b cap false D left (ns ++ [(⟨6, 0, 0, .slice none 0 0, 0, 0⟩ : Nd)]) err nest) := HPS2.out.kp (((Below.refl _ _).alloc (Nat.le_refl _) _).alloc (by simp) _)
 have HBP : Hid (Blk ((w1.alloc (Obj.cells #[Value.int IntKind.i32 (↑ns.length + 1)] 21)).alloc (Obj.cells #[Value.int IntKind.i32 0] 21)) w.heap.size 63 #[.pointer (some ⟨g, 0, none⟩)]) := ((HF1.out.2.2 _ _ _ (by decide) (by decide) (Blk.new w 63 _)).alloc _).alloc _
 have HBA : Hid (Blk ((w1.alloc (Obj.cells #[Value.int IntKind.i32 (↑ns.length + 1)] 21)).alloc (Obj.cells #[Value.int IntKind.i32 0] 21)) w1.heap.size 21 #[.int .i32 ((ns.length : Int) + 1)]) := (Blk.new w1 21 _).alloc _
 have HBL : Hid (Blk ((w1.alloc (Obj.cells #[Value.int IntKind.i32 (↑ns.length + 1)] 21)).alloc (Obj.cells #[Value.int IntKind.i32 0] 21)) (w1.heap.size + 1) 21 #[.int .i32 0]) := by
   have := Blk.new (w1.alloc (Obj.cells #[Value.int IntKind.i32 (↑ns.length + 1)] 21)) 21 #[.int .i32 0]
   rwa [show (w1.alloc (Obj.cells #[Value.int IntKind.i32 (↑ns.length + 1)] 21)).heap.size = w1.heap.size + 1 from by simp] at this
 have HFW : Hid (Fr B w ((w1.alloc (Obj.cells #[Value.int IntKind.i32 (↑ns.length + 1)] 21)).alloc (Obj.cells #[Value.int IntKind.i32 0] 21))) := (((Fr.alloc hns _).trans HF1.out).trans (Fr.alloc hB1 _)).trans (Fr.alloc (by simp; omega) _)
 have HIW := Lib.hid (HI.out.kp HFW.out.2)
 have hB : B ≤ w.heap.size := hns
 generalize ((w1.alloc (Obj.cells #[Value.int IntKind.i32 (↑ns.length + 1)] 21)).alloc (Obj.cells #[Value.int IntKind.i32 0] 21)) = ws at *
 generalize hlcb : w1.heap.size + 1 = lcb at *
 generalize w1.heap.size = arb at *
 have hlw : w.heap.size ≤ lcb := by omega
 have hBl : B ≤ lcb := by omega
 have hal : arb ≠ lcb := by omega
 have HW0 : Hid (w.heap.size ≤ lcb) := hlw
 generalize hpbq : w.heap.size = pb at *
 have HPBQ := Lib.hid hpbq
 clear HF1 HPS2 HPS HI HP0 hsz1 hB1 hpbq hlcb
 have HRel : Hid (JRel t j B g b cap D left err nest ns (⟨6, 0, 0, .slice none 0 0, 0, 0⟩ : Nd) pb arb lcb w (t ++ j).length (.slice (some ⟨b, o + 1, none⟩) (m - 1) (k - 1)) (.bool false) ws) :=
   ⟨t ++ j, false, _, _, _, rfl, by rw [HM.out], rfl, HP1.out, HPW.out, HIW.out, HFW.out, HBP.out, .inl ⟨rfl, rfl, rfl, HBL.out, HBA.out⟩⟩
 clear HP1 HPW HBL HBP HBA HIW
 refine wp_loop_u2 135 1 12 (fun U => U 0 = .pointer (some ⟨g, 0, none⟩) ∧ U 2 = .pointer (some ⟨pb, 0, none⟩) ∧ U 7 = .pointer (some ⟨arb, 0, none⟩) ∧ U 8 = .pointer (some ⟨lcb, 0, none⟩) ∧ U 9 = .func (.func 86) #[] #[.pointer (some ⟨lcb, 0, none⟩), .pointer (some ⟨pb, 0, none⟩), .pointer (some ⟨arb, 0, none⟩)]) (fun s1 s12 U => ⟨#[.pointer (some ⟨g, 0, none⟩), s1, .pointer (some ⟨pb, 0, none⟩), U 3, U 4, U 5, U 6, .pointer (some ⟨arb, 0, none⟩), .pointer (some ⟨lcb, 0, none⟩), .func (.func 86) #[] #[.pointer (some ⟨lcb, 0, none⟩), .pointer (some ⟨pb, 0, none⟩), .pointer (some ⟨arb, 0, none⟩)], U 10, U 11, s12, U 13, U 14, U 15, U 16, U 17, U 18, U 19, U 20, U 21, U 22, U 23, U 24, U 25, U 26, U 27, U 28, U 29, U 30, U 31, U 32, U 33, U 34, U 35, U 36, U 37, U 38, U 39, U 40, U 41, U 42, U 43, U 44, U 45, U 46, U 47, U 48, U 49, U 50, U 51, U 52, U 53, U 54, U 55, U 56, U 57, U 58, U 59, U 60, U 61, U 62, U 63, U 64, U 65, U 66, U 67, U 68, U 69, U 70, U 71, U 72, U 73, U 74, U 75, U 76, U 77, U 78, U 79, U 80, U 81, U 82, U 83, U 84, U 85, U 86, U 87, U 88, U 89, U 90, U 91, U 92, U 93, U 94, U 95, U 96, U 97, U 98, U 99, U 100, U 101, U 102, U 103, U 104, U 105, U 106, U 107, U 108, U 109, U 110, U 111, U 112, U 113, U 114, U 115, U 116, U 117, U 118, U 119, U 120, U 121, U 122, U 123, U 124, U 125, U 126, U 127, U 128, U 129, U 130, U 131, U 132, U 133, U 134], []⟩) (by rintro U ⟨h0, h1, h2, h3, h4⟩; rw [← h4, ← h0, ← h1, ← h2, ← h3]; rfl) (fun gg s1 s12 wx => JRel t j B g b cap D left err nest ns (⟨6, 0, 0, .slice none 0 0, 0, 0⟩ : Nd) pb arb lcb w gg s1 s12 wx) (t ++ j).length (.slice (some ⟨b, o + 1, none⟩) (m - 1) (k - 1)) (.bool false) ⟨rfl, rfl, rfl, rfl, rfl, rfl, rfl⟩ rfl rfl HRel.out ?_
 intro gk u1 u12 U wr hrel J K hJ hK
 clear HRel HFW
 obtain ⟨s1, av, a0, k0, xs, rfl, rfl, rfl, hpos, hps, hin, hf, hbp, hph⟩ := hrel
 have HIN := Lib.hid hin
 have HPOS := Lib.hid hpos
 have HPS1 := Lib.hid hps
 have HF := Lib.hid hf
 have HBP := Lib.hid hbp
 have cp : wr.cell? ⟨pb, 0, none⟩ = some (.pointer (some ⟨g, 0, none⟩)) := by have := hbp.cell 0; simpa using this
 have lp := hbp.lt
 obtain ⟨ck, lg⟩ := hps.kcell
 have hfits := HIN.out.fits
 have hbnd := HIN.out.bound
 generalize hL0 : s1.length = L0 at *
 have HL0 := Lib.hid hL0
 clear hin hpos hps hf hbp hL0
 go_wp2_with fail
 refine (skip_at L0 HIN.out HPOS.out HL0.out.symm).mono ?_
 rintro e w1 ⟨a1, k1, he, hp1, rfl⟩
 rcases hph with ⟨rfl, rfl, rfl, hbl, hba⟩ | hjk
 · rw [HSK0.out] at he hp1
   have hx : wr.cell? a1 = some (.int .u8 c.toNat) := by
     rw [hp1.addr HPOS0.out]
     have h := HIN.out.doc.suffix hp1.suf
     rw [HT0.out] at h ⊢
     exact h.head.1
   obtain ⟨i10, i13, i35, i44, i93, i125⟩ := HC0.out.ifacts
   have HC := Lib.hid (HVAL.out _ _ _ _ HPS1.out HIN.out hp1)
   have HBL := Lib.hid hbl
   have HBA := Lib.hid hba
   rw [HL0.out] at he HC
   subst he
   have hl3 : 0 < L0 := by rw [← HL0.out]; exact HPOS0.out
   clear hp1 hbl hba
   go_wp2_with fail
   refine HC.out.mono ?_
   rintro e w2 ⟨ys, a3, k3, he, hp3, hps3, hf3⟩
   obtain ⟨h, hh⟩ : ∃ h : Nat, h = (ns ++ [(⟨6, 0, 0, .slice none 0 0, 0, 0⟩ : Nd)]).length + 1 := ⟨_, rfl⟩
   have he' : e = .returned (.tuple #[.int .i32 (h : Int), .slice (some a3) j.length k3, .nilIface]) := by rw [he, hh]; rfl
   have HB2 : Hid (Blk w2 lcb 21 #[.int .i32 0] ∧ Blk w2 pb 63 #[.pointer (some ⟨g, 0, none⟩)] ∧ Blk w2 arb 21 #[.int .i32 ((ns.length : Int) + 1)]) := ⟨hf3.2.2 _ _ _ (by decide) (by decide) HBL.out, hf3.2.2 _ _ _ (by decide) (by decide) HBP.out, hf3.2.2 _ _ _ (by decide) (by decide) HBA.out⟩
   have HFW : Hid (Fr B w w2) := HF.out.trans hf3
   have HIN2 : Hid (Inp w2 b cap D) := HIN.out.kp hf3.2
   have HP3 := Lib.hid hp3
   have HC2 := app_first86 (h := h) (A := ns.length) (x := (⟨6, 0, 0, .slice none 0 0, 0, 0⟩ : Nd)) hps3 (by simp) rfl hps3.count HB2.out.1 HB2.out.2.1 HB2.out.2.2 hal rfl
   generalize hL4 : j.length = L4 at *
   have HL4 := Lib.hid hL4
   clear he hp3 hps3 hf3 hh hL4 HC HIN HPS1 HF HBP HBL HBA hx cp ck
   subst he'
   go_wp2_with fail
   refine HC2.mono ?_
   rintro e w3 ⟨rfl, hps4, hbl4, hbp4, hba4, hk4, hfr4⟩
   have HPS4 := Lib.hid hps4
   have HBP4 := Lib.hid hbp4
   have HK4 := Lib.hid hk4
   have HF4 : Hid (Fr B w w3) := hfr4 w (by have := HPBQ.out; omega) hBl HFW.out
   clear hps4 hbl4 hbp4 hba4 hk4 hfr4
   go_wp2_with fail
   refine Handed.u2 hJ L4 _ _ ⟨rfl, rfl, rfl, rfl, rfl, rfl, rfl⟩ rfl rfl (by have := HJT.out; have := HL0.out; omega) ?_
   exact ⟨j, true, _, _, _, HL4.out.symm, by rw [HL4.out]; rfl, rfl, HP3.out, HPS4.out, HIN2.out.k5 HK4.out, HF4.out, HBP4.out, .inr HJ.out⟩
 · obtain ⟨s2, hj2, hsk, hlen2, hws⟩ := hjk.strip
   rw [hsk] at he hp1
   have HP1 := Lib.hid hp1
   have hroom := hp1.room
   have hle := hp1.le
   rw [HL0.out] at hlen2
   clear hjk hsk
   cases hj2 with
   | ws _ s3 c h1 h2 => exact absurd h1 (hws c _ rfl)
   | nil =>
     subst he
     clear hp1
     go_wp2_with fail
     refine (newErr_e _ _ _ _ _ (by omega) (by omega)).mono ?_
     rintro e w1 ⟨pe, rfl, hE, hbE⟩
     have HE := Lib.hid hE
     have HBE := Lib.hid hbE
     clear hE hbE
     go_wp2_with fail
     go_ret3
     exact ⟨pe, _, rfl, HE.out.mono HPS1.out.le, HPS1.out.kp HBE.out, HF.out.trans (Fr.of_below HBE.out HPS1.out.le)⟩
   | hd s3 c hc =>
     obtain ⟨i10, i13, i35, i44, i93, i125⟩ := hc.ifacts
     have hx : wr.cell? a1 = some (.int .u8 c.toNat) := by rw [hp1.addr (by simp)]; exact (HIN.out.doc.suffix hp1.suf).head.1
     simp only [List.length_cons] at he hroom hle
     subst he
     clear hp1
     go_wp2_with fail
     refine (newErr_e _ _ _ _ _ (by omega) (by omega)).mono ?_
     rintro e w1 ⟨pe, rfl, hE, hbE⟩
     have HE := Lib.hid hE
     have HBE := Lib.hid hbE
     clear hE hbE
     go_wp2_with fail
     go_ret3
     exact ⟨pe, _, rfl, HE.out.mono HPS1.out.le, HPS1.out.kp HBE.out, HF.out.trans (Fr.of_below HBE.out HPS1.out.le)⟩
   | comma2 s3 =>
     have hx : wr.cell? a1 = some (.int .u8 44) := by rw [hp1.addr (by simp)]; exact (HIN.out.doc.suffix hp1.suf).head.1
     simp only [List.length_cons] at he hroom hle
     subst he
     clear hp1
     go_wp2_with fail
     refine (newErr_e _ _ _ _ _ (by omega) (by omega)).mono ?_
     rintro e w1 ⟨pe, rfl, hE, hbE⟩
     have HE := Lib.hid hE
     have HBE := Lib.hid hbE
     clear hE hbE
     go_wp2_with fail
     go_ret3
     exact ⟨pe, _, rfl, HE.out.mono HPS1.out.le, HPS1.out.kp HBE.out, HF.out.trans (Fr.of_below HBE.out HPS1.out.le)⟩
   | nl _ s3 h3 =>
     have hx : wr.cell? a1 = some (.int .u8 10) := by rw [hp1.addr (by simp)]; exact (HIN.out.doc.suffix hp1.suf).head.1
     have HJ3 := Lib.hid h3
     have ha1 := hp1.addr (by simp)
     generalize ho1 : D.length - ([10] ++ s3 : List UInt8).length = o1 at *
     have ha2 : a1 = ⟨b, o1, none⟩ := by rw [ha1, ← ho1]; rfl
     simp only [List.length_cons] at he hroom hle hlen2
     subst he ha2
     clear hp1 h3 ha1
     obtain ⟨o2, k2, HP2, hk4⟩ := Pos.skip (P := [10]) HP1.out hfits ho1
     have hk4 : (k1 = 1 ∧ o2 = o1 ∧ k2 = 0) ∨ (k1 ≠ 1 ∧ o2 = o1 + 1 ∧ k2 = k1 - 1) := hk4
     generalize hL3 : s3.length = L3 at *
     have HL3 := Lib.hid hL3
     have HO := Lib.hid ho1
     clear hL3 ho1
     rcases hk4 with ⟨rfl, rfl, rfl⟩ | ⟨hk3, rfl, rfl⟩
     all_goals
       go_wp2_with fail
       refine Handed.u2 hJ L3 _ _ ⟨rfl, rfl, rfl, rfl, rfl, rfl, rfl⟩ rfl rfl (by omega) ?_
       exact ⟨s3, _, _, _, _, HL3.out.symm, by rw [HL3.out]; rfl, rfl, HP2.out, HPS1.out, HIN.out, HF.out, HBP.out, .inr HJ3.out⟩
   | comma s3 h3 =>
     have hx : wr.cell? a1 = some (.int .u8 44) := by rw [hp1.addr (by simp)]; exact (HIN.out.doc.suffix hp1.suf).head.1
     have HJ3 := Lib.hid h3
     have ha1 := hp1.addr (by simp)
     generalize ho1 : D.length - ([44] ++ s3 : List UInt8).length = o1 at *
     have ha2 : a1 = ⟨b, o1, none⟩ := by rw [ha1, ← ho1]; rfl
     simp only [List.length_cons] at he hroom hle hlen2
     subst he ha2
     clear hp1 h3 ha1
     obtain ⟨o2, k2, HP2, hk4⟩ := Pos.skip (P := [44]) HP1.out hfits ho1
     have hk4 : (k1 = 1 ∧ o2 = o1 ∧ k2 = 0) ∨ (k1 ≠ 1 ∧ o2 = o1 + 1 ∧ k2 = k1 - 1) := hk4
     generalize hL3 : s3.length = L3 at *
     have HL3 := Lib.hid hL3
     have HO := Lib.hid ho1
     clear hL3 ho1
     rcases hk4 with ⟨rfl, rfl, rfl⟩ | ⟨hk3, rfl, rfl⟩
     all_goals
       go_wp2_with fail
       refine Handed.u2 hJ L3 _ _ ⟨rfl, rfl, rfl, rfl, rfl, rfl, rfl⟩ rfl rfl (by omega) ?_
       exact ⟨s3, _, _, _, _, HL3.out.symm, by rw [HL3.out]; rfl, rfl, HP2.out, HPS1.out, HIN.out, HF.out, HBP.out, .inr HJ3.out⟩
   | crnl _ s3 h3 =>
     have hx : wr.cell? a1 = some (.int .u8 13) := by rw [hp1.addr (by simp)]; exact (HIN.out.doc.suffix hp1.suf).head.1
     have hx2 : wr.cell? ⟨b, D.length - ([13, 10] ++ s3 : List UInt8).length + 1, none⟩ = some (.int .u8 10) := (HIN.out.doc.suffix hp1.suf).head.2.head.1
     have HJ3 := Lib.hid h3
     have ha1 := hp1.addr (by simp)
     generalize ho1 : D.length - ([13, 10] ++ s3 : List UInt8).length = o1 at *
     have ha2 : a1 = ⟨b, o1, none⟩ := by rw [ha1, ← ho1]; rfl
     simp only [List.length_cons] at he hroom hle hlen2
     subst he ha2
     clear hp1 h3 ha1
     obtain ⟨o2, k2, HP2, hk4⟩ := Pos.skip (P := [13, 10]) HP1.out hfits ho1
     have hk4 : (k1 = 2 ∧ o2 = o1 ∧ k2 = 0) ∨ (k1 ≠ 2 ∧ o2 = o1 + 2 ∧ k2 = k1 - 2) := hk4
     generalize hL3 : s3.length = L3 at *
     have HL3 := Lib.hid hL3
     have HO := Lib.hid ho1
     clear hL3 ho1
     rcases hk4 with ⟨rfl, rfl, rfl⟩ | ⟨hk3, rfl, rfl⟩
     all_goals
       go_wp2_with fail
       refine Handed.u2 hJ L3 _ _ ⟨rfl, rfl, rfl, rfl, rfl, rfl, rfl⟩ rfl rfl (by omega) ?_
       exact ⟨s3, _, _, _, _, HL3.out.symm, by rw [HL3.out]; rfl, rfl, HP2.out, HPS1.out, HIN.out, HF.out, HBP.out, .inr HJ3.out⟩
   | com _ p s3 hpl hbr h3 =>
     have hx : wr.cell? a1 = some (.int .u8 35) := by rw [hp1.addr (by simp)]; exact (HIN.out.doc.suffix hp1.suf).head.1
     have HLE : Hid (LineEnd s3) := by rcases hbr with h | h; exact .inr (.inl h); exact .inr (.inr h)
     have HPL := Lib.hid hpl
     have HJ3 := Lib.hid h3
     simp only [List.length_cons, List.length_append] at he hroom hle hlen2
     have hl3 : 0 < p.length + s3.length + 1 := by omega
     generalize hL3 : p.length + s3.length + 1 = L3 at *
     have HL3 := Lib.hid hL3
     subst he
     clear hp1 h3 hpl hbr hL3
     go_wp2_with fail
     refine (scan_at L3 HIN.out HP1.out HPL.out HLE.out HL3.out.symm).mono ?_
     rintro e w2 ⟨a2, k2, n2, a3, k3, he, hp3, -, -, rfl⟩
     generalize hL4 : s3.length = L4 at *
     have HL4 := Lib.hid hL4
     subst he
     have HP3 := Lib.hid hp3
     have ck2 : (wr.drewN n2).cell? ⟨g, 0, none⟩ = some (.bool false) := ck
     have cp2 : (wr.drewN n2).cell? ⟨pb, 0, none⟩ = some (.pointer (some ⟨g, 0, none⟩)) := cp
     have lg2 : g < (wr.drewN n2).heap.size := lg
     have lp2 : pb < (wr.drewN n2).heap.size := lp
     have HW2 : Hid (PS B (wr.drewN n2) g b cap false D left xs err nest ∧ Inp (wr.drewN n2) b cap D ∧ Fr B w (wr.drewN n2) ∧ Blk (wr.drewN n2) pb 63 #[.pointer (some ⟨g, 0, none⟩)]) := ⟨HPS1.out.drewN n2, HIN.out.drewN n2, HF.out.trans (Fr.drewN _ _), HBP.out⟩
     generalize wr.drewN n2 = w2 at *
     clear hp3 hx hL4
     go_wp2_with fail
     refine Handed.u2 hJ L4 _ _ ⟨rfl, rfl, rfl, rfl, rfl, rfl, rfl⟩ rfl rfl (by have := HL3.out; omega) ?_
     exact ⟨s3, _, _, _, _, HL4.out.symm, by rw [HL4.out]; rfl, rfl, HP3.out, HW2.out.1, HW2.out.2.1, HW2.out.2.2.1, HW2.out.2.2.2, .inr HJ3.out⟩
end Go.Proofs.Ytnlkbbpmpgdmiaa
