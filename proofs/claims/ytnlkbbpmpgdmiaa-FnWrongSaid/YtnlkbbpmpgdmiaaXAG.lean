/- parseBasicString; parseMultilineBasicString. -/
import Derived.Test.YtnlkbbpmpgdmiaaXAE
import Derived.Test.YtnlkbbpmpgdmiaaXAF
namespace Go.Proofs.Ytnlkbbpmpgdmiaa
open Go.RowKit
set_option linter.unusedVariables false
set_option linter.unusedSimpArgs false
def wordBadB (X : Nat) : Bool := bits .or .u64 (bits .or .u64 (bits .or .u64 (bits .or .u64 (bits .and .u64 X 9259542123273814144) (hbb X 32 : Nat)) (hbe X 34 : Nat)) (hbe X 92 : Nat)) (hbe X 127 : Nat) != 0
theorem wordBadB_low {X : Nat} (hX : X < 18446744073709551616) (h : wordBadB X = false) : X &&& 9259542123273814144 = 0 ∧ hbe X 34 = 0 ∧ hbe X 92 = 0 := by
 unfold wordBadB at h
 have hand : X &&& 9259542123273814144 < 18446744073709551616 := Nat.lt_of_le_of_lt Nat.and_le_left hX
 have h1 := Nat.or_lt_two_pow (n := 64) hand (hbb_lt X 32)
 have h2 := Nat.or_lt_two_pow (n := 64) h1 (hbe_lt X 34)
 have h3 := Nat.or_lt_two_pow (n := 64) h2 (hbe_lt X 92)
 rw [show (9259542123273814144 : Int) = ((9259542123273814144 : Nat) : Int) from rfl, u64_and _ _ hX (by omega), u64_or _ _ hand (hbb_lt _ _), u64_or _ _ h1 (hbe_lt _ _), u64_or _ _ h2 (hbe_lt _ _), u64_or _ _ h3 (hbe_lt _ _)] at h
 have h4 : ((((X &&& 9259542123273814144) ||| hbb X 32) ||| hbe X 34) ||| hbe X 92) ||| hbe X 127 = 0 := by
   simpa using h
 obtain ⟨h5, h6⟩ := or_zero h4
 obtain ⟨h7, h8⟩ := or_zero h5
 obtain ⟨h9, h10⟩ := or_zero h7
 obtain ⟨h11, h12⟩ := or_zero h9
 exact ⟨h11, h10, h8⟩
theorem pc_head {q : List Pc} (hq : ∀ p ∈ q, BasP p) {s r : List UInt8} {c : UInt8} (h : srcs q ++ 34 :: s = c :: r) (hc : c.toNat < 128) (h34 : c ≠ 34) (h92 : c ≠ 92) :
   ∃ p q', q = p :: q' ∧ p.src = [c] ∧ p.out = [c] ∧ srcs q' ++ 34 :: s = r ∧ ∀ x ∈ q', BasP x := by
 cases q with
 | nil =>
   simp [srcs] at h
   exact absurd h.1.symm h34
 | cons p q' =>
   rcases hq p (by simp) with ⟨hw | ⟨d, hd, hs⟩, ho⟩ | ⟨t, _, hs⟩
   · obtain ⟨d, t, he, hd⟩ := hw.head
     rw [srcs_cons, he] at h
     simp at h
     rw [← h.1] at hc
     omega
   · rw [srcs_cons, hs] at h
     simp at h
     obtain ⟨rfl, h⟩ := h
     exact ⟨p, q', rfl, hs, by rw [ho, hs], h, fun e he => hq e (by simp [he])⟩
   · rw [srcs_cons, hs] at h
     simp at h
     exact absurd h.1.symm h92
theorem pcs8 {q : List Pc} (hq : ∀ p ∈ q, BasP p) {s : List UInt8} {c0 c1 c2 c3 c4 c5 c6 c7 : UInt8} {r : List UInt8} (h : srcs q ++ 34 :: s = c0 :: c1 :: c2 :: c3 :: c4 :: c5 :: c6 :: c7 :: r)
   (k0 : c0.toNat < 128) (k1 : c1.toNat < 128) (k2 : c2.toNat < 128) (k3 : c3.toNat < 128) (k4 : c4.toNat < 128) (k5 : c5.toNat < 128) (k6 : c6.toNat < 128) (k7 : c7.toNat < 128)
   (z0 : c0 ≠ 34) (z1 : c1 ≠ 34) (z2 : c2 ≠ 34) (z3 : c3 ≠ 34) (z4 : c4 ≠ 34) (z5 : c5 ≠ 34) (z6 : c6 ≠ 34) (z7 : c7 ≠ 34)
   (y0 : c0 ≠ 92) (y1 : c1 ≠ 92) (y2 : c2 ≠ 92) (y3 : c3 ≠ 92) (y4 : c4 ≠ 92) (y5 : c5 ≠ 92) (y6 : c6 ≠ 92) (y7 : c7 ≠ 92) :
   ∃ a q', q = a ++ q' ∧ (srcs a).length = 8 ∧ outs a = srcs a ∧ 0 < a.length := by
 obtain ⟨p0, q0, e0, s0, o0, h0, a0⟩ := pc_head hq h k0 z0 y0
 obtain ⟨p1, q1, e1, s1, o1, h1, a1⟩ := pc_head a0 h0 k1 z1 y1
 obtain ⟨p2, q2, e2, s2, o2, h2, a2⟩ := pc_head a1 h1 k2 z2 y2
 obtain ⟨p3, q3, e3, s3, o3, h3, a3⟩ := pc_head a2 h2 k3 z3 y3
 obtain ⟨p4, q4, e4, s4, o4, h4, a4⟩ := pc_head a3 h3 k4 z4 y4
 obtain ⟨p5, q5, e5, s5, o5, h5, a5⟩ := pc_head a4 h4 k5 z5 y5
 obtain ⟨p6, q6, e6, s6, o6, h6, a6⟩ := pc_head a5 h5 k6 z6 y6
 obtain ⟨p7, q7, e7, s7, o7, h7, a7⟩ := pc_head a6 h6 k7 z7 y7
 refine ⟨[p0, p1, p2, p3, p4, p5, p6, p7], q7, by rw [e0, e1, e2, e3, e4, e5, e6, e7]; rfl, ?_, ?_, by simp⟩
 · simp [srcs, s0, s1, s2, s3, s4, s5, s6, s7]
 · simp [srcs, outs, s0, s1, s2, s3, s4, s5, s6, s7, o0, o1, o2, o3, o4, o5, o6, o7]
def StrRes (b off cap : Nat) (l r s : List UInt8) (w : World) (e : Ending) (w' : World) : Prop :=
 ∃ m v dv, m ≤ l.length ∧ e = .returned (.tuple #[.slice (some ⟨b, off, none⟩) m cap, dv, v, .nilIface]) ∧ Rest b off cap l r v ∧ Below w.heap.size w w' ∧
   (Buf w.heap.size w' dv s ∨ ∃ i c t, dv = .slice (some ⟨b, off + i, none⟩) s.length c ∧ s.length ≤ c ∧ l.drop i = s ++ t)
theorem bas_fin {b off cap m L R k2 c2 k3 c3 c4 n : Nat} {l rest s t : List UInt8} {A Bd : Addr} {w w' : World} (hL : l.length = L) (hR : rest.length = R) (hc : L ≤ cap) (hlm : m ≤ L) (hcl : l.drop m = rest) (hd : L = m + R)
   (e1 : k2 = m) (e2 : c2 = cap) (e3 : k3 = s.length) (e4 : c3 = cap - 1) (eA : A = ⟨b, off + 1, none⟩) (hs1 : l.drop 1 = s ++ t) (hL1 : 1 ≤ L) (e5 : n = R) (e6 : c4 = cap - m) (hB : 0 < R → Bd = ⟨b, off + m, none⟩) (hw : ∃ n, w' = w.drewN n) :
   StrRes b off cap l rest s w (.returned (.tuple #[.slice (some ⟨b, off, none⟩) k2 c2, .slice (some A) k3 c3, .slice (some Bd) n c4, .nilIface])) w' := by
 subst e1 e2 e3 e4 e5 e6 hL hR eA
 obtain ⟨nd, rfl⟩ := hw
 refine ⟨_, _, _, hlm, rfl, Rest.drop k2 hcl.symm (by omega) rfl hlm (fun h => hB (by omega)), (Fr.drewN w nd).1, .inr ⟨1, _, t, rfl, ?_, hs1⟩⟩
 have := congrArg List.length hs1
 simp only [List.length_drop, List.length_append] at this
 omega
theorem at_pcs {w : World} {b off k : Nat} {a q : List Pc} {rest : List UInt8} (h : Bts w b off (34 :: (srcs (a ++ q) ++ 34 :: rest))) (hk : k + (srcs q).length = (srcs (a ++ q)).length + 1) : Bts w b (off + k) (srcs q ++ 34 :: rest) := by
 rw [srcs_append] at h hk
 have h1 := h.head.2
 rw [List.append_assoc] at h1
 have h2 := h1.post
 rw [show off + k = off + 1 + (srcs a).length from by simp at hk; omega]
 exact h2
theorem wide_pcs2 {p : Pc} {q : List Pc} (hw : Wide p.src ∧ p.out = p.src) (hq : ∀ x ∈ q, (Wide x.src ∧ x.out = x.src) ∨ ∃ c t, x.src = c :: t ∧ c.toNat < 128) {rest : List UInt8} (hr : ∀ c r, rest = c :: r → c.toNat < 128) :
   ∃ (a qb : List Pc), p :: q = a ++ qb ∧ outs a = srcs a ∧ 0 < (srcs a).length ∧ 0 < a.length ∧
     ∀ (b off n k cap : Nat) (w : World), Bts w b (off + k) (srcs (p :: q) ++ rest) → n = k + (srcs (p :: q)).length + rest.length → n ≤ cap → (n ≤ 140737488351232 ∧ cap ≤ 9223372036854775807) →
       Calls Try.prog 59 #[.slice (some ⟨b, off, none⟩) n cap, .int .i64 k] w fun e w' => e = .returned (.tuple #[.int .i64 ((k : Int) + (srcs a).length), .bool true]) ∧ w = w' := by
 obtain ⟨a, b, hab, h1, h2⟩ := wide_psplit (q := p :: q) (by intro x hx; simp at hx; rcases hx with rfl | hx; exact .inl hw; exact hq x hx)
 have hsa : srcs a = (a.map Pc.src).flatten := rfl
 have hoa : outs a = srcs a := by
   clear hab hsa
   induction a with
   | nil => rfl
   | cons x a ih =>
     rw [srcs_cons, outs_cons, ih (fun y hy => h1 y (by simp [hy])), (h1 x (by simp)).2]
 have ha : 0 < (srcs a).length ∧ 0 < a.length := by
   cases a with
   | nil =>
     obtain ⟨c, t, he, hc⟩ := h2 p q hab.symm
     obtain ⟨d, t', hd, hd2⟩ := hw.1.head
     rw [hd] at he
     injection he with he _
     subst he
     omega
   | cons x a =>
     simp at hab
     obtain ⟨c, r, hc, _⟩ := hw.1.head
     rw [← hab.1, srcs_cons, hc]
     simp
 refine ⟨a, b, hab, hoa, ha.1, ha.2, ?_⟩
 intro bk off n k cap w hm hn hc hcb
 rw [hab, srcs_append, List.append_assoc, hsa] at hm
 rw [hab, srcs_append, List.length_append, hsa] at hn
 rw [hsa]
 refine utf8_run (a.map Pc.src) (srcs b ++ rest) (fun e he => ?_) ?_ bk off n k cap w hm (by rw [List.length_append]; omega) hc hcb
 · obtain ⟨x, hx, rfl⟩ := List.mem_map.1 he
   exact (h1 x hx).1
 · intro c r h
   cases b with
   | nil => exact hr c r (by simpa [srcs] using h)
   | cons y b =>
     obtain ⟨d, t, hy, hd⟩ := h2 y b rfl
     rw [srcs_cons, hy] at h
     simp at h
     rw [← h.1]
     exact hd
set_option maxRecDepth 100000 in
set_option maxHeartbeats 4000000 in
theorem basStr_any (ps : List Pc) (rest : List UInt8) (hps : ∀ p ∈ ps, BasP p) (pv : Value) (b off cap M R : Nat) (w : World) (hm : Bts w b off (34 :: (srcs ps ++ 34 :: rest))) (hM : (srcs ps).length = M) (hR : rest.length = R)
   (hc : M + R + 2 ≤ cap) (hcb : M + R + 2 ≤ 140737488351232 ∧ cap ≤ 9223372036854775807) :
   Calls Try.prog 73 #[pv, .slice (some ⟨b, off, none⟩) (M + R + 2) cap] w (StrRes b off cap (34 :: (srcs ps ++ 34 :: rest)) rest (outs ps) w) := by
 have HM := Lib.hid hm
 have HE := Lib.hid hps
 have HMM := Lib.hid hM
 have HRR := Lib.hid hR
 clear hm hps hM hR
 have HLL : Hid ((34 :: (srcs ps ++ 34 :: rest)).length = M + R + 2) := by show _ = _; simp only [List.length_cons, List.length_append]; rw [HMM.out, HRR.out]; omega
 have HDR : Hid ((34 :: (srcs ps ++ 34 :: rest)).drop (M + 2) = rest) := by
   show _ = _
   rw [← HMM.out, show (srcs ps).length + 2 = (34 :: (srcs ps ++ [34])).length from by simp, show 34 :: (srcs ps ++ 34 :: rest) = (34 :: (srcs ps ++ [34])) ++ rest from by simp]
   exact List.drop_left
 go_enter Try.func73, Try.ntmps73
 go_wp2_with fail
 go_loopg [8] ps.length (fun g s8 wx => ∃ (a q : List Pc) (k : Nat), s8 = .int .i64 k ∧ k + (srcs q).length = M + 1 ∧ g = q.length ∧ Hid (ps = a ++ q ∧ outs a = srcs a) ∧ Hid (∃ n, wx = w.drewN n))
 case atStart => exact ⟨[], ps, 1, rfl, by rw [HMM.out]; omega, rfl, ⟨rfl, rfl⟩, 0, rfl⟩
 case round =>
   obtain ⟨a0, q, k, rfl, hk, rfl, HA0, HW⟩ := hrel
   go_wp2_with fail
   go_loopg [8] q.length (fun g s8 wx => ∃ (a q' : List Pc) (k' : Nat), s8 = .int .i64 k' ∧ k' + (srcs q').length = M + 1 ∧ q'.length ≤ q.length ∧ g = q'.length ∧ Hid (ps = a ++ q' ∧ outs a = srcs a) ∧ Hid (∃ n, wx = w.drewN n))
   case atStart => exact ⟨a0, q, k, rfl, hk, Nat.le_refl _, rfl, HA0.out, HW.out⟩
   case round =>
     clear HW HA0 hk
     obtain ⟨a, q', k', rfl, hk', hq', rfl, HA, HW⟩ := hrel
     obtain ⟨n, rfl⟩ := HW.out
     clear HW
     have HM' : Hid (Bts w b off (34 :: (srcs (a ++ q') ++ 34 :: rest))) := by rw [← HA.out.1]; exact HM.out
     have HMM' : Hid ((srcs (a ++ q')).length = M) := by rw [← HA.out.1]; exact HMM.out
     have hk1 : 1 ≤ k' := by have := HMM'.out; rw [srcs_append, List.length_append] at this; omega
     by_cases h8 : k' + 8 ≤ M + R + 2
     · obtain ⟨d0, d1, d2, d3, d4, d5, d6, d7, r, hq8⟩ := eight (q := srcs q') (s := 34 :: rest) (by rw [List.length_cons, HRR.out]; omega)
       have HL : Hid (M + R + 2 - k' = r.length + 8) := by
         have := congrArg List.length hq8
         simp only [List.length_append, List.length_cons] at this
         have h2 := HRR.out
         show _ = _
         omega
       have HB : Hid (Bts w b (off + k') (d0 :: d1 :: d2 :: d3 :: d4 :: d5 :: d6 :: d7 :: r)) := by
         have := at_pcs HM'.out (k := k') (by rw [HMM'.out]; exact hk')
         rw [hq8] at this
         exact this
       have H8 := Lib.hid hq8
       clear hq8
       have hck : k' < cap := by omega
       go_wp2_with fail
       refine (leU_at _ d0 d1 d2 d3 d4 d5 d6 d7 r b (off + k') _ _ (HB.out.drewN _) HL.out (by have := HL.out; omega) (by have := HL.out; omega)).mono ?_
       rintro e w1 ⟨rfl, n2, rfl⟩
       have hx := num8_lt d0 d1 d2 d3 d4 d5 d6 d7
       generalize hX : num8 d0.toNat d1.toNat d2.toNat d3.toNat d4.toNat d5.toNat d6.toNat d7.toNat = X at *
       have HX := Lib.hid hX
       clear hX
       go_wp2_with fail
       refine (hbb_any X 32 hx (by omega) _).mono ?_
       rintro e w1 ⟨rfl, rfl⟩
       go_wp2_with fail
       refine (hbe_any X 34 hx (by omega) _).mono ?_
       rintro e w1 ⟨rfl, rfl⟩
       go_wp2_with fail
       refine (hbe_any X 92 hx (by omega) _).mono ?_
       rintro e w1 ⟨rfl, rfl⟩
       go_wp2_with fail
       refine (hbe_any X 127 hx (by omega) _).mono ?_
       rintro e w1 ⟨rfl, rfl⟩
       cases hwb : wordBadB X with
       | false =>
         have hq3 : Hid (∃ a1 q3, q' = a1 ++ q3 ∧ (srcs a1).length = 8 ∧ outs a1 = srcs a1 ∧ 0 < a1.length) := by
           obtain ⟨h1, h2, h3⟩ := wordBadB_low hx hwb
           have l0 := d0.toNat_lt; have l1 := d1.toNat_lt; have l2 := d2.toNat_lt; have l3 := d3.toNat_lt; have l4 := d4.toNat_lt; have l5 := d5.toNat_lt; have l6 := d6.toNat_lt; have l7 := d7.toNat_lt
           obtain ⟨g0, g1, g2, g3, g4, g5, g6, g7⟩ := low128 HX.out.symm (by omega) (by omega) (by omega) (by omega) (by omega) (by omega) (by omega) (by omega) h1
           obtain ⟨z0, z1, z2, z3, z4, z5, z6, z7⟩ := noByte 34 X (by omega) (by decide) HX.out.symm (by omega) (by omega) (by omega) (by omega) (by omega) (by omega) (by omega) (by omega) h1 h2
           obtain ⟨y0, y1, y2, y3, y4, y5, y6, y7⟩ := noByte 92 X (by omega) (by decide) HX.out.symm (by omega) (by omega) (by omega) (by omega) (by omega) (by omega) (by omega) (by omega) h1 h3
           exact pcs8 (fun e h => HE.out e (by rw [HA.out.1]; simp [h])) H8.out g0 g1 g2 g3 g4 g5 g6 g7 (fun e => z0 (by rw [e]; rfl)) (fun e => z1 (by rw [e]; rfl)) (fun e => z2 (by rw [e]; rfl)) (fun e => z3 (by rw [e]; rfl)) (fun e => z4 (by rw [e]; rfl)) (fun e => z5 (by rw [e]; rfl)) (fun e => z6 (by rw [e]; rfl)) (fun e => z7 (by rw [e]; rfl))
             (fun e => y0 (by rw [e]; rfl)) (fun e => y1 (by rw [e]; rfl)) (fun e => y2 (by rw [e]; rfl)) (fun e => y3 (by rw [e]; rfl)) (fun e => y4 (by rw [e]; rfl)) (fun e => y5 (by rw [e]; rfl)) (fun e => y6 (by rw [e]; rfl)) (fun e => y7 (by rw [e]; rfl))
         obtain ⟨a1, q3, hqa, hl8, ho8, hla⟩ := hq3.out
         have HA1 : Hid (ps = (a ++ a1) ++ q3 ∧ outs (a ++ a1) = srcs (a ++ a1)) := ⟨by rw [HA.out.1, hqa, List.append_assoc], by rw [outs_append, srcs_append, HA.out.2, ho8]⟩
         have hk3 : k' + 8 + (srcs q3).length = M + 1 := by rw [hqa, srcs_append, List.length_append, hl8] at hk'; omega
         have hq4 : q3.length < q'.length := by rw [hqa, List.length_append]; omega
         simp only [wordBadB] at hwb
         clear hqa hl8 ho8 hk'
         go_wp2_with fail
         go_roundg q3.length
         case measure => omega
         case rel => exact ⟨a ++ a1, q3, k' + 8, by go_num, hk3, by omega, rfl, HA1.out, _, rfl⟩
       | true =>
         simp only [wordBadB] at hwb
         clear H8 HB HL HX
         have hat := at_pcs HM'.out (by rw [HMM'.out]; exact hk')
         cases q' with
         | nil =>
           simp only [srcs, List.flatMap_nil, List.nil_append, List.length_nil] at hk' hq' hat
           have hc0 : w.cell? ⟨b, off + k', none⟩ = some (.int .u8 34) := hat.head.1
           have hka : k' ≤ M + 1 := by omega
           have hkb : M + 1 ≤ k' := by omega
           have HDK : Hid ((34 :: (srcs ps ++ 34 :: rest)).drop (k' + 1) = rest) := by rw [show k' + 1 = M + 2 from by omega]; exact HDR.out
           have HOL : Hid ((outs ps).length = M) := by
             have h1 := HA.out.1
             rw [List.append_nil] at h1
             show _ = _
             rw [h1, HA.out.2, ← h1, HMM.out]
           have HD1 : Hid ((34 :: (srcs ps ++ 34 :: rest)).drop 1 = outs ps ++ 34 :: rest) := by
             have h1 := HA.out.1
             rw [List.append_nil] at h1
             show _ = _
             rw [List.drop_succ_cons, List.drop_zero]
             have h2 := HA.out.2
             rw [← h1] at h2
             rw [h2]
           clear hat hk'
           by_cases hcap : cap = k' + 1
           · first
               | (exfalso; omega)
               | (go_wp2_with fail
                  go_quiet (fail)
                  go_wp2
                  ((try simp only [Exit.inBlock, Exit.then]); refine bodyPost_ret (results_tmp4 rfl _ _ _) rfl ?_)
                  exact bas_fin HLL.out HRR.out (by omega) (by omega) HDK.out (by omega) rfl hcap.symm (by rw [HOL.out]; omega) (by omega) rfl HD1.out (by omega) (by omega) (by omega) (fun h => by omega) ⟨_, World.drewN_drewN ..⟩)
           · go_wp2_with fail
             go_quiet (fail)
             go_wp2
             ((try simp only [Exit.inBlock, Exit.then]); refine bodyPost_ret (results_tmp4 rfl _ _ _) rfl ?_)
             exact bas_fin HLL.out HRR.out (by omega) (by omega) HDK.out (by omega) rfl rfl (by rw [HOL.out]; omega) rfl rfl HD1.out (by omega) (by omega) rfl (fun h => rfl) ⟨_, World.drewN_drewN ..⟩
         | cons p q3 =>
           have HC := fun x (hx : x ∈ p :: q3) => HE.out x (by rw [HA.out.1]; simp at hx ⊢; exact .inr hx)
           rcases HC p (by simp) with ⟨hwide | ⟨c, hC, hsrc⟩, hpo⟩ | hesc
           · obtain ⟨a1, qb, hpq, ho1, hl1, hla1, hcall⟩ := wide_pcs2 (p := p) (q := q3) ⟨hwide, hpo⟩ (fun x hx => (HC x (by simp [hx])).first) (rest := 34 :: rest) (fun c r h => by injection h with h _; subst h; decide)
             obtain ⟨c, t, hce, hc128⟩ := hwide.head
             have hat0 := hat
             rw [srcs_cons, hce] at hat0
             have hc0 := hat0.head.1
             have h128 : 128 ≤ (c.toNat : Int) := by omega
             have h255 : (c.toNat : Int) ≤ 255 := by have := c.toNat_lt; omega
             have HCALL : Hid (∀ n2, Calls Try.prog 59 #[.slice (some ⟨b, off, none⟩) (M + R + 2) cap, .int .i64 k'] (w.drewN n2) fun e w' => e = .returned (.tuple #[.int .i64 ((k' : Int) + (srcs a1).length), .bool true]) ∧ w.drewN n2 = w') := fun n2 =>
               hcall b off (M + R + 2) k' cap (w.drewN n2) (hat.drewN _) (by simp only [List.length_cons]; rw [HRR.out]; omega) hc hcb
             have HA1 : Hid (ps = (a ++ a1) ++ qb ∧ outs (a ++ a1) = srcs (a ++ a1)) := ⟨by rw [HA.out.1, hpq, List.append_assoc], by rw [outs_append, srcs_append, HA.out.2, ho1]⟩
             have hk3 : k' + (srcs a1).length + (srcs qb).length = M + 1 := by rw [hpq, srcs_append, List.length_append] at hk'; omega
             have hq4 : qb.length < (p :: q3).length := by rw [hpq, List.length_append]; omega
             clear hat hat0 hce hwide hcall hc128 hpo hpq ho1 HC hk'
             generalize (c.toNat : Int) = x at *
             have e34 : (x == 34) = false := by simp; omega
             have e92 : (x == 92) = false := by simp; omega
             have e9 : (x == 9) = false := by simp; omega
             have e10 : (x == 10) = false := by simp; omega
             have e13 : (x == 13) = false := by simp; omega
             generalize hla : (srcs a1).length = la at *
             have HLA := Lib.hid hla
             clear hla
             go_wp2_with fail
             refine (HCALL.out _).mono ?_
             rintro e w1 ⟨rfl, rfl⟩
             go_wp2_with fail
             go_roundg qb.length
             case measure => simp only [List.length_cons] at hq4 hq' ⊢; omega
             case rel => exact ⟨a ++ a1, qb, k' + la, by go_num, hk3, rfl, HA1.out, _, rfl⟩
           · rw [srcs_cons, hsrc] at hat
             have hc0 := hat.head.1
             have hC2 : (32 ≤ (c.toNat : Int) ∧ (c.toNat : Int) < 127 ∧ (c.toNat : Int) ≠ 34 ∧ (c.toNat : Int) ≠ 92) ∨ (c.toNat : Int) = 9 := by unfold BasC at hC; omega
             have HA1 : Hid (ps = (a ++ [p]) ++ q3 ∧ outs (a ++ [p]) = srcs (a ++ [p])) := ⟨by rw [HA.out.1, List.append_assoc]; rfl, by rw [outs_append, srcs_append, HA.out.2]; simp [outs, srcs, hpo]⟩
             have hk3 : k' + 1 + (srcs q3).length = M + 1 := by rw [srcs_cons, hsrc, List.length_append] at hk'; simp at hk'; omega
             simp only [List.length_cons] at hq'
             clear hat hC hsrc hpo HC hk'
             generalize (c.toNat : Int) = x at *
             rcases hC2 with ⟨h1, h2, h3, h4⟩ | rfl
             · have e34 : (x == 34) = false := by simp; omega
               have e92 : (x == 92) = false := by simp; omega
               go_wp2_with fail
               go_roundg q3.length
               case measure => omega
               case rel => exact ⟨a ++ [p], q3, k' + 1, by go_num, hk3, rfl, HA1.out, _, rfl⟩
             · go_wp2_with fail
               go_roundg q3.length
               case measure => omega
               case rel => exact ⟨a ++ [p], q3, k' + 1, by go_num, hk3, rfl, HA1.out, _, rfl⟩
           · obtain ⟨sx, hsx, hsrc⟩ := hesc
             have hc0 : w.cell? ⟨b, off + k', none⟩ = some (.int .u8 92) := by
               rw [srcs_cons, hsrc] at hat
               exact hat.head.1
             have HPS : Hid (34 :: (srcs a ++ (srcs (p :: q3) ++ 34 :: rest)) = 34 :: (srcs ps ++ 34 :: rest)) := by
               show _ = _
               rw [HA.out.1, srcs_append, List.append_assoc]
             have HOS : Hid (srcs a ++ outs (p :: q3) = outs ps) := by
               show _ = _
               rw [HA.out.1, outs_append, HA.out.2]
             have HQC := Lib.hid HC
             have hsum : (srcs a).length + (srcs (p :: q3)).length = M := by have := HMM'.out; rw [srcs_append, List.length_append] at this; omega
             have HK : Hid (k' = (srcs a).length + 1) := by show _ = _; omega
             have HE84 : Hid (∀ n2 : Nat, Calls Try.prog 84 #[pv, .slice (some ⟨b, off, none⟩) (M + R + 2) cap, .int .i64 (k' : Int)] (w.drewN n2) (StrNew w.heap.size b off cap (34 :: (srcs ps ++ 34 :: rest)) rest (outs ps) (w.drewN n2))) := by
               intro n2
               have h := basEsc_any (srcs a) rest (p :: q3) HQC.out pv b off cap (srcs a).length (srcs (p :: q3)).length R (w.drewN n2) (by rw [HPS.out]; exact HM.out.drewN _) rfl rfl HRR.out (by omega) (by omega)
               rw [HPS.out, HOS.out, hsum] at h
               rw [HK.out]
               exact h
             have hkM : k' ≤ M + 1 := by omega
             clear hat HC hsx hsrc hsum hk' HK HPS HOS HQC
             go_wp2_with fail
             refine (HE84.out _).mono ?_
             rintro e w1 ⟨m1, v1, dv1, hm1, rfl, hr1, hb1, hw1⟩
             have HR1 := Lib.hid hr1
             have HB1 := Lib.hid hb1
             have HW1 := Lib.hid hw1
             clear hr1 hb1 hw1
             go_wp2_with fail
             ((try simp only [Exit.inBlock, Exit.then]); refine bodyPost_ret (results_tmp4 rfl _ _ _) rfl ?_)
             exact ⟨m1, v1, dv1, hm1, rfl, HR1.out, (Fr.drewN w _).1.trans HW1.out, .inl HB1.out⟩
     · have hat := at_pcs HM'.out (by rw [HMM'.out]; exact hk')
       cases q' with
       | nil =>
         simp only [srcs, List.flatMap_nil, List.nil_append, List.length_nil] at hk' hq' hat
         have hc0 : w.cell? ⟨b, off + k', none⟩ = some (.int .u8 34) := hat.head.1
         have hka : k' ≤ M + 1 := by omega
         have hkb : M + 1 ≤ k' := by omega
         have HDK : Hid ((34 :: (srcs ps ++ 34 :: rest)).drop (k' + 1) = rest) := by rw [show k' + 1 = M + 2 from by omega]; exact HDR.out
         have HOL : Hid ((outs ps).length = M) := by
           have h1 := HA.out.1
           rw [List.append_nil] at h1
           show _ = _
           rw [h1, HA.out.2, ← h1, HMM.out]
         have HD1 : Hid ((34 :: (srcs ps ++ 34 :: rest)).drop 1 = outs ps ++ 34 :: rest) := by
           have h1 := HA.out.1
           rw [List.append_nil] at h1
           show _ = _
           rw [List.drop_succ_cons, List.drop_zero]
           have h2 := HA.out.2
           rw [← h1] at h2
           rw [h2]
         clear hat hk'
         by_cases hcap : cap = k' + 1
         · first
             | (exfalso; omega)
             | (go_wp2_with fail
                go_quiet (fail)
                go_wp2
                ((try simp only [Exit.inBlock, Exit.then]); refine bodyPost_ret (results_tmp4 rfl _ _ _) rfl ?_)
                exact bas_fin HLL.out HRR.out (by omega) (by omega) HDK.out (by omega) rfl hcap.symm (by rw [HOL.out]; omega) (by omega) rfl HD1.out (by omega) (by omega) (by omega) (fun h => by omega) ⟨_, World.drewN_drewN ..⟩)
         · go_wp2_with fail
           go_quiet (fail)
           go_wp2
           ((try simp only [Exit.inBlock, Exit.then]); refine bodyPost_ret (results_tmp4 rfl _ _ _) rfl ?_)
           exact bas_fin HLL.out HRR.out (by omega) (by omega) HDK.out (by omega) rfl rfl (by rw [HOL.out]; omega) rfl rfl HD1.out (by omega) (by omega) rfl (fun h => rfl) ⟨_, World.drewN_drewN ..⟩
       | cons p q3 =>
         have HC := fun x (hx : x ∈ p :: q3) => HE.out x (by rw [HA.out.1]; simp at hx ⊢; exact .inr hx)
         rcases HC p (by simp) with ⟨hwide | ⟨c, hC, hsrc⟩, hpo⟩ | hesc
         · obtain ⟨a1, qb, hpq, ho1, hl1, hla1, hcall⟩ := wide_pcs2 (p := p) (q := q3) ⟨hwide, hpo⟩ (fun x hx => (HC x (by simp [hx])).first) (rest := 34 :: rest) (fun c r h => by injection h with h _; subst h; decide)
           obtain ⟨c, t, hce, hc128⟩ := hwide.head
           have hat0 := hat
           rw [srcs_cons, hce] at hat0
           have hc0 := hat0.head.1
           have h128 : 128 ≤ (c.toNat : Int) := by omega
           have h255 : (c.toNat : Int) ≤ 255 := by have := c.toNat_lt; omega
           have HCALL : Hid (∀ n2, Calls Try.prog 59 #[.slice (some ⟨b, off, none⟩) (M + R + 2) cap, .int .i64 k'] (w.drewN n2) fun e w' => e = .returned (.tuple #[.int .i64 ((k' : Int) + (srcs a1).length), .bool true]) ∧ w.drewN n2 = w') := fun n2 =>
             hcall b off (M + R + 2) k' cap (w.drewN n2) (hat.drewN _) (by simp only [List.length_cons]; rw [HRR.out]; omega) hc hcb
           have HA1 : Hid (ps = (a ++ a1) ++ qb ∧ outs (a ++ a1) = srcs (a ++ a1)) := ⟨by rw [HA.out.1, hpq, List.append_assoc], by rw [outs_append, srcs_append, HA.out.2, ho1]⟩
           have hk3 : k' + (srcs a1).length + (srcs qb).length = M + 1 := by rw [hpq, srcs_append, List.length_append] at hk'; omega
           have hq4 : qb.length < (p :: q3).length := by rw [hpq, List.length_append]; omega
           clear hat hat0 hce hwide hcall hc128 hpo hpq ho1 HC hk'
           generalize (c.toNat : Int) = x at *
           have e34 : (x == 34) = false := by simp; omega
           have e92 : (x == 92) = false := by simp; omega
           have e9 : (x == 9) = false := by simp; omega
           have e10 : (x == 10) = false := by simp; omega
           have e13 : (x == 13) = false := by simp; omega
           generalize hla : (srcs a1).length = la at *
           have HLA := Lib.hid hla
           clear hla
           go_wp2_with fail
           refine (HCALL.out _).mono ?_
           rintro e w1 ⟨rfl, rfl⟩
           go_wp2_with fail
           go_roundg qb.length
           case measure => simp only [List.length_cons] at hq4 hq' ⊢; omega
           case rel => exact ⟨a ++ a1, qb, k' + la, by go_num, hk3, rfl, HA1.out, _, rfl⟩
         · rw [srcs_cons, hsrc] at hat
           have hc0 := hat.head.1
           have hC2 : (32 ≤ (c.toNat : Int) ∧ (c.toNat : Int) < 127 ∧ (c.toNat : Int) ≠ 34 ∧ (c.toNat : Int) ≠ 92) ∨ (c.toNat : Int) = 9 := by unfold BasC at hC; omega
           have HA1 : Hid (ps = (a ++ [p]) ++ q3 ∧ outs (a ++ [p]) = srcs (a ++ [p])) := ⟨by rw [HA.out.1, List.append_assoc]; rfl, by rw [outs_append, srcs_append, HA.out.2]; simp [outs, srcs, hpo]⟩
           have hk3 : k' + 1 + (srcs q3).length = M + 1 := by rw [srcs_cons, hsrc, List.length_append] at hk'; simp at hk'; omega
           simp only [List.length_cons] at hq'
           clear hat hC hsrc hpo HC hk'
           generalize (c.toNat : Int) = x at *
           rcases hC2 with ⟨h1, h2, h3, h4⟩ | rfl
           · have e34 : (x == 34) = false := by simp; omega
             have e92 : (x == 92) = false := by simp; omega
             go_wp2_with fail
             go_roundg q3.length
             case measure => omega
             case rel => exact ⟨a ++ [p], q3, k' + 1, by go_num, hk3, rfl, HA1.out, _, rfl⟩
           · go_wp2_with fail
             go_roundg q3.length
             case measure => omega
             case rel => exact ⟨a ++ [p], q3, k' + 1, by go_num, hk3, rfl, HA1.out, _, rfl⟩
         · obtain ⟨sx, hsx, hsrc⟩ := hesc
           have hc0 : w.cell? ⟨b, off + k', none⟩ = some (.int .u8 92) := by
             rw [srcs_cons, hsrc] at hat
             exact hat.head.1
           have HPS : Hid (34 :: (srcs a ++ (srcs (p :: q3) ++ 34 :: rest)) = 34 :: (srcs ps ++ 34 :: rest)) := by
             show _ = _
             rw [HA.out.1, srcs_append, List.append_assoc]
           have HOS : Hid (srcs a ++ outs (p :: q3) = outs ps) := by
             show _ = _
             rw [HA.out.1, outs_append, HA.out.2]
           have HQC := Lib.hid HC
           have hsum : (srcs a).length + (srcs (p :: q3)).length = M := by have := HMM'.out; rw [srcs_append, List.length_append] at this; omega
           have HK : Hid (k' = (srcs a).length + 1) := by show _ = _; omega
           have HE84 : Hid (∀ n2 : Nat, Calls Try.prog 84 #[pv, .slice (some ⟨b, off, none⟩) (M + R + 2) cap, .int .i64 (k' : Int)] (w.drewN n2) (StrNew w.heap.size b off cap (34 :: (srcs ps ++ 34 :: rest)) rest (outs ps) (w.drewN n2))) := by
             intro n2
             have h := basEsc_any (srcs a) rest (p :: q3) HQC.out pv b off cap (srcs a).length (srcs (p :: q3)).length R (w.drewN n2) (by rw [HPS.out]; exact HM.out.drewN _) rfl rfl HRR.out (by omega) (by omega)
             rw [HPS.out, HOS.out, hsum] at h
             rw [HK.out]
             exact h
           have hkM : k' ≤ M + 1 := by omega
           clear hat HC hsx hsrc hsum hk' HK HPS HOS HQC
           go_wp2_with fail
           refine (HE84.out _).mono ?_
           rintro e w1 ⟨m1, v1, dv1, hm1, rfl, hr1, hb1, hw1⟩
           have HR1 := Lib.hid hr1
           have HB1 := Lib.hid hb1
           have HW1 := Lib.hid hw1
           clear hr1 hb1 hw1
           go_wp2_with fail
           ((try simp only [Exit.inBlock, Exit.then]); refine bodyPost_ret (results_tmp4 rfl _ _ _) rfl ?_)
           exact ⟨m1, v1, dv1, hm1, rfl, HR1.out, (Fr.drewN w _).1.trans HW1.out, .inl HB1.out⟩
end Go.Proofs.Ytnlkbbpmpgdmiaa
namespace Go.Proofs.Ytnlkbbpmpgdmiaa
open Go.RowKit
set_option linter.unusedVariables false
set_option linter.unusedSimpArgs false
theorem str_fin {b off cap m L R k2 c2 k3 c3 c4 n i : Nat} {l rest s t : List UInt8} {A Bd : Addr} {w w' : World} (hL : l.length = L) (hR : rest.length = R) (hc : L ≤ cap) (hlm : m ≤ L) (hcl : l.drop m = rest) (hd : L = m + R)
   (e1 : k2 = m) (e2 : c2 = cap) (e3 : k3 = s.length) (e4 : c3 = cap - i) (eA : A = ⟨b, off + i, none⟩) (hs1 : l.drop i = s ++ t) (hi : i ≤ L) (e5 : n = R) (e6 : c4 = cap - m) (hB : 0 < R → Bd = ⟨b, off + m, none⟩) (hw : ∃ n, w' = w.drewN n) :
   StrRes b off cap l rest s w (.returned (.tuple #[.slice (some ⟨b, off, none⟩) k2 c2, .slice (some A) k3 c3, .slice (some Bd) n c4, .nilIface])) w' := by
 subst e1 e2 e3 e4 e5 e6 hL hR eA
 obtain ⟨nd, rfl⟩ := hw
 refine ⟨_, _, _, hlm, rfl, Rest.drop k2 hcl.symm (by omega) rfl hlm (fun h => hB (by omega)), (Fr.drewN w nd).1, .inr ⟨i, _, t, rfl, ?_, hs1⟩⟩
 have := congrArg List.length hs1
 simp only [List.length_drop, List.length_append] at this
 omega
theorem at_pcs4 {w : World} {b off k : Nat} {a q : List Pc} {rest : List UInt8} (h : Bts w b (off + 4) (srcs (a ++ q) ++ rest)) (hk : k + (srcs q).length = (srcs (a ++ q)).length + 4) : Bts w b (off + k) (srcs q ++ rest) := by
 rw [srcs_append, List.append_assoc] at h
 rw [srcs_append] at hk
 have h2 := h.post
 rw [show off + k = off + 4 + (srcs a).length from by simp at hk; omega]
 exact h2
def MRel (ps : List Pc) (M : Nat) (w0 : World) (g : Nat) (s8 : Value) (wx : World) : Prop :=
 ∃ (a q : List Pc) (k : Nat), s8 = .int .i64 k ∧ k + (srcs q).length = M + 4 ∧ g = (srcs q).length ∧ 4 ≤ k ∧ Hid (ps = a ++ q ∧ outs a = srcs a) ∧ wx = w0
set_option maxRecDepth 100000 in
set_option maxHeartbeats 4000000 in
theorem mbasStr_any (ps : List Pc) (rest : List UInt8) (hps : ∀ p ∈ ps, MBasP p) (hr : ∀ c r, rest = c :: r → c.toNat ≠ 34) (pv : Value) (b off cap M R : Nat) (w : World) (hm : Bts w b off (34 :: 34 :: 34 :: 10 :: (srcs ps ++ 34 :: 34 :: 34 :: rest)))
   (hM : (srcs ps).length = M) (hR : rest.length = R) (hc : M + R + 7 ≤ cap) (hcb : M + R + 7 ≤ 140737488351232 ∧ cap ≤ 9223372036854775807) :
   Calls Try.prog 72 #[pv, .slice (some ⟨b, off, none⟩) (M + R + 7) cap] w (StrRes b off cap (34 :: 34 :: 34 :: 10 :: (srcs ps ++ 34 :: 34 :: 34 :: rest)) rest (outs ps) w) := by
 have c3 : w.cell? ⟨b, off + 3, none⟩ = some (.int .u8 10) := hm.head.2.head.2.head.2.head.1
 have HM4 : Hid (Bts w b (off + 4) (srcs ps ++ 34 :: 34 :: 34 :: rest)) := hm.head.2.head.2.head.2.head.2
 have HM0 := Lib.hid hm
 have HE := Lib.hid hps
 have HMM := Lib.hid hM
 have HRR := Lib.hid hR
 have HR := Lib.hid hr
 have HLL : Hid ((34 :: 34 :: 34 :: 10 :: (srcs ps ++ 34 :: 34 :: 34 :: rest)).length = M + R + 7) := by show _ = _; simp only [List.length_cons, List.length_append]; rw [hM, hR]; omega
 have HDR : Hid ((34 :: 34 :: 34 :: 10 :: (srcs ps ++ 34 :: 34 :: 34 :: rest)).drop (M + 7) = rest) := by
   show _ = _
   rw [← hM, show (srcs ps).length + 7 = (34 :: 34 :: 34 :: 10 :: (srcs ps ++ [34, 34, 34])).length from by simp, show 34 :: 34 :: 34 :: 10 :: (srcs ps ++ 34 :: 34 :: 34 :: rest) = (34 :: 34 :: 34 :: 10 :: (srcs ps ++ [34, 34, 34])) ++ rest from by simp]
   exact List.drop_left
 clear hm hM hR hr hps
 go_enter Try.func72, Try.ntmps72
 go_wp2_with fail
 clear c3
 refine wp_loop_u1 185 8 (fun U => U 0 = pv ∧ U 1 = .slice (some ⟨b, off, none⟩) (M + R + 7) cap ∧ U 9 = .int .i64 4) (fun s8 U => ⟨#[pv, .slice (some ⟨b, off, none⟩) (M + R + 7) cap, U 2, U 3, U 4, U 5, U 6, U 7, s8, .int .i64 4, U 10, U 11, U 12, U 13, U 14, U 15, U 16, U 17, U 18, U 19, U 20, U 21, U 22, U 23, U 24, U 25, U 26, U 27, U 28, U 29, U 30, U 31, U 32, U 33, U 34, U 35, U 36, U 37, U 38, U 39, U 40, U 41, U 42, U 43, U 44, U 45, U 46, U 47, U 48, U 49, U 50, U 51, U 52, U 53, U 54, U 55, U 56, U 57, U 58, U 59, U 60, U 61, U 62, U 63, U 64, U 65, U 66, U 67, U 68, U 69, U 70, U 71, U 72, U 73, U 74, U 75, U 76, U 77, U 78, U 79, U 80, U 81, U 82, U 83, U 84, U 85, U 86, U 87, U 88, U 89, U 90, U 91, U 92, U 93, U 94, U 95, U 96, U 97, U 98, U 99, U 100, U 101, U 102, U 103, U 104, U 105, U 106, U 107, U 108, U 109, U 110, U 111, U 112, U 113, U 114, U 115, U 116, U 117, U 118, U 119, U 120, U 121, U 122, U 123, U 124, U 125, U 126, U 127, U 128, U 129, U 130, U 131, U 132, U 133, U 134, U 135, U 136, U 137, U 138, U 139, U 140, U 141, U 142, U 143, U 144, U 145, U 146, U 147, U 148, U 149, U 150, U 151, U 152, U 153, U 154, U 155, U 156, U 157, U 158, U 159, U 160, U 161, U 162, U 163, U 164, U 165, U 166, U 167, U 168, U 169, U 170, U 171, U 172, U 173, U 174, U 175, U 176, U 177, U 178, U 179, U 180, U 181, U 182, U 183, U 184], []⟩) (by rintro U ⟨h0, h1, h2⟩; rw [← h0, ← h1, ← h2]; rfl)
   (fun g s8 wx => MRel ps M w g s8 wx) M (.int .i64 4) ⟨rfl, rfl, rfl, rfl, rfl⟩ rfl ?_ ?_
 · exact ⟨[], ps, 4, rfl, by rw [HMM.out]; omega, HMM.out.symm, by omega, ⟨rfl, rfl⟩, rfl⟩
 · intro gk u8 U wr hrel J K hJ hK
   obtain ⟨a, q, k, rfl, hk, rfl, hk4, HA, rfl⟩ := hrel
   have HM4' : Hid (Bts wr b (off + 4) (srcs (a ++ q) ++ 34 :: 34 :: 34 :: rest)) := by rw [← HA.out.1]; exact HM4.out
   have HMM' : Hid ((srcs (a ++ q)).length = M) := by rw [← HA.out.1]; exact HMM.out
   have hB := at_pcs4 HM4'.out (k := k) (by rw [HMM'.out]; exact hk)
   cases q with
   | nil =>
     simp only [srcs, List.flatMap_nil, List.nil_append, List.length_nil] at hk hB
     have hka : k ≤ M + 4 := by omega
     have hkb : M + 4 ≤ k := by omega
     have HDK : Hid ((34 :: 34 :: 34 :: 10 :: (srcs ps ++ 34 :: 34 :: 34 :: rest)).drop (k + 3) = rest) := by rw [show k + 3 = M + 7 from by omega]; exact HDR.out
     have HOL : Hid ((outs ps).length = M) := by
       have h1 := HA.out.1
       rw [List.append_nil] at h1
       show _ = _
       rw [h1, HA.out.2, ← h1, HMM.out]
     have HD4 : Hid ((34 :: 34 :: 34 :: 10 :: (srcs ps ++ 34 :: 34 :: 34 :: rest)).drop 4 = outs ps ++ 34 :: 34 :: 34 :: rest) := by
       have h1 := HA.out.1
       rw [List.append_nil] at h1
       show srcs ps ++ 34 :: 34 :: 34 :: rest = _
       have h2 := HA.out.2
       rw [← h1] at h2
       rw [h2]
     clear hk
     have d0 : wr.cell? ⟨b, off + k, none⟩ = some (.int .u8 34) := hB.head.1
     have d1 : wr.cell? ⟨b, off + (k + 1), none⟩ = some (.int .u8 34) := hB.head.2.head.1
     have d2 : wr.cell? ⟨b, off + (k + 2), none⟩ = some (.int .u8 34) := hB.head.2.head.2.head.1
     have HB3 : Hid (Bts wr b (off + (k + 3)) rest) := hB.head.2.head.2.head.2
     clear hB
     have tb : decide ((k : Int) < (M : Int) + (R : Int) + 7) = true := by simp; omega
     go_wp2_with fail
     go_loopg [11] 3 (fun g2 s11 wx => ∃ t : Nat, s11 = .int .i64 ((k + t : Nat) : Int) ∧ t + g2 = 3 ∧ wx = wr)
     case atStart => exact ⟨0, rfl, rfl, rfl⟩
     case round =>
       obtain ⟨t, rfl, ht, rfl⟩ := hrel
       cases gk with
       | zero =>
         obtain rfl : t = 3 := by omega
         clear ht
         by_cases hR0 : R = 0
         · have hkn : ((k : Int) + 3 < (M : Int) + R + 7) = False := by simp; omega
           as_aux_lemma =>
             by_cases hcap : cap = k + 3
             · first
                 | (exfalso; omega)
                 | (go_wp2_with fail
                    go_quiet (fail)
                    go_wp2
                    ((try simp only [Exit.inBlock, Exit.then]); refine bodyPost_ret (results_tmp4 rfl _ _ _) rfl ?_)
                    exact str_fin HLL.out HRR.out (by omega) (by omega) HDK.out (by omega) (by omega) hcap.symm (by rw [HOL.out]; omega) (by omega) rfl HD4.out (by omega) (by omega) (by omega) (fun h => by omega) ⟨_, rfl⟩)
             · go_wp2_with fail
               go_quiet (fail)
               go_wp2
               ((try simp only [Exit.inBlock, Exit.then]); refine bodyPost_ret (results_tmp4 rfl _ _ _) rfl ?_)
               exact str_fin HLL.out HRR.out (by omega) (by omega) HDK.out (by omega) rfl rfl (by rw [HOL.out]; omega) rfl rfl HD4.out (by omega) (by omega) rfl (fun h => rfl) ⟨_, rfl⟩
         · obtain ⟨c, r, hcr⟩ : ∃ c r, rest = c :: r := by
             cases rest with
             | nil => have := HRR.out; simp at this; omega
             | cons c r => exact ⟨c, r, rfl⟩
           have hB3 := HB3.out
           rw [hcr] at hB3
           have d3 := hB3.head.1
           have hc39 := HR.out c r hcr
           have e39 : ((c.toNat : Int) == 34) = false := by simp; omega
           clear hB3 hcr hc39
           generalize (c.toNat : Int) = x at *
           as_aux_lemma =>
             by_cases hcap : cap = k + 3
             · first
                 | (exfalso; omega)
                 | (go_wp2_with fail
                    go_quiet (fail)
                    go_wp2
                    ((try simp only [Exit.inBlock, Exit.then]); refine bodyPost_ret (results_tmp4 rfl _ _ _) rfl ?_)
                    exact str_fin HLL.out HRR.out (by omega) (by omega) HDK.out (by omega) (by omega) hcap.symm (by rw [HOL.out]; omega) (by omega) rfl HD4.out (by omega) (by omega) (by omega) (fun h => by omega) ⟨_, rfl⟩)
             · go_wp2_with fail
               go_quiet (fail)
               go_wp2
               ((try simp only [Exit.inBlock, Exit.then]); refine bodyPost_ret (results_tmp4 rfl _ _ _) rfl ?_)
               exact str_fin HLL.out HRR.out (by omega) (by omega) HDK.out (by omega) rfl rfl (by rw [HOL.out]; omega) rfl rfl HD4.out (by omega) (by omega) rfl (fun h => rfl) ⟨_, rfl⟩
       | succ g3 =>
         have hcs : t = 0 ∨ t = 1 ∨ t = 2 := by omega
         rcases hcs with rfl | rfl | rfl
         all_goals
           go_wp2_with fail
           go_roundg g3
           case measure => omega
           case rel => exact ⟨_ + 1, by go_num, by omega, rfl⟩
   | cons p q3 =>
     have HC : Hid (∀ x ∈ p :: q3, MBasP x) := fun x hx => HE.out x (by rw [HA.out.1]; simp at hx ⊢; exact .inr hx)
     have hbs : (∃ c, ((Wide p.src ∧ 128 ≤ c) ∧ p.out = p.src) ∧ wr.cell? ⟨b, off + k, none⟩ = some (.int .u8 c) ∧ c ≤ 255) ∨ (∃ c, MBasC c ∧ p.src = [c] ∧ p.out = p.src) ∨ wr.cell? ⟨b, off + k, none⟩ = some (.int .u8 92) := by
       rw [srcs_cons] at hB
       rcases HC.out p (by simp) with (⟨hw | ⟨c, hcc, hsrc⟩, hpo⟩ | ⟨s, hesc, hsrc⟩) | ⟨b1, b2, q, _, _, _, _, hsrc, _⟩
       · obtain ⟨c, t, hce, hc128⟩ := hw.head
         rw [hce] at hB
         exact .inl ⟨_, ⟨⟨hw, by omega⟩, hpo⟩, hB.head.1, by have := c.toNat_lt; omega⟩
       · exact .inr (.inl ⟨c, hcc, hsrc, hpo⟩)
       · rw [hsrc] at hB
         exact .inr (.inr hB.head.1)
       · rw [hsrc] at hB
         exact .inr (.inr hB.head.1)
     rcases hbs with ⟨x, ⟨⟨hwide, h128⟩, hpo⟩, hc0, h255⟩ | ⟨c, hC, hsrc, hpo⟩ | hc0
     · obtain ⟨a1, qb, hpq, ho1, hl1, hla1, hcall⟩ := wide_pcs2 (p := p) (q := q3) ⟨hwide, hpo⟩ (fun x hx => (HC.out x (by simp [hx])).first) (rest := 34 :: 34 :: 34 :: rest) (fun c r h => by injection h with h _; subst h; decide)
       have HCALL := Lib.hid (hcall b off (M + R + 7) k cap wr hB (by simp only [List.length_cons]; rw [HRR.out]; omega) hc hcb)
       have HA1 : Hid (ps = (a ++ a1) ++ qb ∧ outs (a ++ a1) = srcs (a ++ a1)) := ⟨by rw [HA.out.1, hpq, List.append_assoc], by rw [outs_append, srcs_append, HA.out.2, ho1]⟩
       have HLEN : Hid ((srcs (p :: q3)).length = (srcs a1).length + (srcs qb).length) := by rw [hpq, srcs_append, List.length_append]; exact rfl
       rw [HLEN.out] at hk
       clear hB hwide hcall hpo hpq ho1 HC hla1
       have e34 : (x == 34) = false := by simp; omega
       have e92 : (x == 92) = false := by simp; omega
       have e9 : (x == 9) = false := by simp; omega
       have e10 : (x == 10) = false := by simp; omega
       have e13 : (x == 13) = false := by simp; omega
       generalize hla : (srcs a1).length = la at *
       have HLA := Lib.hid hla
       generalize hlb : (srcs qb).length = lb at *
       have HLB := Lib.hid hlb
       clear hla hlb
       as_aux_lemma =>
         go_wp2_with fail
         refine HCALL.out.mono ?_
         rintro e w1 ⟨rfl, rfl⟩
         go_wp2_with fail
         refine Handed.u1 hJ lb _ ⟨rfl, rfl, rfl, rfl, rfl⟩ rfl ?_ ?_
         · have h := HLEN.out; omega
         · exact ⟨a ++ a1, qb, k + la, by go_num, by rw [HLB.out]; omega, HLB.out.symm, by omega, HA1.out, rfl⟩
     · rw [srcs_cons, hsrc] at hB
       have hc0 := hB.head.1
       have hC2 : (32 ≤ (c.toNat : Int) ∧ (c.toNat : Int) < 127 ∧ (c.toNat : Int) ≠ 34 ∧ (c.toNat : Int) ≠ 92) ∨ (c.toNat : Int) = 9 ∨ (c.toNat : Int) = 10 := by unfold MBasC at hC; omega
       have HA1 : Hid (ps = (a ++ [p]) ++ q3 ∧ outs (a ++ [p]) = srcs (a ++ [p])) := ⟨by rw [HA.out.1, List.append_assoc]; rfl, by rw [outs_append, srcs_append, HA.out.2]; simp [outs, srcs, hpo]⟩
       have HLEN : Hid ((srcs (p :: q3)).length = (srcs q3).length + 1) := by show _ = _; rw [srcs_cons, hsrc]; simp [Nat.add_comm]
       rw [HLEN.out] at hk
       clear hB hC hsrc hpo HC
       generalize hlb : (srcs q3).length = lb at *
       have HLB := Lib.hid hlb
       clear hlb
       generalize (c.toNat : Int) = x at *
       rcases hC2 with ⟨h1, h2, h3, h4⟩ | rfl | rfl
       · have e34 : (x == 34) = false := by simp; omega
         have e92 : (x == 92) = false := by simp; omega
         as_aux_lemma =>
           go_wp2_with fail
           refine Handed.u1 hJ lb _ ⟨rfl, rfl, rfl, rfl, rfl⟩ rfl ?_ ?_
           · have h := HLEN.out; omega
           · exact ⟨a ++ [p], q3, k + 1, by go_num, by rw [HLB.out]; omega, HLB.out.symm, by omega, HA1.out, rfl⟩
       · as_aux_lemma =>
           go_wp2_with fail
           refine Handed.u1 hJ lb _ ⟨rfl, rfl, rfl, rfl, rfl⟩ rfl ?_ ?_
           · have h := HLEN.out; omega
           · exact ⟨a ++ [p], q3, k + 1, by go_num, by rw [HLB.out]; omega, HLB.out.symm, by omega, HA1.out, rfl⟩
       · as_aux_lemma =>
           go_wp2_with fail
           refine Handed.u1 hJ lb _ ⟨rfl, rfl, rfl, rfl, rfl⟩ rfl ?_ ?_
           · have h := HLEN.out; omega
           · exact ⟨a ++ [p], q3, k + 1, by go_num, by rw [HLB.out]; omega, HLB.out.symm, by omega, HA1.out, rfl⟩
     · have HPS : Hid (34 :: 34 :: 34 :: 10 :: (srcs a ++ (srcs (p :: q3) ++ 34 :: 34 :: 34 :: rest)) = 34 :: 34 :: 34 :: 10 :: (srcs ps ++ 34 :: 34 :: 34 :: rest)) := by
         show _ = _
         rw [HA.out.1, srcs_append, List.append_assoc]
       have HOS : Hid (srcs a ++ outs (p :: q3) = outs ps) := by
         show _ = _
         rw [HA.out.1, outs_append, HA.out.2]
       have hsum : (srcs a).length + (srcs (p :: q3)).length = M := by have := HMM'.out; rw [srcs_append, List.length_append] at this; omega
       have HK : Hid (k = (srcs a).length + 4) := by show _ = _; omega
       have HE83 : Hid (Calls Try.prog 83 #[pv, .slice (some ⟨b, off, none⟩) (M + R + 7) cap, .int .i64 4, .int .i64 (k : Int)] wr (StrNew wr.heap.size b off cap (34 :: 34 :: 34 :: 10 :: (srcs ps ++ 34 :: 34 :: 34 :: rest)) rest (outs ps) wr)) := by
         have h := mbasEsc_any (srcs a) rest (p :: q3) HC.out HR.out pv b off cap (srcs a).length (srcs (p :: q3)).length R wr (by rw [HPS.out]; exact HM0.out) rfl rfl HRR.out (by omega) (by omega)
         rw [HPS.out, HOS.out, hsum] at h
         rw [HK.out]
         exact h
       have hkM : k ≤ M + 4 := by omega
       clear hB hsum hk HK HPS HOS HC
       as_aux_lemma =>
         go_wp2_with fail
         refine HE83.out.mono ?_
         rintro e w1 ⟨m1, v1, dv1, hm1, rfl, hr1, hb1, hw1⟩
         have HR1 := Lib.hid hr1
         have HB1 := Lib.hid hb1
         have HW1 := Lib.hid hw1
         clear hr1 hb1 hw1
         go_wp2_with fail
         ((try simp only [Exit.inBlock, Exit.then]); refine bodyPost_ret (results_tmp4 rfl _ _ _) rfl ?_)
         exact ⟨m1, v1, dv1, hm1, rfl, HR1.out, HW1.out, .inl HB1.out⟩
end Go.Proofs.Ytnlkbbpmpgdmiaa
