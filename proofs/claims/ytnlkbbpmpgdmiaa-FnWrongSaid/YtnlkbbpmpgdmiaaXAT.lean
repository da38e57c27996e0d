/- The reference's writer: a key's parts; The reference's writer: a key: the walk. -/
import Derived.Test.YtnlkbbpmpgdmiaaXAR
import Derived.Test.YtnlkbbpmpgdmiaaXAP
namespace Go.Proofs.Ytnlkbbpmpgdmiaa
open Go.RowKit
set_option linter.unusedVariables false
set_option linter.unusedSimpArgs false
theorem bare_any (c : UInt8) (w : World) : Calls Try.prog 51 #[.int .u8 c.toNat] w fun e w' => e = .returned (.bool (decide (Bare c))) ∧ w = w' := by
 have yes : Bare c → decide (Bare c) = true := fun h => decide_eq_true h
 have no : ¬ Bare c → decide (Bare c) = false := fun h => decide_eq_false h
 have h0 := c.toNat_lt
 unfold Bare at yes no
 have cs : c.toNat < 45 ∨ c.toNat = 45 ∨ (46 ≤ c.toNat ∧ c.toNat < 48) ∨ (48 ≤ c.toNat ∧ c.toNat ≤ 57) ∨ (58 ≤ c.toNat ∧ c.toNat < 65) ∨ (65 ≤ c.toNat ∧ c.toNat ≤ 90) ∨ (91 ≤ c.toNat ∧ c.toNat < 95) ∨ c.toNat = 95 ∨ c.toNat = 96 ∨ (97 ≤ c.toNat ∧ c.toNat ≤ 122) ∨ 123 ≤ c.toNat := by omega
 have fin : ∀ v : Bool, v = decide (Bare c) → Ending.returned (Value.bool v) = Ending.returned (Value.bool (decide (Bare c))) := fun v h => by rw [h]
 have H : ∃ v, decide (Bare c) = v := ⟨_, rfl⟩
 obtain ⟨v, hv⟩ := H
 rw [hv]
 have HV := Lib.hid hv
 have HY : Hid (Bare c → v = true) := fun h => by rw [← hv]; exact decide_eq_true h
 have HN : Hid (¬ Bare c → v = false) := fun h => by rw [← hv]; exact decide_eq_false h
 clear yes no fin hv
 generalize hn : c.toNat = n at *
 have HC := Lib.hid hn
 clear hn
 rcases cs with h | h | ⟨h, h'⟩ | ⟨h, h'⟩ | ⟨h, h'⟩ | ⟨h, h'⟩ | ⟨h, h'⟩ | h | h | ⟨h, h'⟩ | h
 all_goals
   first
     | (have e : v = true := HY.out (by unfold Bare; rw [HC.out]; omega)
        subst e)
     | (have e : v = false := HN.out (by unfold Bare; rw [HC.out]; omega)
        subst e)
 all_goals try subst h
 all_goals
   clear HY HN HV HC
   go_enter Try.func51, Try.ntmps51
   go_wp2_with fail
   go_ret
   first | exact ⟨rfl, rfl⟩ | (refine ⟨ret_bool ?_, rfl⟩; simp; omega)
theorem KeyTxt.snoc : ∀ {ks : List (List UInt8)} {s : List UInt8}, KeyTxt ks s → ∀ (k b1 b2 s2 : List UInt8), Blk1 b1 → Blk1 b2 → PartTxt k s2 → KeyTxt (ks ++ [k]) (s ++ (b1 ++ 46 :: (b2 ++ s2)))
 | [], _, h => by cases h
 | [k0], s, h => fun k b1 b2 s2 h1 h2 h3 => ⟨s, _, _, _, h, h1, h2, h3, rfl⟩
 | k0 :: k1 :: ks, s, h => by
   intro k b1 b2 s2 h1 h2 h3
   obtain ⟨s1, c1, c2, s', g1, g2, g3, g4, rfl⟩ := h
   refine ⟨s1, c1, c2, _, g1, g2, g3, KeyTxt.snoc g4 _ _ _ _ h1 h2 h3, ?_⟩
   simp
def kwt : List (List Nat) → Nat
 | [] => 0
 | r :: rs => 10 + 10 * r.length + kwt rs
theorem kwt_snoc (l : List (List Nat)) (r : List Nat) : kwt (l ++ [r]) = kwt l + (10 + 10 * r.length) := by
 induction l with
 | nil => simp [kwt]
 | cons a l ih => simp [kwt, ih]; omega
def KyRel (kws : List (List Nat)) (v : Value) (sb : Nat) (C : Value) (cs : List UInt8) (a : Nat) (w : World) (g : Nat) (s5 s14 : Value) (wx : World) : Prop :=
 ∃ (dn rest : List (List Nat)) (a1 : Nat) (L : List UInt8), kws = dn ++ rest ∧ g = rest.length ∧ s14 = .int .i64 dn.length ∧ s5 = .string ⟨L.toArray⟩ ∧ (dn = [] → L = []) ∧ (dn ≠ [] → KeyTxt (dn.map Wd) L) ∧ L.length ≤ kwt dn ∧ a ≤ a1 ∧ a1 ≤ a + kwt dn ∧
   StrRow (· ≠ sb) wx v (kws.map Wd) ∧ Sty wx sb C cs a1 ∧ SF sb w wx
theorem strrow_keep {w w' : World} {sb : Nat} {v : Value} {ks : List (List UInt8)} (h : StrRow (· ≠ sb) w v ks) (hf : SF sb w w') : StrRow (· ≠ sb) w' v ks :=
 Row.move h fun g t cs hg hb => ⟨hg, hf.keep hb hg⟩
def KeyTold (kws : List (List Nat)) (s : List UInt8) : Prop := KeyTxt (kws.map Wd) s ∧ s.length ≤ kwt kws
theorem kwt_len (l : List (List Nat)) : 10 * l.length ≤ kwt l := by
 induction l with
 | nil => simp [kwt]
 | cons a l ih => simp [kwt]; omega
theorem kwt_append (a b : List (List Nat)) : kwt (a ++ b) = kwt a + kwt b := by
 induction a with
 | nil => simp [kwt]
 | cons x a ih => simp [kwt, ih]; omega
theorem KyRel.step {kws : List (List Nat)} {v : Value} {sb : Nat} {C : Value} {cs : List UInt8} {a : Nat} {w wx : World} {dn rest : List (List Nat)} {k : List Nat} {a1 a2 : Nat} {PRE S : List UInt8}
   (he : kws = dn ++ k :: rest) (hpre : ∀ S, PartTxt (Wd k) S → KeyTxt ((dn ++ [k]).map Wd) (PRE ++ S)) (hpl : PRE.length ≤ kwt dn + 5) (hS : PartTxt (Wd k) S) (hSl : S.length ≤ 2 + 10 * k.length)
   (h1 : a ≤ a1) (h2 : a1 ≤ a + kwt dn) (h3 : a1 ≤ a2) (h4 : a2 ≤ a1 + 4 + 2 * k.length) (hrow : StrRow (· ≠ sb) wx v (kws.map Wd)) (hst : Sty wx sb C cs a2) (hf : SF sb w wx) :
   KyRel kws v sb C cs a w rest.length (.string ⟨(PRE ++ S).toArray⟩) (.int .i64 ((dn.length : Int) + 1)) wx := by
 refine ⟨dn ++ [k], rest, a2, _, by rw [he]; simp, rfl, by simp, rfl, fun h => absurd h (by simp), fun _ => hpre S hS, ?_, by omega, ?_, hrow, hst, hf⟩
 · rw [kwt_snoc]
   simp
   omega
 · rw [kwt_snoc]
   omega
end Go.Proofs.Ytnlkbbpmpgdmiaa
namespace Go.Proofs.Ytnlkbbpmpgdmiaa
open Go.RowKit
set_option linter.unusedVariables false
set_option linter.unusedSimpArgs false
theorem str34 (l : List UInt8) : (⟨l.toArray⟩ : ByteArray) ++ ⟨#[34]⟩ = ⟨(l ++ [34]).toArray⟩ := str2 l [34]
set_option maxRecDepth 100000 in
set_option maxHeartbeats 40000000 in
theorem key_any {w : World} {sb : Nat} {C : Value} {cs : List UInt8} {a : Nat} (h : Sty w sb C cs a) {kws : List (List Nat)} {v : Value} (hv : StrRow (· ≠ sb) w v (kws.map Wd)) (hA : ∀ k ∈ kws, ∀ r ∈ k, Alpha r) (hne : kws ≠ []) (hw : kwt kws ≤ 1000000) (ha : a + kwt kws ≤ 999999900) :
   Calls Try.prog 31 #[.pointer (some ⟨sb, 0, none⟩), v] w (Told (KeyTold kws) sb C cs a (kwt kws) w) := by
 have HA := Lib.hid hA
 have HV := Lib.hid hv
 obtain ⟨A, cap, rfl, hcap, hcm⟩ := Row.slice hv
 obtain ⟨n, hn⟩ : ∃ n, (kws.map Wd).length = n := ⟨_, rfl⟩
 rw [hn] at hcap HV ⊢
 have HN := Lib.hid hn
 have HST := Lib.hid h
 clear h hA hv hn
 have hnm : n ≤ 1000000 := by have := HN.out; have h2 := kwt_len kws; simp at this; omega
 go_enter Try.func31, Try.ntmps31
 go_wp2_with fail
 go_loopg [5, 14] n (fun g s5 s14 wx => Hid (KyRel kws (.slice A n cap) sb C cs a w g s5 s14 wx))
 case atStart => 
   have := HN.out
   refine ⟨[], kws, a, [], rfl, by rw [← this]; simp, rfl, rfl, fun _ => rfl, fun h => absurd rfl h, Nat.le_refl _, Nat.le_refl _, Nat.le_add_right _ _, HV.out, HST.out, SF.refl _ _⟩
 case round =>
   obtain ⟨dn, rest, a1, L, he, hgk, rfl, rfl, hL0, hL1, hLl, h1, h2, hrow, hst, hf⟩ := hrel.out
   clear hrel
   cases rest with
   | nil =>
     have hde : dn = kws := by rw [he]; simp
     have hnd : ¬ ((dn.length : Int) < n) := by have := HN.out; rw [← hde] at this; simp at this; omega
     have HFIN : Hid (Told (KeyTold kws) sb C cs a (kwt kws) w (.returned (.string ⟨L.toArray⟩)) wr) := by
       subst hde
       exact ⟨L, a1, rfl, ⟨hL1 hne, hLl⟩, h1, h2, hst, hf⟩
     clear hw ha hne hcap hcm hnm h1 h2 hst hf hrow he hde hLl hL0 hL1 hgk
     go_wp2_with fail
     go_ret
     exact HFIN.out
   | cons k rest =>
     have hnl : dn.length < n := by have := HN.out; rw [he] at this; simp at this; omega
     have hrow' := hrow
     unfold StrRow at hrow'
     rw [show (kws.map Wd).length = n from HN.out] at hrow'
     obtain ⟨g, cap', e1, _, _, hgs, hgl, hcl⟩ := Row.cells hrow' (by omega)
     injection e1 with e1 _ e2
     subst e1
     subst e2
     have hcell : wr.cell? ⟨g, dn.length, none⟩ = some (.string ⟨(Wd k).toArray⟩) := by
       rw [hcl dn.length (by omega), he]
       simp
     have hk : ∀ r ∈ k, Alpha r := HA.out k (by rw [he]; simp)
     have hkw : kwt dn + (10 + 10 * k.length) ≤ kwt kws := by
       rw [he, kwt_append]
       simp [kwt]
     have HK := Lib.hid hk
     have HH := Lib.hid (And.intro he (And.intro h1 h2))
     have HROW := Lib.hid hrow
     have HST1 := Lib.hid hst
     have HF1 := Lib.hid hf
     have ha1 : a1 ≤ 999999900 := by omega
     have hwl := Wd.len k
     clear hrow hrow' hst hf hk hcl
     obtain ⟨j, hj⟩ : ∃ j, dn.length = j := ⟨_, rfl⟩
     rw [hj] at hnl hcell ⊢
     have HJ := Lib.hid hj
     have hnl' : (j : Int) < n := by omega
     have hj0 : (0 : Int) ≤ (j : Int) := by omega
     clear hj
     by_cases h0 : j = 0
     · subst h0
       have hd0 : dn = [] := by have := HJ.out; exact List.eq_nil_of_length_eq_zero this
       have HPRE : Hid (∀ S, PartTxt (Wd k) S → KeyTxt ((dn ++ [k]).map Wd) (L ++ S)) := by
         intro S hS
         rw [hd0, hL0 hd0]
         exact hS
       have hpl : L.length ≤ kwt dn + 5 := by omega
       have hhi : a1 ≤ a1 + 2 := by omega
       have hlo : a1 ≤ a1 := Nat.le_refl _
       clear hd0 hL0 hL1
       go_wp2_with fail
       go_loopg [8, 33] (Wd k).length (fun g s8 s33 wx => ∃ (i : Nat) (b : Bool), s33 = .int .i64 i ∧ i + g = (Wd k).length ∧ s8 = .bool b ∧ Hid (b = (!(Wd k).isEmpty && ((Wd k).take i).all fun c => decide (Bare c))) ∧ wx = wr)
       case atStart => exact ⟨0, _, rfl, by omega, rfl, by show _ = _; simp, rfl⟩
       case round =>
         obtain ⟨i, b, rfl, hig, rfl, HBE, hwx⟩ := hrel
         rw [hwx]
         clear hwx
         cases gk with
         | zero =>
           have hi : i = (Wd k).length := by omega
           have hni : ¬ ((i : Int) < (Wd k).length) := by omega
           have HBE2 : Hid (b = (!(Wd k).isEmpty && (Wd k).all fun c => decide (Bare c))) := by
             have := HBE.out
             rw [hi, List.take_length] at this
             exact this
           clear HBE hig
           cases b with
           | false =>
             go_wp2_with fail
             refine (plain_any HK.out false (by omega)).mono ?_
             rintro e W3 ⟨rfl, hb3⟩
             have hfb3 := fin_below HST1.out hb3
             have HST3 := Lib.hid hfb3.1
             have HF3 := Lib.hid (HF1.out.trans hfb3.2)
             clear hfb3 hb3
             cases hpl2 : plainB false k with
             | true =>
               have hpv2 := pickV_lt cs (a1) (n := 2) (by omega)
               go_wp2_with fail
               refine (pick_any HST3.out (by omega) 2 (by omega) (by omega)).mono ?_
               rintro e W4 ⟨rfl, hst4, hf4⟩
               have HST4 := Lib.hid hst4
               have HF4 := Lib.hid (HF3.out.trans hf4)
               clear hst4 hf4
               generalize pickV cs (a1) 2 = q at *
               by_cases hq : q = 0
               · subst hq
                 have hs4 : ¬ (9223372036854775807 < (L).length + (Wd k).length + 2) := by omega
                 go_wp2_with fail
                 go_roundg rest.length
                 case measure => rw [hgk]; simp
                 case rel =>
                   obtain ⟨he, h1, h2⟩ := HH.out
                   rw [str3, str2]
                   have hfin := KyRel.step he HPRE.out (by omega) (.inr (.inl (lit_plain HK.out hpl2))) (by simp; omega) h1 h2 (by omega) (by omega) (strrow_keep HV.out HF4.out) HST4.out HF4.out
                   rw [HJ.out] at hfin
                   exact hfin
               · have fq : ((q : Int) == 0) = false := by simp; omega
                 have fq' : ¬ ((q : Int) = 0) := by omega
                 obtain ⟨B, hB⟩ : ∃ B, W4.heap.size = B := ⟨_, rfl⟩
                 have HS0 : Hid (TxRel BasP 10 2 k (L ++ [34]) sb C cs (a1 + 1) B w k.length (.string (⟨(L).toArray⟩ ++ ⟨#[34]⟩)) (World.iter W4 ⟨(Wd k).toArray⟩ 0)) := by
                   show TxRel _ _ _ _ _ _ _ _ _ _ _ _ _ _
                   rw [← hB, str34]
                   exact TxRel.start (pre := L ++ [34]) HST4.out HF4.out
                 go_wp2_with fail
                 go_loopg [5] k.length (fun g s5 wx => Hid (TxRel BasP 10 2 k (L ++ [34]) sb C cs (a1 + 1) B w g s5 wx))
                 case atStart => exact HS0.out
                 case round =>
                   obtain ⟨dn2, rs, ps, a3, L2, he2, hgk2, rfl, hL2, hps2, hou2, hle2, h12, h22, hit2, hst2, hf2⟩ := hrel.out
                   clear HS0 hrel
                   have hdl : dn2.length ≤ k.length := by rw [he2]; simp
                   have hLl2 : L2.length = (L).length + 1 + (srcs ps).length := by rw [hL2]; simp; omega
                   have hLm2 : L2.length ≤ 20000000 := by omega
                   have HB := Lib.hid hB
                   have HH2 := Lib.hid (And.intro he2 (And.intro hL2 (And.intro hps2 (And.intro hou2 (And.intro hle2 (And.intro h12 h22))))))
                   have ha3 : a3 ≤ 999999980 := by omega
                   cases rs with
                   | nil =>
                     have hde2 : dn2 = k := by rw [he2]; simp
                     rw [hde2] at hit2
                     have hnx := next_word_end hit2
                     have HSTe := Lib.hid hst2
                     have HFe := Lib.hid hf2
                     clear hit2 hst2 hf2 hps2 hou2 he2 hL2
                     go_wp2_with fail
                     go_roundg rest.length
                     case measure => rw [hgk]; simp
                     case rel =>
                       obtain ⟨he2, hL2, hps2, hou2, hle2, h12, h22⟩ := HH2.out
                       obtain ⟨he, h1, h2⟩ := HH.out
                       rw [str34, show L2 ++ [34] = L ++ (34 :: (srcs ps ++ [34])) from by rw [hL2]; simp]
                       rw [hde2] at hle2 h22 hou2
                       have hfin := KyRel.step he HPRE.out (by omega) (.inr (.inr ⟨ps, hps2, hou2.symm, rfl⟩)) (by simp; omega) h1 h2 (by omega) (by omega) (strrow_keep HV.out HFe.out) HSTe.out HFe.out
                       rw [HJ.out] at hfin
                       exact hfin
                   | cons r rs =>
                     have hnx := next_word HK.out he2 hit2
                     have hBs : sb < B := by rw [← HB.out]; exact HST4.out.1.lt
                     have HIT1 := Lib.hid (hit2.setIt (Wd (dn2 ++ [r])).length)
                     have hr : Alpha r := HK.out r (by rw [he2]; simp)
                     have HSTa := Lib.hid (hst2.setIt hBs ⟨(Wd k).toArray⟩ (Wd (dn2 ++ [r])).length)
                     have HFa := Lib.hid (setIt_SF (B := 0) (s := ⟨(Wd k).toArray⟩) (pos := (Wd (dn2 ++ [r])).length) hf2 hBs (by rw [← HB.out]; exact HF4.out.1.size))
                     clear hit2 hst2 hf2 hps2 hou2 he2 hL2
                     go_wp2_with fail
                     refine (escaped_any HSTa.out (by omega) hr false).mono ?_
                     rintro e wb ⟨s, a4, rfl, hok, h3, h4, hstb, hfb⟩
                     have hsl := hok.1
                     have HOK := Lib.hid (hok.2.1 rfl)
                     have HSTb := Lib.hid hstb
                     have HFb := Lib.hid (HFa.out.trans hfb)
                     have HITb := Lib.hid (HIT1.out.keep hfb (Nat.ne_of_gt hBs))
                     have hsum : ¬ (9223372036854775807 < L2.length + s.length) := by omega
                     clear hok hstb hfb
                     go_wp2_with fail
                     go_roundg rs.length
                     case measure => rw [hgk2]; simp
                     case rel =>
                       obtain ⟨he2, hL2, hps2, hou2, hle2, h12, h22⟩ := HH2.out
                       rw [str2]
                       exact TxRel.step he2 hL2 hps2 hou2 hle2 h12 h22 HOK.out hsl h3 h4 HITb.out HSTb.out HFb.out
             | false =>
               obtain ⟨B, hB⟩ : ∃ B, W3.heap.size = B := ⟨_, rfl⟩
               have HS0 : Hid (TxRel BasP 10 2 k (L ++ [34]) sb C cs a1 B w k.length (.string (⟨(L).toArray⟩ ++ ⟨#[34]⟩)) (World.iter W3 ⟨(Wd k).toArray⟩ 0)) := by
                 show TxRel _ _ _ _ _ _ _ _ _ _ _ _ _ _
                 rw [← hB, str34]
                 exact TxRel.start (pre := L ++ [34]) HST3.out HF3.out
               go_wp2_with fail
               go_loopg [5] k.length (fun g s5 wx => Hid (TxRel BasP 10 2 k (L ++ [34]) sb C cs a1 B w g s5 wx))
               case atStart => exact HS0.out
               case round =>
                 obtain ⟨dn2, rs, ps, a3, L2, he2, hgk2, rfl, hL2, hps2, hou2, hle2, h12, h22, hit2, hst2, hf2⟩ := hrel.out
                 clear HS0 hrel
                 have hdl : dn2.length ≤ k.length := by rw [he2]; simp
                 have hLl2 : L2.length = (L).length + 1 + (srcs ps).length := by rw [hL2]; simp; omega
                 have hLm2 : L2.length ≤ 20000000 := by omega
                 have HB := Lib.hid hB
                 have HH2 := Lib.hid (And.intro he2 (And.intro hL2 (And.intro hps2 (And.intro hou2 (And.intro hle2 (And.intro h12 h22))))))
                 have ha3 : a3 ≤ 999999980 := by omega
                 cases rs with
                 | nil =>
                   have hde2 : dn2 = k := by rw [he2]; simp
                   rw [hde2] at hit2
                   have hnx := next_word_end hit2
                   have HSTe := Lib.hid hst2
                   have HFe := Lib.hid hf2
                   clear hit2 hst2 hf2 hps2 hou2 he2 hL2
                   go_wp2_with fail
                   go_roundg rest.length
                   case measure => rw [hgk]; simp
                   case rel =>
                     obtain ⟨he2, hL2, hps2, hou2, hle2, h12, h22⟩ := HH2.out
                     obtain ⟨he, h1, h2⟩ := HH.out
                     rw [str34, show L2 ++ [34] = L ++ (34 :: (srcs ps ++ [34])) from by rw [hL2]; simp]
                     rw [hde2] at hle2 h22 hou2
                     have hfin := KyRel.step he HPRE.out (by omega) (.inr (.inr ⟨ps, hps2, hou2.symm, rfl⟩)) (by simp; omega) h1 h2 (by omega) (by omega) (strrow_keep HV.out HFe.out) HSTe.out HFe.out
                     rw [HJ.out] at hfin
                     exact hfin
                 | cons r rs =>
                   have hnx := next_word HK.out he2 hit2
                   have hBs : sb < B := by rw [← HB.out]; exact HST3.out.1.lt
                   have HIT1 := Lib.hid (hit2.setIt (Wd (dn2 ++ [r])).length)
                   have hr : Alpha r := HK.out r (by rw [he2]; simp)
                   have HSTa := Lib.hid (hst2.setIt hBs ⟨(Wd k).toArray⟩ (Wd (dn2 ++ [r])).length)
                   have HFa := Lib.hid (setIt_SF (B := 0) (s := ⟨(Wd k).toArray⟩) (pos := (Wd (dn2 ++ [r])).length) hf2 hBs (by rw [← HB.out]; exact HF3.out.1.size))
                   clear hit2 hst2 hf2 hps2 hou2 he2 hL2
                   go_wp2_with fail
                   refine (escaped_any HSTa.out (by omega) hr false).mono ?_
                   rintro e wb ⟨s, a4, rfl, hok, h3, h4, hstb, hfb⟩
                   have hsl := hok.1
                   have HOK := Lib.hid (hok.2.1 rfl)
                   have HSTb := Lib.hid hstb
                   have HFb := Lib.hid (HFa.out.trans hfb)
                   have HITb := Lib.hid (HIT1.out.keep hfb (Nat.ne_of_gt hBs))
                   have hsum : ¬ (9223372036854775807 < L2.length + s.length) := by omega
                   clear hok hstb hfb
                   go_wp2_with fail
                   go_roundg rs.length
                   case measure => rw [hgk2]; simp
                   case rel =>
                     obtain ⟨he2, hL2, hps2, hou2, hle2, h12, h22⟩ := HH2.out
                     rw [str2]
                     exact TxRel.step he2 hL2 hps2 hou2 hle2 h12 h22 HOK.out hsl h3 h4 HITb.out HSTb.out HFb.out
           | true =>
             have hpv3 := pickV_lt cs (a1) (n := 3) (by omega)
             go_wp2_with fail
             refine (pick_any HST1.out (by omega) 3 (by omega) (by omega)).mono ?_
             rintro e W2 ⟨rfl, hst2, hf2⟩
             have HST2 := Lib.hid hst2
             have HF2 := Lib.hid (HF1.out.trans hf2)
             clear hst2 hf2
             generalize pickV cs (a1) 3 = p at *
             by_cases hp : p = 0
             · subst hp
               go_wp2_with fail
               refine (plain_any HK.out false (by omega)).mono ?_
               rintro e W3 ⟨rfl, hb3⟩
               have hfb3 := fin_below HST2.out hb3
               have HST3 := Lib.hid hfb3.1
               have HF3 := Lib.hid (HF2.out.trans hfb3.2)
               clear hfb3 hb3
               cases hpl2 : plainB false k with
               | true =>
                 have hpv2 := pickV_lt cs ((a1 + 1)) (n := 2) (by omega)
                 go_wp2_with fail
                 refine (pick_any HST3.out (by omega) 2 (by omega) (by omega)).mono ?_
                 rintro e W4 ⟨rfl, hst4, hf4⟩
                 have HST4 := Lib.hid hst4
                 have HF4 := Lib.hid (HF3.out.trans hf4)
                 clear hst4 hf4
                 generalize pickV cs ((a1 + 1)) 2 = q at *
                 by_cases hq : q = 0
                 · subst hq
                   have hs4 : ¬ (9223372036854775807 < (L).length + (Wd k).length + 2) := by omega
                   go_wp2_with fail
                   go_roundg rest.length
                   case measure => rw [hgk]; simp
                   case rel =>
                     obtain ⟨he, h1, h2⟩ := HH.out
                     rw [str3, str2]
                     have hfin := KyRel.step he HPRE.out (by omega) (.inr (.inl (lit_plain HK.out hpl2))) (by simp; omega) h1 h2 (by omega) (by omega) (strrow_keep HV.out HF4.out) HST4.out HF4.out
                     rw [HJ.out] at hfin
                     exact hfin
                 · have fq : ((q : Int) == 0) = false := by simp; omega
                   have fq' : ¬ ((q : Int) = 0) := by omega
                   obtain ⟨B, hB⟩ : ∃ B, W4.heap.size = B := ⟨_, rfl⟩
                   have HS0 : Hid (TxRel BasP 10 2 k (L ++ [34]) sb C cs ((a1 + 1) + 1) B w k.length (.string (⟨(L).toArray⟩ ++ ⟨#[34]⟩)) (World.iter W4 ⟨(Wd k).toArray⟩ 0)) := by
                     show TxRel _ _ _ _ _ _ _ _ _ _ _ _ _ _
                     rw [← hB, str34]
                     exact TxRel.start (pre := L ++ [34]) HST4.out HF4.out
                   go_wp2_with fail
                   go_loopg [5] k.length (fun g s5 wx => Hid (TxRel BasP 10 2 k (L ++ [34]) sb C cs ((a1 + 1) + 1) B w g s5 wx))
                   case atStart => exact HS0.out
                   case round =>
                     obtain ⟨dn2, rs, ps, a3, L2, he2, hgk2, rfl, hL2, hps2, hou2, hle2, h12, h22, hit2, hst2, hf2⟩ := hrel.out
                     clear HS0 hrel
                     have hdl : dn2.length ≤ k.length := by rw [he2]; simp
                     have hLl2 : L2.length = (L).length + 1 + (srcs ps).length := by rw [hL2]; simp; omega
                     have hLm2 : L2.length ≤ 20000000 := by omega
                     have HB := Lib.hid hB
                     have HH2 := Lib.hid (And.intro he2 (And.intro hL2 (And.intro hps2 (And.intro hou2 (And.intro hle2 (And.intro h12 h22))))))
                     have ha3 : a3 ≤ 999999980 := by omega
                     cases rs with
                     | nil =>
                       have hde2 : dn2 = k := by rw [he2]; simp
                       rw [hde2] at hit2
                       have hnx := next_word_end hit2
                       have HSTe := Lib.hid hst2
                       have HFe := Lib.hid hf2
                       clear hit2 hst2 hf2 hps2 hou2 he2 hL2
                       go_wp2_with fail
                       go_roundg rest.length
                       case measure => rw [hgk]; simp
                       case rel =>
                         obtain ⟨he2, hL2, hps2, hou2, hle2, h12, h22⟩ := HH2.out
                         obtain ⟨he, h1, h2⟩ := HH.out
                         rw [str34, show L2 ++ [34] = L ++ (34 :: (srcs ps ++ [34])) from by rw [hL2]; simp]
                         rw [hde2] at hle2 h22 hou2
                         have hfin := KyRel.step he HPRE.out (by omega) (.inr (.inr ⟨ps, hps2, hou2.symm, rfl⟩)) (by simp; omega) h1 h2 (by omega) (by omega) (strrow_keep HV.out HFe.out) HSTe.out HFe.out
                         rw [HJ.out] at hfin
                         exact hfin
                     | cons r rs =>
                       have hnx := next_word HK.out he2 hit2
                       have hBs : sb < B := by rw [← HB.out]; exact HST4.out.1.lt
                       have HIT1 := Lib.hid (hit2.setIt (Wd (dn2 ++ [r])).length)
                       have hr : Alpha r := HK.out r (by rw [he2]; simp)
                       have HSTa := Lib.hid (hst2.setIt hBs ⟨(Wd k).toArray⟩ (Wd (dn2 ++ [r])).length)
                       have HFa := Lib.hid (setIt_SF (B := 0) (s := ⟨(Wd k).toArray⟩) (pos := (Wd (dn2 ++ [r])).length) hf2 hBs (by rw [← HB.out]; exact HF4.out.1.size))
                       clear hit2 hst2 hf2 hps2 hou2 he2 hL2
                       go_wp2_with fail
                       refine (escaped_any HSTa.out (by omega) hr false).mono ?_
                       rintro e wb ⟨s, a4, rfl, hok, h3, h4, hstb, hfb⟩
                       have hsl := hok.1
                       have HOK := Lib.hid (hok.2.1 rfl)
                       have HSTb := Lib.hid hstb
                       have HFb := Lib.hid (HFa.out.trans hfb)
                       have HITb := Lib.hid (HIT1.out.keep hfb (Nat.ne_of_gt hBs))
                       have hsum : ¬ (9223372036854775807 < L2.length + s.length) := by omega
                       clear hok hstb hfb
                       go_wp2_with fail
                       go_roundg rs.length
                       case measure => rw [hgk2]; simp
                       case rel =>
                         obtain ⟨he2, hL2, hps2, hou2, hle2, h12, h22⟩ := HH2.out
                         rw [str2]
                         exact TxRel.step he2 hL2 hps2 hou2 hle2 h12 h22 HOK.out hsl h3 h4 HITb.out HSTb.out HFb.out
               | false =>
                 obtain ⟨B, hB⟩ : ∃ B, W3.heap.size = B := ⟨_, rfl⟩
                 have HS0 : Hid (TxRel BasP 10 2 k (L ++ [34]) sb C cs (a1 + 1) B w k.length (.string (⟨(L).toArray⟩ ++ ⟨#[34]⟩)) (World.iter W3 ⟨(Wd k).toArray⟩ 0)) := by
                   show TxRel _ _ _ _ _ _ _ _ _ _ _ _ _ _
                   rw [← hB, str34]
                   exact TxRel.start (pre := L ++ [34]) HST3.out HF3.out
                 go_wp2_with fail
                 go_loopg [5] k.length (fun g s5 wx => Hid (TxRel BasP 10 2 k (L ++ [34]) sb C cs (a1 + 1) B w g s5 wx))
                 case atStart => exact HS0.out
                 case round =>
                   obtain ⟨dn2, rs, ps, a3, L2, he2, hgk2, rfl, hL2, hps2, hou2, hle2, h12, h22, hit2, hst2, hf2⟩ := hrel.out
                   clear HS0 hrel
                   have hdl : dn2.length ≤ k.length := by rw [he2]; simp
                   have hLl2 : L2.length = (L).length + 1 + (srcs ps).length := by rw [hL2]; simp; omega
                   have hLm2 : L2.length ≤ 20000000 := by omega
                   have HB := Lib.hid hB
                   have HH2 := Lib.hid (And.intro he2 (And.intro hL2 (And.intro hps2 (And.intro hou2 (And.intro hle2 (And.intro h12 h22))))))
                   have ha3 : a3 ≤ 999999980 := by omega
                   cases rs with
                   | nil =>
                     have hde2 : dn2 = k := by rw [he2]; simp
                     rw [hde2] at hit2
                     have hnx := next_word_end hit2
                     have HSTe := Lib.hid hst2
                     have HFe := Lib.hid hf2
                     clear hit2 hst2 hf2 hps2 hou2 he2 hL2
                     go_wp2_with fail
                     go_roundg rest.length
                     case measure => rw [hgk]; simp
                     case rel =>
                       obtain ⟨he2, hL2, hps2, hou2, hle2, h12, h22⟩ := HH2.out
                       obtain ⟨he, h1, h2⟩ := HH.out
                       rw [str34, show L2 ++ [34] = L ++ (34 :: (srcs ps ++ [34])) from by rw [hL2]; simp]
                       rw [hde2] at hle2 h22 hou2
                       have hfin := KyRel.step he HPRE.out (by omega) (.inr (.inr ⟨ps, hps2, hou2.symm, rfl⟩)) (by simp; omega) h1 h2 (by omega) (by omega) (strrow_keep HV.out HFe.out) HSTe.out HFe.out
                       rw [HJ.out] at hfin
                       exact hfin
                   | cons r rs =>
                     have hnx := next_word HK.out he2 hit2
                     have hBs : sb < B := by rw [← HB.out]; exact HST3.out.1.lt
                     have HIT1 := Lib.hid (hit2.setIt (Wd (dn2 ++ [r])).length)
                     have hr : Alpha r := HK.out r (by rw [he2]; simp)
                     have HSTa := Lib.hid (hst2.setIt hBs ⟨(Wd k).toArray⟩ (Wd (dn2 ++ [r])).length)
                     have HFa := Lib.hid (setIt_SF (B := 0) (s := ⟨(Wd k).toArray⟩) (pos := (Wd (dn2 ++ [r])).length) hf2 hBs (by rw [← HB.out]; exact HF3.out.1.size))
                     clear hit2 hst2 hf2 hps2 hou2 he2 hL2
                     go_wp2_with fail
                     refine (escaped_any HSTa.out (by omega) hr false).mono ?_
                     rintro e wb ⟨s, a4, rfl, hok, h3, h4, hstb, hfb⟩
                     have hsl := hok.1
                     have HOK := Lib.hid (hok.2.1 rfl)
                     have HSTb := Lib.hid hstb
                     have HFb := Lib.hid (HFa.out.trans hfb)
                     have HITb := Lib.hid (HIT1.out.keep hfb (Nat.ne_of_gt hBs))
                     have hsum : ¬ (9223372036854775807 < L2.length + s.length) := by omega
                     clear hok hstb hfb
                     go_wp2_with fail
                     go_roundg rs.length
                     case measure => rw [hgk2]; simp
                     case rel =>
                       obtain ⟨he2, hL2, hps2, hou2, hle2, h12, h22⟩ := HH2.out
                       rw [str2]
                       exact TxRel.step he2 hL2 hps2 hou2 hle2 h12 h22 HOK.out hsl h3 h4 HITb.out HSTb.out HFb.out
             · have fp : (0 : Int) < (p : Int) := by omega
               have hs4 : ¬ (9223372036854775807 < (L).length + (Wd k).length) := by omega
               go_wp2_with fail
               go_roundg rest.length
               case measure => rw [hgk]; simp
               case rel =>
                 obtain ⟨he, h1, h2⟩ := HH.out
                 have hbe := HBE2.out
                 simp only [Bool.true_eq, Bool.and_eq_true, Bool.not_eq_true', List.isEmpty_eq_false_iff, List.all_eq_true, decide_eq_true_eq] at hbe
                 rw [str2]
                 have hfin := KyRel.step he HPRE.out (by omega) (.inl ⟨rfl, hbe.1, hbe.2⟩) (by omega) h1 h2 (by omega) (by omega) (strrow_keep HV.out HF2.out) HST2.out HF2.out
                 rw [HJ.out] at hfin
                 exact hfin
         | succ g2 =>
           have hi : i < (Wd k).length := by omega
           have hi' : (i : Int) < (Wd k).length := by omega
           obtain ⟨c, hc⟩ : ∃ c, (Wd k)[i] = c := ⟨_, rfl⟩
           have hix : ∀ h, ((ByteArray.mk (Wd k).toArray)[i]'h) = c := fun h => hc
           have HT : Hid ((Wd k).take (i + 1) = (Wd k).take i ++ [c]) := by
             show _ = _
             rw [← hc, List.take_append_getElem]
           cases b with
           | false =>
             go_wp2_with fail
             go_roundg g2
             case measure => omega
             case rel =>
               refine ⟨i + 1, false, rfl, by omega, rfl, ?_, rfl⟩
               have := HBE.out
               show _ = _
               rw [HT.out, List.all_append, ← Bool.and_assoc, ← this]
               rfl
           | true =>
             go_wp2_with fail
             refine (bare_any c _).mono ?_
             rintro e w' ⟨rfl, rfl⟩
             go_wp2_with fail
             go_roundg g2
             case measure => omega
             case rel =>
               refine ⟨i + 1, decide (Bare c), rfl, by omega, rfl, ?_, rfl⟩
               have := HBE.out
               show _ = _
               rw [HT.out, List.all_append, ← Bool.and_assoc, ← this]
               simp
     · have fj : (0 : Int) < (j : Int) := by omega
       have hd0 : dn ≠ [] := by have := HJ.out; rintro rfl; simp at this; omega
       go_wp2_with fail
       refine (blanks_any HST1.out (by omega)).mono ?_
       rintro e Wa ⟨b1, rfl, hb1, hsta, hfa⟩
       have HSTA := Lib.hid hsta
       have HFA := Lib.hid (HF1.out.trans hfa)
       have hb1l := hb1.2
       have HB1 := Lib.hid hb1.1
       clear hsta hfa hb1
       go_wp2_with fail
       refine (blanks_any HSTA.out (by omega)).mono ?_
       rintro e Wb ⟨b2, rfl, hb2, hstb, hfb⟩
       have HSTB := Lib.hid hstb
       have HFB := Lib.hid (HFA.out.trans hfb)
       have hb2l := hb2.2
       have HB2 := Lib.hid hb2.1
       clear hstb hfb hb2
       obtain ⟨PRE, hpe⟩ : ∃ PRE, L ++ (b1 ++ 46 :: b2) = PRE := ⟨_, rfl⟩
       have hcat : (⟨L.toArray⟩ : ByteArray) ++ (((⟨b1.toArray⟩ : ByteArray) ++ ⟨#[46]⟩) ++ ⟨b2.toArray⟩) = ⟨PRE.toArray⟩ := by
         rw [← hpe]
         apply ByteArray.ext
         simp [ByteArray.data_append]
       have hpl : PRE.length ≤ kwt dn + 5 := by rw [← hpe]; simp; omega
       have HPRE : Hid (∀ S, PartTxt (Wd k) S → KeyTxt ((dn ++ [k]).map Wd) (PRE ++ S)) := by
         intro S hS
         have := KeyTxt.snoc (hL1 hd0) (Wd k) b1 b2 S HB1.out HB2.out hS
         rw [← hpe, List.map_append]
         simpa using this
       clear hd0 hL0 hL1 hpe
       go_wp2_with fail
       go_loopg [8, 33] (Wd k).length (fun g s8 s33 wx => ∃ (i : Nat) (b : Bool), s33 = .int .i64 i ∧ i + g = (Wd k).length ∧ s8 = .bool b ∧ Hid (b = (!(Wd k).isEmpty && ((Wd k).take i).all fun c => decide (Bare c))) ∧ wx = Wb)
       case atStart => exact ⟨0, _, rfl, by omega, rfl, by show _ = _; simp, rfl⟩
       case round =>
         obtain ⟨i, b, rfl, hig, rfl, HBE, hwx⟩ := hrel
         rw [hwx]
         clear hwx
         cases gk with
         | zero =>
           have hi : i = (Wd k).length := by omega
           have hni : ¬ ((i : Int) < (Wd k).length) := by omega
           have HBE2 : Hid (b = (!(Wd k).isEmpty && (Wd k).all fun c => decide (Bare c))) := by
             have := HBE.out
             rw [hi, List.take_length] at this
             exact this
           clear HBE hig
           cases b with
           | false =>
             go_wp2_with fail
             refine (plain_any HK.out false (by omega)).mono ?_
             rintro e W3 ⟨rfl, hb3⟩
             have hfb3 := fin_below HSTB.out hb3
             have HST3 := Lib.hid hfb3.1
             have HF3 := Lib.hid (HFB.out.trans hfb3.2)
             clear hfb3 hb3
             cases hpl2 : plainB false k with
             | true =>
               have hpv2 := pickV_lt cs ((a1 + 1 + 1)) (n := 2) (by omega)
               go_wp2_with fail
               refine (pick_any HST3.out (by omega) 2 (by omega) (by omega)).mono ?_
               rintro e W4 ⟨rfl, hst4, hf4⟩
               have HST4 := Lib.hid hst4
               have HF4 := Lib.hid (HF3.out.trans hf4)
               clear hst4 hf4
               generalize pickV cs ((a1 + 1 + 1)) 2 = q at *
               by_cases hq : q = 0
               · subst hq
                 have hs4 : ¬ (9223372036854775807 < (PRE).length + (Wd k).length + 2) := by omega
                 go_wp2_with fail
                 go_roundg rest.length
                 case measure => rw [hgk]; simp
                 case rel =>
                   obtain ⟨he, h1, h2⟩ := HH.out
                   rw [str3, str2]
                   have hfin := KyRel.step he HPRE.out (by omega) (.inr (.inl (lit_plain HK.out hpl2))) (by simp; omega) h1 h2 (by omega) (by omega) (strrow_keep HV.out HF4.out) HST4.out HF4.out
                   rw [HJ.out] at hfin
                   exact hfin
               · have fq : ((q : Int) == 0) = false := by simp; omega
                 have fq' : ¬ ((q : Int) = 0) := by omega
                 obtain ⟨B, hB⟩ : ∃ B, W4.heap.size = B := ⟨_, rfl⟩
                 have HS0 : Hid (TxRel BasP 10 2 k (PRE ++ [34]) sb C cs ((a1 + 1 + 1) + 1) B w k.length (.string (⟨(PRE).toArray⟩ ++ ⟨#[34]⟩)) (World.iter W4 ⟨(Wd k).toArray⟩ 0)) := by
                   show TxRel _ _ _ _ _ _ _ _ _ _ _ _ _ _
                   rw [← hB, str34]
                   exact TxRel.start (pre := PRE ++ [34]) HST4.out HF4.out
                 go_wp2_with fail
                 go_loopg [5] k.length (fun g s5 wx => Hid (TxRel BasP 10 2 k (PRE ++ [34]) sb C cs ((a1 + 1 + 1) + 1) B w g s5 wx))
                 case atStart => exact HS0.out
                 case round =>
                   obtain ⟨dn2, rs, ps, a3, L2, he2, hgk2, rfl, hL2, hps2, hou2, hle2, h12, h22, hit2, hst2, hf2⟩ := hrel.out
                   clear HS0 hrel
                   have hdl : dn2.length ≤ k.length := by rw [he2]; simp
                   have hLl2 : L2.length = (PRE).length + 1 + (srcs ps).length := by rw [hL2]; simp; omega
                   have hLm2 : L2.length ≤ 20000000 := by omega
                   have HB := Lib.hid hB
                   have HH2 := Lib.hid (And.intro he2 (And.intro hL2 (And.intro hps2 (And.intro hou2 (And.intro hle2 (And.intro h12 h22))))))
                   have ha3 : a3 ≤ 999999980 := by omega
                   cases rs with
                   | nil =>
                     have hde2 : dn2 = k := by rw [he2]; simp
                     rw [hde2] at hit2
                     have hnx := next_word_end hit2
                     have HSTe := Lib.hid hst2
                     have HFe := Lib.hid hf2
                     clear hit2 hst2 hf2 hps2 hou2 he2 hL2
                     go_wp2_with fail
                     go_roundg rest.length
                     case measure => rw [hgk]; simp
                     case rel =>
                       obtain ⟨he2, hL2, hps2, hou2, hle2, h12, h22⟩ := HH2.out
                       obtain ⟨he, h1, h2⟩ := HH.out
                       rw [str34, show L2 ++ [34] = PRE ++ (34 :: (srcs ps ++ [34])) from by rw [hL2]; simp]
                       rw [hde2] at hle2 h22 hou2
                       have hfin := KyRel.step he HPRE.out (by omega) (.inr (.inr ⟨ps, hps2, hou2.symm, rfl⟩)) (by simp; omega) h1 h2 (by omega) (by omega) (strrow_keep HV.out HFe.out) HSTe.out HFe.out
                       rw [HJ.out] at hfin
                       exact hfin
                   | cons r rs =>
                     have hnx := next_word HK.out he2 hit2
                     have hBs : sb < B := by rw [← HB.out]; exact HST4.out.1.lt
                     have HIT1 := Lib.hid (hit2.setIt (Wd (dn2 ++ [r])).length)
                     have hr : Alpha r := HK.out r (by rw [he2]; simp)
                     have HSTa := Lib.hid (hst2.setIt hBs ⟨(Wd k).toArray⟩ (Wd (dn2 ++ [r])).length)
                     have HFa := Lib.hid (setIt_SF (B := 0) (s := ⟨(Wd k).toArray⟩) (pos := (Wd (dn2 ++ [r])).length) hf2 hBs (by rw [← HB.out]; exact HF4.out.1.size))
                     clear hit2 hst2 hf2 hps2 hou2 he2 hL2
                     go_wp2_with fail
                     refine (escaped_any HSTa.out (by omega) hr false).mono ?_
                     rintro e wb ⟨s, a4, rfl, hok, h3, h4, hstb, hfb⟩
                     have hsl := hok.1
                     have HOK := Lib.hid (hok.2.1 rfl)
                     have HSTb := Lib.hid hstb
                     have HFb := Lib.hid (HFa.out.trans hfb)
                     have HITb := Lib.hid (HIT1.out.keep hfb (Nat.ne_of_gt hBs))
                     have hsum : ¬ (9223372036854775807 < L2.length + s.length) := by omega
                     clear hok hstb hfb
                     go_wp2_with fail
                     go_roundg rs.length
                     case measure => rw [hgk2]; simp
                     case rel =>
                       obtain ⟨he2, hL2, hps2, hou2, hle2, h12, h22⟩ := HH2.out
                       rw [str2]
                       exact TxRel.step he2 hL2 hps2 hou2 hle2 h12 h22 HOK.out hsl h3 h4 HITb.out HSTb.out HFb.out
             | false =>
               obtain ⟨B, hB⟩ : ∃ B, W3.heap.size = B := ⟨_, rfl⟩
               have HS0 : Hid (TxRel BasP 10 2 k (PRE ++ [34]) sb C cs (a1 + 1 + 1) B w k.length (.string (⟨(PRE).toArray⟩ ++ ⟨#[34]⟩)) (World.iter W3 ⟨(Wd k).toArray⟩ 0)) := by
                 show TxRel _ _ _ _ _ _ _ _ _ _ _ _ _ _
                 rw [← hB, str34]
                 exact TxRel.start (pre := PRE ++ [34]) HST3.out HF3.out
               go_wp2_with fail
               go_loopg [5] k.length (fun g s5 wx => Hid (TxRel BasP 10 2 k (PRE ++ [34]) sb C cs (a1 + 1 + 1) B w g s5 wx))
               case atStart => exact HS0.out
               case round =>
                 obtain ⟨dn2, rs, ps, a3, L2, he2, hgk2, rfl, hL2, hps2, hou2, hle2, h12, h22, hit2, hst2, hf2⟩ := hrel.out
                 clear HS0 hrel
                 have hdl : dn2.length ≤ k.length := by rw [he2]; simp
                 have hLl2 : L2.length = (PRE).length + 1 + (srcs ps).length := by rw [hL2]; simp; omega
                 have hLm2 : L2.length ≤ 20000000 := by omega
                 have HB := Lib.hid hB
                 have HH2 := Lib.hid (And.intro he2 (And.intro hL2 (And.intro hps2 (And.intro hou2 (And.intro hle2 (And.intro h12 h22))))))
                 have ha3 : a3 ≤ 999999980 := by omega
                 cases rs with
                 | nil =>
                   have hde2 : dn2 = k := by rw [he2]; simp
                   rw [hde2] at hit2
                   have hnx := next_word_end hit2
                   have HSTe := Lib.hid hst2
                   have HFe := Lib.hid hf2
                   clear hit2 hst2 hf2 hps2 hou2 he2 hL2
                   go_wp2_with fail
                   go_roundg rest.length
                   case measure => rw [hgk]; simp
                   case rel =>
                     obtain ⟨he2, hL2, hps2, hou2, hle2, h12, h22⟩ := HH2.out
                     obtain ⟨he, h1, h2⟩ := HH.out
                     rw [str34, show L2 ++ [34] = PRE ++ (34 :: (srcs ps ++ [34])) from by rw [hL2]; simp]
                     rw [hde2] at hle2 h22 hou2
                     have hfin := KyRel.step he HPRE.out (by omega) (.inr (.inr ⟨ps, hps2, hou2.symm, rfl⟩)) (by simp; omega) h1 h2 (by omega) (by omega) (strrow_keep HV.out HFe.out) HSTe.out HFe.out
                     rw [HJ.out] at hfin
                     exact hfin
                 | cons r rs =>
                   have hnx := next_word HK.out he2 hit2
                   have hBs : sb < B := by rw [← HB.out]; exact HST3.out.1.lt
                   have HIT1 := Lib.hid (hit2.setIt (Wd (dn2 ++ [r])).length)
                   have hr : Alpha r := HK.out r (by rw [he2]; simp)
                   have HSTa := Lib.hid (hst2.setIt hBs ⟨(Wd k).toArray⟩ (Wd (dn2 ++ [r])).length)
                   have HFa := Lib.hid (setIt_SF (B := 0) (s := ⟨(Wd k).toArray⟩) (pos := (Wd (dn2 ++ [r])).length) hf2 hBs (by rw [← HB.out]; exact HF3.out.1.size))
                   clear hit2 hst2 hf2 hps2 hou2 he2 hL2
                   go_wp2_with fail
                   refine (escaped_any HSTa.out (by omega) hr false).mono ?_
                   rintro e wb ⟨s, a4, rfl, hok, h3, h4, hstb, hfb⟩
                   have hsl := hok.1
                   have HOK := Lib.hid (hok.2.1 rfl)
                   have HSTb := Lib.hid hstb
                   have HFb := Lib.hid (HFa.out.trans hfb)
                   have HITb := Lib.hid (HIT1.out.keep hfb (Nat.ne_of_gt hBs))
                   have hsum : ¬ (9223372036854775807 < L2.length + s.length) := by omega
                   clear hok hstb hfb
                   go_wp2_with fail
                   go_roundg rs.length
                   case measure => rw [hgk2]; simp
                   case rel =>
                     obtain ⟨he2, hL2, hps2, hou2, hle2, h12, h22⟩ := HH2.out
                     rw [str2]
                     exact TxRel.step he2 hL2 hps2 hou2 hle2 h12 h22 HOK.out hsl h3 h4 HITb.out HSTb.out HFb.out
           | true =>
             have hpv3 := pickV_lt cs ((a1 + 1 + 1)) (n := 3) (by omega)
             go_wp2_with fail
             refine (pick_any HSTB.out (by omega) 3 (by omega) (by omega)).mono ?_
             rintro e W2 ⟨rfl, hst2, hf2⟩
             have HST2 := Lib.hid hst2
             have HF2 := Lib.hid (HFB.out.trans hf2)
             clear hst2 hf2
             generalize pickV cs ((a1 + 1 + 1)) 3 = p at *
             by_cases hp : p = 0
             · subst hp
               go_wp2_with fail
               refine (plain_any HK.out false (by omega)).mono ?_
               rintro e W3 ⟨rfl, hb3⟩
               have hfb3 := fin_below HST2.out hb3
               have HST3 := Lib.hid hfb3.1
               have HF3 := Lib.hid (HF2.out.trans hfb3.2)
               clear hfb3 hb3
               cases hpl2 : plainB false k with
               | true =>
                 have hpv2 := pickV_lt cs (((a1 + 1 + 1) + 1)) (n := 2) (by omega)
                 go_wp2_with fail
                 refine (pick_any HST3.out (by omega) 2 (by omega) (by omega)).mono ?_
                 rintro e W4 ⟨rfl, hst4, hf4⟩
                 have HST4 := Lib.hid hst4
                 have HF4 := Lib.hid (HF3.out.trans hf4)
                 clear hst4 hf4
                 generalize pickV cs (((a1 + 1 + 1) + 1)) 2 = q at *
                 by_cases hq : q = 0
                 · subst hq
                   have hs4 : ¬ (9223372036854775807 < (PRE).length + (Wd k).length + 2) := by omega
                   go_wp2_with fail
                   go_roundg rest.length
                   case measure => rw [hgk]; simp
                   case rel =>
                     obtain ⟨he, h1, h2⟩ := HH.out
                     rw [str3, str2]
                     have hfin := KyRel.step he HPRE.out (by omega) (.inr (.inl (lit_plain HK.out hpl2))) (by simp; omega) h1 h2 (by omega) (by omega) (strrow_keep HV.out HF4.out) HST4.out HF4.out
                     rw [HJ.out] at hfin
                     exact hfin
                 · have fq : ((q : Int) == 0) = false := by simp; omega
                   have fq' : ¬ ((q : Int) = 0) := by omega
                   obtain ⟨B, hB⟩ : ∃ B, W4.heap.size = B := ⟨_, rfl⟩
                   have HS0 : Hid (TxRel BasP 10 2 k (PRE ++ [34]) sb C cs (((a1 + 1 + 1) + 1) + 1) B w k.length (.string (⟨(PRE).toArray⟩ ++ ⟨#[34]⟩)) (World.iter W4 ⟨(Wd k).toArray⟩ 0)) := by
                     show TxRel _ _ _ _ _ _ _ _ _ _ _ _ _ _
                     rw [← hB, str34]
                     exact TxRel.start (pre := PRE ++ [34]) HST4.out HF4.out
                   go_wp2_with fail
                   go_loopg [5] k.length (fun g s5 wx => Hid (TxRel BasP 10 2 k (PRE ++ [34]) sb C cs (((a1 + 1 + 1) + 1) + 1) B w g s5 wx))
                   case atStart => exact HS0.out
                   case round =>
                     obtain ⟨dn2, rs, ps, a3, L2, he2, hgk2, rfl, hL2, hps2, hou2, hle2, h12, h22, hit2, hst2, hf2⟩ := hrel.out
                     clear HS0 hrel
                     have hdl : dn2.length ≤ k.length := by rw [he2]; simp
                     have hLl2 : L2.length = (PRE).length + 1 + (srcs ps).length := by rw [hL2]; simp; omega
                     have hLm2 : L2.length ≤ 20000000 := by omega
                     have HB := Lib.hid hB
                     have HH2 := Lib.hid (And.intro he2 (And.intro hL2 (And.intro hps2 (And.intro hou2 (And.intro hle2 (And.intro h12 h22))))))
                     have ha3 : a3 ≤ 999999980 := by omega
                     cases rs with
                     | nil =>
                       have hde2 : dn2 = k := by rw [he2]; simp
                       rw [hde2] at hit2
                       have hnx := next_word_end hit2
                       have HSTe := Lib.hid hst2
                       have HFe := Lib.hid hf2
                       clear hit2 hst2 hf2 hps2 hou2 he2 hL2
                       go_wp2_with fail
                       go_roundg rest.length
                       case measure => rw [hgk]; simp
                       case rel =>
                         obtain ⟨he2, hL2, hps2, hou2, hle2, h12, h22⟩ := HH2.out
                         obtain ⟨he, h1, h2⟩ := HH.out
                         rw [str34, show L2 ++ [34] = PRE ++ (34 :: (srcs ps ++ [34])) from by rw [hL2]; simp]
                         rw [hde2] at hle2 h22 hou2
                         have hfin := KyRel.step he HPRE.out (by omega) (.inr (.inr ⟨ps, hps2, hou2.symm, rfl⟩)) (by simp; omega) h1 h2 (by omega) (by omega) (strrow_keep HV.out HFe.out) HSTe.out HFe.out
                         rw [HJ.out] at hfin
                         exact hfin
                     | cons r rs =>
                       have hnx := next_word HK.out he2 hit2
                       have hBs : sb < B := by rw [← HB.out]; exact HST4.out.1.lt
                       have HIT1 := Lib.hid (hit2.setIt (Wd (dn2 ++ [r])).length)
                       have hr : Alpha r := HK.out r (by rw [he2]; simp)
                       have HSTa := Lib.hid (hst2.setIt hBs ⟨(Wd k).toArray⟩ (Wd (dn2 ++ [r])).length)
                       have HFa := Lib.hid (setIt_SF (B := 0) (s := ⟨(Wd k).toArray⟩) (pos := (Wd (dn2 ++ [r])).length) hf2 hBs (by rw [← HB.out]; exact HF4.out.1.size))
                       clear hit2 hst2 hf2 hps2 hou2 he2 hL2
                       go_wp2_with fail
                       refine (escaped_any HSTa.out (by omega) hr false).mono ?_
                       rintro e wb ⟨s, a4, rfl, hok, h3, h4, hstb, hfb⟩
                       have hsl := hok.1
                       have HOK := Lib.hid (hok.2.1 rfl)
                       have HSTb := Lib.hid hstb
                       have HFb := Lib.hid (HFa.out.trans hfb)
                       have HITb := Lib.hid (HIT1.out.keep hfb (Nat.ne_of_gt hBs))
                       have hsum : ¬ (9223372036854775807 < L2.length + s.length) := by omega
                       clear hok hstb hfb
                       go_wp2_with fail
                       go_roundg rs.length
                       case measure => rw [hgk2]; simp
                       case rel =>
                         obtain ⟨he2, hL2, hps2, hou2, hle2, h12, h22⟩ := HH2.out
                         rw [str2]
                         exact TxRel.step he2 hL2 hps2 hou2 hle2 h12 h22 HOK.out hsl h3 h4 HITb.out HSTb.out HFb.out
               | false =>
                 obtain ⟨B, hB⟩ : ∃ B, W3.heap.size = B := ⟨_, rfl⟩
                 have HS0 : Hid (TxRel BasP 10 2 k (PRE ++ [34]) sb C cs ((a1 + 1 + 1) + 1) B w k.length (.string (⟨(PRE).toArray⟩ ++ ⟨#[34]⟩)) (World.iter W3 ⟨(Wd k).toArray⟩ 0)) := by
                   show TxRel _ _ _ _ _ _ _ _ _ _ _ _ _ _
                   rw [← hB, str34]
                   exact TxRel.start (pre := PRE ++ [34]) HST3.out HF3.out
                 go_wp2_with fail
                 go_loopg [5] k.length (fun g s5 wx => Hid (TxRel BasP 10 2 k (PRE ++ [34]) sb C cs ((a1 + 1 + 1) + 1) B w g s5 wx))
                 case atStart => exact HS0.out
                 case round =>
                   obtain ⟨dn2, rs, ps, a3, L2, he2, hgk2, rfl, hL2, hps2, hou2, hle2, h12, h22, hit2, hst2, hf2⟩ := hrel.out
                   clear HS0 hrel
                   have hdl : dn2.length ≤ k.length := by rw [he2]; simp
                   have hLl2 : L2.length = (PRE).length + 1 + (srcs ps).length := by rw [hL2]; simp; omega
                   have hLm2 : L2.length ≤ 20000000 := by omega
                   have HB := Lib.hid hB
                   have HH2 := Lib.hid (And.intro he2 (And.intro hL2 (And.intro hps2 (And.intro hou2 (And.intro hle2 (And.intro h12 h22))))))
                   have ha3 : a3 ≤ 999999980 := by omega
                   cases rs with
                   | nil =>
                     have hde2 : dn2 = k := by rw [he2]; simp
                     rw [hde2] at hit2
                     have hnx := next_word_end hit2
                     have HSTe := Lib.hid hst2
                     have HFe := Lib.hid hf2
                     clear hit2 hst2 hf2 hps2 hou2 he2 hL2
                     go_wp2_with fail
                     go_roundg rest.length
                     case measure => rw [hgk]; simp
                     case rel =>
                       obtain ⟨he2, hL2, hps2, hou2, hle2, h12, h22⟩ := HH2.out
                       obtain ⟨he, h1, h2⟩ := HH.out
                       rw [str34, show L2 ++ [34] = PRE ++ (34 :: (srcs ps ++ [34])) from by rw [hL2]; simp]
                       rw [hde2] at hle2 h22 hou2
                       have hfin := KyRel.step he HPRE.out (by omega) (.inr (.inr ⟨ps, hps2, hou2.symm, rfl⟩)) (by simp; omega) h1 h2 (by omega) (by omega) (strrow_keep HV.out HFe.out) HSTe.out HFe.out
                       rw [HJ.out] at hfin
                       exact hfin
                   | cons r rs =>
                     have hnx := next_word HK.out he2 hit2
                     have hBs : sb < B := by rw [← HB.out]; exact HST3.out.1.lt
                     have HIT1 := Lib.hid (hit2.setIt (Wd (dn2 ++ [r])).length)
                     have hr : Alpha r := HK.out r (by rw [he2]; simp)
                     have HSTa := Lib.hid (hst2.setIt hBs ⟨(Wd k).toArray⟩ (Wd (dn2 ++ [r])).length)
                     have HFa := Lib.hid (setIt_SF (B := 0) (s := ⟨(Wd k).toArray⟩) (pos := (Wd (dn2 ++ [r])).length) hf2 hBs (by rw [← HB.out]; exact HF3.out.1.size))
                     clear hit2 hst2 hf2 hps2 hou2 he2 hL2
                     go_wp2_with fail
                     refine (escaped_any HSTa.out (by omega) hr false).mono ?_
                     rintro e wb ⟨s, a4, rfl, hok, h3, h4, hstb, hfb⟩
                     have hsl := hok.1
                     have HOK := Lib.hid (hok.2.1 rfl)
                     have HSTb := Lib.hid hstb
                     have HFb := Lib.hid (HFa.out.trans hfb)
                     have HITb := Lib.hid (HIT1.out.keep hfb (Nat.ne_of_gt hBs))
                     have hsum : ¬ (9223372036854775807 < L2.length + s.length) := by omega
                     clear hok hstb hfb
                     go_wp2_with fail
                     go_roundg rs.length
                     case measure => rw [hgk2]; simp
                     case rel =>
                       obtain ⟨he2, hL2, hps2, hou2, hle2, h12, h22⟩ := HH2.out
                       rw [str2]
                       exact TxRel.step he2 hL2 hps2 hou2 hle2 h12 h22 HOK.out hsl h3 h4 HITb.out HSTb.out HFb.out
             · have fp : (0 : Int) < (p : Int) := by omega
               have hs4 : ¬ (9223372036854775807 < (PRE).length + (Wd k).length) := by omega
               go_wp2_with fail
               go_roundg rest.length
               case measure => rw [hgk]; simp
               case rel =>
                 obtain ⟨he, h1, h2⟩ := HH.out
                 have hbe := HBE2.out
                 simp only [Bool.true_eq, Bool.and_eq_true, Bool.not_eq_true', List.isEmpty_eq_false_iff, List.all_eq_true, decide_eq_true_eq] at hbe
                 rw [str2]
                 have hfin := KyRel.step he HPRE.out (by omega) (.inl ⟨rfl, hbe.1, hbe.2⟩) (by omega) h1 h2 (by omega) (by omega) (strrow_keep HV.out HF2.out) HST2.out HF2.out
                 rw [HJ.out] at hfin
                 exact hfin
         | succ g2 =>
           have hi : i < (Wd k).length := by omega
           have hi' : (i : Int) < (Wd k).length := by omega
           obtain ⟨c, hc⟩ : ∃ c, (Wd k)[i] = c := ⟨_, rfl⟩
           have hix : ∀ h, ((ByteArray.mk (Wd k).toArray)[i]'h) = c := fun h => hc
           have HT : Hid ((Wd k).take (i + 1) = (Wd k).take i ++ [c]) := by
             show _ = _
             rw [← hc, List.take_append_getElem]
           cases b with
           | false =>
             go_wp2_with fail
             go_roundg g2
             case measure => omega
             case rel =>
               refine ⟨i + 1, false, rfl, by omega, rfl, ?_, rfl⟩
               have := HBE.out
               show _ = _
               rw [HT.out, List.all_append, ← Bool.and_assoc, ← this]
               rfl
           | true =>
             go_wp2_with fail
             refine (bare_any c _).mono ?_
             rintro e w' ⟨rfl, rfl⟩
             go_wp2_with fail
             go_roundg g2
             case measure => omega
             case rel =>
               refine ⟨i + 1, decide (Bare c), rfl, by omega, rfl, ?_, rfl⟩
               have := HBE.out
               show _ = _
               rw [HT.out, List.all_append, ← Bool.and_assoc, ← this]
               simp
end Go.Proofs.Ytnlkbbpmpgdmiaa
