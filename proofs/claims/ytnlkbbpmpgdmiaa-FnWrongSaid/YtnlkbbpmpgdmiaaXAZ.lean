/- Errors of the parser: tables in braces that are not closed, or have a comma too many; Errors of the parser: lists and tables as values; the number 1 ahead of a blank; Errors of the parser: heads, again; Errors of the parser: the lines of the law; Errors of the parser: the law's lines with a value. -/
import Derived.Test.YtnlkbbpmpgdmiaaXAY
namespace Go.Proofs.Ytnlkbbpmpgdmiaa
open Go.RowKit
set_option linter.unusedVariables false
set_option linter.unusedSimpArgs false
set_option maxRecDepth 100000 in
set_option maxHeartbeats 8000000 in
theorem list78_bad {B g b cap k : Nat} {D t j : List UInt8} {c : UInt8} {r : List UInt8} {left err : Value} {nest : Nat} {ns : List Nd} {w : World} {a : Addr} {c0 : UInt8} (hps : PS B w g b cap false D left ns err nest) (hi : Inp w b cap D) (ht : t = c :: r) (hc : Hd c) (hj : Junk true j) (hjt : j.length < (t ++ j).length)
   (hp : Pos b cap D (c0 :: (t ++ j)) a k) (hn : ns.length ≤ 300000) (m : Nat) (hm : m = (t ++ j).length + 1)
   (hval : ∀ (w' : World) (a' : Addr) (k' : Nat) (nd : Nd), PS B w' g b cap false D left (ns ++ [nd]) err nest → Inp w' b cap D → Pos b cap D (t ++ j) a' k' → Calls Try.prog 63 #[.pointer (some ⟨g, 0, none⟩), .slice (some a') (t ++ j).length k'] w' (ItGot B g b cap D left err nest (ns ++ [nd]) j w')) :
   Calls Try.prog 78 #[.pointer (some ⟨g, 0, none⟩), .slice (some a) m k] w (BadR B g b cap D left err nest w) := by
 have HSK0 : Hid (skipWs (t ++ j) = t ++ j) := by rw [ht]; exact skipWs_no hc.noWs
 have HT0 := Lib.hid ht
 have HC0 := Lib.hid hc
 have HJ := Lib.hid hj
 have HJT := Lib.hid hjt
 have HVAL := Lib.hid hval
 have HPOS0 : Hid (0 < (t ++ j).length) := by show _ < _; omega
 have hpos0 : 0 < (t ++ j).length := by omega
 clear ht hc hj hjt hval
 have hroom := hp.room
 have hle := hp.le
 have hfits := hi.fits
 have hbnd := hi.bound
 have ha := hp.addr (by simp)
 simp only [List.length_cons] at hroom hle
 generalize ho : D.length - (c0 :: (t ++ j) : List UInt8).length = o at *
 have hp1 : Pos b cap D (t ++ j) ⟨b, o + 1, none⟩ (k - 1) := hp.tail hfits (fun _ => by rw [ho]) rfl
 have HP1 := Lib.hid hp1
 have HP0 := Lib.hid hp
 have HI := Lib.hid hi
 have HPS := Lib.hid hps
 have hns := hps.le
 subst ha
 have hk1 : ¬ k = 1 := by omega
 have hk2 : 1 ≤ k := by omega
 have hm1 : 1 ≤ m := by omega
 have HM : Hid (m - 1 = (t ++ j).length) := by show _ = _; omega
 have hm2 : m ≤ k := by omega
 have hkb : k ≤ 9223372036854775807 := by omega
 have HRG : Hid (∀ {w' : World}, PS B w' g b cap false D left ns err nest → Calls Try.prog 39 #[.pointer (some ⟨g, 0, none⟩), .slice (some ⟨b, o, none⟩) 1 k] w' (RangeIs w')) := fun h => range_at h HI.out.fits HI.out.bound HP0.out 1 (by simp)
 have hns4 : ns.length ≤ 400000 := by omega
 clear hps hi hp hp1 ho hroom hle hfits hbnd hpos0 hm
 go_enter Try.func78, Try.ntmps78
 go_wp2_with fail
 have hps0 : PS B (w.alloc (.cells #[.pointer (some ⟨g, 0, none⟩)] 63)) g b cap false D left ns err nest := HPS.out.kp ((Below.refl _ _).alloc (Nat.le_refl _) _)
 have hbp0 : Blk (w.alloc (.cells #[.pointer (some ⟨g, 0, none⟩)] 63)) w.heap.size 63 #[.pointer (some ⟨g, 0, none⟩)] := Blk.new w 63 _
 have hfr0 : Fr B w (w.alloc (.cells #[.pointer (some ⟨g, 0, none⟩)] 63)) := Fr.alloc hns _
 go_upto_region 1 with (fail)
 generalize w.alloc (.cells #[.pointer (some ⟨g, 0, none⟩)] 63) = w0 at *
 have hc0 : w0.cell? ⟨w.heap.size, 0, none⟩ = some (.pointer (some ⟨g, 0, none⟩)) := by have := hbp0.cell 0; simpa using this
 have HPS0 : Hid (PS B w0.drew g b cap false D left ns err nest) := hps0.drewN 1
 have HBP0 : Hid (Blk w0.drew w.heap.size 63 #[.pointer (some ⟨g, 0, none⟩)]) := hbp0
 have HFR0 : Hid (Fr B w w0.drew) := hfr0.trans (Fr.drewN w0 1)
 clear hps0 hbp0 hfr0
 generalize hpbq : w.heap.size = pb at *
 have HPBQ := Lib.hid hpbq
 go_cut [7] from 20 to 27 (fun s7 wx => ∃ (arb : Nat) (ro rl : Int), s7 = .pointer (some ⟨arb, 0, none⟩) ∧ Blk wx arb 21 #[.int .i32 ((ns.length : Int) + 1)] ∧ PS B wx g b cap false D left (ns ++ [(⟨7, ro, rl, .slice none 0 0, 0, 0⟩ : Nd)]) err nest ∧ Blk wx pb 63 #[.pointer (some ⟨g, 0, none⟩)] ∧ Fr B w wx ∧ arb < wx.heap.size)
 case first =>
   clear HP1 HM HI hn HSK0 HT0 HC0 HJ HJT HVAL HPOS0
   have hal0 : ∀ w1 o, PS B w1 g b cap false D left ns err nest → PS B (World.alloc w1 o) g b cap false D left ns err nest := fun w1 o h => h.kp ((Below.refl _ _).alloc (Nat.le_refl _) o)
   have HAL0 := Lib.hid hal0
   clear hal0
   have hpb0 : pb < w0.drew.heap.size := HBP0.out.lt
   have hpb1 : pb < w0.heap.size := hpb0
   have hBw0 : B ≤ w0.drew.heap.size := by omega
   have i1 : (1 : Int) ≤ (k : Int) := by omega
   have i2 : (m : Int) ≤ (k : Int) := by omega
   have i3 : (0 : Int) ≤ (k : Int) := by omega
   have i4 : ((k : Int) < 1) = False := by simp; omega
   go_region_held3 (fun w' => w'.cell? ⟨pb, 0, none⟩ = some (.pointer (some ⟨g, 0, none⟩))) (first | assumption | exact (World.cell?_setCell_other _ _ _ _ (by intro h; injection h with h; omega)).trans (by assumption) | go_keep)
     (first
       | (go_at_call 39
          refine (HRG.out ?_).mono ?_
          (first | exact HPS0.out | exact HAL0.out _ _ HPS0.out)
          rintro e w2 ⟨ro, rl, rfl, hb2⟩
          have hps2 : PS B w2 g b cap false D left ns err nest := by first | exact HPS0.out.kp hb2 | exact (HAL0.out _ _ HPS0.out).kp hb2
          have hbp2 : Blk w2 pb 63 #[.pointer (some ⟨g, 0, none⟩)] := by first | exact HBP0.out.below hb2 hpb0 | exact (HBP0.out.alloc _).below hb2 (alloc_le hpb0)
          have hc2 : w2.cell? ⟨pb, 0, none⟩ = some (.pointer (some ⟨g, 0, none⟩)) := by have := hbp2.cell 0; simpa using this
          have hl2 := hbp2.lt
          have hfr2 : Fr B w w2 := by first | exact HFR0.out.trans (Fr.of_below hb2 hBw0) | exact (HFR0.out.trans (Fr.alloc hBw0 _)).trans (Fr.of_below hb2 (alloc_le hBw0))
          first
            | (have hA2 : Blk w2 w0.heap.size 21 #[.int .i32 0] := (Blk.new w0.drew 21 _).below hb2 (by simp))
            | skip
          skip)
       | (go_at_call 38
          refine (push_any (B := B) (g := g) (b := b) (cap := cap) (kc := false) (D := D) (left := left) (ns := ns) (err := err) (nest := nest) ?_ 7 _ _ (.slice none 0 0) rfl hns4).mono ?_
          (first | assumption | exact HAL0.out _ _ (by assumption))
          rintro e w3 ⟨rfl, hps3, hf3⟩
          have hbp3 : Blk w3 pb 63 #[.pointer (some ⟨g, 0, none⟩)] := hf3.2.2 _ _ _ (by decide) (by decide) (by first | assumption | exact Blk.alloc (by assumption) _)
          have hc3 : w3.cell? ⟨pb, 0, none⟩ = some (.pointer (some ⟨g, 0, none⟩)) := by have := hbp3.cell 0; simpa using this
          have hl3 := hbp3.lt
          have hfr3 : Fr B w w3 := by first | exact Fr.trans (by assumption) hf3 | exact (Fr.trans (by assumption) (Fr.alloc (Nat.le_trans hns (Nat.le_of_lt (by assumption))) _)).trans hf3
          first
            | (have hA3 := hf3.2.2 _ 21 _ (by decide) (by decide) (Blk.new _ 21 #[.int .i32 0])
               have hA4 := hA3.cell 0
               have hA5 := hA3.frozen 0
               have hA6 := hA3.lt
               simp at hA4)
            | (have hA3 := hf3.2.2 w0.heap.size 21 #[.int .i32 0] (by decide) (by decide) (by assumption)
               have hA4 := hA3.cell 0
               have hA5 := hA3.frozen 0
               have hA6 := hA3.lt
               simp at hA4)
            | skip
          skip))
   all_goals (go_wp2_with fail; go_meet)
   all_goals first
     | exact ⟨_, _, _, rfl, Blk.new _ _ _, hps3.kp ((Below.refl _ _).alloc (Nat.le_refl _) _), hbp3.alloc _, hfr3.trans (Fr.alloc (by omega) _), by simp⟩
     | exact ⟨_, _, _, rfl, hA3.set_ 0 _, hps3.far hA3 (by decide) (by decide) 0 _, hbp3.far (by simp; omega) _, ⟨hfr3.1.setCell (by simp; omega) _, hfr3.2.newcell (by omega)⟩, by simp; exact hA6⟩
 obtain ⟨arb, ro, rl, rfl, hba, hpsc, hbp, hfrc, hlar⟩ := hcut
 have HPS3 := Lib.hid hpsc
 have HBA3 := Lib.hid hba
 have HBP3 := Lib.hid hbp
 have HFR3 := Lib.hid hfrc
 have hszc := hfrc.2.1
 clear hba hpsc hbp hfrc HPS HPS0 HBP0 HFR0 hc0 HRG
 go_wp2_with fail
 have hBc : B ≤ wc.heap.size := by omega
 have HPW : Hid (PS B (wc.alloc (Obj.cells #[Value.int IntKind.i32 0] 21)) g b cap false D left (ns ++ [(⟨7, ro, rl, .slice none 0 0, 0, 0⟩ : Nd)]) err nest) := HPS3.out.kp ((Below.refl _ _).alloc (Nat.le_refl _) _)
 have HBP : Hid (Blk (wc.alloc (Obj.cells #[Value.int IntKind.i32 0] 21)) pb 63 #[.pointer (some ⟨g, 0, none⟩)]) := HBP3.out.alloc _
 have HBA : Hid (Blk (wc.alloc (Obj.cells #[Value.int IntKind.i32 0] 21)) arb 21 #[.int .i32 ((ns.length : Int) + 1)]) := HBA3.out.alloc _
 have HBL : Hid (Blk (wc.alloc (Obj.cells #[Value.int IntKind.i32 0] 21)) wc.heap.size 21 #[.int .i32 0]) := Blk.new wc 21 _
 have HFW : Hid (Fr B w (wc.alloc (Obj.cells #[Value.int IntKind.i32 0] 21))) := HFR3.out.trans (Fr.alloc hBc _)
 have HIW := Lib.hid (HI.out.kp HFW.out.2)
 generalize (wc.alloc (Obj.cells #[Value.int IntKind.i32 0] 21)) = ws at *
 generalize wc.heap.size = lcb at *
 have hlw : pb ≤ lcb := by omega
 have hBl : B ≤ lcb := by omega
 have hal : arb ≠ lcb := by omega
 clear HPS3 HBA3 HBP3 HFR3 HI HP0 hpbq

 have HRel : Hid (JRel t j B g b cap D left err nest ns (⟨7, ro, rl, .slice none 0 0, 0, 0⟩ : Nd) pb arb lcb w (t ++ j).length (.slice (some ⟨b, o + 1, none⟩) (m - 1) (k - 1)) (.bool false) ws) :=
   ⟨t ++ j, false, _, _, _, rfl, by rw [HM.out], rfl, HP1.out, HPW.out, HIW.out, HFW.out, HBP.out, .inl ⟨rfl, rfl, rfl, HBL.out, HBA.out⟩⟩
 clear HP1 HPW HBL HBP HBA HIW
 refine wp_loop_u2 139 1 12 (fun U => U 0 = .pointer (some ⟨g, 0, none⟩) ∧ U 2 = .pointer (some ⟨pb, 0, none⟩) ∧ U 7 = .pointer (some ⟨arb, 0, none⟩) ∧ U 8 = .pointer (some ⟨lcb, 0, none⟩) ∧ U 9 = .func (.func 87) #[] #[.pointer (some ⟨lcb, 0, none⟩), .pointer (some ⟨pb, 0, none⟩), .pointer (some ⟨arb, 0, none⟩)]) (fun s1 s12 U => ⟨#[.pointer (some ⟨g, 0, none⟩), s1, .pointer (some ⟨pb, 0, none⟩), U 3, U 4, U 5, U 6, .pointer (some ⟨arb, 0, none⟩), .pointer (some ⟨lcb, 0, none⟩), .func (.func 87) #[] #[.pointer (some ⟨lcb, 0, none⟩), .pointer (some ⟨pb, 0, none⟩), .pointer (some ⟨arb, 0, none⟩)], U 10, U 11, s12, U 13, U 14, U 15, U 16, U 17, U 18, U 19, U 20, U 21, U 22, U 23, U 24, U 25, U 26, U 27, U 28, U 29, U 30, U 31, U 32, U 33, U 34, U 35, U 36, U 37, U 38, U 39, U 40, U 41, U 42, U 43, U 44, U 45, U 46, U 47, U 48, U 49, U 50, U 51, U 52, U 53, U 54, U 55, U 56, U 57, U 58, U 59, U 60, U 61, U 62, U 63, U 64, U 65, U 66, U 67, U 68, U 69, U 70, U 71, U 72, U 73, U 74, U 75, U 76, U 77, U 78, U 79, U 80, U 81, U 82, U 83, U 84, U 85, U 86, U 87, U 88, U 89, U 90, U 91, U 92, U 93, U 94, U 95, U 96, U 97, U 98, U 99, U 100, U 101, U 102, U 103, U 104, U 105, U 106, U 107, U 108, U 109, U 110, U 111, U 112, U 113, U 114, U 115, U 116, U 117, U 118, U 119, U 120, U 121, U 122, U 123, U 124, U 125, U 126, U 127, U 128, U 129, U 130, U 131, U 132, U 133, U 134, U 135, U 136, U 137, U 138], []⟩) (by rintro U ⟨h0, h1, h2, h3, h4⟩; rw [← h4, ← h0, ← h1, ← h2, ← h3]; rfl) (fun gg s1 s12 wx => JRel t j B g b cap D left err nest ns (⟨7, ro, rl, .slice none 0 0, 0, 0⟩ : Nd) pb arb lcb w gg s1 s12 wx) (t ++ j).length (.slice (some ⟨b, o + 1, none⟩) (m - 1) (k - 1)) (.bool false) ⟨rfl, rfl, rfl, rfl, rfl, rfl, rfl⟩ rfl rfl HRel.out ?_
 intro gk u1 u12 U wr hrel J K hJ hK
 clear HRel HFW
 obtain ⟨s1, av, a0, k0, xs, rfl, rfl, rfl, hpos, hps, hin, hf, hbp, hph⟩ := hrel
 have HIN := Lib.hid hin
 have HPOS := Lib.hid hpos
 have HPS1 := Lib.hid hps
 have HF := Lib.hid hf
 have HBP := Lib.hid hbp
 have cp : wr.cell? ⟨pb, 0, none⟩ = some (.pointer (some ⟨g, 0, none⟩)) := by have := hbp.cell 0; simpa using this
 have lp := hbp.lt
 obtain ⟨ck, lg⟩ := hps.kcell
 have hfits := HIN.out.fits
 have hbnd := HIN.out.bound
 generalize hL0 : s1.length = L0 at *
 have HL0 := Lib.hid hL0
 clear hin hpos hps hf hbp hL0
 go_wp2_with fail
 refine (skip_at L0 HIN.out HPOS.out HL0.out.symm).mono ?_
 rintro e w1 ⟨a1, k1, he, hp1, rfl⟩
 rcases hph with ⟨rfl, rfl, rfl, hbl, hba⟩ | hjk
 · rw [HSK0.out] at he hp1
   have hx : wr.cell? a1 = some (.int .u8 c.toNat) := by
     rw [hp1.addr HPOS0.out]
     have h := HIN.out.doc.suffix hp1.suf
     rw [HT0.out] at h ⊢
     exact h.head.1
   obtain ⟨i10, i13, i35, i44, i93, i125⟩ := HC0.out.ifacts
   have HC := Lib.hid (HVAL.out _ _ _ _ HPS1.out HIN.out hp1)
   have HBL := Lib.hid hbl
   have HBA := Lib.hid hba
   rw [HL0.out] at he HC
   subst he
   have hl3 : 0 < L0 := by rw [← HL0.out]; exact HPOS0.out
   clear hp1 hbl hba
   go_wp2_with fail
   refine HC.out.mono ?_
   rintro e w2 ⟨ys, a3, k3, he, hp3, hps3, hf3⟩
   obtain ⟨h, hh⟩ : ∃ h : Nat, h = (ns ++ [(⟨7, ro, rl, .slice none 0 0, 0, 0⟩ : Nd)]).length + 1 := ⟨_, rfl⟩
   have he' : e = .returned (.tuple #[.int .i32 (h : Int), .slice (some a3) j.length k3, .nilIface]) := by rw [he, hh]; rfl
   have HB2 : Hid (Blk w2 lcb 21 #[.int .i32 0] ∧ Blk w2 pb 63 #[.pointer (some ⟨g, 0, none⟩)] ∧ Blk w2 arb 21 #[.int .i32 ((ns.length : Int) + 1)]) := ⟨hf3.2.2 _ _ _ (by decide) (by decide) HBL.out, hf3.2.2 _ _ _ (by decide) (by decide) HBP.out, hf3.2.2 _ _ _ (by decide) (by decide) HBA.out⟩
   have HFW : Hid (Fr B w w2) := HF.out.trans hf3
   have HIN2 : Hid (Inp w2 b cap D) := HIN.out.kp hf3.2
   have HP3 := Lib.hid hp3
   have HC2 := app_first87 (h := h) (A := ns.length) (x := (⟨7, ro, rl, .slice none 0 0, 0, 0⟩ : Nd)) hps3 (by simp) rfl hps3.count HB2.out.1 HB2.out.2.1 HB2.out.2.2 hal rfl
   generalize hL4 : j.length = L4 at *
   have HL4 := Lib.hid hL4
   clear he hp3 hps3 hf3 hh hL4 HC HIN HPS1 HF HBP HBL HBA hx cp ck
   subst he'
   go_wp2_with fail
   refine HC2.mono ?_
   rintro e w3 ⟨rfl, hps4, hbl4, hbp4, hba4, hk4, hfr4⟩
   have HPS4 := Lib.hid hps4
   have HBP4 := Lib.hid hbp4
   have HK4 := Lib.hid hk4
   have HF4 : Hid (Fr B w w3) := hfr4 w (by have := HPBQ.out; omega) hBl HFW.out
   clear hps4 hbl4 hbp4 hba4 hk4 hfr4
   go_wp2_with fail
   refine Handed.u2 hJ L4 _ _ ⟨rfl, rfl, rfl, rfl, rfl, rfl, rfl⟩ rfl rfl (by have := HJT.out; have := HL0.out; omega) ?_
   exact ⟨j, true, _, _, _, HL4.out.symm, by rw [HL4.out]; rfl, rfl, HP3.out, HPS4.out, HIN2.out.k5 HK4.out, HF4.out, HBP4.out, .inr HJ.out⟩
 · obtain ⟨s2, hj2, hsk, hlen2, hws⟩ := hjk.strip
   rw [hsk] at he hp1
   have HP1 := Lib.hid hp1
   have hroom := hp1.room
   have hle := hp1.le
   rw [HL0.out] at hlen2
   clear hjk hsk
   cases hj2 with
   | ws _ s3 c h1 h2 => exact absurd h1 (hws c _ rfl)
   | nil =>
     subst he
     clear hp1
     go_wp2_with fail
     refine (newErr_e _ _ _ _ _ (by omega) (by omega)).mono ?_
     rintro e w1 ⟨pe, rfl, hE, hbE⟩
     have HE := Lib.hid hE
     have HBE := Lib.hid hbE
     clear hE hbE
     go_wp2_with fail
     go_ret3
     exact ⟨pe, _, rfl, HE.out.mono HPS1.out.le, HPS1.out.kp HBE.out, HF.out.trans (Fr.of_below HBE.out HPS1.out.le)⟩
   | hd s3 c hc =>
     obtain ⟨i10, i13, i35, i44, i93, i125⟩ := hc.ifacts
     have hx : wr.cell? a1 = some (.int .u8 c.toNat) := by rw [hp1.addr (by simp)]; exact (HIN.out.doc.suffix hp1.suf).head.1
     simp only [List.length_cons] at he hroom hle
     subst he
     clear hp1
     go_wp2_with fail
     refine (newErr_e _ _ _ _ _ (by omega) (by omega)).mono ?_
     rintro e w1 ⟨pe, rfl, hE, hbE⟩
     have HE := Lib.hid hE
     have HBE := Lib.hid hbE
     clear hE hbE
     go_wp2_with fail
     go_ret3
     exact ⟨pe, _, rfl, HE.out.mono HPS1.out.le, HPS1.out.kp HBE.out, HF.out.trans (Fr.of_below HBE.out HPS1.out.le)⟩
   | comma2 s3 =>
     have hx : wr.cell? a1 = some (.int .u8 44) := by rw [hp1.addr (by simp)]; exact (HIN.out.doc.suffix hp1.suf).head.1
     simp only [List.length_cons] at he hroom hle
     subst he
     clear hp1
     go_wp2_with fail
     refine (newErr_e _ _ _ _ _ (by omega) (by omega)).mono ?_
     rintro e w1 ⟨pe, rfl, hE, hbE⟩
     have HE := Lib.hid hE
     have HBE := Lib.hid hbE
     clear hE hbE
     go_wp2_with fail
     go_ret3
     exact ⟨pe, _, rfl, HE.out.mono HPS1.out.le, HPS1.out.kp HBE.out, HF.out.trans (Fr.of_below HBE.out HPS1.out.le)⟩
   | nl _ s3 h3 =>
     have hx : wr.cell? a1 = some (.int .u8 10) := by rw [hp1.addr (by simp)]; exact (HIN.out.doc.suffix hp1.suf).head.1
     have HJ3 := Lib.hid h3
     have ha1 := hp1.addr (by simp)
     generalize ho1 : D.length - ([10] ++ s3 : List UInt8).length = o1 at *
     have ha2 : a1 = ⟨b, o1, none⟩ := by rw [ha1, ← ho1]; rfl
     simp only [List.length_cons] at he hroom hle hlen2
     subst he ha2
     clear hp1 h3 ha1
     obtain ⟨o2, k2, HP2, hk4⟩ := Pos.skip (P := [10]) HP1.out hfits ho1
     have hk4 : (k1 = 1 ∧ o2 = o1 ∧ k2 = 0) ∨ (k1 ≠ 1 ∧ o2 = o1 + 1 ∧ k2 = k1 - 1) := hk4
     generalize hL3 : s3.length = L3 at *
     have HL3 := Lib.hid hL3
     have HO := Lib.hid ho1
     clear hL3 ho1
     rcases hk4 with ⟨rfl, rfl, rfl⟩ | ⟨hk3, rfl, rfl⟩
     all_goals
       go_wp2_with fail
       refine Handed.u2 hJ L3 _ _ ⟨rfl, rfl, rfl, rfl, rfl, rfl, rfl⟩ rfl rfl (by omega) ?_
       exact ⟨s3, _, _, _, _, HL3.out.symm, by rw [HL3.out]; rfl, rfl, HP2.out, HPS1.out, HIN.out, HF.out, HBP.out, .inr HJ3.out⟩
   | comma s3 h3 =>
     have hx : wr.cell? a1 = some (.int .u8 44) := by rw [hp1.addr (by simp)]; exact (HIN.out.doc.suffix hp1.suf).head.1
     have HJ3 := Lib.hid h3
     have ha1 := hp1.addr (by simp)
     generalize ho1 : D.length - ([44] ++ s3 : List UInt8).length = o1 at *
     have ha2 : a1 = ⟨b, o1, none⟩ := by rw [ha1, ← ho1]; rfl
     simp only [List.length_cons] at he hroom hle hlen2
     subst he ha2
     clear hp1 h3 ha1
     obtain ⟨o2, k2, HP2, hk4⟩ := Pos.skip (P := [44]) HP1.out hfits ho1
     have hk4 : (k1 = 1 ∧ o2 = o1 ∧ k2 = 0) ∨ (k1 ≠ 1 ∧ o2 = o1 + 1 ∧ k2 = k1 - 1) := hk4
     generalize hL3 : s3.length = L3 at *
     have HL3 := Lib.hid hL3
     have HO := Lib.hid ho1
     clear hL3 ho1
     rcases hk4 with ⟨rfl, rfl, rfl⟩ | ⟨hk3, rfl, rfl⟩
     all_goals
       go_wp2_with fail
       refine Handed.u2 hJ L3 _ _ ⟨rfl, rfl, rfl, rfl, rfl, rfl, rfl⟩ rfl rfl (by omega) ?_
       exact ⟨s3, _, _, _, _, HL3.out.symm, by rw [HL3.out]; rfl, rfl, HP2.out, HPS1.out, HIN.out, HF.out, HBP.out, .inr HJ3.out⟩
   | crnl _ s3 h3 =>
     have hx : wr.cell? a1 = some (.int .u8 13) := by rw [hp1.addr (by simp)]; exact (HIN.out.doc.suffix hp1.suf).head.1
     have hx2 : wr.cell? ⟨b, D.length - ([13, 10] ++ s3 : List UInt8).length + 1, none⟩ = some (.int .u8 10) := (HIN.out.doc.suffix hp1.suf).head.2.head.1
     have HJ3 := Lib.hid h3
     have ha1 := hp1.addr (by simp)
     generalize ho1 : D.length - ([13, 10] ++ s3 : List UInt8).length = o1 at *
     have ha2 : a1 = ⟨b, o1, none⟩ := by rw [ha1, ← ho1]; rfl
     simp only [List.length_cons] at he hroom hle hlen2
     subst he ha2
     clear hp1 h3 ha1
     obtain ⟨o2, k2, HP2, hk4⟩ := Pos.skip (P := [13, 10]) HP1.out hfits ho1
     have hk4 : (k1 = 2 ∧ o2 = o1 ∧ k2 = 0) ∨ (k1 ≠ 2 ∧ o2 = o1 + 2 ∧ k2 = k1 - 2) := hk4
     generalize hL3 : s3.length = L3 at *
     have HL3 := Lib.hid hL3
     have HO := Lib.hid ho1
     clear hL3 ho1
     rcases hk4 with ⟨rfl, rfl, rfl⟩ | ⟨hk3, rfl, rfl⟩
     all_goals
       go_wp2_with fail
       refine Handed.u2 hJ L3 _ _ ⟨rfl, rfl, rfl, rfl, rfl, rfl, rfl⟩ rfl rfl (by omega) ?_
       exact ⟨s3, _, _, _, _, HL3.out.symm, by rw [HL3.out]; rfl, rfl, HP2.out, HPS1.out, HIN.out, HF.out, HBP.out, .inr HJ3.out⟩
   | com _ p s3 hpl hbr h3 =>
     have hx : wr.cell? a1 = some (.int .u8 35) := by rw [hp1.addr (by simp)]; exact (HIN.out.doc.suffix hp1.suf).head.1
     have HLE : Hid (LineEnd s3) := by rcases hbr with h | h; exact .inr (.inl h); exact .inr (.inr h)
     have HPL := Lib.hid hpl
     have HJ3 := Lib.hid h3
     simp only [List.length_cons, List.length_append] at he hroom hle hlen2
     have hl3 : 0 < p.length + s3.length + 1 := by omega
     generalize hL3 : p.length + s3.length + 1 = L3 at *
     have HL3 := Lib.hid hL3
     subst he
     clear hp1 h3 hpl hbr hL3
     go_wp2_with fail
     refine (scan_at L3 HIN.out HP1.out HPL.out HLE.out HL3.out.symm).mono ?_
     rintro e w2 ⟨a2, k2, n2, a3, k3, he, hp3, -, -, rfl⟩
     generalize hL4 : s3.length = L4 at *
     have HL4 := Lib.hid hL4
     subst he
     have HP3 := Lib.hid hp3
     have ck2 : (wr.drewN n2).cell? ⟨g, 0, none⟩ = some (.bool false) := ck
     have cp2 : (wr.drewN n2).cell? ⟨pb, 0, none⟩ = some (.pointer (some ⟨g, 0, none⟩)) := cp
     have lg2 : g < (wr.drewN n2).heap.size := lg
     have lp2 : pb < (wr.drewN n2).heap.size := lp
     have HW2 : Hid (PS B (wr.drewN n2) g b cap false D left xs err nest ∧ Inp (wr.drewN n2) b cap D ∧ Fr B w (wr.drewN n2) ∧ Blk (wr.drewN n2) pb 63 #[.pointer (some ⟨g, 0, none⟩)]) := ⟨HPS1.out.drewN n2, HIN.out.drewN n2, HF.out.trans (Fr.drewN _ _), HBP.out⟩
     generalize wr.drewN n2 = w2 at *
     clear hp3 hx hL4
     go_wp2_with fail
     refine Handed.u2 hJ L4 _ _ ⟨rfl, rfl, rfl, rfl, rfl, rfl, rfl⟩ rfl rfl (by have := HL3.out; omega) ?_
     exact ⟨s3, _, _, _, _, HL4.out.symm, by rw [HL4.out]; rfl, rfl, HP3.out, HW2.out.1, HW2.out.2.1, HW2.out.2.2.1, HW2.out.2.2.2, .inr HJ3.out⟩
end Go.Proofs.Ytnlkbbpmpgdmiaa
namespace Go.Proofs.Ytnlkbbpmpgdmiaa
open Go.RowKit
set_option linter.unusedVariables false
set_option linter.unusedSimpArgs false
set_option maxRecDepth 100000 in
set_option maxHeartbeats 1000000 in
theorem v69_nest {F : Nat} {c0 : UInt8} (hF : (F = 77 ∧ c0 = 91) ∨ (F = 78 ∧ c0 = 123)) {B g b cap k : Nat} {D s : List UInt8} {left err : Value} {nest : Nat} {ns : List Nd} {w : World} {a : Addr} (hps : PS B w g b cap false D left ns err nest) (hnest : nest ≤ 5000) (hi : Inp w b cap D) (hp : Pos b cap D (c0 :: s) a k) (m : Nat) (hm : m = (c0 :: s).length)
   (h : ∀ w1, PS B w1 g b cap false D left ns err (nest + 1) → Inp w1 b cap D → Calls Try.prog F #[.pointer (some ⟨g, 0, none⟩), .slice (some a) m k] w1 (BadR B g b cap D left err (nest + 1) w1)) :
   Calls Try.prog 69 #[.pointer (some ⟨g, 0, none⟩), .slice (some a) m k] w (BadR B g b cap D left err nest w) := by
 have c0 := (hi.doc.suffix hp.suf).head.1
 rw [← hp.addr (by simp)] at c0
 have hml : 1 ≤ m := by rw [hm]; simp
 obtain ⟨c5, f5, hgl⟩ := hps.cell5
 obtain ⟨hps1, hf1⟩ := hps.nestTo (nest + 1)
 have HC := Lib.hid (h _ hps1 (hi.kp hf1.2))
 have HF1 := Lib.hid hf1
 have hn1 : ¬ ((10000 : Int) ≤ (nest : Int)) := by omega
 clear hp hi hps hps1 hf1 hm h
 rcases hF with ⟨rfl, rfl⟩ | ⟨rfl, rfl⟩
 all_goals
   go_enter Try.func69, Try.ntmps69
   go_wp2_with fail
   refine HC.out.mono ?_
   rintro e w2 ⟨pe, ns', rfl, hE, hps2, hf2⟩
   obtain ⟨d5, e5, hgl2⟩ := hps2.cell5
   have HE := Lib.hid hE
   have HPS2 := Lib.hid hps2
   have HF2 := Lib.hid hf2
   clear hE hps2 hf2
   go_wp2_with fail
   go_ret3
   obtain ⟨hps3, hf3⟩ := HPS2.out.nestTo nest
   exact ⟨pe, ns', rfl, HE.out.kp hf3.2, hps3, (HF1.out.trans HF2.out).trans hf3⟩
set_option maxRecDepth 100000 in
set_option maxHeartbeats 1000000 in
theorem v69_1 {B g b cap k : Nat} {D r : List UInt8} {left err : Value} {nest : Nat} {ns : List Nd} {w : World} {a : Addr} (hps : PS B w g b cap false D left ns err nest) (hi : Inp w b cap D) (hp : Pos b cap D ([49] ++ 32 :: r) a k) (hn : ns.length ≤ 400000) (m : Nat) (hm : m = ([49] ++ 32 :: r).length) :
   Calls Try.prog 69 #[.pointer (some ⟨g, 0, none⟩), .slice (some a) m k] w (ValRead 11 B g b cap false D left ns err nest [49] (32 :: r) w) := by
 have HC := Lib.hid (parseNum_any (kind := 11) hps hi (by simp) (by simp) hp hn m hm (scanInt_plainS (t := []) hi (by decide) (by decide) .nil ⟨_, _, rfl, by decide⟩ hp m hm))
 have ha := hp.addr (by simp)
 have hb0 := hi.doc.suffix hp.suf
 have hr := hp.room
 have hl := hp.le
 have hbd := hi.bound
 have hft := hi.fits
 rw [← hm] at hr hl
 have hml : 1 ≤ m := by rw [hm]; simp
 have c0 : w.cell? a = some (.int .u8 49) := by rw [ha]; exact hb0.head.1
 have HD : Hid (Calls Try.prog 80 #[.slice (some a) m k] w (fun e w' => e = .returned (.bool false) ∧ w' = w)) := by
   rw [ha]
   exact dtStart_no (k := k) (by unfold dtStart; cases r <;> simp [Digit]) hb0 hm (by omega) (by omega)
 clear hp hi hps hm hb0 ha hr hl
 go_enter Try.func69, Try.ntmps69
 go_wp2_with fail
 refine HD.out.mono ?_
 rintro e w1 ⟨rfl, rfl⟩
 go_wp2_with fail
 refine HC.out.mono ?_
 rintro e w1 ⟨ro, rl, dv, a1, k1, rfl, hp1, hps1, hd1, hf1⟩
 have HP1 := Lib.hid hp1
 have HPS1 := Lib.hid hps1
 have HD1 := Lib.hid hd1
 have HF1 := Lib.hid hf1
 clear hp1 hps1 hd1 hf1
 go_wp2_with fail
 go_ret3
 exact valRead_ret HP1.out HPS1.out HD1.out HF1.out
end Go.Proofs.Ytnlkbbpmpgdmiaa
namespace Go.Proofs.Ytnlkbbpmpgdmiaa
open Go.RowKit
set_option linter.unusedVariables false
set_option linter.unusedSimpArgs false
set_option maxRecDepth 100000 in
set_option maxHeartbeats 1000000 in
theorem h60_key {B g b cap k : Nat} {D l l2 : List UInt8} {left err : Value} {nest : Nat} {w : World} {a : Addr} (hps : PS B w g b cap false D left [] err nest) (hi : Inp w b cap D) (hp : Pos b cap D (91 :: 91 :: l) a k) (hl : 0 < l.length) (hsk : skipWs l = l2) (m : Nat) (hm : m = (91 :: 91 :: l).length)
   (hbad : ∀ {w' : World} {a' : Addr} {k' : Nat} {ns' : List Nd}, PS B w' g b cap false D left ns' err nest → Inp w' b cap D → Pos b cap D l2 a' k' → ns'.length ≤ 1 → Calls Try.prog 66 #[.pointer (some ⟨g, 0, none⟩), .slice (some a') l2.length k'] w' (BadR B g b cap D left err nest w')) :
   Calls Try.prog 60 #[.pointer (some ⟨g, 0, none⟩), .slice (some a) m k] w (BadR B g b cap D left err nest w) := by
 have HBAD : Hid (∀ w' a' k' ns', PS B w' g b cap false D left ns' err nest → Inp w' b cap D → Pos b cap D l2 a' k' → ns'.length ≤ 1 → Calls Try.prog 66 #[.pointer (some ⟨g, 0, none⟩), .slice (some a') l2.length k'] w' (BadR B g b cap D left err nest w')) := fun w' a' k' ns' h1 h2 h3 h4 => hbad h1 h2 h3 h4
 have HPS := Lib.hid hps
 have HI := Lib.hid hi
 have HSK := Lib.hid hsk
 have hroom := hp.room
 have hle := hp.le
 have hfits := hi.fits
 have hbnd := hi.bound
 have ha := hp.addr (by simp)
 simp only [List.length_cons] at hroom hle hm
 generalize ho : D.length - (91 :: 91 :: l).length = o at *
 have HP1 : Hid (Pos b cap D l ⟨b, o + 2, none⟩ (k - 2)) := Pos.after (s := [91, 91]) hp hfits (fun _ => by rw [show D.length - ([91, 91] ++ l : List UInt8).length = o from ho]; rfl) rfl
 subst ha
 obtain ⟨L, hL⟩ : ∃ L, l.length = L := ⟨_, rfl⟩
 rw [hL] at hroom hle hm hl
 subst hm
 have HL := Lib.hid hL
 have hk1 : ¬ k = 2 := by omega
 clear hps hi hp hsk hbad ho hL
 go_enter Try.func60, Try.ntmps60
 go_wp2_with fail
 refine (push_any HPS.out 4 0 0 (.slice none 0 0) rfl (by simp)).mono ?_
 rintro e w1 ⟨rfl, hps1, hf1⟩
 have HPS1 := Lib.hid hps1
 have HF1 := Lib.hid hf1
 clear hps1 hf1
 go_wp2_with fail
 refine (skip_at L (HI.out.kp HF1.out.2) HP1.out HL.out.symm).mono ?_
 rintro e w2 ⟨a2, k2, he, hp2, rfl⟩
 rw [HSK.out] at he hp2
 subst he
 have HCC := Lib.hid (HBAD.out _ _ _ _ HPS1.out (HI.out.kp HF1.out.2) hp2 (by simp))
 clear hp2 HBAD
 go_wp2_with fail
 refine HCC.out.mono ?_
 rintro e w3 ⟨pe, ns', rfl, hE, hps3, hf3⟩
 have HE := Lib.hid hE
 have HPS3 := Lib.hid hps3
 have HF3 := Lib.hid (HF1.out.trans hf3)
 clear hE hps3 hf3
 go_wp2_with fail
 go_ret3
 exact ⟨pe, ns', rfl, HE.out, HPS3.out, HF3.out⟩
set_option maxRecDepth 100000 in
set_option maxHeartbeats 1000000 in
theorem e40_fin {B g b cap k o : Nat} {D l r : List UInt8} {c x : UInt8} {ks : List (List UInt8)} {left err : Value} {nest : Nat} {w : World} (m : Nat) (h2 : 2 ≤ m) (hx : w.cell? ⟨b, o + 1, none⟩ = some (.int .u8 x.toNat)) (hx2 : x.toNat ≠ 91) (hmb : m ≤ 140737488351232) (hi : Inp w b cap D)
   (h : Calls Try.prog 61 #[.pointer (some ⟨g, 0, none⟩), .slice (some ⟨b, o, none⟩) m k] w (HeadRead 3 ks B g b cap D left err nest l w)) (hsk : skipWs l = c :: r) (h10 : c.toNat ≠ 10) (h13 : c.toNat ≠ 13) (h35 : c.toNat ≠ 35) :
   Calls Try.prog 40 #[.pointer (some ⟨g, 0, none⟩), .slice (some ⟨b, o, none⟩) m k] w (BadX B g b cap D left err nest w) := by
 have HC := Lib.hid h
 have HI := Lib.hid hi
 have HSK := Lib.hid hsk
 have e91 : ((x.toNat : Int) == 91) = false := by simp; omega
 clear h hi hsk
 go_enter Try.func40, Try.ntmps40
 go_wp2_with fail
 refine HC.out.mono ?_
 rintro e w1 ⟨xs, a1, k1, he, hp1, hps1, hv1, hf1⟩
 obtain ⟨L, hL⟩ : ∃ L, l.length = L := ⟨_, rfl⟩
 have he' : e = .returned (.tuple #[.int .i32 1, .slice (some a1) L k1, .nilIface]) := by rw [he, hL]
 have HP1 := Lib.hid hp1
 have HPS1 := Lib.hid hps1
 have HF1 := Lib.hid hf1
 have HL := Lib.hid hL
 subst he'
 clear he hp1 hps1 hv1 hf1 hL
 go_wp2_with fail
 refine (fin_bad (HI.out.kp HF1.out.2) HP1.out HSK.out h10 h13 h35 L HL.out.symm _ _).mono ?_
 rintro e w2 ⟨pe, rfl, hE, hb⟩
 have HE := Lib.hid hE
 have HB := Lib.hid hb
 clear hE hb
 go_wp2_with fail
 go_ret2
 exact ⟨pe, _, rfl, HE.out.mono HPS1.out.le, HPS1.out.kp HB.out, HF1.out.trans (Fr.of_below HB.out HPS1.out.le)⟩
end Go.Proofs.Ytnlkbbpmpgdmiaa
namespace Go.Proofs.Ytnlkbbpmpgdmiaa
open Go.RowKit
set_option linter.unusedVariables false
set_option linter.unusedSimpArgs false
def Bad (F : Nat) (D : List UInt8) : Prop := ∀ (B g b cap k : Nat) (left : Value) (w : World) (a : Addr), PS B w g b cap false D left [] .nilIface 0 → Inp w b cap D → Pos b cap D D a k → Calls Try.prog F #[.pointer (some ⟨g, 0, none⟩), .slice (some a) D.length k] w (BadR B g b cap D left .nilIface 0 w)
def BadL (F : Nat) (D : List UInt8) : Prop := ∀ (B g b cap k : Nat) (left : Value) (w : World) (a : Addr), PS B w g b cap false D left [] .nilIface 0 → Inp w b cap D → Pos b cap D D a k → Calls Try.prog F #[.pointer (some ⟨g, 0, none⟩), .slice (some a) D.length k] w (BadX B g b cap D left .nilIface 0 w)
def BadV (D t : List UInt8) : Prop := ∀ (B g b cap k : Nat) (left : Value) (ns : List Nd) (w : World) (a : Addr), PS B w g b cap false D left ns .nilIface 0 → Inp w b cap D → Pos b cap D t a k → ns.length ≤ 2 → Calls Try.prog 69 #[.pointer (some ⟨g, 0, none⟩), .slice (some a) t.length k] w (BadR B g b cap D left .nilIface 0 w)
theorem ref_41 {D r : List UInt8} {c : UInt8} (hD : D = c :: r) (hc : c = 97 ∨ c = 46 ∨ c = 61) (h : BadL 41 D) : Refused D := by
 intro B g b cap k a w hps hi hp
 have hsk : skipWs D = c :: r := by rw [hD]; exact skipWs_no (by rcases hc with rfl | rfl | rfl <;> decide)
 refine nextEx_bad hsk (by rcases hc with rfl | rfl | rfl <;> decide) (by rcases hc with rfl | rfl | rfl <;> decide) D.length rfl hps hi hp (.inl ⟨by rcases hc with rfl | rfl | rfl <;> decide, by rcases hc with rfl | rfl | rfl <;> decide, fun w' a' k' h1 h2 h3 => ?_⟩)
 rw [← hD] at h3 ⊢
 exact h _ _ _ _ _ _ _ _ h1 h2 h3
theorem ref_63 {D r : List UInt8} {c : UInt8} (hD : D = c :: r) (hc : c = 97 ∨ c = 46 ∨ c = 61) (h : Bad 63 D) : Refused D :=
 ref_41 hD hc fun B g b cap k left w a h1 h2 h3 => e41_kv _ (h B g b cap k left w a h1 h2 h3)
theorem ref_val {D r t : List UInt8} (hD : D = 97 :: 32 :: 61 :: r) (hsk : skipWs r = t) (hr : 0 < r.length) (h : BadV D t) : Refused D := by
 refine ref_63 hD (.inl rfl) fun B g b cap k left w a h1 h2 h3 => ?_
 have hD2 : D = [97] ++ 32 :: 61 :: r := hD
 have hp : Pos b cap D ([97] ++ 32 :: 61 :: r) a k := by rw [← hD2]; exact h3
 exact kv_badVal (r := r) (t := t) h1 h2 hp (by simp) (fun c r h => by injection h with h _; subst h; decide) (by rw [skipWs_yes (by decide)]; exact skipWs_no (by decide)) hsk hr D.length (by rw [← hD2]) (fun h1 h2 h3 h4 => h _ _ _ _ _ _ _ _ _ h1 h2 h3 h4)
theorem ref_40 {D r : List UInt8} (hD : D = 91 :: r) (h : BadL 40 D) : Refused D := by
 intro B g b cap k a w hps hi hp
 have hsk : skipWs D = 91 :: r := by rw [hD]; exact skipWs_no (by decide)
 refine nextEx_bad hsk (by decide) (by decide) D.length rfl hps hi hp (.inr (.inl ⟨rfl, fun w' a' k' h1 h2 h3 => ?_⟩))
 rw [← hD] at h3 ⊢
 exact h _ _ _ _ _ _ _ _ h1 h2 h3
theorem ref_61 {D r : List UInt8} {x : UInt8} (hD : D = 91 :: x :: r) (hx : x.toNat ≠ 91) (h : Bad 61 D) : Refused D := by
 refine ref_40 hD fun B g b cap k left w a h1 h2 h3 => ?_
 have hc := h B g b cap k left w a h1 h2 h3
 have hb := h2.doc.suffix h3.suf
 have hbd := h2.bound
 have hl : 2 ≤ D.length := by rw [hD]; simp
 rw [h3.addr (by omega)] at hc ⊢
 generalize D.length - D.length = o at *
 rw [hD] at hb
 exact e40_61 (x := x) _ hl rfl hb.head.2.head.1 hx hbd.1 hc
theorem ref_60 {D r : List UInt8} (hD : D = 91 :: 91 :: r) (h : Bad 60 D) : Refused D := by
 refine ref_40 hD fun B g b cap k left w a h1 h2 h3 => ?_
 have hc := h B g b cap k left w a h1 h2 h3
 have hb := h2.doc.suffix h3.suf
 have hbd := h2.bound
 have hl : 2 ≤ D.length := by rw [hD]; simp
 rw [h3.addr (by omega)] at hc ⊢
 generalize D.length - D.length = o at *
 rw [hD] at hb
 exact e40_60 _ hl hb.head.2.head.1 hbd.1 hc
section
variable (s : List UInt8)
theorem wr_a : Refused (97 :: 10 :: s) := ref_63 rfl (.inl rfl) fun B g b cap k left w a h1 h2 h3 =>
 kv_noEq (l := 10 :: s) (c := 10) (r := s) h1 h2 h3 (by simp) (fun c r h => by injection h with h _; subst h; decide) (skipWs_no (by decide)) (by decide) (by decide) _ rfl
theorem wr_ab (r : List UInt8) : Refused (97 :: 32 :: 98 :: r) := ref_63 rfl (.inl rfl) fun B g b cap k left w a h1 h2 h3 =>
 kv_noEq (l := 32 :: 98 :: r) (c := 98) (r := r) h1 h2 h3 (by simp) (fun c r h => by injection h with h _; subst h; decide) (by rw [skipWs_yes (by decide)]; exact skipWs_no (by decide)) (by decide) (by decide) _ rfl
theorem wr_key (c : UInt8) (hc : c = 46 ∨ c = 61) : Refused (c :: s) := ref_63 rfl (by rcases hc with rfl | rfl <;> simp) fun B g b cap k left w a h1 h2 h3 =>
 kv_badKey h1 h2 h3 (by simp) _ rfl fun h4 h5 _ => key_bad (l := s) h4 _ fun pv => scanKey_badAt h5 h3 (by rcases hc with rfl | rfl <;> decide) (by rcases hc with rfl | rfl <;> decide) (by rcases hc with rfl | rfl <;> decide) _ rfl pv
theorem wr_key2 (r0 r : List UInt8) (c : UInt8) (hsk : skipWs r0 = c :: r) (hr0 : 0 < r0.length) (hc : c = 46 ∨ c = 61) : Refused (97 :: 46 :: r0) := ref_63 rfl (.inl rfl) fun B g b cap k left w a h1 h2 h3 =>
 kv_badKey h1 h2 h3 (by simp) _ rfl fun h4 h5 hn => key_bad2 h4 h5 h3 (by omega) hsk (by rcases hc with rfl | rfl <;> decide) (by rcases hc with rfl | rfl <;> decide) (by rcases hc with rfl | rfl <;> decide) hr0 _ rfl
theorem wr_open : Refused (91 :: 97 :: 10 :: s) := ref_61 rfl (by decide) fun B g b cap k left w a h1 h2 h3 =>
 h61_open (c := 10) (r := s) h1 h2 h3 (by decide) (by decide) (by decide) (by decide) _ rfl
theorem wr_open2 : Refused (91 :: 91 :: 97 :: 93 :: 10 :: s) := ref_60 rfl fun B g b cap k left w a h1 h2 h3 =>
 h60_open (c := 93) (r := 10 :: s) h1 h2 h3 (by decide) (by decide) (by decide) (by decide) 10 s rfl (by decide) _ rfl
theorem wr_empty : Refused (91 :: 93 :: s) := ref_61 rfl (by decide) fun B g b cap k left w a h1 h2 h3 =>
 h61_key (l := 93 :: s) (l2 := 93 :: s) h1 h2 h3 (by simp) (skipWs_no (by decide)) _ rfl fun h4 h5 h6 _ => key_bad (l := s) h4 _ fun pv => scanKey_badAt h5 h6 (by decide) (by decide) (by decide) _ rfl pv
theorem wr_empty2 : Refused (91 :: 91 :: 93 :: s) := ref_60 rfl fun B g b cap k left w a h1 h2 h3 =>
 h60_key (l := 93 :: s) (l2 := 93 :: s) h1 h2 h3 (by simp) (skipWs_no (by decide)) _ rfl fun h4 h5 h6 _ => key_bad (l := s) h4 _ fun pv => scanKey_badAt h5 h6 (by decide) (by decide) (by decide) _ rfl pv
theorem wr_close : Refused (91 :: 97 :: 93 :: 93 :: 10 :: s) := by
 refine ref_40 rfl fun B g b cap k left w a h1 h2 h3 => ?_
 have hc := head61_any (b1 := []) (ks := [97]) (b2 := []) (rest := 93 :: 10 :: s) h1 h2 (by intro c hc; simp at hc) (by intro c hc; simp at hc) aTxt (by simp) h3 _ rfl (by simp)
 have hb := h2.doc.suffix h3.suf
 have hbd := h2.bound
 rw [h3.addr (by simp)] at hc ⊢
 generalize (91 :: 97 :: 93 :: 93 :: 10 :: s).length - (91 :: 97 :: 93 :: 93 :: 10 :: s).length = o at *
 exact e40_fin (x := 97) _ (by simp) hb.head.2.head.1 (by decide) hbd.1 h2 hc (skipWs_no (by decide)) (by decide) (by decide) (by decide)
theorem wr_com : Refused (35 :: 32 :: 1 :: 10 :: s) := by
 intro B g b cap k a w hps hi hp
 refine nextEx_bad (c := 35) (r := 32 :: 1 :: 10 :: s) (skipWs_no (by decide)) (by decide) (by decide) _ rfl hps hi hp (.inr (.inr ⟨rfl, fun w' a' k' h1 h2 h3 => ?_⟩))
 have h4 := h3.room
 have h5 := h3.le
 have h6 := h2.fits
 have h7 := h2.bound
 have h8 := h2.doc.suffix h3.suf
 rw [h3.addr (by simp)]
 exact com_bad [32] 1 (10 :: s) (by simp) (by intro x hx; simp at hx; subst hx; decide) rfl b _ k' _ w' h8 rfl (by simp only [List.length_cons, List.length_append, List.length_nil] at *; omega) (by simp only [List.length_cons, List.length_append, List.length_nil] at *; omega)
end
end Go.Proofs.Ytnlkbbpmpgdmiaa
namespace Go.Proofs.Ytnlkbbpmpgdmiaa
open Go.RowKit
set_option linter.unusedVariables false
set_option linter.unusedSimpArgs false
theorem ref_v {t : List UInt8} {c : UInt8} {r : List UInt8} (ht : t = c :: r) (hc : ¬ (c.toNat = 32 ∨ c.toNat = 9)) (h : BadV (97 :: 32 :: 61 :: 32 :: t) t) : Refused (97 :: 32 :: 61 :: 32 :: t) :=
 ref_val (t := t) rfl (by rw [skipWs_yes (by decide), ht]; exact skipWs_no hc) (by simp) h
section
variable (s : List UInt8)
theorem wr_none : Refused (97 :: 32 :: 61 :: 10 :: s) := ref_val (t := 10 :: s) rfl (skipWs_no (by decide)) (by simp) fun B g b cap k left ns w a h1 h2 h3 h4 => v69_def h1 h2 h3 (by decide) _ rfl
theorem wr_93 : Refused (97 :: 32 :: 61 :: 32 :: 93 :: s) := ref_v rfl (by decide) fun B g b cap k left ns w a h1 h2 h3 h4 => v69_def h1 h2 h3 (by decide) _ rfl
theorem wr_tru : Refused (97 :: 32 :: 61 :: 32 :: 116 :: 114 :: 117 :: 10 :: s) := ref_v rfl (by decide) fun B g b cap k left ns w a h1 h2 h3 h4 => v69_tru h1 h2 h3 _ rfl
theorem wr_bas1 : Refused (97 :: 32 :: 61 :: 32 :: 34 :: 120 :: 10 :: s) := ref_v rfl (by decide) fun B g b cap k left ns w a h1 h2 h3 h4 => v69_bas h1 h2 h3 (by decide) _ rfl fun pv => by
 clear h4
 have h4 := h3.room
 have h5 := h3.le
 have h6 := h2.fits
 have h7 := h2.bound
 have h8 := h2.doc.suffix h3.suf
 rw [h3.addr (by simp)]
 exact bas_bad [120] 10 s (by simp) (by intro x hx; simp at hx <;> (subst hx; decide)) pv b _ k _ w h8 (.inl (by decide)) rfl (by simp only [List.length_cons, List.length_append, List.length_nil] at *; omega) (by simp only [List.length_cons, List.length_append, List.length_nil] at *; omega)
theorem wr_bas2 : Refused (97 :: 32 :: 61 :: 32 :: 34 :: 1 :: 34 :: s) := ref_v rfl (by decide) fun B g b cap k left ns w a h1 h2 h3 h4 => v69_bas h1 h2 h3 (by decide) _ rfl fun pv => by
 clear h4
 have h4 := h3.room
 have h5 := h3.le
 have h6 := h2.fits
 have h7 := h2.bound
 have h8 := h2.doc.suffix h3.suf
 rw [h3.addr (by simp)]
 exact bas_bad [] 1 (34 :: s) (by simp) (by intro x hx; simp at hx <;> (subst hx; decide)) pv b _ k _ w h8 (.inl (by decide)) rfl (by simp only [List.length_cons, List.length_append, List.length_nil] at *; omega) (by simp only [List.length_cons, List.length_append, List.length_nil] at *; omega)
theorem wr_lit1 : Refused (97 :: 32 :: 61 :: 32 :: 39 :: 120 :: 10 :: s) := ref_v rfl (by decide) fun B g b cap k left ns w a h1 h2 h3 h4 => v69_lit h1 h2 h3 (by decide) _ rfl fun pv => by
 clear h4
 have h4 := h3.room
 have h5 := h3.le
 have h6 := h2.fits
 have h7 := h2.bound
 have h8 := h2.doc.suffix h3.suf
 rw [h3.addr (by simp)]
 exact lit_bad [120] 10 s (by simp) (by intro x hx; simp at hx <;> (subst hx; decide)) (by decide) pv b _ k _ w h8 rfl (by simp only [List.length_cons, List.length_append, List.length_nil] at *; omega) (by simp only [List.length_cons, List.length_append, List.length_nil] at *; omega)
theorem wr_lit2 : Refused (97 :: 32 :: 61 :: 32 :: 39 :: 120 :: 127 :: s) := ref_v rfl (by decide) fun B g b cap k left ns w a h1 h2 h3 h4 => v69_lit h1 h2 h3 (by decide) _ rfl fun pv => by
 clear h4
 have h4 := h3.room
 have h5 := h3.le
 have h6 := h2.fits
 have h7 := h2.bound
 have h8 := h2.doc.suffix h3.suf
 rw [h3.addr (by simp)]
 exact lit_bad [120] 127 s (by simp) (by intro x hx; simp at hx <;> (subst hx; decide)) (by decide) pv b _ k _ w h8 rfl (by simp only [List.length_cons, List.length_append, List.length_nil] at *; omega) (by simp only [List.length_cons, List.length_append, List.length_nil] at *; omega)
theorem wr_esc (e : List UInt8) (z : UInt8) (t : List UInt8) (he : e = z :: t) (h3l : 3 ≤ e.length) (hb : BadEsc (34 :: 92 :: e).length e) : Refused (97 :: 32 :: 61 :: 32 :: 34 :: 92 :: e) := ref_v rfl (by decide) fun B g b cap k left ns w a h1 h2 h3 h4 => by
 have h5 := h3.room
 have h6 := h3.le
 have h7 := h2.fits
 have h8 := h2.bound
 have h9 := h2.doc.suffix h3.suf
 have h10 : Pos b cap (97 :: 32 :: 61 :: 32 :: 34 :: 92 :: e) (34 :: 92 :: z :: t) a k := by rw [← he]; exact h3
 refine v69_bas h1 h2 h10 (by decide) _ (by rw [he]) fun pv => ?_
 rw [h3.addr (by simp)]
 refine bas_bad [] 92 e (by simp) (by intro x hx; simp at hx) pv b _ k _ w h9 (.inr ⟨by decide, fun n => ?_⟩) rfl (by simp only [List.length_cons, List.length_append, List.length_nil] at *; omega) (by simp only [List.length_cons, List.length_append, List.length_nil] at *; omega)
 exact basEsc_bad hb pv b _ k (w.drewN n) h9 rfl (by simp only [List.length_cons] at *; omega) (by simp only [List.length_cons, List.length_append, List.length_nil] at *; omega) (by simp only [List.length_cons, List.length_append, List.length_nil] at *; omega)
theorem wr_q : Refused (97 :: 32 :: 61 :: 32 :: 34 :: 92 :: 113 :: 34 :: 10 :: s) := wr_esc _ 113 _ rfl (by simp) (.inl ⟨_, rfl⟩)
theorem wr_u12 : Refused (97 :: 32 :: 61 :: 32 :: 34 :: 92 :: 117 :: 49 :: 50 :: 34 :: 10 :: s) := wr_esc _ 117 _ rfl (by simp) (.inr ⟨by simp, .inl ⟨_, rfl⟩⟩)
theorem wr_uD8 : Refused (97 :: 32 :: 61 :: 32 :: 34 :: 92 :: 117 :: 68 :: 56 :: 48 :: 48 :: 34 :: 10 :: s) := wr_esc _ 117 _ rfl (by simp) (.inr ⟨by simp, .inr ⟨_, rfl⟩⟩)
theorem num1 (ks : List (List UInt8)) : ValTxt 0 (.mk 1 [49] [] ks) [49] := ⟨1, [49], ks, rfl, .inr ⟨rfl, .inr (.inr (.inr ⟨.inl rfl, .plain 49 [] (by decide) (by decide) .nil⟩))⟩⟩
theorem follow1 {c : UInt8} {r : List UInt8} (h : StopC c) (h32 : c ≠ 32) : Follow (c :: r) := ⟨c, r, rfl, h, fun e => absurd e h32⟩
theorem wr_arr1 (hj : Junk true s) : Refused (97 :: 32 :: 61 :: 32 :: 91 :: 49 :: 10 :: s) := ref_v rfl (by decide) fun B g b cap k left ns w a h1 h2 h3 h4 => by
 refine v69_nest (.inl ⟨rfl, rfl⟩) h1 (by omega) h2 h3 _ rfl fun w1 g1 g2 => ?_
 refine list77_bad (t := [49]) (j := 10 :: s) g1 g2 rfl (.inl (by decide)) (.nl _ _ hj) (by simp) h3 (by omega) _ rfl fun w' a' k' nd g3 g4 g5 => ?_
 refine (valOk 0 (by omega) (.mk 1 [49] [] []) [49] B g b cap k' _ (10 :: s) left .nilIface _ _ w' a' (num1 []) g3 (by omega) g4 (follow1 (by decide) (by decide)) g5 (by simp; omega) _ rfl).mono ?_
 rintro e w2 ⟨xs, a2, k2, e1, e2, e3, -, e5, -⟩
 exact ⟨xs, a2, k2, e1, e2, e3, e5⟩
theorem wr_arr2 : Refused (97 :: 32 :: 61 :: 32 :: 91 :: 49 :: 32 :: 50 :: s) := ref_v rfl (by decide) fun B g b cap k left ns w a h1 h2 h3 h4 => by
 refine v69_nest (.inl ⟨rfl, rfl⟩) h1 (by omega) h2 h3 _ rfl fun w1 g1 g2 => ?_
 refine list77_bad (t := [49]) (j := 32 :: 50 :: s) g1 g2 rfl (.inl (by decide)) (.ws _ _ _ (.inl rfl) (.hd _ _ (.inl (by decide)))) (by simp) h3 (by omega) _ rfl fun w' a' k' nd g3 g4 g5 => ?_
 refine (v69_1 (r := 50 :: s) g3 g4 g5 (by simp; omega) _ rfl).mono ?_
 rintro e w2 ⟨ro, rl, dv, a2, k2, e1, e2, e3, -, e5⟩
 exact ⟨_, a2, k2, e1, e2, e3, e5⟩
theorem kv1 (x : UInt8) (hx : Bare x) : KvTxt (ValTxt 0) (.mk 1 [49] [] [[x]]) [x, 32, 61, 32, 49] :=
 ⟨[x], [32], [32], [49], .inl ⟨rfl, by simp, by intro c hc; simp at hc; subst hc; exact hx⟩, by intro c hc; simp at hc; subst hc; exact .inl rfl, by intro c hc; simp at hc; subst hc; exact .inl rfl, num1 _, rfl⟩
theorem wr_tbl (j : List UInt8) (hj : Junk true j) (hf : Follow j) : Refused (97 :: 32 :: 61 :: 32 :: 123 :: ([98, 32, 61, 32, 49] ++ j)) := ref_v rfl (by decide) fun B g b cap k left ns w a h1 h2 h3 h4 => by
 refine v69_nest (.inr ⟨rfl, rfl⟩) h1 (by omega) h2 h3 _ rfl fun w1 g1 g2 => ?_
 refine list78_bad (t := [98, 32, 61, 32, 49]) (j := j) g1 g2 rfl (.inl (by decide)) hj (by simp; omega) h3 (by omega) _ rfl fun w' a' k' nd g3 g4 g5 => ?_
 refine (parseKv_any (valOk 0 (by omega)) g3 (by omega) g4 (kv1 98 (by decide)) hf g5 (by simp; omega) _ rfl (fun h => h.head)).mono ?_
 rintro e w2 ⟨xs, a2, k2, e1, e2, e3, -, e5, -⟩
 exact ⟨xs, a2, k2, e1, e2, e3, e5⟩
theorem wr_12 : Refused (97 :: 32 :: 61 :: 32 :: 49 :: 32 :: 50 :: s) := ref_41 rfl (.inl rfl) fun B g b cap k left w a h1 h2 h3 => by
 have hP : ValOkF (fun r => ∃ q, r = 32 :: 50 :: q) (fun v t => v = .mk 1 [49] [] [[97]] ∧ t = [49]) 0 := by
   rintro v t B g b cap k D rest left err nest ns w a ⟨rfl, rfl⟩ g1 _ g2 ⟨q, rfl⟩ g3 g4 m hm
   exact (v69_1 (r := 50 :: q) g1 g2 g3 (by simp at g4; omega) m hm).mono fun e w' h => ValRead.v (by omega) (by simp) h
 have hc := parseKv_gen hP (v := .mk 1 [49] [] [[97]]) (s := [97, 32, 61, 32, 49]) (rest := 32 :: 50 :: s) h1 (Nat.le_refl _) h2 ⟨[97], [32], [32], [49], aTxt, by intro c hc; simp at hc; subst hc; exact .inl rfl, by intro c hc; simp at hc; subst hc; exact .inl rfl, ⟨rfl, rfl⟩, rfl⟩ ⟨s, rfl⟩ h3 (by simp) _ rfl (by rintro v t ⟨_, rfl⟩; exact ⟨49, [], rfl, .inl (by decide)⟩)
 exact e41_fin (c := 50) (r := s) _ h2 hc (by rw [skipWs_yes (by decide)]; exact skipWs_no (by decide)) (by decide) (by decide) (by decide)
end
end Go.Proofs.Ytnlkbbpmpgdmiaa
