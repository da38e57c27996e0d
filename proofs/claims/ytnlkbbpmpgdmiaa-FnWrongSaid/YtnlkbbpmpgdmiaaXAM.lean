/- parseValArray; parseInlineTable. -/
import Derived.Test.YtnlkbbpmpgdmiaaXAL
import Derived.Deep.RegionHeld3
namespace Go.Proofs.Ytnlkbbpmpgdmiaa
open Go.RowKit
set_option linter.unusedVariables false
set_option linter.unusedSimpArgs false
set_option maxRecDepth 100000 in
set_option maxHeartbeats 8000000 in
theorem list77_any {I : N → List UInt8 → Prop} {lim : Nat} {tb : Prop} (htb : tb = (8 = 9)) (hI : ItOk 69 I tb lim) (hIh : ∀ {v t}, I v t → ∃ c r, t = c :: r ∧ Hd c) {items : List N} {ks : List (List UInt8)} {B g b cap k : Nat} {D s rest : List UInt8} {left err : Value} {nest : Nat} {ns : List Nd} {w : World} {a : Addr} {c0 : UInt8} (hps : PS B w g b cap false D left ns err nest) (hnest : nest ≤ lim) (hi : Inp w b cap D)
   (hs : Tail I 93 false items s) (hp : Pos b cap D (c0 :: (s ++ rest)) a k) (hrest : 0 < rest.length) (hn : ns.length + (s.length + 1) ≤ 300000) (m : Nat) (hm : m = (s ++ rest).length + 1) :
   Calls Try.prog 77 #[.pointer (some ⟨g, 0, none⟩), .slice (some a) m k] w (VRead (.mk 8 [] items ks) (s.length + 1) B g b cap false D left ns err nest rest w) := by
 have HTB := Lib.hid htb
 clear htb
 have hroom := hp.room
 have hle := hp.le
 have hfits := hi.fits
 have hbnd := hi.bound
 have ha := hp.addr (by simp)
 simp only [List.length_cons] at hroom hle
 generalize ho : D.length - (c0 :: (s ++ rest) : List UInt8).length = o at *
 have hp1 : Pos b cap D (s ++ rest) ⟨b, o + 1, none⟩ (k - 1) := hp.tail hfits (fun _ => by rw [ho]) rfl
 have HP1 := Lib.hid hp1
 have HP0 := Lib.hid hp
 have HI := Lib.hid hi
 have HPS := Lib.hid hps
 have HS := Lib.hid hs
 have HRE := Lib.hid hrest
 have hns := hps.le
 subst ha
 have hpos0 : 0 < (s ++ rest).length := by rw [List.length_append]; omega
 have hk1 : ¬ k = 1 := by omega
 have hk2 : 1 ≤ k := by omega
 have hm1 : 1 ≤ m := by omega
 have HM : Hid (m - 1 = (s ++ rest).length) := by show _ = _; omega
 have hm2 : m ≤ k := by omega
 have hkb : k ≤ 9223372036854775807 := by omega
 have HRG : Hid (∀ {w' : World}, PS B w' g b cap false D left ns err nest → Calls Try.prog 39 #[.pointer (some ⟨g, 0, none⟩), .slice (some ⟨b, o, none⟩) 1 k] w' (RangeIs w')) := fun h => range_at h HI.out.fits HI.out.bound HP0.out 1 (by simp)
 have hnl : ns.length + s.length + 1 ≤ 300000 := by omega
 have hns4 : ns.length ≤ 400000 := by omega
 clear hps hi hs hp hp1 ho hrest hroom hle hfits hbnd hpos0 hm
 go_enter Try.func77, Try.ntmps77
 go_wp2_with fail
 refine (push_any (HPS.out.kp ((Below.refl _ _).alloc (Nat.le_refl _) _)) 6 0 0 (.slice none 0 0) rfl hns4).mono ?_
 rintro e w1 ⟨rfl, hps1, hf1⟩
 have HPS2 := Lib.hid hps1
 have HF1 := Lib.hid hf1
 clear hps1 hf1
 go_wp2_with fail
 have hsz1 : w.heap.size + 1 ≤ w1.heap.size := by have := HF1.out.1.size; simp at this; omega
 have hB1 : B ≤ w1.heap.size := by omega
 have HPW : Hid (PS B ((w1.alloc (Obj.cells #[Value.int IntKind.i32 (↑ns.length + 1)] 21)).alloc (Obj.cells #[Value.int IntKind.i32 0] 21)) g b cap false D left (ns ++ [(⟨6, 0, 0, .slice none 0 0, 0, 0⟩ : Nd)]) err nest) := HPS2.out.kp (((Below.refl _ _).alloc (Nat.le_refl _) _).alloc (by simp) _)
 have HBP : Hid (Blk ((w1.alloc (Obj.cells #[Value.int IntKind.i32 (↑ns.length + 1)] 21)).alloc (Obj.cells #[Value.int IntKind.i32 0] 21)) w.heap.size 63 #[.pointer (some ⟨g, 0, none⟩)]) := ((HF1.out.2.2 _ _ _ (by decide) (by decide) (Blk.new w 63 _)).alloc _).alloc _
 have HBA : Hid (Blk ((w1.alloc (Obj.cells #[Value.int IntKind.i32 (↑ns.length + 1)] 21)).alloc (Obj.cells #[Value.int IntKind.i32 0] 21)) w1.heap.size 21 #[.int .i32 ((ns.length : Int) + 1)]) := (Blk.new w1 21 _).alloc _
 have HBL : Hid (Blk ((w1.alloc (Obj.cells #[Value.int IntKind.i32 (↑ns.length + 1)] 21)).alloc (Obj.cells #[Value.int IntKind.i32 0] 21)) (w1.heap.size + 1) 21 #[.int .i32 0]) := by
   have := Blk.new (w1.alloc (Obj.cells #[Value.int IntKind.i32 (↑ns.length + 1)] 21)) 21 #[.int .i32 0]
   rwa [show (w1.alloc (Obj.cells #[Value.int IntKind.i32 (↑ns.length + 1)] 21)).heap.size = w1.heap.size + 1 from by simp] at this
 have HFW : Hid (Fr B w ((w1.alloc (Obj.cells #[Value.int IntKind.i32 (↑ns.length + 1)] 21)).alloc (Obj.cells #[Value.int IntKind.i32 0] 21))) := (((Fr.alloc hns _).trans HF1.out).trans (Fr.alloc hB1 _)).trans (Fr.alloc (by simp; omega) _)
 have HIW := Lib.hid (HI.out.kp HFW.out.2)
 have hB : B ≤ w.heap.size := hns
 generalize ((w1.alloc (Obj.cells #[Value.int IntKind.i32 (↑ns.length + 1)] 21)).alloc (Obj.cells #[Value.int IntKind.i32 0] 21)) = ws at *
 generalize hlcb : w1.heap.size + 1 = lcb at *
 generalize w1.heap.size = arb at *
 have hlw : w.heap.size ≤ lcb := by omega
 have hBl : B ≤ lcb := by omega
 have hal : arb ≠ lcb := by omega
 have HW0 : Hid (w.heap.size ≤ lcb) := hlw
 generalize hpbq : w.heap.size = pb at *
 have HPBQ := Lib.hid hpbq
 clear HF1 HPS2 HPS HI HP0 hsz1 hB1 hpbq hlcb
 have HRel : Hid (TRel I 93 tb items 6 0 0 B g b cap D left ns err nest rest s.length pb arb lcb w s.length (.slice (some ⟨b, o + 1, none⟩) (m - 1) (k - 1)) (.bool false) ws) := by
   refine ⟨[], items, false, s, _, _, [], 0, rfl, rfl, HS.out, by rw [HM.out], rfl, HP1.out, ?_, .inl ⟨rfl, rfl, rfl⟩, HIW.out, HFW.out, HBL.out, HBP.out, HBA.out, by simp only [List.length_nil]; omega⟩
   exact HPW.out
 clear HS HP1 HPW HBL HBP HBA HIW
 refine wp_loop_u2 135 1 12 (fun U => U 0 = .pointer (some ⟨g, 0, none⟩) ∧ U 2 = .pointer (some ⟨pb, 0, none⟩) ∧ U 7 = .pointer (some ⟨arb, 0, none⟩) ∧ U 8 = .pointer (some ⟨lcb, 0, none⟩) ∧ U 9 = .func (.func 86) #[] #[.pointer (some ⟨lcb, 0, none⟩), .pointer (some ⟨pb, 0, none⟩), .pointer (some ⟨arb, 0, none⟩)]) (fun s1 s12 U => ⟨#[.pointer (some ⟨g, 0, none⟩), s1, .pointer (some ⟨pb, 0, none⟩), U 3, U 4, U 5, U 6, .pointer (some ⟨arb, 0, none⟩), .pointer (some ⟨lcb, 0, none⟩), .func (.func 86) #[] #[.pointer (some ⟨lcb, 0, none⟩), .pointer (some ⟨pb, 0, none⟩), .pointer (some ⟨arb, 0, none⟩)], U 10, U 11, s12, U 13, U 14, U 15, U 16, U 17, U 18, U 19, U 20, U 21, U 22, U 23, U 24, U 25, U 26, U 27, U 28, U 29, U 30, U 31, U 32, U 33, U 34, U 35, U 36, U 37, U 38, U 39, U 40, U 41, U 42, U 43, U 44, U 45, U 46, U 47, U 48, U 49, U 50, U 51, U 52, U 53, U 54, U 55, U 56, U 57, U 58, U 59, U 60, U 61, U 62, U 63, U 64, U 65, U 66, U 67, U 68, U 69, U 70, U 71, U 72, U 73, U 74, U 75, U 76, U 77, U 78, U 79, U 80, U 81, U 82, U 83, U 84, U 85, U 86, U 87, U 88, U 89, U 90, U 91, U 92, U 93, U 94, U 95, U 96, U 97, U 98, U 99, U 100, U 101, U 102, U 103, U 104, U 105, U 106, U 107, U 108, U 109, U 110, U 111, U 112, U 113, U 114, U 115, U 116, U 117, U 118, U 119, U 120, U 121, U 122, U 123, U 124, U 125, U 126, U 127, U 128, U 129, U 130, U 131, U 132, U 133, U 134], []⟩) (by rintro U ⟨h0, h1, h2, h3, h4⟩; rw [← h4, ← h0, ← h1, ← h2, ← h3]; rfl) (fun gg s1 s12 wx => TRel I 93 tb items 6 0 0 B g b cap D left ns err nest rest s.length pb arb lcb w gg s1 s12 wx) s.length (.slice (some ⟨b, o + 1, none⟩) (m - 1) (k - 1)) (.bool false) ⟨rfl, rfl, rfl, rfl, rfl, rfl, rfl⟩ rfl rfl HRel.out ?_
 intro gk u1 u12 U wr hrel J K hJ hK
 clear HRel HFW
 obtain ⟨dn, more, av, s1, a0, k0, xs, lc, hit, rfl, ht, rfl, rfl, hpos, hps, hcl, hin, hf, hbl, hbp, hba, hnn⟩ := hrel
 obtain ⟨s2, ht2, hsk, hlen2, hws⟩ := ht.strip hIh rest
 have HIN := Lib.hid hin
 have HPOS := Lib.hid hpos
 have HPS1 := Lib.hid hps
 have HCL := Lib.hid hcl
 have HF := Lib.hid hf
 have HBL := Lib.hid hbl
 have HBP := Lib.hid hbp
 have HBA := Lib.hid hba
 have HIT := Lib.hid hit
 have HSK := Lib.hid hsk
 have ca : wr.cell? ⟨arb, 0, none⟩ = some (.int .i32 ((ns.length : Int) + 1)) := by have := hba.cell 0; simpa using this
 have cp : wr.cell? ⟨pb, 0, none⟩ = some (.pointer (some ⟨g, 0, none⟩)) := by have := hbp.cell 0; simpa using this
 have la := hba.lt
 have lp := hbp.lt
 obtain ⟨ck, lg⟩ := hps.kcell
 generalize hL0 : (s1 ++ rest).length = L0 at *
 have HL0 := Lib.hid hL0
 clear hin hpos hps hcl hf hbl hbp hba hit hsk ht hL0
 cases ht2 with
 | ws _ _ s3 c h1 h2 => exact absurd h1 (hws c _ rfl)
 | close =>
   go_wp2_with fail
   refine (skip_at L0 HIN.out HPOS.out HL0.out.symm).mono ?_
   rintro e w1 ⟨a1, k1, he, hp1, rfl⟩
   rw [HSK.out] at he hp1
   have HP1 := Lib.hid hp1
   have hroom := hp1.room
   have hle := hp1.le
   have hfits := HIN.out.fits
   have hbnd := HIN.out.bound
   have hx : wr.cell? a1 = some (.int .u8 93) := by rw [hp1.addr (by simp)]; exact (HIN.out.doc.suffix hp1.suf).head.1
   have ha1 := hp1.addr (by simp)
   generalize ho1 : D.length - ([93] ++ rest : List UInt8).length = o1 at *
   subst ha1
   have hp2 : Pos b cap D rest ⟨b, o1 + 1, none⟩ (k1 - 1) := Pos.tail (c := 93) HP1.out hfits (fun _ => by rw [show D.length - (93 :: rest : List UInt8).length = o1 from ho1]) rfl
   have HP2 := Lib.hid hp2
   simp only [List.cons_append, List.nil_append, List.length_cons] at he hroom hle
   subst he
   have hk3 : ¬ k1 = 1 := by have := HRE.out; omega
   clear hp1 hp2 ho1
   go_wp2_with fail
   go_quiet (fail)
   go_wp2
   go_ret3
   obtain rfl : items = dn := by have := HIT.out; simpa using this
   refine ⟨_, _, _, by simp, HP2.out, HPS1.out.drewN _, ?_, HF.out.trans (Fr.drewN _ _), by simp only [List.length_cons]; omega⟩
   have hcd := CNds.k5 (Kp.drewN wr nq).k5 _ _ HCL.out.done
   rw [HTB.out] at hcd
   unfold VNds
   exact ⟨_, xs, rfl, rfl, rfl, .inr ⟨by decide, rfl, rfl, by first | exact hcd | (rw [eq_true (rfl : (8 : Nat) = 8)]; exact hcd) | simpa using hcd⟩⟩
 | nl _ _ s3 h3 =>
   go_wp2_with fail
   refine (skip_at L0 HIN.out HPOS.out HL0.out.symm).mono ?_
   rintro e w1 ⟨a1, k1, he, hp1, rfl⟩
   rw [HSK.out] at he hp1
   have HP1 := Lib.hid hp1
   have hroom := hp1.room
   have hle := hp1.le
   have hfits := HIN.out.fits
   have hbnd := HIN.out.bound
   have hx : wr.cell? a1 = some (.int .u8 10) := by rw [hp1.addr (by simp)]; exact (HIN.out.doc.suffix hp1.suf).head.1
   have ha1 := hp1.addr (by simp)
   generalize ho1 : D.length - ((10 :: s3) ++ rest : List UInt8).length = o1 at *
   subst ha1
   have hp2 : Pos b cap D (s3 ++ rest) ⟨b, o1 + 1, none⟩ (k1 - 1) := Pos.tail (c := 10) HP1.out hfits (fun _ => by rw [show D.length - (10 :: (s3 ++ rest) : List UInt8).length = o1 from ho1]) rfl
   have HP2 := Lib.hid hp2
   simp only [List.cons_append, List.length_cons] at he hroom hle hlen2
   have hl3 : 0 < (s3 ++ rest).length := by rw [List.length_append]; have := HRE.out; omega
   generalize hL3 : (s3 ++ rest).length = L3 at *
   have HL3 := Lib.hid hL3
   subst he
   have hk3 : ¬ k1 = 1 := by omega
   have HT3 := Lib.hid h3
   clear hp1 hp2 ho1 hL3 h3
   go_wp2_with fail
   refine Handed.u2 hJ s3.length _ _ ⟨rfl, rfl, rfl, rfl, rfl, rfl, rfl⟩ rfl rfl (by omega) ?_
   exact ⟨dn, more, av, s3, _, _, xs, lc, HIT.out, rfl, HT3.out, by rw [HL3.out]; simp, rfl, HP2.out, HPS1.out, HCL.out, HIN.out, HF.out, HBL.out, HBP.out, HBA.out, by omega⟩
 | crnl _ _ s3 h3 =>
   go_wp2_with fail
   refine (skip_at L0 HIN.out HPOS.out HL0.out.symm).mono ?_
   rintro e w1 ⟨a1, k1, he, hp1, rfl⟩
   rw [HSK.out] at he hp1
   have HP1 := Lib.hid hp1
   have hroom := hp1.room
   have hle := hp1.le
   have hfits := HIN.out.fits
   have hbnd := HIN.out.bound
   have hx : wr.cell? a1 = some (.int .u8 13) := by rw [hp1.addr (by simp)]; exact (HIN.out.doc.suffix hp1.suf).head.1
   have ha1 := hp1.addr (by simp)
   have hx2 : wr.cell? ⟨b, D.length - ((13 :: 10 :: s3) ++ rest : List UInt8).length + 1, none⟩ = some (.int .u8 10) := (HIN.out.doc.suffix hp1.suf).head.2.head.1
   generalize ho1 : D.length - ((13 :: 10 :: s3) ++ rest : List UInt8).length = o1 at *
   subst ha1
   have hp2 : Pos b cap D (s3 ++ rest) ⟨b, o1 + 2, none⟩ (k1 - 2) := Pos.after (s := [13, 10]) HP1.out hfits (fun _ => by rw [show D.length - ([13, 10] ++ (s3 ++ rest) : List UInt8).length = o1 from ho1]; rfl) rfl
   have HP2 := Lib.hid hp2
   simp only [List.cons_append, List.length_cons] at he hroom hle hlen2
   have hl3 : 0 < (s3 ++ rest).length := by rw [List.length_append]; have := HRE.out; omega
   generalize hL3 : (s3 ++ rest).length = L3 at *
   have HL3 := Lib.hid hL3
   subst he
   have hk3 : ¬ k1 = 2 := by omega
   have HT3 := Lib.hid h3
   clear hp1 hp2 ho1 hL3 h3
   go_wp2_with fail
   refine Handed.u2 hJ s3.length _ _ ⟨rfl, rfl, rfl, rfl, rfl, rfl, rfl⟩ rfl rfl (by omega) ?_
   exact ⟨dn, more, av, s3, _, _, xs, lc, HIT.out, rfl, HT3.out, by rw [HL3.out]; simp, rfl, HP2.out, HPS1.out, HCL.out, HIN.out, HF.out, HBL.out, HBP.out, HBA.out, by omega⟩
 | com _ _ p s3 hpl hbr h3 =>
   go_wp2_with fail
   refine (skip_at L0 HIN.out HPOS.out HL0.out.symm).mono ?_
   rintro e w1 ⟨a1, k1, he, hp1, rfl⟩
   rw [HSK.out] at he hp1
   have HP1 := Lib.hid hp1
   have hroom := hp1.room
   have hle := hp1.le
   have hfits := HIN.out.fits
   have hbnd := HIN.out.bound
   rw [List.cons_append, List.append_assoc] at he hp1 HP1
   have hx : wr.cell? a1 = some (.int .u8 35) := by rw [hp1.addr (by simp)]; exact (HIN.out.doc.suffix hp1.suf).head.1
   have HLE : Hid (LineEnd (s3 ++ rest)) := by
     rcases hbr with ⟨r, rfl⟩ | ⟨r, rfl⟩
     · exact .inr (.inl ⟨_, rfl⟩)
     · exact .inr (.inr ⟨_, rfl⟩)
   have HPL := Lib.hid hpl
   have HT3 := Lib.hid h3
   simp only [List.length_cons, List.length_append] at he hroom hle hlen2
   have hl3 : 0 < p.length + (s3.length + rest.length) + 1 := by omega
   generalize hL3 : p.length + (s3.length + rest.length) + 1 = L3 at *
   have HL3 := Lib.hid hL3
   subst he
   clear hp1 h3 hpl hbr hL3
   go_wp2_with fail
   refine (scan_at L3 HIN.out HP1.out HPL.out HLE.out (by rw [← HL3.out, List.length_append])).mono ?_
   rintro e w2 ⟨a2, k2, n2, a3, k3, he, hp3, -, -, rfl⟩
   generalize hL4 : (s3 ++ rest).length = L4 at *
   have HL4 := Lib.hid hL4
   subst he
   have HP3 := Lib.hid hp3
   clear hL4
   have ck2 : (wr.drewN n2).cell? ⟨g, 0, none⟩ = some (.bool false) := ck
   have cp2 : (wr.drewN n2).cell? ⟨pb, 0, none⟩ = some (.pointer (some ⟨g, 0, none⟩)) := cp
   have lg2 : g < (wr.drewN n2).heap.size := lg
   have lp2 : pb < (wr.drewN n2).heap.size := lp
   have HFD : Hid (Fr B wr (wr.drewN n2)) := Fr.drewN wr n2
   have HPS2 := Lib.hid (HPS1.out.drewN n2)
   have HIN2 := Lib.hid (HIN.out.drewN n2)
   have HB2 : Hid (Blk (wr.drewN n2) lcb 21 #[.int .i32 lc] ∧ Blk (wr.drewN n2) pb 63 #[.pointer (some ⟨g, 0, none⟩)] ∧ Blk (wr.drewN n2) arb 21 #[.int .i32 ((ns.length : Int) + 1)]) := ⟨HBL.out, HBP.out, HBA.out⟩
   generalize wr.drewN n2 = w2 at *
   clear hp3 hx
   go_wp2_with fail
   refine Handed.u2 hJ s3.length _ _ ⟨rfl, rfl, rfl, rfl, rfl, rfl, rfl⟩ rfl rfl (by omega) ?_
   exact ⟨dn, more, av, s3, _, _, xs, lc, HIT.out, rfl, HT3.out, by rw [HL4.out]; rfl, rfl, HP3.out, HPS2.out, HCL.out.k5 HFD.out.2.k5, HIN2.out, HF.out.trans HFD.out, HB2.out.1, HB2.out.2.1, HB2.out.2.2, by omega⟩
 | comma _ s3 h3 =>
   go_wp2_with fail
   refine (skip_at L0 HIN.out HPOS.out HL0.out.symm).mono ?_
   rintro e w1 ⟨a1, k1, he, hp1, rfl⟩
   rw [HSK.out] at he hp1
   have HP1 := Lib.hid hp1
   have hroom := hp1.room
   have hle := hp1.le
   have hfits := HIN.out.fits
   have hbnd := HIN.out.bound
   have hx : wr.cell? a1 = some (.int .u8 44) := by rw [hp1.addr (by simp)]; exact (HIN.out.doc.suffix hp1.suf).head.1
   have ha1 := hp1.addr (by simp)
   generalize ho1 : D.length - ((44 :: s3) ++ rest : List UInt8).length = o1 at *
   subst ha1
   have hp2 : Pos b cap D (s3 ++ rest) ⟨b, o1 + 1, none⟩ (k1 - 1) := Pos.tail (c := 44) HP1.out hfits (fun _ => by rw [show D.length - (44 :: (s3 ++ rest) : List UInt8).length = o1 from ho1]) rfl
   have HP2 := Lib.hid hp2
   simp only [List.cons_append, List.length_cons] at he hroom hle hlen2
   have hl3 : 0 < (s3 ++ rest).length := by rw [List.length_append]; have := HRE.out; omega
   generalize hL3 : (s3 ++ rest).length = L3 at *
   have HL3 := Lib.hid hL3
   subst he
   have hk3 : ¬ k1 = 1 := by omega
   have HT3 := Lib.hid h3
   clear hp1 hp2 ho1 hL3 h3
   go_wp2_with fail
   refine Handed.u2 hJ s3.length _ _ ⟨rfl, rfl, rfl, rfl, rfl, rfl, rfl⟩ rfl rfl (by omega) ?_
   exact ⟨dn, more, false, s3, _, _, xs, lc, HIT.out, rfl, HT3.out, by rw [HL3.out]; simp, rfl, HP2.out, HPS1.out, HCL.out, HIN.out, HF.out, HBL.out, HBP.out, HBA.out, by omega⟩
 | item x l t s3 hx0 h3 =>
   go_wp2_with fail
   refine (skip_at L0 HIN.out HPOS.out HL0.out.symm).mono ?_
   rintro e w1 ⟨a1, k1, he, hp1, rfl⟩
   rw [HSK.out] at he hp1
   have HP1 := Lib.hid hp1
   have hroom := hp1.room
   have hle := hp1.le
   have hfits := HIN.out.fits
   have hbnd := HIN.out.bound
   rw [List.append_assoc] at he hp1 HP1
   obtain ⟨c, r, htc, hc⟩ := hIh hx0
   have htp : 1 ≤ t.length := by rw [htc]; simp
   have hx : wr.cell? a1 = some (.int .u8 c.toNat) := by
     rw [hp1.addr (by rw [htc]; simp)]
     have h := HIN.out.doc.suffix hp1.suf
     rw [htc] at h ⊢
     exact h.head.1
   have hcf := hc.ifacts
   obtain ⟨i10, i13, i35, i44, i93, i125⟩ := hcf
   have HX0 := Lib.hid hx0
   have HT3 := Lib.hid h3
   have HFO : Hid (Follow (s3 ++ rest)) := h3.follow (by decide) rest
   simp only [List.length_append] at hlen2
   have hl3 : 0 < (t ++ (s3 ++ rest)).length := by simp only [List.length_append]; omega
   generalize hL3 : (t ++ (s3 ++ rest)).length = L3 at *
   have HL3 := Lib.hid hL3
   subst he
   clear hp1 h3 hx0 htc hc hL3
   go_wp2_with fail
   refine (hI x t B g b cap k1 D (s3 ++ rest) left err nest _ wr a1 HX0.out HPS1.out hnest HIN.out HFO.out HP1.out (by simp only [List.length_append, List.length_cons]; omega) L3 HL3.out.symm).mono ?_
   rintro e w2 ⟨ys, a3, k3, he, hp3, hps3, hit3, hf3, hyl⟩
   have hbase : (ns ++ (⟨6, 0, 0, .slice none 0 0, 0, if dn = [] then 0 else ns.length + 2⟩ : Nd) :: xs).length = ns.length + 1 + xs.length := by simp; omega
   rw [hbase] at he hit3
   obtain ⟨h, hh⟩ : ∃ h : Nat, h = ns.length + 1 + xs.length + 1 := ⟨_, rfl⟩
   have he' : e = .returned (.tuple #[.int .i32 (h : Int), .slice (some a3) (s3 ++ rest).length k3, .nilIface]) := by rw [he, hh]; rfl
   clear he
   generalize hL4 : (s3 ++ rest).length = L4 at *
   have HL4 := Lib.hid hL4
   clear hL4
   subst he'
   have HP3 := Lib.hid hp3
   have HPS3 := Lib.hid hps3
   have HIT3 := Lib.hid hit3
   have HF3 := Lib.hid hf3
   have HB2 : Hid (Blk w2 lcb 21 #[.int .i32 lc] ∧ Blk w2 pb 63 #[.pointer (some ⟨g, 0, none⟩)] ∧ Blk w2 arb 21 #[.int .i32 ((ns.length : Int) + 1)]) := ⟨hf3.2.2 _ _ _ (by decide) (by decide) HBL.out, hf3.2.2 _ _ _ (by decide) (by decide) HBP.out, hf3.2.2 _ _ _ (by decide) (by decide) HBA.out⟩
   have HFW : Hid (Fr B w w2) := HF.out.trans hf3
   have HIN2 : Hid (Inp w2 b cap D) := HIN.out.kp hf3.2
   have HCL2 := HCL.out.k5 hf3.2.k5
   clear hp3 hps3 hit3 hf3 HCL HF HIN HBL HBP HBA HPS1 HP1 HPOS HSK hx ck cp ca
   have HNN2 := Lib.hid hbase
   clear hbase
   have hcnt := HPS3.out.count
   have HH := Lib.hid hh
   rcases HCL2 with ⟨hd0, hx0, hl0⟩ | ⟨hd0, xa, r0, ra, hx0, hl0, hr0, hcf⟩
   · have hset : ((ns ++ (⟨6, 0, 0, .slice none 0 0, 0, if dn = [] then 0 else ns.length + 2⟩ : Nd) :: xs) ++ ys).set ns.length { (⟨6, 0, 0, .slice none 0 0, 0, if dn = [] then 0 else ns.length + 2⟩ : Nd) with child := h } = ns ++ (⟨6, 0, 0, .slice none 0 0, 0, h⟩ : Nd) :: ys := by
       rw [hx0]; simp
     have hget : ((ns ++ (⟨6, 0, 0, .slice none 0 0, 0, if dn = [] then 0 else ns.length + 2⟩ : Nd) :: xs) ++ ys)[ns.length]? = some (⟨6, 0, 0, .slice none 0 0, 0, if dn = [] then 0 else ns.length + 2⟩ : Nd) := by simp
     have HC := app_first86 (h := h) HPS3.out hget rfl hcnt (by have := HB2.out.1; rw [hl0] at this; exact this) HB2.out.2.1 HB2.out.2.2 hal hset
     have HXE : Hid (dn = [] ∧ xs = []) := ⟨hd0, hx0⟩
     have hxl : xs.length = 0 := by rw [hx0]; rfl
     clear hset hget hd0 hx0 hl0 hh
     go_wp2_with fail
     refine HC.mono ?_
     rintro e w3 ⟨rfl, hps4, hbl4, hbp4, hba4, hk4, hfr4⟩
     have HPS4 := Lib.hid hps4
     have HB4 : Hid (Blk w3 lcb 21 #[.int .i32 h] ∧ Blk w3 pb 63 #[.pointer (some ⟨g, 0, none⟩)] ∧ Blk w3 arb 21 #[.int .i32 ((ns.length : Int) + 1)]) := ⟨hbl4, hbp4, hba4⟩
     have HK4 := Lib.hid hk4
     have HF4 : Hid (Fr B w w3) := hfr4 w (by have := HPBQ.out; omega) hBl HFW.out
     clear hps4 hbl4 hbp4 hba4 hk4 hfr4
     go_wp2_with fail
     refine Handed.u2 hJ s3.length _ _ ⟨rfl, rfl, rfl, rfl, rfl, rfl, rfl⟩ rfl rfl (by omega) ?_
     obtain ⟨rfl, rfl⟩ := HXE.out
     have hh := HH.out
     simp only [List.length_nil] at hh
     obtain rfl : h = ns.length + 2 := by omega
     refine ⟨[] ++ [x], l, true, s3, a3, k3, [] ++ ys, ns.length + 1 + 1, by rw [HIT.out]; simp, rfl, HT3.out, by rw [HL4.out]; rfl, rfl, HP3.out, ?_, ?_, HIN2.out.k5 HK4.out, HF4.out, HB4.out.1, HB4.out.2.1, HB4.out.2.2, by simp only [List.nil_append]; omega⟩
     · have h9 := HPS4.out
       rw [if_neg (by simp)]
       exact h9
     · exact (CLast.one HIT3.out).k5 HK4.out
   · have hset : ((ns ++ (⟨6, 0, 0, .slice none 0 0, 0, if dn = [] then 0 else ns.length + 2⟩ : Nd) :: xs) ++ ys).set (ns.length + 1 + xa.length) { r0 with next := h } = ns ++ (⟨6, 0, 0, .slice none 0 0, 0, ns.length + 2⟩ : Nd) :: ((xa ++ { r0 with next := h } :: ra) ++ ys) := by
       rw [hx0, if_neg hd0]
       have h := mid_set (ns ++ (⟨6, 0, 0, .slice none 0 0, 0, ns.length + 2⟩ : Nd) :: xa) r0 { r0 with next := h } (ra ++ ys)
       simp only [List.length_append, List.length_cons, List.append_assoc, List.cons_append] at h ⊢
       rw [show ns.length + 1 + xa.length = ns.length + (xa.length + 1) from by omega]
       exact h
     have hget : ((ns ++ (⟨6, 0, 0, .slice none 0 0, 0, if dn = [] then 0 else ns.length + 2⟩ : Nd) :: xs) ++ ys)[ns.length + 1 + xa.length]? = some r0 := by
       rw [hx0, if_neg hd0]
       have h := mid_get (ns ++ (⟨6, 0, 0, .slice none 0 0, 0, ns.length + 2⟩ : Nd) :: xa) r0 (ra ++ ys)
       simp only [List.length_append, List.length_cons, List.append_assoc, List.cons_append] at h ⊢
       rw [show ns.length + 1 + xa.length = ns.length + (xa.length + 1) from by omega]
       exact h
     have hone : r0.data.oneCell' = true := HPS3.out.one (List.mem_of_getElem? hget)
     have HC := app_next86 (h := h) (L := ns.length + 1 + xa.length) HPS3.out hget hone hcnt (by have := HB2.out.1; rw [hl0] at this; exact this) HB2.out.2.1 HB2.out.2.2 hal hset
     have HCF := Lib.hid hcf
     have HXE : Hid (dn ≠ [] ∧ xs = xa ++ r0 :: ra) := ⟨hd0, hx0⟩
     clear hset hget hd0 hx0 hl0 hh hcf hr0 hone
     go_wp2_with fail
     refine HC.mono ?_
     rintro e w3 ⟨rfl, hps4, hbl4, hbp4, hba4, hk4, hfr4⟩
     have HPS4 := Lib.hid hps4
     have HB4 : Hid (Blk w3 lcb 21 #[.int .i32 h] ∧ Blk w3 pb 63 #[.pointer (some ⟨g, 0, none⟩)] ∧ Blk w3 arb 21 #[.int .i32 ((ns.length : Int) + 1)]) := ⟨hbl4, hbp4, hba4⟩
     have HK4 := Lib.hid hk4
     have HF4 : Hid (Fr B w w3) := hfr4 w (by have := HPBQ.out; omega) hBl HFW.out
     clear hps4 hbl4 hbp4 hba4 hk4 hfr4
     go_wp2_with fail
     refine Handed.u2 hJ s3.length _ _ ⟨rfl, rfl, rfl, rfl, rfl, rfl, rfl⟩ rfl rfl (by omega) ?_
     obtain ⟨hd0, rfl⟩ := HXE.out
     obtain rfl : h = ns.length + 1 + (xa ++ r0 :: ra).length + 1 := HH.out
     refine ⟨dn ++ [x], l, true, s3, a3, k3, (xa ++ { r0 with next := ns.length + 1 + (xa ++ r0 :: ra).length + 1 } :: ra) ++ ys, ns.length + 1 + (xa ++ r0 :: ra).length + 1, by rw [HIT.out]; simp, rfl, HT3.out, by rw [HL4.out]; rfl, rfl, HP3.out, ?_, ?_, HIN2.out.k5 HK4.out, HF4.out, HB4.out.1, HB4.out.2.1, HB4.out.2.2, by simp only [List.length_append, List.length_cons] at hnn ⊢; omega⟩
     · have h9 := HPS4.out
       rw [if_neg (by simp)]
       exact h9
     · exact (CLast.snoc HCF.out HIT3.out).k5 HK4.out
end Go.Proofs.Ytnlkbbpmpgdmiaa
namespace Go.Proofs.Ytnlkbbpmpgdmiaa
open Go.RowKit
set_option linter.unusedVariables false
set_option linter.unusedSimpArgs false
set_option maxRecDepth 100000 in
set_option maxHeartbeats 8000000 in
theorem list78_any {I : N → List UInt8 → Prop} {lim : Nat} {tb : Prop} (htb : tb = (9 = 9)) (hI : ItOk 63 I tb lim) (hIh : ∀ {v t}, I v t → ∃ c r, t = c :: r ∧ Hd c) {items : List N} {ks : List (List UInt8)} {B g b cap k : Nat} {D s rest : List UInt8} {left err : Value} {nest : Nat} {ns : List Nd} {w : World} {a : Addr} {c0 : UInt8} (hps : PS B w g b cap false D left ns err nest) (hnest : nest ≤ lim) (hi : Inp w b cap D)
   (hs : Tail I 125 false items s) (hp : Pos b cap D (c0 :: (s ++ rest)) a k) (hrest : 0 < rest.length) (hn : ns.length + (s.length + 1) ≤ 300000) (m : Nat) (hm : m = (s ++ rest).length + 1) :
   Calls Try.prog 78 #[.pointer (some ⟨g, 0, none⟩), .slice (some a) m k] w (VRead (.mk 9 [] items ks) (s.length + 1) B g b cap false D left ns err nest rest w) := by
 have HTB := Lib.hid htb
 clear htb
 have hroom := hp.room
 have hle := hp.le
 have hfits := hi.fits
 have hbnd := hi.bound
 have ha := hp.addr (by simp)
 simp only [List.length_cons] at hroom hle
 generalize ho : D.length - (c0 :: (s ++ rest) : List UInt8).length = o at *
 have hp1 : Pos b cap D (s ++ rest) ⟨b, o + 1, none⟩ (k - 1) := hp.tail hfits (fun _ => by rw [ho]) rfl
 have HP1 := Lib.hid hp1
 have HP0 := Lib.hid hp
 have HI := Lib.hid hi
 have HPS := Lib.hid hps
 have HS := Lib.hid hs
 have HRE := Lib.hid hrest
 have hns := hps.le
 subst ha
 have hpos0 : 0 < (s ++ rest).length := by rw [List.length_append]; omega
 have hk1 : ¬ k = 1 := by omega
 have hk2 : 1 ≤ k := by omega
 have hm1 : 1 ≤ m := by omega
 have HM : Hid (m - 1 = (s ++ rest).length) := by show _ = _; omega
 have hm2 : m ≤ k := by omega
 have hkb : k ≤ 9223372036854775807 := by omega
 have HRG : Hid (∀ {w' : World}, PS B w' g b cap false D left ns err nest → Calls Try.prog 39 #[.pointer (some ⟨g, 0, none⟩), .slice (some ⟨b, o, none⟩) 1 k] w' (RangeIs w')) := fun h => range_at h HI.out.fits HI.out.bound HP0.out 1 (by simp)
 have hnl : ns.length + s.length + 1 ≤ 300000 := by omega
 have hns4 : ns.length ≤ 400000 := by omega
 clear hps hi hs hp hp1 ho hrest hroom hle hfits hbnd hpos0 hm
 go_enter Try.func78, Try.ntmps78
 go_wp2_with fail
 have hps0 : PS B (w.alloc (.cells #[.pointer (some ⟨g, 0, none⟩)] 63)) g b cap false D left ns err nest := HPS.out.kp ((Below.refl _ _).alloc (Nat.le_refl _) _)
 have hbp0 : Blk (w.alloc (.cells #[.pointer (some ⟨g, 0, none⟩)] 63)) w.heap.size 63 #[.pointer (some ⟨g, 0, none⟩)] := Blk.new w 63 _
 have hfr0 : Fr B w (w.alloc (.cells #[.pointer (some ⟨g, 0, none⟩)] 63)) := Fr.alloc hns _
 go_upto_region 1 with (fail)
 generalize w.alloc (.cells #[.pointer (some ⟨g, 0, none⟩)] 63) = w0 at *
 have hc0 : w0.cell? ⟨w.heap.size, 0, none⟩ = some (.pointer (some ⟨g, 0, none⟩)) := by have := hbp0.cell 0; simpa using this
 have HPS0 : Hid (PS B w0.drew g b cap false D left ns err nest) := hps0.drewN 1
 have HBP0 : Hid (Blk w0.drew w.heap.size 63 #[.pointer (some ⟨g, 0, none⟩)]) := hbp0
 have HFR0 : Hid (Fr B w w0.drew) := hfr0.trans (Fr.drewN w0 1)
 clear hps0 hbp0 hfr0
 generalize hpbq : w.heap.size = pb at *
 have HPBQ := Lib.hid hpbq
 go_cut [7] from 20 to 27 (fun s7 wx => ∃ (arb : Nat) (ro rl : Int), s7 = .pointer (some ⟨arb, 0, none⟩) ∧ Blk wx arb 21 #[.int .i32 ((ns.length : Int) + 1)] ∧ PS B wx g b cap false D left (ns ++ [(⟨7, ro, rl, .slice none 0 0, 0, 0⟩ : Nd)]) err nest ∧ Blk wx pb 63 #[.pointer (some ⟨g, 0, none⟩)] ∧ Fr B w wx ∧ arb < wx.heap.size)
 case first =>
   clear HS HP1 HRE HM HI hI hIh hnest hn
   have hal0 : ∀ w1 o, PS B w1 g b cap false D left ns err nest → PS B (World.alloc w1 o) g b cap false D left ns err nest := fun w1 o h => h.kp ((Below.refl _ _).alloc (Nat.le_refl _) o)
   have HAL0 := Lib.hid hal0
   clear hal0
   have hpb0 : pb < w0.drew.heap.size := HBP0.out.lt
   have hpb1 : pb < w0.heap.size := hpb0
   have hBw0 : B ≤ w0.drew.heap.size := by omega
   have i1 : (1 : Int) ≤ (k : Int) := by omega
   have i2 : (m : Int) ≤ (k : Int) := by omega
   have i3 : (0 : Int) ≤ (k : Int) := by omega
   have i4 : ((k : Int) < 1) = False := by simp; omega
   go_region_held3 (fun w' => w'.cell? ⟨pb, 0, none⟩ = some (.pointer (some ⟨g, 0, none⟩))) (first | assumption | exact (World.cell?_setCell_other _ _ _ _ (by intro h; injection h with h; omega)).trans (by assumption) | go_keep)
     (first
       | (go_at_call 39
          refine (HRG.out ?_).mono ?_
          (first | exact HPS0.out | exact HAL0.out _ _ HPS0.out)
          rintro e w2 ⟨ro, rl, rfl, hb2⟩
          have hps2 : PS B w2 g b cap false D left ns err nest := by first | exact HPS0.out.kp hb2 | exact (HAL0.out _ _ HPS0.out).kp hb2
          have hbp2 : Blk w2 pb 63 #[.pointer (some ⟨g, 0, none⟩)] := by first | exact HBP0.out.below hb2 hpb0 | exact (HBP0.out.alloc _).below hb2 (alloc_le hpb0)
          have hc2 : w2.cell? ⟨pb, 0, none⟩ = some (.pointer (some ⟨g, 0, none⟩)) := by have := hbp2.cell 0; simpa using this
          have hl2 := hbp2.lt
          have hfr2 : Fr B w w2 := by first | exact HFR0.out.trans (Fr.of_below hb2 hBw0) | exact (HFR0.out.trans (Fr.alloc hBw0 _)).trans (Fr.of_below hb2 (alloc_le hBw0))
          first
            | (have hA2 : Blk w2 w0.heap.size 21 #[.int .i32 0] := (Blk.new w0.drew 21 _).below hb2 (by simp))
            | skip
          skip)
       | (go_at_call 38
          refine (push_any (B := B) (g := g) (b := b) (cap := cap) (kc := false) (D := D) (left := left) (ns := ns) (err := err) (nest := nest) ?_ 7 _ _ (.slice none 0 0) rfl hns4).mono ?_
          (first | assumption | exact HAL0.out _ _ (by assumption))
          rintro e w3 ⟨rfl, hps3, hf3⟩
          have hbp3 : Blk w3 pb 63 #[.pointer (some ⟨g, 0, none⟩)] := hf3.2.2 _ _ _ (by decide) (by decide) (by first | assumption | exact Blk.alloc (by assumption) _)
          have hc3 : w3.cell? ⟨pb, 0, none⟩ = some (.pointer (some ⟨g, 0, none⟩)) := by have := hbp3.cell 0; simpa using this
          have hl3 := hbp3.lt
          have hfr3 : Fr B w w3 := by first | exact Fr.trans (by assumption) hf3 | exact (Fr.trans (by assumption) (Fr.alloc (Nat.le_trans hns (Nat.le_of_lt (by assumption))) _)).trans hf3
          first
            | (have hA3 := hf3.2.2 _ 21 _ (by decide) (by decide) (Blk.new _ 21 #[.int .i32 0])
               have hA4 := hA3.cell 0
               have hA5 := hA3.frozen 0
               have hA6 := hA3.lt
               simp at hA4)
            | (have hA3 := hf3.2.2 w0.heap.size 21 #[.int .i32 0] (by decide) (by decide) (by assumption)
               have hA4 := hA3.cell 0
               have hA5 := hA3.frozen 0
               have hA6 := hA3.lt
               simp at hA4)
            | skip
          skip))
   all_goals (go_wp2_with fail; go_meet)
   all_goals first
     | exact ⟨_, _, _, rfl, Blk.new _ _ _, hps3.kp ((Below.refl _ _).alloc (Nat.le_refl _) _), hbp3.alloc _, hfr3.trans (Fr.alloc (by omega) _), by simp⟩
     | exact ⟨_, _, _, rfl, hA3.set_ 0 _, hps3.far hA3 (by decide) (by decide) 0 _, hbp3.far (by simp; omega) _, ⟨hfr3.1.setCell (by simp; omega) _, hfr3.2.newcell (by omega)⟩, by simp; exact hA6⟩
 obtain ⟨arb, ro, rl, rfl, hba, hpsc, hbp, hfrc, hlar⟩ := hcut
 have HPS3 := Lib.hid hpsc
 have HBA3 := Lib.hid hba
 have HBP3 := Lib.hid hbp
 have HFR3 := Lib.hid hfrc
 have hszc := hfrc.2.1
 clear hba hpsc hbp hfrc HPS HPS0 HBP0 HFR0 hc0 HRG
 go_wp2_with fail
 have hBc : B ≤ wc.heap.size := by omega
 have HPW : Hid (PS B (wc.alloc (Obj.cells #[Value.int IntKind.i32 0] 21)) g b cap false D left (ns ++ [(⟨7, ro, rl, .slice none 0 0, 0, 0⟩ : Nd)]) err nest) := HPS3.out.kp ((Below.refl _ _).alloc (Nat.le_refl _) _)
 have HBP : Hid (Blk (wc.alloc (Obj.cells #[Value.int IntKind.i32 0] 21)) pb 63 #[.pointer (some ⟨g, 0, none⟩)]) := HBP3.out.alloc _
 have HBA : Hid (Blk (wc.alloc (Obj.cells #[Value.int IntKind.i32 0] 21)) arb 21 #[.int .i32 ((ns.length : Int) + 1)]) := HBA3.out.alloc _
 have HBL : Hid (Blk (wc.alloc (Obj.cells #[Value.int IntKind.i32 0] 21)) wc.heap.size 21 #[.int .i32 0]) := Blk.new wc 21 _
 have HFW : Hid (Fr B w (wc.alloc (Obj.cells #[Value.int IntKind.i32 0] 21))) := HFR3.out.trans (Fr.alloc hBc _)
 have HIW := Lib.hid (HI.out.kp HFW.out.2)
 generalize (wc.alloc (Obj.cells #[Value.int IntKind.i32 0] 21)) = ws at *
 generalize wc.heap.size = lcb at *
 have hlw : pb ≤ lcb := by omega
 have hBl : B ≤ lcb := by omega
 have hal : arb ≠ lcb := by omega
 clear HPS3 HBA3 HBP3 HFR3 HI HP0 hpbq

 have HRel : Hid (TRel I 125 tb items 7 ro rl B g b cap D left ns err nest rest s.length pb arb lcb w s.length (.slice (some ⟨b, o + 1, none⟩) (m - 1) (k - 1)) (.bool false) ws) := by
   refine ⟨[], items, false, s, _, _, [], 0, rfl, rfl, HS.out, by rw [HM.out], rfl, HP1.out, ?_, .inl ⟨rfl, rfl, rfl⟩, HIW.out, HFW.out, HBL.out, HBP.out, HBA.out, by simp only [List.length_nil]; omega⟩
   exact HPW.out
 clear HS HP1 HPW HBL HBP HBA HIW
 refine wp_loop_u2 139 1 12 (fun U => U 0 = .pointer (some ⟨g, 0, none⟩) ∧ U 2 = .pointer (some ⟨pb, 0, none⟩) ∧ U 7 = .pointer (some ⟨arb, 0, none⟩) ∧ U 8 = .pointer (some ⟨lcb, 0, none⟩) ∧ U 9 = .func (.func 87) #[] #[.pointer (some ⟨lcb, 0, none⟩), .pointer (some ⟨pb, 0, none⟩), .pointer (some ⟨arb, 0, none⟩)]) (fun s1 s12 U => ⟨#[.pointer (some ⟨g, 0, none⟩), s1, .pointer (some ⟨pb, 0, none⟩), U 3, U 4, U 5, U 6, .pointer (some ⟨arb, 0, none⟩), .pointer (some ⟨lcb, 0, none⟩), .func (.func 87) #[] #[.pointer (some ⟨lcb, 0, none⟩), .pointer (some ⟨pb, 0, none⟩), .pointer (some ⟨arb, 0, none⟩)], U 10, U 11, s12, U 13, U 14, U 15, U 16, U 17, U 18, U 19, U 20, U 21, U 22, U 23, U 24, U 25, U 26, U 27, U 28, U 29, U 30, U 31, U 32, U 33, U 34, U 35, U 36, U 37, U 38, U 39, U 40, U 41, U 42, U 43, U 44, U 45, U 46, U 47, U 48, U 49, U 50, U 51, U 52, U 53, U 54, U 55, U 56, U 57, U 58, U 59, U 60, U 61, U 62, U 63, U 64, U 65, U 66, U 67, U 68, U 69, U 70, U 71, U 72, U 73, U 74, U 75, U 76, U 77, U 78, U 79, U 80, U 81, U 82, U 83, U 84, U 85, U 86, U 87, U 88, U 89, U 90, U 91, U 92, U 93, U 94, U 95, U 96, U 97, U 98, U 99, U 100, U 101, U 102, U 103, U 104, U 105, U 106, U 107, U 108, U 109, U 110, U 111, U 112, U 113, U 114, U 115, U 116, U 117, U 118, U 119, U 120, U 121, U 122, U 123, U 124, U 125, U 126, U 127, U 128, U 129, U 130, U 131, U 132, U 133, U 134, U 135, U 136, U 137, U 138], []⟩) (by rintro U ⟨h0, h1, h2, h3, h4⟩; rw [← h4, ← h0, ← h1, ← h2, ← h3]; rfl) (fun gg s1 s12 wx => TRel I 125 tb items 7 ro rl B g b cap D left ns err nest rest s.length pb arb lcb w gg s1 s12 wx) s.length (.slice (some ⟨b, o + 1, none⟩) (m - 1) (k - 1)) (.bool false) ⟨rfl, rfl, rfl, rfl, rfl, rfl, rfl⟩ rfl rfl HRel.out ?_
 intro gk u1 u12 U wr hrel J K hJ hK
 clear HRel HFW
 obtain ⟨dn, more, av, s1, a0, k0, xs, lc, hit, rfl, ht, rfl, rfl, hpos, hps, hcl, hin, hf, hbl, hbp, hba, hnn⟩ := hrel
 obtain ⟨s2, ht2, hsk, hlen2, hws⟩ := ht.strip hIh rest
 have HIN := Lib.hid hin
 have HPOS := Lib.hid hpos
 have HPS1 := Lib.hid hps
 have HCL := Lib.hid hcl
 have HF := Lib.hid hf
 have HBL := Lib.hid hbl
 have HBP := Lib.hid hbp
 have HBA := Lib.hid hba
 have HIT := Lib.hid hit
 have HSK := Lib.hid hsk
 have ca : wr.cell? ⟨arb, 0, none⟩ = some (.int .i32 ((ns.length : Int) + 1)) := by have := hba.cell 0; simpa using this
 have cp : wr.cell? ⟨pb, 0, none⟩ = some (.pointer (some ⟨g, 0, none⟩)) := by have := hbp.cell 0; simpa using this
 have la := hba.lt
 have lp := hbp.lt
 obtain ⟨ck, lg⟩ := hps.kcell
 generalize hL0 : (s1 ++ rest).length = L0 at *
 have HL0 := Lib.hid hL0
 clear hin hpos hps hcl hf hbl hbp hba hit hsk ht hL0
 cases ht2 with
 | ws _ _ s3 c h1 h2 => exact absurd h1 (hws c _ rfl)
 | close =>
   go_wp2_with fail
   refine (skip_at L0 HIN.out HPOS.out HL0.out.symm).mono ?_
   rintro e w1 ⟨a1, k1, he, hp1, rfl⟩
   rw [HSK.out] at he hp1
   have HP1 := Lib.hid hp1
   have hroom := hp1.room
   have hle := hp1.le
   have hfits := HIN.out.fits
   have hbnd := HIN.out.bound
   have hx : wr.cell? a1 = some (.int .u8 125) := by rw [hp1.addr (by simp)]; exact (HIN.out.doc.suffix hp1.suf).head.1
   have ha1 := hp1.addr (by simp)
   generalize ho1 : D.length - ([125] ++ rest : List UInt8).length = o1 at *
   subst ha1
   have hp2 : Pos b cap D rest ⟨b, o1 + 1, none⟩ (k1 - 1) := Pos.tail (c := 125) HP1.out hfits (fun _ => by rw [show D.length - (125 :: rest : List UInt8).length = o1 from ho1]) rfl
   have HP2 := Lib.hid hp2
   simp only [List.cons_append, List.nil_append, List.length_cons] at he hroom hle
   subst he
   have hk3 : ¬ k1 = 1 := by have := HRE.out; omega
   clear hp1 hp2 ho1
   go_wp2_with fail
   go_quiet (fail)
   go_wp2
   go_ret3
   obtain rfl : items = dn := by have := HIT.out; simpa using this
   refine ⟨_, _, _, by simp, HP2.out, HPS1.out.drewN _, ?_, HF.out.trans (Fr.drewN _ _), by simp only [List.length_cons]; omega⟩
   have hcd := CNds.k5 (Kp.drewN wr nq).k5 _ _ HCL.out.done
   rw [HTB.out] at hcd
   unfold VNds
   exact ⟨_, xs, rfl, rfl, rfl, .inr ⟨by decide, rfl, rfl, by first | exact hcd | (rw [eq_true (rfl : (9 : Nat) = 9)]; exact hcd) | simpa using hcd⟩⟩
 | nl _ _ s3 h3 =>
   go_wp2_with fail
   refine (skip_at L0 HIN.out HPOS.out HL0.out.symm).mono ?_
   rintro e w1 ⟨a1, k1, he, hp1, rfl⟩
   rw [HSK.out] at he hp1
   have HP1 := Lib.hid hp1
   have hroom := hp1.room
   have hle := hp1.le
   have hfits := HIN.out.fits
   have hbnd := HIN.out.bound
   have hx : wr.cell? a1 = some (.int .u8 10) := by rw [hp1.addr (by simp)]; exact (HIN.out.doc.suffix hp1.suf).head.1
   have ha1 := hp1.addr (by simp)
   generalize ho1 : D.length - ((10 :: s3) ++ rest : List UInt8).length = o1 at *
   subst ha1
   have hp2 : Pos b cap D (s3 ++ rest) ⟨b, o1 + 1, none⟩ (k1 - 1) := Pos.tail (c := 10) HP1.out hfits (fun _ => by rw [show D.length - (10 :: (s3 ++ rest) : List UInt8).length = o1 from ho1]) rfl
   have HP2 := Lib.hid hp2
   simp only [List.cons_append, List.length_cons] at he hroom hle hlen2
   have hl3 : 0 < (s3 ++ rest).length := by rw [List.length_append]; have := HRE.out; omega
   generalize hL3 : (s3 ++ rest).length = L3 at *
   have HL3 := Lib.hid hL3
   subst he
   have hk3 : ¬ k1 = 1 := by omega
   have HT3 := Lib.hid h3
   clear hp1 hp2 ho1 hL3 h3
   go_wp2_with fail
   refine Handed.u2 hJ s3.length _ _ ⟨rfl, rfl, rfl, rfl, rfl, rfl, rfl⟩ rfl rfl (by omega) ?_
   exact ⟨dn, more, av, s3, _, _, xs, lc, HIT.out, rfl, HT3.out, by rw [HL3.out]; simp, rfl, HP2.out, HPS1.out, HCL.out, HIN.out, HF.out, HBL.out, HBP.out, HBA.out, by omega⟩
 | crnl _ _ s3 h3 =>
   go_wp2_with fail
   refine (skip_at L0 HIN.out HPOS.out HL0.out.symm).mono ?_
   rintro e w1 ⟨a1, k1, he, hp1, rfl⟩
   rw [HSK.out] at he hp1
   have HP1 := Lib.hid hp1
   have hroom := hp1.room
   have hle := hp1.le
   have hfits := HIN.out.fits
   have hbnd := HIN.out.bound
   have hx : wr.cell? a1 = some (.int .u8 13) := by rw [hp1.addr (by simp)]; exact (HIN.out.doc.suffix hp1.suf).head.1
   have ha1 := hp1.addr (by simp)
   have hx2 : wr.cell? ⟨b, D.length - ((13 :: 10 :: s3) ++ rest : List UInt8).length + 1, none⟩ = some (.int .u8 10) := (HIN.out.doc.suffix hp1.suf).head.2.head.1
   generalize ho1 : D.length - ((13 :: 10 :: s3) ++ rest : List UInt8).length = o1 at *
   subst ha1
   have hp2 : Pos b cap D (s3 ++ rest) ⟨b, o1 + 2, none⟩ (k1 - 2) := Pos.after (s := [13, 10]) HP1.out hfits (fun _ => by rw [show D.length - ([13, 10] ++ (s3 ++ rest) : List UInt8).length = o1 from ho1]; rfl) rfl
   have HP2 := Lib.hid hp2
   simp only [List.cons_append, List.length_cons] at he hroom hle hlen2
   have hl3 : 0 < (s3 ++ rest).length := by rw [List.length_append]; have := HRE.out; omega
   generalize hL3 : (s3 ++ rest).length = L3 at *
   have HL3 := Lib.hid hL3
   subst he
   have hk3 : ¬ k1 = 2 := by omega
   have HT3 := Lib.hid h3
   clear hp1 hp2 ho1 hL3 h3
   go_wp2_with fail
   refine Handed.u2 hJ s3.length _ _ ⟨rfl, rfl, rfl, rfl, rfl, rfl, rfl⟩ rfl rfl (by omega) ?_
   exact ⟨dn, more, av, s3, _, _, xs, lc, HIT.out, rfl, HT3.out, by rw [HL3.out]; simp, rfl, HP2.out, HPS1.out, HCL.out, HIN.out, HF.out, HBL.out, HBP.out, HBA.out, by omega⟩
 | com _ _ p s3 hpl hbr h3 =>
   go_wp2_with fail
   refine (skip_at L0 HIN.out HPOS.out HL0.out.symm).mono ?_
   rintro e w1 ⟨a1, k1, he, hp1, rfl⟩
   rw [HSK.out] at he hp1
   have HP1 := Lib.hid hp1
   have hroom := hp1.room
   have hle := hp1.le
   have hfits := HIN.out.fits
   have hbnd := HIN.out.bound
   rw [List.cons_append, List.append_assoc] at he hp1 HP1
   have hx : wr.cell? a1 = some (.int .u8 35) := by rw [hp1.addr (by simp)]; exact (HIN.out.doc.suffix hp1.suf).head.1
   have HLE : Hid (LineEnd (s3 ++ rest)) := by
     rcases hbr with ⟨r, rfl⟩ | ⟨r, rfl⟩
     · exact .inr (.inl ⟨_, rfl⟩)
     · exact .inr (.inr ⟨_, rfl⟩)
   have HPL := Lib.hid hpl
   have HT3 := Lib.hid h3
   simp only [List.length_cons, List.length_append] at he hroom hle hlen2
   have hl3 : 0 < p.length + (s3.length + rest.length) + 1 := by omega
   generalize hL3 : p.length + (s3.length + rest.length) + 1 = L3 at *
   have HL3 := Lib.hid hL3
   subst he
   clear hp1 h3 hpl hbr hL3
   go_wp2_with fail
   refine (scan_at L3 HIN.out HP1.out HPL.out HLE.out (by rw [← HL3.out, List.length_append])).mono ?_
   rintro e w2 ⟨a2, k2, n2, a3, k3, he, hp3, -, -, rfl⟩
   generalize hL4 : (s3 ++ rest).length = L4 at *
   have HL4 := Lib.hid hL4
   subst he
   have HP3 := Lib.hid hp3
   clear hL4
   have ck2 : (wr.drewN n2).cell? ⟨g, 0, none⟩ = some (.bool false) := ck
   have cp2 : (wr.drewN n2).cell? ⟨pb, 0, none⟩ = some (.pointer (some ⟨g, 0, none⟩)) := cp
   have lg2 : g < (wr.drewN n2).heap.size := lg
   have lp2 : pb < (wr.drewN n2).heap.size := lp
   have HFD : Hid (Fr B wr (wr.drewN n2)) := Fr.drewN wr n2
   have HPS2 := Lib.hid (HPS1.out.drewN n2)
   have HIN2 := Lib.hid (HIN.out.drewN n2)
   have HB2 : Hid (Blk (wr.drewN n2) lcb 21 #[.int .i32 lc] ∧ Blk (wr.drewN n2) pb 63 #[.pointer (some ⟨g, 0, none⟩)] ∧ Blk (wr.drewN n2) arb 21 #[.int .i32 ((ns.length : Int) + 1)]) := ⟨HBL.out, HBP.out, HBA.out⟩
   generalize wr.drewN n2 = w2 at *
   clear hp3 hx
   go_wp2_with fail
   refine Handed.u2 hJ s3.length _ _ ⟨rfl, rfl, rfl, rfl, rfl, rfl, rfl⟩ rfl rfl (by omega) ?_
   exact ⟨dn, more, av, s3, _, _, xs, lc, HIT.out, rfl, HT3.out, by rw [HL4.out]; rfl, rfl, HP3.out, HPS2.out, HCL.out.k5 HFD.out.2.k5, HIN2.out, HF.out.trans HFD.out, HB2.out.1, HB2.out.2.1, HB2.out.2.2, by omega⟩
 | comma _ s3 h3 =>
   go_wp2_with fail
   refine (skip_at L0 HIN.out HPOS.out HL0.out.symm).mono ?_
   rintro e w1 ⟨a1, k1, he, hp1, rfl⟩
   rw [HSK.out] at he hp1
   have HP1 := Lib.hid hp1
   have hroom := hp1.room
   have hle := hp1.le
   have hfits := HIN.out.fits
   have hbnd := HIN.out.bound
   have hx : wr.cell? a1 = some (.int .u8 44) := by rw [hp1.addr (by simp)]; exact (HIN.out.doc.suffix hp1.suf).head.1
   have ha1 := hp1.addr (by simp)
   generalize ho1 : D.length - ((44 :: s3) ++ rest : List UInt8).length = o1 at *
   subst ha1
   have hp2 : Pos b cap D (s3 ++ rest) ⟨b, o1 + 1, none⟩ (k1 - 1) := Pos.tail (c := 44) HP1.out hfits (fun _ => by rw [show D.length - (44 :: (s3 ++ rest) : List UInt8).length = o1 from ho1]) rfl
   have HP2 := Lib.hid hp2
   simp only [List.cons_append, List.length_cons] at he hroom hle hlen2
   have hl3 : 0 < (s3 ++ rest).length := by rw [List.length_append]; have := HRE.out; omega
   generalize hL3 : (s3 ++ rest).length = L3 at *
   have HL3 := Lib.hid hL3
   subst he
   have hk3 : ¬ k1 = 1 := by omega
   have HT3 := Lib.hid h3
   clear hp1 hp2 ho1 hL3 h3
   go_wp2_with fail
   refine Handed.u2 hJ s3.length _ _ ⟨rfl, rfl, rfl, rfl, rfl, rfl, rfl⟩ rfl rfl (by omega) ?_
   exact ⟨dn, more, false, s3, _, _, xs, lc, HIT.out, rfl, HT3.out, by rw [HL3.out]; simp, rfl, HP2.out, HPS1.out, HCL.out, HIN.out, HF.out, HBL.out, HBP.out, HBA.out, by omega⟩
 | item x l t s3 hx0 h3 =>
   go_wp2_with fail
   refine (skip_at L0 HIN.out HPOS.out HL0.out.symm).mono ?_
   rintro e w1 ⟨a1, k1, he, hp1, rfl⟩
   rw [HSK.out] at he hp1
   have HP1 := Lib.hid hp1
   have hroom := hp1.room
   have hle := hp1.le
   have hfits := HIN.out.fits
   have hbnd := HIN.out.bound
   rw [List.append_assoc] at he hp1 HP1
   obtain ⟨c, r, htc, hc⟩ := hIh hx0
   have htp : 1 ≤ t.length := by rw [htc]; simp
   have hx : wr.cell? a1 = some (.int .u8 c.toNat) := by
     rw [hp1.addr (by rw [htc]; simp)]
     have h := HIN.out.doc.suffix hp1.suf
     rw [htc] at h ⊢
     exact h.head.1
   have hcf := hc.ifacts
   obtain ⟨i10, i13, i35, i44, i93, i125⟩ := hcf
   have HX0 := Lib.hid hx0
   have HT3 := Lib.hid h3
   have HFO : Hid (Follow (s3 ++ rest)) := h3.follow (by decide) rest
   simp only [List.length_append] at hlen2
   have hl3 : 0 < (t ++ (s3 ++ rest)).length := by simp only [List.length_append]; omega
   generalize hL3 : (t ++ (s3 ++ rest)).length = L3 at *
   have HL3 := Lib.hid hL3
   subst he
   clear hp1 h3 hx0 htc hc hL3
   go_wp2_with fail
   refine (hI x t B g b cap k1 D (s3 ++ rest) left err nest _ wr a1 HX0.out HPS1.out hnest HIN.out HFO.out HP1.out (by simp only [List.length_append, List.length_cons]; omega) L3 HL3.out.symm).mono ?_
   rintro e w2 ⟨ys, a3, k3, he, hp3, hps3, hit3, hf3, hyl⟩
   have hbase : (ns ++ (⟨7, ro, rl, .slice none 0 0, 0, if dn = [] then 0 else ns.length + 2⟩ : Nd) :: xs).length = ns.length + 1 + xs.length := by simp; omega
   rw [hbase] at he hit3
   obtain ⟨h, hh⟩ : ∃ h : Nat, h = ns.length + 1 + xs.length + 1 := ⟨_, rfl⟩
   have he' : e = .returned (.tuple #[.int .i32 (h : Int), .slice (some a3) (s3 ++ rest).length k3, .nilIface]) := by rw [he, hh]; rfl
   clear he
   generalize hL4 : (s3 ++ rest).length = L4 at *
   have HL4 := Lib.hid hL4
   clear hL4
   subst he'
   have HP3 := Lib.hid hp3
   have HPS3 := Lib.hid hps3
   have HIT3 := Lib.hid hit3
   have HF3 := Lib.hid hf3
   have HB2 : Hid (Blk w2 lcb 21 #[.int .i32 lc] ∧ Blk w2 pb 63 #[.pointer (some ⟨g, 0, none⟩)] ∧ Blk w2 arb 21 #[.int .i32 ((ns.length : Int) + 1)]) := ⟨hf3.2.2 _ _ _ (by decide) (by decide) HBL.out, hf3.2.2 _ _ _ (by decide) (by decide) HBP.out, hf3.2.2 _ _ _ (by decide) (by decide) HBA.out⟩
   have HFW : Hid (Fr B w w2) := HF.out.trans hf3
   have HIN2 : Hid (Inp w2 b cap D) := HIN.out.kp hf3.2
   have HCL2 := HCL.out.k5 hf3.2.k5
   clear hp3 hps3 hit3 hf3 HCL HF HIN HBL HBP HBA HPS1 HP1 HPOS HSK hx ck cp ca
   have HNN2 := Lib.hid hbase
   clear hbase
   have hcnt := HPS3.out.count
   have HH := Lib.hid hh
   rcases HCL2 with ⟨hd0, hx0, hl0⟩ | ⟨hd0, xa, r0, ra, hx0, hl0, hr0, hcf⟩
   · have hset : ((ns ++ (⟨7, ro, rl, .slice none 0 0, 0, if dn = [] then 0 else ns.length + 2⟩ : Nd) :: xs) ++ ys).set ns.length { (⟨7, ro, rl, .slice none 0 0, 0, if dn = [] then 0 else ns.length + 2⟩ : Nd) with child := h } = ns ++ (⟨7, ro, rl, .slice none 0 0, 0, h⟩ : Nd) :: ys := by
       rw [hx0]; simp
     have hget : ((ns ++ (⟨7, ro, rl, .slice none 0 0, 0, if dn = [] then 0 else ns.length + 2⟩ : Nd) :: xs) ++ ys)[ns.length]? = some (⟨7, ro, rl, .slice none 0 0, 0, if dn = [] then 0 else ns.length + 2⟩ : Nd) := by simp
     have HC := app_first87 (h := h) HPS3.out hget rfl hcnt (by have := HB2.out.1; rw [hl0] at this; exact this) HB2.out.2.1 HB2.out.2.2 hal hset
     have HXE : Hid (dn = [] ∧ xs = []) := ⟨hd0, hx0⟩
     have hxl : xs.length = 0 := by rw [hx0]; rfl
     clear hset hget hd0 hx0 hl0 hh
     go_wp2_with fail
     refine HC.mono ?_
     rintro e w3 ⟨rfl, hps4, hbl4, hbp4, hba4, hk4, hfr4⟩
     have HPS4 := Lib.hid hps4
     have HB4 : Hid (Blk w3 lcb 21 #[.int .i32 h] ∧ Blk w3 pb 63 #[.pointer (some ⟨g, 0, none⟩)] ∧ Blk w3 arb 21 #[.int .i32 ((ns.length : Int) + 1)]) := ⟨hbl4, hbp4, hba4⟩
     have HK4 := Lib.hid hk4
     have HF4 : Hid (Fr B w w3) := hfr4 w (by have := HPBQ.out; omega) hBl HFW.out
     clear hps4 hbl4 hbp4 hba4 hk4 hfr4
     go_wp2_with fail
     refine Handed.u2 hJ s3.length _ _ ⟨rfl, rfl, rfl, rfl, rfl, rfl, rfl⟩ rfl rfl (by omega) ?_
     obtain ⟨rfl, rfl⟩ := HXE.out
     have hh := HH.out
     simp only [List.length_nil] at hh
     obtain rfl : h = ns.length + 2 := by omega
     refine ⟨[] ++ [x], l, true, s3, a3, k3, [] ++ ys, ns.length + 1 + 1, by rw [HIT.out]; simp, rfl, HT3.out, by rw [HL4.out]; rfl, rfl, HP3.out, ?_, ?_, HIN2.out.k5 HK4.out, HF4.out, HB4.out.1, HB4.out.2.1, HB4.out.2.2, by simp only [List.nil_append]; omega⟩
     · have h9 := HPS4.out
       rw [if_neg (by simp)]
       exact h9
     · exact (CLast.one HIT3.out).k5 HK4.out
   · have hset : ((ns ++ (⟨7, ro, rl, .slice none 0 0, 0, if dn = [] then 0 else ns.length + 2⟩ : Nd) :: xs) ++ ys).set (ns.length + 1 + xa.length) { r0 with next := h } = ns ++ (⟨7, ro, rl, .slice none 0 0, 0, ns.length + 2⟩ : Nd) :: ((xa ++ { r0 with next := h } :: ra) ++ ys) := by
       rw [hx0, if_neg hd0]
       have h := mid_set (ns ++ (⟨7, ro, rl, .slice none 0 0, 0, ns.length + 2⟩ : Nd) :: xa) r0 { r0 with next := h } (ra ++ ys)
       simp only [List.length_append, List.length_cons, List.append_assoc, List.cons_append] at h ⊢
       rw [show ns.length + 1 + xa.length = ns.length + (xa.length + 1) from by omega]
       exact h
     have hget : ((ns ++ (⟨7, ro, rl, .slice none 0 0, 0, if dn = [] then 0 else ns.length + 2⟩ : Nd) :: xs) ++ ys)[ns.length + 1 + xa.length]? = some r0 := by
       rw [hx0, if_neg hd0]
       have h := mid_get (ns ++ (⟨7, ro, rl, .slice none 0 0, 0, ns.length + 2⟩ : Nd) :: xa) r0 (ra ++ ys)
       simp only [List.length_append, List.length_cons, List.append_assoc, List.cons_append] at h ⊢
       rw [show ns.length + 1 + xa.length = ns.length + (xa.length + 1) from by omega]
       exact h
     have hone : r0.data.oneCell' = true := HPS3.out.one (List.mem_of_getElem? hget)
     have HC := app_next87 (h := h) (L := ns.length + 1 + xa.length) HPS3.out hget hone hcnt (by have := HB2.out.1; rw [hl0] at this; exact this) HB2.out.2.1 HB2.out.2.2 hal hset
     have HCF := Lib.hid hcf
     have HXE : Hid (dn ≠ [] ∧ xs = xa ++ r0 :: ra) := ⟨hd0, hx0⟩
     clear hset hget hd0 hx0 hl0 hh hcf hr0 hone
     go_wp2_with fail
     refine HC.mono ?_
     rintro e w3 ⟨rfl, hps4, hbl4, hbp4, hba4, hk4, hfr4⟩
     have HPS4 := Lib.hid hps4
     have HB4 : Hid (Blk w3 lcb 21 #[.int .i32 h] ∧ Blk w3 pb 63 #[.pointer (some ⟨g, 0, none⟩)] ∧ Blk w3 arb 21 #[.int .i32 ((ns.length : Int) + 1)]) := ⟨hbl4, hbp4, hba4⟩
     have HK4 := Lib.hid hk4
     have HF4 : Hid (Fr B w w3) := hfr4 w (by have := HPBQ.out; omega) hBl HFW.out
     clear hps4 hbl4 hbp4 hba4 hk4 hfr4
     go_wp2_with fail
     refine Handed.u2 hJ s3.length _ _ ⟨rfl, rfl, rfl, rfl, rfl, rfl, rfl⟩ rfl rfl (by omega) ?_
     obtain ⟨hd0, rfl⟩ := HXE.out
     obtain rfl : h = ns.length + 1 + (xa ++ r0 :: ra).length + 1 := HH.out
     refine ⟨dn ++ [x], l, true, s3, a3, k3, (xa ++ { r0 with next := ns.length + 1 + (xa ++ r0 :: ra).length + 1 } :: ra) ++ ys, ns.length + 1 + (xa ++ r0 :: ra).length + 1, by rw [HIT.out]; simp, rfl, HT3.out, by rw [HL4.out]; rfl, rfl, HP3.out, ?_, ?_, HIN2.out.k5 HK4.out, HF4.out, HB4.out.1, HB4.out.2.1, HB4.out.2.2, by simp only [List.length_append, List.length_cons] at hnn ⊢; omega⟩
     · have h9 := HPS4.out
       rw [if_neg (by simp)]
       exact h9
     · exact (CLast.snoc HCF.out HIT3.out).k5 HK4.out
end Go.Proofs.Ytnlkbbpmpgdmiaa
