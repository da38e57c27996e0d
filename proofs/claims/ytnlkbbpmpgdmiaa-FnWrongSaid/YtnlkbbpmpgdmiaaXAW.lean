/- The reference's writer: a table in braces; The reference's writer: every value; Bytes made of a string; The reference's writer: a document: plain laws; The reference's writer: a document. -/
import Derived.Test.YtnlkbbpmpgdmiaaXAV
import Derived.Test.YtnlkbbpmpgdmiaaXAC
import Derived.Laws.IdiomStrings
import Derived.Test.YtnlkbbpmpgdmiaaXAS
import Derived.Deep.RegionHeld3
namespace Go.Proofs.Ytnlkbbpmpgdmiaa
open Go.RowKit
set_option linter.unusedVariables false
set_option linter.unusedSimpArgs false
theorem kwt_le : ∀ kws : List (List Nat), kwt kws ≤ kwb (kws.map Wd)
 | [] => Nat.le_refl _
 | k :: kws => by
   have h1 := kwt_le kws
   have h2 := Wd.ge k
   simp only [kwt, List.map_cons, kwb]
   omega
theorem tb_str (L kk b1 b2 t b3 : List UInt8) : (⟨L.toArray⟩ : ByteArray) ++ (((((⟨kk.toArray⟩ ++ ⟨b1.toArray⟩) ++ ⟨#[61]⟩) ++ ⟨b2.toArray⟩) ++ ⟨t.toArray⟩) ++ ⟨b3.toArray⟩) = ⟨(L ++ (kk ++ (b1 ++ 61 :: (b2 ++ (t ++ b3))))).toArray⟩ := by
 apply ByteArray.ext
 simp [ByteArray.data_append]
def TbRel (kv : Value) (items : List N) (iv : Value) (cs' : List Value) (d : Nat) (sb : Nat) (C : Value) (cs : List UInt8) (a : Nat) (w : World) (g : Nat) (s8 s69 : Value) (wx : World) : Prop :=
 ∃ (dn rest : List N) (a1 : Nat) (L L5 : List UInt8), items = dn ++ rest ∧ g = rest.length ∧ s69 = .int .i64 dn.length ∧ s8 = .string ⟨L5.toArray⟩ ∧ L5 = 123 :: L ∧ Pre (KvTxt (ValTxt d)) 125 dn L ∧ L.length ≤ wts dn + 2 ∧ a ≤ a1 ∧ a1 ≤ a + 1 + wts dn ∧
   Sty wx sb C cs a1 ∧ SF sb w wx ∧ Blk wx w.heap.size 43 #[.int .i64 9, .string ⟨#[]⟩, iv, kv]
set_option maxRecDepth 100000 in
set_option maxHeartbeats 4000000 in
theorem value_tbl {w : World} {sb : Nat} {C : Value} {cs : List UInt8} {a : Nat} (h : Sty w sb C cs a) {items : List N} {iv : Value} {cs' : List Value} (hr : Row (· ≠ sb) w 43 4 iv items.length cs') (hi : ItemsIs (· ≠ sb) w 43 items cs') (d : Nat)
   (IH : ∀ x ∈ items, (∃ kws : List (List Nat), kws ≠ [] ∧ (∀ k ∈ kws, ∀ r ∈ k, Alpha r) ∧ x.keys = kws.map Wd) ∧ ValC sb C cs d x) (kv : Value) (ks : List (List UInt8)) (hw : wts items ≤ 1000000) (ha : a + wts items ≤ 800000000) :
   Calls Try.prog 32 #[.pointer (some ⟨sb, 0, none⟩), .agg #[.int .i64 9, .string ⟨#[]⟩, iv, kv]] w (Told (ValTold (d + 1) (.mk 9 [] items ks)) sb C cs a (wt (.mk 9 [] items ks)) w) := by
 have hl := h.1.lt
 obtain ⟨A, cap, rfl, hcap, hcm⟩ := hr.slice
 have HR := Lib.hid hr
 have HI := Lib.hid hi
 have HH := Lib.hid IH
 have HS : Hid (∀ o, Sty (w.alloc o) sb C cs a ∧ SF sb w (w.alloc o)) := fun o => ⟨h.alloc o, SF.alloc (Nat.le_of_lt hl) o⟩
 have hwl := wts_len items
 obtain ⟨n, hn⟩ : ∃ n, items.length = n := ⟨_, rfl⟩
 rw [hn] at hcap HR hwl ⊢
 have hnm : n ≤ 1000000 := by omega
 have HN := Lib.hid hn
 have hbo0 : Blk (w.alloc (.cells #[.int .i64 9, .string ⟨#[]⟩, .slice A n cap, kv] 43)) w.heap.size 43 #[.int .i64 9, .string ⟨#[]⟩, .slice A n cap, kv] := Blk.new w 43 _
 have HBO0 := Lib.hid hbo0
 clear h hr hi IH hn hbo0
 go_enter Try.func32, Try.ntmps32
 go_wp2_with fail
 refine (blanks_any (HS.out _).1 (by omega)).mono ?_
 rintro e w1 ⟨b, rfl, hb, hst1, hf1⟩
 have hbl := hb.2
 have hbo1 := hf1.keep HBO0.out (by omega)
 have d2 : w1.cell? ⟨w.heap.size, 2, none⟩ = some (.slice A n cap) := by have := hbo1.cell 2; simpa using this
 have hsum0 : ¬ (9223372036854775807 < 1 + b.length) := by omega
 have HB := Lib.hid hb.1
 have HST1 := Lib.hid hst1
 have HF1 := Lib.hid ((HS.out _).2.trans hf1)
 have HBO1 := Lib.hid hbo1
 clear hb hst1 hf1 hbo1
 obtain ⟨L0, hL0⟩ : ∃ L0, 123 :: b = L0 := ⟨_, rfl⟩
 have hcat0 : (⟨#[123]⟩ : ByteArray) ++ ⟨b.toArray⟩ = ⟨L0.toArray⟩ := by rw [← hL0, show (⟨#[123]⟩ : ByteArray) = ⟨([123] : List UInt8).toArray⟩ from rfl, str2]; rfl
 have HL0 := Lib.hid hL0
 clear hL0
 go_wp2_with fail
 clear d2 hcat0
 go_loopg [8, 69] n (fun g s8 s69 wx => Hid (TbRel kv items (.slice A n cap) cs' d sb C cs a w g s8 s69 wx))
 case atStart =>
   exact ⟨[], items, a + 1, b, L0, rfl, HN.out.symm, rfl, rfl, HL0.out.symm, Pre.start.blk HB.out, by simp [wts]; omega, by omega, by simp [wts], HST1.out, HF1.out, HBO1.out⟩
 case round =>
   obtain ⟨dn, rest, a1, L, L5, he, hgk, rfl, rfl, hL5, hpre, hLl, h1, h2, hst, hf, hbo⟩ := hrel.out
   clear hrel HS HBO0 HST1 HF1 HBO1 HL0
   cases rest with
   | nil =>
     have hdn : dn = items := by rw [he]; simp
     have hnl : ¬ ((dn.length : Int) < n) := by have := HN.out; rw [← hdn] at this; omega
     have hLm : L5.length ≤ 1000003 := by have hdw : wts dn ≤ wts items := by rw [hdn]; exact Nat.le_refl _
                                          rw [hL5]; simp; omega
     have hsum7 : ¬ (9223372036854775807 < L5.length + 1) := by omega
     have HFIN : Hid (Told (ValTold (d + 1) (.mk 9 [] items ks)) sb C cs a (wt (.mk 9 [] items ks)) w (.returned (.string ((⟨L5.toArray⟩ : ByteArray) ++ ⟨#[125]⟩))) wr) := by
       have hp := hpre.end_
       rw [hdn] at hp hLl h2
       refine ⟨L5 ++ [125], a1, by rw [show (⟨#[125]⟩ : ByteArray) = ⟨([125] : List UInt8).toArray⟩ from rfl, str2], ⟨.inr (.inr ⟨items, ks, L ++ [125], rfl, by rw [hL5]; rfl, hp⟩), ?_⟩, h1, ?_, hst, hf⟩
       · rw [hL5]
         unfold wt
         simp
         omega
       · unfold wt
         omega
     clear hst hf hpre he hL5 hLl h1 h2 hbo hdn
     go_wp2_with fail
     go_ret
     exact HFIN.out
   | cons x rest =>
     have hnl : dn.length < n := by have := HN.out; rw [he] at this; simp at this; omega
     have hrow : Row (· ≠ sb) wr 43 4 (.slice A n cap) n cs' := Row.move HR.out fun g t c hg hb => ⟨hg, hf.keep hb hg⟩
     have hits : ItemsIs (· ≠ sb) wr 43 items cs' := ItemsIs.move (fun g t c hg hb => ⟨hg, hf.keep hb hg⟩) items HI.out
     rw [he] at hits
     obtain ⟨xc, hx, hxc⟩ := items_at hits
     obtain ⟨xi, xk, xcs, rfl, hsk, hri, _⟩ := hx.cells
     obtain ⟨A1, m1, rfl, _, _⟩ := Row.slice hsk
     obtain ⟨A2, m2, rfl, _, _⟩ := Row.slice hri
     generalize x.keys.length = k1 at *
     generalize x.items.length = k2 at *
     obtain ⟨g, cap', e1, _, _, hgs, hgl, hcl⟩ := Row.cells hrow (by omega)
     injection e1 with e1 _ e2
     subst e1
     subst e2
     obtain ⟨j, hj⟩ : ∃ j, dn.length = j := ⟨_, rfl⟩
     rw [hj] at hnl hxc ⊢
     have c0 : wr.cell? ⟨g, j * 4, none⟩ = some (.int .i64 x.kind) := by rw [hcl (j * 4) (by omega)]; exact hxc 0 (by omega)
     have c1 : wr.cell? ⟨g, j * 4 + 1, none⟩ = some (.string ⟨x.text.toArray⟩) := by rw [hcl (j * 4 + 1) (by omega)]; exact hxc 1 (by omega)
     have c2 : wr.cell? ⟨g, j * 4 + 2, none⟩ = some (.slice A2 k2 m2) := by rw [hcl (j * 4 + 2) (by omega)]; exact hxc 2 (by omega)
     have c3 : wr.cell? ⟨g, j * 4 + 3, none⟩ = some (.slice A1 k1 m1) := by rw [hcl (j * 4 + 3) (by omega)]; exact hxc 3 (by omega)
     have HJ := Lib.hid hj
     have HX := Lib.hid hx
     have hwd : wts dn ≤ wts items := by rw [he, wts_append]; omega
     have hL5m : L5.length ≤ 1000003 := by rw [hL5]; simp; omega
     have HQ := Lib.hid (And.intro hL5 (And.intro he (And.intro hpre (And.intro hLl (And.intro h1 h2)))))
     have HST := Lib.hid hst
     have HF := Lib.hid hf
     have HBO := Lib.hid hbo
     have hnl' : (j : Int) < n := by omega
     have hj0 : (0 : Int) ≤ (j : Int) := by omega
     have hbne : wr.heap.size ≠ sb := by have := hst.1.lt; omega
     have ha1' : a1 ≤ 800000001 := by omega
     have hstx : Sty (wr.alloc (.cells #[.int .i64 x.kind, .string ⟨x.text.toArray⟩, .slice A2 k2 m2, .slice A1 k1 m1] 43)) sb C cs a1 := hst.alloc _
     have hsfr : SF sb wr (wr.alloc (.cells #[.int .i64 x.kind, .string ⟨x.text.toArray⟩, .slice A2 k2 m2, .slice A1 k1 m1] 43)) := SF.alloc (Nat.le_of_lt hst.1.lt) _
     have hbx0 : Blk (wr.alloc (.cells #[.int .i64 x.kind, .string ⟨x.text.toArray⟩, .slice A2 k2 m2, .slice A1 k1 m1] 43)) wr.heap.size 43 #[.int .i64 x.kind, .string ⟨x.text.toArray⟩, .slice A2 k2 m2, .slice A1 k1 m1] := Blk.new wr 43 _
     have HSTX := Lib.hid hstx
     have HSFRX := Lib.hid hsfr
     have HSFX := Lib.hid (hf.trans hsfr)
     have HBX1 := Lib.hid hbx0
     clear hj hst hf hbo hrow hits hxc hx hcl hpre hsk hri hL5 hstx hsfr hbx0
     by_cases h0 : j = 0
     · subst h0
       have hd0 : dn = [] := List.eq_nil_of_length_eq_zero HJ.out
       obtain ⟨b0, hb0⟩ : ∃ b0 : List UInt8, b0 = [] := ⟨_, rfl⟩
       have HL6 : Hid (L5 = 123 :: (L ++ sepr dn b0) ∧ Blk1 b0 ∧ b0.length ≤ 2) := by
         refine ⟨by rw [HQ.out.1, hd0]; simp [sepr], ?_, by rw [hb0]; simp⟩
         rw [hb0]
         intro c hc
         cases hc
       clear hd0 hb0
       go_wp2_with fail
       generalize wr.alloc (.cells #[.int .i64 x.kind, .string ⟨x.text.toArray⟩, .slice A2 k2 m2, .slice A1 k1 m1] 43) = wx at *
       generalize hbq : wr.heap.size = bx at *
       clear hbq
       have HBX := Lib.hid HBX1.out
       have hbx : Blk wx bx 43 #[.int .i64 x.kind, .string ⟨x.text.toArray⟩, .slice A2 k2 m2, .slice A1 k1 m1] := HBX.out
       have z0 : (wx).cell? ⟨bx, 0, none⟩ = some (.int .i64 x.kind) := by have := hbx.cell 0; simpa using this
       have z1 : (wx).cell? ⟨bx, 1, none⟩ = some (.string ⟨x.text.toArray⟩) := by have := hbx.cell 1; simpa using this
       have z2 : (wx).cell? ⟨bx, 2, none⟩ = some (.slice A2 k2 m2) := by have := hbx.cell 2; simpa using this
       have z3 : (wx).cell? ⟨bx, 3, none⟩ = some (.slice A1 k1 m1) := by have := hbx.cell 3; simpa using this
       have HST0 : Hid (Sty (wx).drew sb C cs a1) := HSTX.out.drewN 1
       have HBX0 : Hid (Blk (wx).drew bx 43 #[.int .i64 x.kind, .string ⟨x.text.toArray⟩, .slice A2 k2 m2, .slice A1 k1 m1]) := hbx
       have HSF0 : Hid (SF sb w (wx).drew) := HSFX.out.trans (SF.drewN sb wx 1)
       have HXW : Hid (∀ w', SF sb wr w' → NodeIs (· ≠ sb) w' 43 x [.int .i64 x.kind, .string ⟨x.text.toArray⟩, .slice A2 k2 m2, .slice A1 k1 m1]) := fun w' h => NodeIs.move (fun g t c h1 h2 => ⟨h1, h.keep h2 h1⟩) x HX.out
       have HSFR0 : Hid (SF sb wr (wx).drew) := HSFRX.out.trans (SF.drewN sb wx 1)
       have hxm : wt x + kwb x.keys + 40 + wts dn ≤ wts items := by have he := HQ.out.2.1; rw [he, wts_append]; simp only [wts]; omega
       have ha1 : a1 ≤ a + 1 + wts dn := HQ.out.2.2.2.2.2
       obtain ⟨⟨kws, hkne, hkA, hkk⟩, hvc⟩ := HH.out x (by rw [HQ.out.2.1]; simp)
       have HVC := Lib.hid hvc
       have hkle : kwt kws ≤ kwb x.keys := by rw [hkk]; exact kwt_le kws
       have hkey : StrRow (· ≠ sb) (wx).drew (.slice A1 k1 m1) (kws.map Wd) := by
         have h := (HXW.out _ HSFR0.out).cells
         obtain ⟨iv', kv', cs9, e, h9, _⟩ := h
         injection e with _ e
         injection e with _ e
         injection e with _ e
         injection e with e _
         rw [e, ← hkk]
         exact h9
       have HKEY := Lib.hid hkey
       clear hkey
       have HKK := Lib.hid (And.intro hkne (And.intro hkA hkk))
       clear hbx hvc hkne hkA hkk c0 c1 c2 c3
       go_region_held3 (fun w' => w'.cell? ⟨bx, 0, none⟩ = some (.int .i64 x.kind) ∧ w'.cell? ⟨bx, 1, none⟩ = some (.string ⟨x.text.toArray⟩) ∧ w'.cell? ⟨bx, 2, none⟩ = some (.slice A2 k2 m2) ∧ w'.cell? ⟨bx, 3, none⟩ = some (.slice A1 k1 m1))
         (first
           | assumption
           | (refine ⟨?_, ?_, ?_, ?_⟩ <;> assumption)
           | go_keep)
         (first
           | (go_at_call 31
              refine (key_any HST0.out HKEY.out HKK.out.2.1 HKK.out.1 (by omega) (by omega)).mono ?_
              rintro e w2 ⟨kk, a2, rfl, hk, h3, h4, hst2, hf2⟩
              have hbx2 := hf2.keep HBX0.out hbne
              have y0 : w2.cell? ⟨bx, 0, none⟩ = some (.int .i64 x.kind) := by have := hbx2.cell 0; simpa using this
              have y1 : w2.cell? ⟨bx, 1, none⟩ = some (.string ⟨x.text.toArray⟩) := by have := hbx2.cell 1; simpa using this
              have y2 : w2.cell? ⟨bx, 2, none⟩ = some (.slice A2 k2 m2) := by have := hbx2.cell 2; simpa using this
              have y3 : w2.cell? ⟨bx, 3, none⟩ = some (.slice A1 k1 m1) := by have := hbx2.cell 3; simpa using this
              have hkl := hk.2
              have HK := Lib.hid hk.1
              have HBX2 := Lib.hid hbx2
              have HST2 := Lib.hid hst2
              have HSF2 := Lib.hid (HSF0.out.trans hf2)
              have HSFR2 := Lib.hid (HSFR0.out.trans hf2)
              clear hk hbx2 hst2 hf2)
           | (go_at_call 32
              refine (HVC.out _ (a2 + 1 + 1) _ HST4.out (HXW.out _ HSFR4.out) (by omega)).mono ?_
              rintro e w5 ⟨t, a5, rfl, ht, h5, h6, hst5, hf5⟩
              have hbx5 := hf5.keep HBX4.out hbne
              have q0 : w5.cell? ⟨bx, 0, none⟩ = some (.int .i64 x.kind) := by have := hbx5.cell 0; simpa using this
              have q1 : w5.cell? ⟨bx, 1, none⟩ = some (.string ⟨x.text.toArray⟩) := by have := hbx5.cell 1; simpa using this
              have q2 : w5.cell? ⟨bx, 2, none⟩ = some (.slice A2 k2 m2) := by have := hbx5.cell 2; simpa using this
              have q3 : w5.cell? ⟨bx, 3, none⟩ = some (.slice A1 k1 m1) := by have := hbx5.cell 3; simpa using this
              have htl := ht.2
              have hsum4 : ¬ (9223372036854775807 < kk.length + b1.length + 1 + b2.length + t.length) := by omega
              have HT := Lib.hid ht.1
              have HBX5 := Lib.hid hbx5
              have HST5 := Lib.hid hst5
              have HSF5 := Lib.hid (HSF4.out.trans hf5)
              have HSFR5 := Lib.hid (HSFR4.out.trans hf5)
              clear ht hbx5 hst5 hf5)
           | (go_at_call 30
              refine (blanks_any HST5.out (by omega)).mono ?_
              rintro e w6 ⟨b3, rfl, hb3, hst6, hf6⟩
              have hbx6 := hf6.keep HBX5.out hbne
              have r0 : w6.cell? ⟨bx, 0, none⟩ = some (.int .i64 x.kind) := by have := hbx6.cell 0; simpa using this
              have r1 : w6.cell? ⟨bx, 1, none⟩ = some (.string ⟨x.text.toArray⟩) := by have := hbx6.cell 1; simpa using this
              have r2 : w6.cell? ⟨bx, 2, none⟩ = some (.slice A2 k2 m2) := by have := hbx6.cell 2; simpa using this
              have r3 : w6.cell? ⟨bx, 3, none⟩ = some (.slice A1 k1 m1) := by have := hbx6.cell 3; simpa using this
              have hb3l := hb3.2
              have hsum5 : ¬ (9223372036854775807 < kk.length + b1.length + 1 + b2.length + t.length + b3.length) := by omega
              have hsum6 : ¬ (9223372036854775807 < L5.length + (kk.length + b1.length + 1 + b2.length + t.length + b3.length)) := by omega
              have HB3 := Lib.hid hb3.1
              have HST6 := Lib.hid hst6
              have HSF6 := Lib.hid (HSF5.out.trans hf6)
              have HSFR6 := Lib.hid (HSFR5.out.trans hf6)
              clear hb3 hbx6 hst6 hf6)
           | (go_at_call 30
              refine (blanks_any HST3.out (by omega)).mono ?_
              rintro e w4 ⟨b2, rfl, hb2, hst4, hf4⟩
              have hbx4 := hf4.keep HBX3.out hbne
              have v0 : w4.cell? ⟨bx, 0, none⟩ = some (.int .i64 x.kind) := by have := hbx4.cell 0; simpa using this
              have v1 : w4.cell? ⟨bx, 1, none⟩ = some (.string ⟨x.text.toArray⟩) := by have := hbx4.cell 1; simpa using this
              have v2 : w4.cell? ⟨bx, 2, none⟩ = some (.slice A2 k2 m2) := by have := hbx4.cell 2; simpa using this
              have v3 : w4.cell? ⟨bx, 3, none⟩ = some (.slice A1 k1 m1) := by have := hbx4.cell 3; simpa using this
              have hb2l := hb2.2
              have hsum3 : ¬ (9223372036854775807 < kk.length + b1.length + 1 + b2.length) := by omega
              have HB2 := Lib.hid hb2.1
              have HBX4 := Lib.hid hbx4
              have HST4 := Lib.hid hst4
              have HSF4 := Lib.hid (HSF3.out.trans hf4)
              have HSFR4 := Lib.hid (HSFR3.out.trans hf4)
              clear hb2 hbx4 hst4 hf4)
           | (go_at_call 30
              refine (blanks_any HST2.out (by omega)).mono ?_
              rintro e w3 ⟨b1, rfl, hb1, hst3, hf3⟩
              have hbx3 := hf3.keep HBX2.out hbne
              have x0 : w3.cell? ⟨bx, 0, none⟩ = some (.int .i64 x.kind) := by have := hbx3.cell 0; simpa using this
              have x1 : w3.cell? ⟨bx, 1, none⟩ = some (.string ⟨x.text.toArray⟩) := by have := hbx3.cell 1; simpa using this
              have x2 : w3.cell? ⟨bx, 2, none⟩ = some (.slice A2 k2 m2) := by have := hbx3.cell 2; simpa using this
              have x3 : w3.cell? ⟨bx, 3, none⟩ = some (.slice A1 k1 m1) := by have := hbx3.cell 3; simpa using this
              have hb1l := hb1.2
              have hsum1 : ¬ (9223372036854775807 < kk.length + b1.length) := by omega
              have hsum2 : ¬ (9223372036854775807 < kk.length + b1.length + 1) := by omega
              have HB1 := Lib.hid hb1.1
              have HBX3 := Lib.hid hbx3
              have HST3 := Lib.hid hst3
              have HSF3 := Lib.hid (HSF2.out.trans hf3)
              have HSFR3 := Lib.hid (HSFR2.out.trans hf3)
              clear hb1 hbx3 hst3 hf3))
       all_goals
         go_wp2_with fail
         go_roundg rest.length
         case measure => (rw [hgk]; simp)
         case rel =>
           obtain ⟨hL5, he, hpre, hLl, h1, h2⟩ := HQ.out
           have hjj := HJ.out
           have hwne : w.heap.size ≠ sb := by omega
           refine ⟨dn ++ [x], rest, a5 + 1, L ++ (sepr dn b0 ++ (kk ++ (b1 ++ 61 :: (b2 ++ (t ++ b3))))), L5 ++ (kk ++ (b1 ++ 61 :: (b2 ++ (t ++ b3)))), by rw [he]; simp, rfl, by simp [hjj], congrArg Value.string (tb_str _ _ _ _ _ _), ?_, ?_, ?_, by omega, ?_, HST6.out, HSF6.out, HSFR6.out.keep HBO.out hwne⟩
           · rw [HL6.out.1]
             simp
           · refine hpre.kv HL6.out.2.1 ?_ HB1.out HB2.out HT.out HB3.out
             rw [HKK.out.2.2]
             exact HK.out
           · have hsl : (sepr dn b0).length ≤ 3 := by
               have := HL6.out.2.2
               unfold sepr
               split
               · simp
               · simp; omega
             rw [wts_append]
             simp only [List.length_append, List.length_cons, wts]
             omega
           · rw [wts_append]
             simp only [wts]
             omega
     · have fj : (0 : Int) < (j : Int) := by omega
       have hdne : dn ≠ [] := by rintro rfl; have := HJ.out; simp at this; omega
       go_wp2_with fail
       refine (blanks_any HSTX.out (by omega)).mono ?_
       rintro e wy ⟨b0, rfl, hb0, hsty, hfy⟩
       have hb0l := hb0.2
       obtain ⟨L6, hL6⟩ : ∃ L6, L5 ++ (44 :: b0) = L6 := ⟨_, rfl⟩
       have hcat : (⟨L5.toArray⟩ : ByteArray) ++ (⟨#[44]⟩ ++ ⟨b0.toArray⟩) = ⟨L6.toArray⟩ := by
         rw [← hL6, show (⟨#[44]⟩ : ByteArray) = ⟨([44] : List UInt8).toArray⟩ from rfl, str2, str2]
         rfl
       have hL6m : L6.length ≤ 1000006 := by rw [← hL6]; simp; omega
       have hsum8 : ¬ (9223372036854775807 < 1 + b0.length) := by omega
       have hsum9 : ¬ (9223372036854775807 < L5.length + (1 + b0.length)) := by omega
       have HL6 : Hid (L6 = 123 :: (L ++ sepr dn b0) ∧ Blk1 b0 ∧ b0.length ≤ 2) := by
         refine ⟨by rw [← hL6, HQ.out.1]; simp [sepr, hdne], hb0.1, hb0.2⟩
       have hbx1 := hfy.keep HBX1.out hbne
       have HBX2 := Lib.hid hbx1
       have HSTY := Lib.hid hsty
       have HSFY := Lib.hid (HSFX.out.trans hfy)
       have HSFRY := Lib.hid (HSFRX.out.trans hfy)
       have y0 : wy.cell? ⟨wr.heap.size, 0, none⟩ = some (.int .i64 x.kind) := by have := hbx1.cell 0; simpa using this
       have y1 : wy.cell? ⟨wr.heap.size, 1, none⟩ = some (.string ⟨x.text.toArray⟩) := by have := hbx1.cell 1; simpa using this
       have y2 : wy.cell? ⟨wr.heap.size, 2, none⟩ = some (.slice A2 k2 m2) := by have := hbx1.cell 2; simpa using this
       have y3 : wy.cell? ⟨wr.heap.size, 3, none⟩ = some (.slice A1 k1 m1) := by have := hbx1.cell 3; simpa using this
       clear hb0 hsty hfy hbx1 hL6 hdne HSTX HSFX HSFRX HBX1
       go_wp2_with fail
       generalize hbq : wr.heap.size = bx at *
       clear hbq y0 y1 y2 y3
       have HBX := Lib.hid HBX2.out
       have hbx : Blk wy bx 43 #[.int .i64 x.kind, .string ⟨x.text.toArray⟩, .slice A2 k2 m2, .slice A1 k1 m1] := HBX.out
       have z0 : (wy).cell? ⟨bx, 0, none⟩ = some (.int .i64 x.kind) := by have := hbx.cell 0; simpa using this
       have z1 : (wy).cell? ⟨bx, 1, none⟩ = some (.string ⟨x.text.toArray⟩) := by have := hbx.cell 1; simpa using this
       have z2 : (wy).cell? ⟨bx, 2, none⟩ = some (.slice A2 k2 m2) := by have := hbx.cell 2; simpa using this
       have z3 : (wy).cell? ⟨bx, 3, none⟩ = some (.slice A1 k1 m1) := by have := hbx.cell 3; simpa using this
       have HST0 : Hid (Sty (wy).drew sb C cs (a1 + 1)) := HSTY.out.drewN 1
       have HBX0 : Hid (Blk (wy).drew bx 43 #[.int .i64 x.kind, .string ⟨x.text.toArray⟩, .slice A2 k2 m2, .slice A1 k1 m1]) := hbx
       have HSF0 : Hid (SF sb w (wy).drew) := HSFY.out.trans (SF.drewN sb wy 1)
       have HXW : Hid (∀ w', SF sb wr w' → NodeIs (· ≠ sb) w' 43 x [.int .i64 x.kind, .string ⟨x.text.toArray⟩, .slice A2 k2 m2, .slice A1 k1 m1]) := fun w' h => NodeIs.move (fun g t c h1 h2 => ⟨h1, h.keep h2 h1⟩) x HX.out
       have HSFR0 : Hid (SF sb wr (wy).drew) := HSFRY.out.trans (SF.drewN sb wy 1)
       have hxm : wt x + kwb x.keys + 40 + wts dn ≤ wts items := by have he := HQ.out.2.1; rw [he, wts_append]; simp only [wts]; omega
       have ha1 : a1 ≤ a + 1 + wts dn := HQ.out.2.2.2.2.2
       obtain ⟨⟨kws, hkne, hkA, hkk⟩, hvc⟩ := HH.out x (by rw [HQ.out.2.1]; simp)
       have HVC := Lib.hid hvc
       have hkle : kwt kws ≤ kwb x.keys := by rw [hkk]; exact kwt_le kws
       have hkey : StrRow (· ≠ sb) (wy).drew (.slice A1 k1 m1) (kws.map Wd) := by
         have h := (HXW.out _ HSFR0.out).cells
         obtain ⟨iv', kv', cs9, e, h9, _⟩ := h
         injection e with _ e
         injection e with _ e
         injection e with _ e
         injection e with e _
         rw [e, ← hkk]
         exact h9
       have HKEY := Lib.hid hkey
       clear hkey
       have HKK := Lib.hid (And.intro hkne (And.intro hkA hkk))
       clear hbx hvc hkne hkA hkk c0 c1 c2 c3
       go_region_held3 (fun w' => w'.cell? ⟨bx, 0, none⟩ = some (.int .i64 x.kind) ∧ w'.cell? ⟨bx, 1, none⟩ = some (.string ⟨x.text.toArray⟩) ∧ w'.cell? ⟨bx, 2, none⟩ = some (.slice A2 k2 m2) ∧ w'.cell? ⟨bx, 3, none⟩ = some (.slice A1 k1 m1))
         (first
           | assumption
           | (refine ⟨?_, ?_, ?_, ?_⟩ <;> assumption)
           | go_keep)
         (first
           | (go_at_call 31
              refine (key_any HST0.out HKEY.out HKK.out.2.1 HKK.out.1 (by omega) (by omega)).mono ?_
              rintro e w2 ⟨kk, a2, rfl, hk, h3, h4, hst2, hf2⟩
              have hbx2 := hf2.keep HBX0.out hbne
              have y0 : w2.cell? ⟨bx, 0, none⟩ = some (.int .i64 x.kind) := by have := hbx2.cell 0; simpa using this
              have y1 : w2.cell? ⟨bx, 1, none⟩ = some (.string ⟨x.text.toArray⟩) := by have := hbx2.cell 1; simpa using this
              have y2 : w2.cell? ⟨bx, 2, none⟩ = some (.slice A2 k2 m2) := by have := hbx2.cell 2; simpa using this
              have y3 : w2.cell? ⟨bx, 3, none⟩ = some (.slice A1 k1 m1) := by have := hbx2.cell 3; simpa using this
              have hkl := hk.2
              have HK := Lib.hid hk.1
              have HBX2 := Lib.hid hbx2
              have HST2 := Lib.hid hst2
              have HSF2 := Lib.hid (HSF0.out.trans hf2)
              have HSFR2 := Lib.hid (HSFR0.out.trans hf2)
              clear hk hbx2 hst2 hf2)
           | (go_at_call 32
              refine (HVC.out _ (a2 + 1 + 1) _ HST4.out (HXW.out _ HSFR4.out) (by omega)).mono ?_
              rintro e w5 ⟨t, a5, rfl, ht, h5, h6, hst5, hf5⟩
              have hbx5 := hf5.keep HBX4.out hbne
              have q0 : w5.cell? ⟨bx, 0, none⟩ = some (.int .i64 x.kind) := by have := hbx5.cell 0; simpa using this
              have q1 : w5.cell? ⟨bx, 1, none⟩ = some (.string ⟨x.text.toArray⟩) := by have := hbx5.cell 1; simpa using this
              have q2 : w5.cell? ⟨bx, 2, none⟩ = some (.slice A2 k2 m2) := by have := hbx5.cell 2; simpa using this
              have q3 : w5.cell? ⟨bx, 3, none⟩ = some (.slice A1 k1 m1) := by have := hbx5.cell 3; simpa using this
              have htl := ht.2
              have hsum4 : ¬ (9223372036854775807 < kk.length + b1.length + 1 + b2.length + t.length) := by omega
              have HT := Lib.hid ht.1
              have HBX5 := Lib.hid hbx5
              have HST5 := Lib.hid hst5
              have HSF5 := Lib.hid (HSF4.out.trans hf5)
              have HSFR5 := Lib.hid (HSFR4.out.trans hf5)
              clear ht hbx5 hst5 hf5)
           | (go_at_call 30
              refine (blanks_any HST5.out (by omega)).mono ?_
              rintro e w6 ⟨b3, rfl, hb3, hst6, hf6⟩
              have hbx6 := hf6.keep HBX5.out hbne
              have r0 : w6.cell? ⟨bx, 0, none⟩ = some (.int .i64 x.kind) := by have := hbx6.cell 0; simpa using this
              have r1 : w6.cell? ⟨bx, 1, none⟩ = some (.string ⟨x.text.toArray⟩) := by have := hbx6.cell 1; simpa using this
              have r2 : w6.cell? ⟨bx, 2, none⟩ = some (.slice A2 k2 m2) := by have := hbx6.cell 2; simpa using this
              have r3 : w6.cell? ⟨bx, 3, none⟩ = some (.slice A1 k1 m1) := by have := hbx6.cell 3; simpa using this
              have hb3l := hb3.2
              have hsum5 : ¬ (9223372036854775807 < kk.length + b1.length + 1 + b2.length + t.length + b3.length) := by omega
              have hsum6 : ¬ (9223372036854775807 < L6.length + (kk.length + b1.length + 1 + b2.length + t.length + b3.length)) := by omega
              have HB3 := Lib.hid hb3.1
              have HST6 := Lib.hid hst6
              have HSF6 := Lib.hid (HSF5.out.trans hf6)
              have HSFR6 := Lib.hid (HSFR5.out.trans hf6)
              clear hb3 hbx6 hst6 hf6)
           | (go_at_call 30
              refine (blanks_any HST3.out (by omega)).mono ?_
              rintro e w4 ⟨b2, rfl, hb2, hst4, hf4⟩
              have hbx4 := hf4.keep HBX3.out hbne
              have v0 : w4.cell? ⟨bx, 0, none⟩ = some (.int .i64 x.kind) := by have := hbx4.cell 0; simpa using this
              have v1 : w4.cell? ⟨bx, 1, none⟩ = some (.string ⟨x.text.toArray⟩) := by have := hbx4.cell 1; simpa using this
              have v2 : w4.cell? ⟨bx, 2, none⟩ = some (.slice A2 k2 m2) := by have := hbx4.cell 2; simpa using this
              have v3 : w4.cell? ⟨bx, 3, none⟩ = some (.slice A1 k1 m1) := by have := hbx4.cell 3; simpa using this
              have hb2l := hb2.2
              have hsum3 : ¬ (9223372036854775807 < kk.length + b1.length + 1 + b2.length) := by omega
              have HB2 := Lib.hid hb2.1
              have HBX4 := Lib.hid hbx4
              have HST4 := Lib.hid hst4
              have HSF4 := Lib.hid (HSF3.out.trans hf4)
              have HSFR4 := Lib.hid (HSFR3.out.trans hf4)
              clear hb2 hbx4 hst4 hf4)
           | (go_at_call 30
              refine (blanks_any HST2.out (by omega)).mono ?_
              rintro e w3 ⟨b1, rfl, hb1, hst3, hf3⟩
              have hbx3 := hf3.keep HBX2.out hbne
              have x0 : w3.cell? ⟨bx, 0, none⟩ = some (.int .i64 x.kind) := by have := hbx3.cell 0; simpa using this
              have x1 : w3.cell? ⟨bx, 1, none⟩ = some (.string ⟨x.text.toArray⟩) := by have := hbx3.cell 1; simpa using this
              have x2 : w3.cell? ⟨bx, 2, none⟩ = some (.slice A2 k2 m2) := by have := hbx3.cell 2; simpa using this
              have x3 : w3.cell? ⟨bx, 3, none⟩ = some (.slice A1 k1 m1) := by have := hbx3.cell 3; simpa using this
              have hb1l := hb1.2
              have hsum1 : ¬ (9223372036854775807 < kk.length + b1.length) := by omega
              have hsum2 : ¬ (9223372036854775807 < kk.length + b1.length + 1) := by omega
              have HB1 := Lib.hid hb1.1
              have HBX3 := Lib.hid hbx3
              have HST3 := Lib.hid hst3
              have HSF3 := Lib.hid (HSF2.out.trans hf3)
              have HSFR3 := Lib.hid (HSFR2.out.trans hf3)
              clear hb1 hbx3 hst3 hf3))
       all_goals
         go_wp2_with fail
         go_roundg rest.length
         case measure => (rw [hgk]; simp)
         case rel =>
           obtain ⟨hL5, he, hpre, hLl, h1, h2⟩ := HQ.out
           have hjj := HJ.out
           have hwne : w.heap.size ≠ sb := by omega
           refine ⟨dn ++ [x], rest, a5 + 1, L ++ (sepr dn b0 ++ (kk ++ (b1 ++ 61 :: (b2 ++ (t ++ b3))))), L6 ++ (kk ++ (b1 ++ 61 :: (b2 ++ (t ++ b3)))), by rw [he]; simp, rfl, by simp [hjj], congrArg Value.string (tb_str _ _ _ _ _ _), ?_, ?_, ?_, by omega, ?_, HST6.out, HSF6.out, HSFR6.out.keep HBO.out hwne⟩
           · rw [HL6.out.1]
             simp
           · refine hpre.kv HL6.out.2.1 ?_ HB1.out HB2.out HT.out HB3.out
             rw [HKK.out.2.2]
             exact HK.out
           · have hsl : (sepr dn b0).length ≤ 3 := by
               have := HL6.out.2.2
               unfold sepr
               split
               · simp
               · simp; omega
             rw [wts_append]
             simp only [List.length_append, List.length_cons, wts]
             omega
           · rw [wts_append]
             simp only [wts]
             omega
end Go.Proofs.Ytnlkbbpmpgdmiaa
namespace Go.Proofs.Ytnlkbbpmpgdmiaa
open Go.RowKit
set_option linter.unusedVariables false
set_option linter.unusedSimpArgs false
theorem wts_mem {x : N} : ∀ {l : List N}, x ∈ l → wt x ≤ wts l
 | y :: l, h => by
   simp only [wts]
   rcases List.mem_cons.1 h with rfl | h
   · omega
   · have := wts_mem h
     omega
theorem valC_flat (sb : Nat) (C : Value) (cs : List UInt8) (d : Nat) {kd : Nat} {t : List UInt8} {ks : List (List UInt8)} (h : (kd = 0 ∧ ∃ rs : List Nat, (∀ r ∈ rs, Alpha r) ∧ t = Wd rs) ∨ (1 ≤ kd ∧ kd ≤ 7 ∧ Scal kd t t)) (hw : wt (.mk kd t [] ks) ≤ 1000000) : ValC sb C cs d (.mk kd t [] ks) := by
 intro w a cells hst hn ha
 obtain ⟨iv, kv, cs', rfl, _, _, _⟩ := hn.cells
 rcases h with ⟨rfl, rs, hA, rfl⟩ | ⟨h1, h7, hs⟩
 · exact value_str hst hA (by unfold wt at hw; omega) (by omega) iv kv ks d
 · exact value_scal hst h1 h7 hs iv kv ks d
theorem valC_all (sb : Nat) (C : Value) (cs : List UInt8) : ∀ (d : Nat) (v : N), VOk d v → wt v ≤ 1000000 → ValC sb C cs d v
 | 0, .mk kd t items ks, h, hw => by
   unfold VOk at h
   obtain ⟨rfl, h⟩ := h
   exact valC_flat sb C cs 0 h hw
 | d + 1, .mk kd t items ks, h, hw => by
   unfold VOk at h
   rcases h with ⟨rfl, h⟩ | ⟨rfl, rfl, h⟩ | ⟨rfl, rfl, h⟩
   · exact valC_flat sb C cs (d + 1) h hw
   · intro w a cells hst hn ha
     obtain ⟨iv, kv, cs', rfl, _, hr, hi⟩ := hn.cells
     unfold wt at hw ha
     exact value_arr (items := items) (cs' := cs') hst hr hi d (fun x hx => ⟨(h x hx).1, valC_all sb C cs d x (h x hx).2 (by have := wts_mem hx; omega)⟩) kv ks (by omega) (by omega)
   · intro w a cells hst hn ha
     obtain ⟨iv, kv, cs', rfl, _, hr, hi⟩ := hn.cells
     unfold wt at hw ha
     exact value_tbl (items := items) (cs' := cs') hst hr hi d (fun x hx => ⟨(h x hx).1, valC_all sb C cs d x (h x hx).2 (by have := wts_mem hx; omega)⟩) kv ks (by omega) (by omega)
end Go.Proofs.Ytnlkbbpmpgdmiaa
namespace Go.Proofs.Ytnlkbbpmpgdmiaa
open Go.RowKit
set_option linter.unusedVariables false
set_option linter.unusedSimpArgs false
def MRow (w : World) (B : Nat) (v : Value) (s : List UInt8) : Prop := ∃ g cap cur fz, v = .slice (some ⟨g, 0, none⟩) s.length cap ∧ B ≤ g ∧ w.heap[g]? = some (.cells cur 5 fz) ∧ (∀ i, i < cur.size → ¬ (fz.1 ≤ i ∧ i < fz.2)) ∧ s.length ≤ cap ∧ cap ≤ maxLen ∧ cur.size = cap ∧ cur.toList.take s.length = s.map fun c => Value.int .u8 c.toNat
theorem MRow.rd {w : World} {B : Nat} {v : Value} {s : List UInt8} (h : MRow w B v s) : RdIs w v s := by
 obtain ⟨g, cap, cur, fz, rfl, hB, hg, hfz, h1, h2, h3, h4⟩ := h
 refine ⟨g, 0, cap, ⟨g, 0, none⟩, rfl, h1, fun _ => ⟨rfl, fun k hk => ?_⟩⟩
 have hc : w.cell? ⟨g, 0 + k, none⟩ = cur[k]? := by simp [World.cell?, hg]
 rw [hc, ← Array.getElem?_toList]
 have h5 : (cur.toList.take s.length)[k]? = (s.map fun c => Value.int .u8 c.toNat)[k]? := by rw [h4]
 rw [List.getElem?_take_of_lt hk] at h5
 rw [h5]
 simp [List.getD, hk]
theorem conv_bytes (w : World) (l : List UInt8) (hl : l.length ≤ 1000000000) : ∃ v w', (convert 9 25 (.string ⟨l.toArray⟩)).run Try.prog w = .ok v w' ∧ MRow w' w.heap.size v l ∧ Below w.heap.size w w' := by
 have h := run_bytes_of_string (P := Try.prog) w 9 25 5 ⟨l.toArray⟩ Try.underlying9 Try.underlying25 Try.underlying5
 have hge := grownCap_ge w l.length 0 5
 have hle := grownCap_le_maxLen w l.length 0 5 (by simp only [maxLen]; omega)
 have hsz : (ByteArray.mk l.toArray).size = l.length := rfl
 rw [hsz] at h
 generalize grownCap w l.length 0 5 = c at *
 have hbs : (bytesRow ⟨l.toArray⟩ c).size = c := by
   unfold bytesRow
   simp
   have : (ByteArray.mk l.toArray).size = l.length := rfl
   omega
 refine ⟨_, _, h, ⟨w.heap.size, c, bytesRow ⟨l.toArray⟩ c, _, rfl, Nat.le_refl _, heap_alloc_new w.drew _, ?_, hge, hle, hbs, ?_⟩, ?_⟩
 · intro i hi hc
   omega
 · unfold bytesRow
   rw [Array.toList_append, List.take_append_of_le_length (by simp), List.take_of_length_le (by simp)]
   simp
 · exact (Fr.drewN w 1).1.trans ((Below.refl _ w.drew).alloc (Nat.le_refl _) _)
end Go.Proofs.Ytnlkbbpmpgdmiaa
namespace Go.Proofs.Ytnlkbbpmpgdmiaa
open Go.RowKit
set_option linter.unusedVariables false
set_option linter.unusedSimpArgs false
def ewt (x : Ex) : Nat := kwb x.keys + wt x.value + 100
def ewts : List Ex → Nat
 | [] => 0
 | x :: l => ewt x + ewts l
theorem ewts_append (a b : List Ex) : ewts (a ++ b) = ewts a + ewts b := by
 induction a with
 | nil => simp [ewts]
 | cons x a ih => simp only [List.cons_append, ewts, ih]; omega
def ExW (x : Ex) : Prop := ExOk x ∧ ewt x ≤ 60000 ∧ True
theorem ExOk.w {x : Ex} (h : ExOk x) : ExW x := by
 refine ⟨h, ?_, trivial⟩
 obtain ⟨⟨kws, _, h3, hA, hk⟩, _, hw⟩ := h
 have h1 := kwb_le kws (fun k hk => (hA k hk).1)
 have h2 := Nat.mul_le_mul_right 250 h3
 have h4 : wtB 3 = 51250 := rfl
 unfold ewt
 rw [hk]
 omega
theorem DocTxt.more {dn : List Ex} {L b t u : List UInt8} {x : Ex} (h : DocTxt [] dn L) (hb : Blk1 b) (ht : ExTxt 3 x t) (htl : t.length ≤ 300000) (hk : x.keys.length ≤ 1000) (hu : EndTxt u) : DocTxt [] (dn ++ [x]) (L ++ (b ++ (t ++ u))) := by
 refine h.append (DocTxt.blk hb ?_)
 have h2 := DocTxt.ex (z := []) x [] t u [] ht htl hk hu .nil
 simpa using h2
def OutB (cl E a len : Nat) : Prop := (∃ m, m ≤ a ∧ m ≤ cl + 4 ∧ len ≤ 4 * m + E) ∧ a ≤ cl + 4 + E
def InB (cl E a2 len : Nat) : Prop := ∃ m u a0, m ≤ a2 ∧ m ≤ cl + 4 ∧ u ≤ 1 ∧ (u = 1 → cl ≤ a2 ∧ a2 % 5 ≠ 0) ∧ len ≤ 4 * m + E + 14 * u ∧ a2 ≤ a0 + 4 * u ∧ cl + 3 ≤ a0 ∧ a0 ≤ cl + 4 + E
def InG (cl a2 g : Nat) : Prop := ∃ q, q ≤ 1 ∧ g = 2 * (cl - a2) + q ∧ (a2 % 5 = 0 → q = 1) ∧ (a2 % 5 ≠ 0 → q = 0)
theorem OutB.inb {cl E a len : Nat} (h : OutB cl E a len) : InB cl E a len := by
 obtain ⟨⟨m, h1, h2, h3⟩, h4⟩ := h
 rcases Nat.le_total a (cl + 3) with h | h
 · exact ⟨m, 0, cl + 3, h1, h2, by omega, by omega, by omega, by omega, by omega, by omega⟩
 · exact ⟨m, 0, a, h1, h2, by omega, by omega, by omega, by omega, by omega, by omega⟩
theorem InG.start (cl a : Nat) : ∃ g, InG cl a g := by
 by_cases h : a % 5 = 0
 · exact ⟨2 * (cl - a) + 1, 1, by omega, rfl, by omega, by omega⟩
 · exact ⟨2 * (cl - a) + 0, 0, by omega, rfl, by omega, by omega⟩
theorem InB.step {cl E a2 len len' : Nat} (h : InB cl E a2 len) (hp : cl ≤ a2 → a2 % 5 = 0) (hl : len' ≤ len + 14) : InB cl E (a2 + 4) len' := by
 obtain ⟨m, u, a0, h1, h2, h3, h4, h5, h6, h7, h8⟩ := h
 have hu : u = 0 := by
   rcases Nat.lt_or_ge a2 cl with h | h
   · rcases Nat.eq_zero_or_pos u with h0 | h0
     · exact h0
     · have := h4 (by omega); omega
   · have := hp h
     rcases Nat.eq_zero_or_pos u with h0 | h0
     · exact h0
     · have := h4 (by omega); omega
 subst hu
 rcases Nat.lt_or_ge a2 cl with h | h
 · exact ⟨m + 4, 0, a0, by omega, by omega, by omega, by omega, by omega, by omega, h7, h8⟩
 · have := hp h
   exact ⟨m, 1, a0, by omega, h2, by omega, by omega, by omega, by omega, h7, h8⟩
theorem InG.step {cl a2 g : Nat} (h : InG cl a2 g) (hp : cl ≤ a2 → a2 % 5 = 0) : ∃ g', g' < g ∧ InG cl (a2 + 4) g' := by
 obtain ⟨q, h1, h2, h3, h4⟩ := h
 obtain ⟨g', q', k1, k2, k3, k4⟩ := InG.start cl (a2 + 4)
 refine ⟨g', ?_, q', k1, k2, k3, k4⟩
 rcases Nat.lt_or_ge a2 cl with h | h
 · omega
 · have := hp h
   have := h3 this
   have : q' = 0 := k4 (by omega)
   omega
theorem InB.out {cl E a2 len a3 len' k : Nat} (h : InB cl E a2 len) (ha : a2 ≤ a3) (ha3 : a3 ≤ a2 + k) (hl : len' ≤ len + k) {W : Nat} (hW : k + 20 ≤ W) : OutB cl (E + W) a3 len' := by
 obtain ⟨m, u, a0, h1, h2, h3, h4, h5, h6, h7, h8⟩ := h
 exact ⟨⟨m, by omega, h2, by omega⟩, by omega⟩
theorem InB.bound {cl E a2 len : Nat} (h : InB cl E a2 len) : a2 ≤ cl + 8 + E ∧ len ≤ 4 * cl + 30 + E := by
 obtain ⟨m, u, a0, h1, h2, h3, h4, h5, h6, h7, h8⟩ := h
 omega
theorem OutB.bound {cl E a len : Nat} (h : OutB cl E a len) : a ≤ cl + 4 + E ∧ len ≤ 4 * cl + 16 + E := by
 obtain ⟨⟨m, h1, h2, h3⟩, h4⟩ := h
 omega
theorem pick_zero {cs : List UInt8} {a : Nat} (h : pickV cs a 5 = 0) : cs.length ≤ a → a % 5 = 0 := by
 intro hl
 unfold pickV at h
 rw [List.getElem?_eq_none hl] at h
 simp only at h
 omega
def WriteTold (es : List Ex) (w : World) (e : Ending) (w' : World) : Prop := ∃ s v, e = .returned v ∧ MRow w' w.heap.size v s ∧ DocTxt [] es s ∧ s.length ≤ 5000 + ewts es ∧ Below w.heap.size w w'
theorem ArgBytes.sty {w : World} {C : Value} {cd : List UInt8} (h : ArgBytes w C cd) : Sty (w.alloc (.cells #[C, .int .i64 0] 80)) w.heap.size C cd 0 := by
 obtain ⟨A, c, rfl, h1, h2, h3⟩ := h
 simp only [List.length_map] at h1 h3
 refine ⟨by simpa using Blk.new w 80 _, A, c, by simp, h1, h2, fun h0 => ?_⟩
 obtain ⟨b, off, e, hb, hc⟩ := h3 h0
 refine ⟨b, off, e, hb, fun k x hk => ?_⟩
 exact (World.cell?_alloc_lt w _ ⟨b, off + k, none⟩ hb).trans (hc k _ (by rw [List.getElem?_map, hk]; rfl))
end Go.Proofs.Ytnlkbbpmpgdmiaa
namespace Go.Proofs.Ytnlkbbpmpgdmiaa
open Go.RowKit
set_option linter.unusedVariables false
set_option linter.unusedSimpArgs false
def WrRel (es : List Ex) (C : Value) (cd : List UInt8) (w : World) (g : Nat) (s6 s14 : Value) (wx : World) : Prop :=
 ∃ (dn rest : List Ex) (a1 : Nat) (L : List UInt8), es = dn ++ rest ∧ g = rest.length ∧ s14 = .int .i64 dn.length ∧ s6 = .string ⟨L.toArray⟩ ∧ DocTxt [] dn L ∧ OutB cd.length (ewts dn) a1 L.length ∧ Sty wx w.heap.size C cd a1 ∧ SF w.heap.size w wx
def WiRel (dn : List Ex) (C : Value) (cd : List UInt8) (w wr : World) (eb : Nat) (xc : Array Value) (g : Nat) (s6 : Value) (wx : World) : Prop :=
 ∃ (a2 : Nat) (L : List UInt8), InG cd.length a2 g ∧ s6 = .string ⟨L.toArray⟩ ∧ DocTxt [] dn L ∧ InB cd.length (ewts dn) a2 L.length ∧ Sty wx w.heap.size C cd a2 ∧ SF w.heap.size w wx ∧ SF w.heap.size wr wx ∧ Blk wx eb 45 xc
theorem ValTxt.withKeys {v : N} {s : List UInt8} {d : Nat} (h : ValTxt d v s) (ks : List (List UInt8)) : ValTxt d (v.withKeys ks) s := by
 cases d with
 | zero =>
   obtain ⟨kd, t, k0, rfl, h⟩ := h
   exact ⟨kd, t, ks, rfl, h⟩
 | succ d =>
   rcases h with ⟨kd, t, k0, rfl, h⟩ | ⟨items, k0, s', rfl, h1, h2⟩ | ⟨items, k0, s', rfl, h1, h2⟩
   · exact .inl ⟨kd, t, ks, rfl, h⟩
   · exact .inr (.inl ⟨items, ks, s', rfl, h1, h2⟩)
   · exact .inr (.inr ⟨items, ks, s', rfl, h1, h2⟩)
theorem wr_str2 (L1 kk b1 b2 t u : List UInt8) : ((⟨L1.toArray⟩ : ByteArray) ++ ((((⟨kk.toArray⟩ ++ ⟨b1.toArray⟩) ++ ⟨#[61]⟩) ++ ⟨b2.toArray⟩) ++ ⟨t.toArray⟩)) ++ ⟨u.toArray⟩ = ⟨(L1 ++ ((kk ++ (b1 ++ 61 :: (b2 ++ t))) ++ u)).toArray⟩ := by
 apply ByteArray.ext
 simp [ByteArray.data_append]
theorem wr_str (L1 p b1 kk b2 q u : List UInt8) : ((⟨L1.toArray⟩ : ByteArray) ++ ((((⟨p.toArray⟩ ++ ⟨b1.toArray⟩) ++ ⟨kk.toArray⟩) ++ ⟨b2.toArray⟩) ++ ⟨q.toArray⟩)) ++ ⟨u.toArray⟩ = ⟨(L1 ++ ((p ++ (b1 ++ (kk ++ (b2 ++ q)))) ++ u)).toArray⟩ := by
 apply ByteArray.ext
 simp [ByteArray.data_append]
set_option maxRecDepth 100000 in
set_option maxHeartbeats 8000000 in
theorem write_any {w : World} {lv C : Value} {cd : List UInt8} {es : List Ex} {cs : List Value} {P : Nat → Prop} (hr : Row P w 45 6 lv es.length cs) (hes : ExsF P w 43 es cs) (hew : ∀ x ∈ es, ExW x) (hel : es.length ≤ 12) (hc : ArgBytes w C cd) (hcd : cd.length ≤ 1000) :
   Calls Try.prog 14 #[lv, C] w (WriteTold es w) := by
 have hsty := hc.sty
 obtain ⟨A, c, rfl, -, -, -⟩ := hc
 obtain ⟨lA, lc, rfl, hlc, hlm⟩ := hr.slice
 have hrow : Row (· ≠ w.heap.size) w 45 6 (.slice lA es.length lc) es.length cs := Row.move hr fun g t c _ h => ⟨by have := h.lt; omega, h⟩
 have hex : ExsF (· ≠ w.heap.size) w 43 es cs := hes.moveT fun g t c _ _ h => ⟨by have := h.lt; omega, h⟩
 have HR := Lib.hid hrow
 have HE := Lib.hid hex
 have HW := Lib.hid hew
 have HSTY := Lib.hid hsty
 have hwb : ewts es ≤ 720000 := by
   have : ∀ l : List Ex, (∀ x ∈ l, ExW x) → ewts l ≤ l.length * 60000 := by
     intro l
     induction l with
     | nil => intro _; simp [ewts]
     | cons x l ih =>
       intro h
       have h1 := ih (fun y hy => h y (by simp [hy]))
       have h2 := (h x (by simp)).2.1
       simp only [ewts, List.length_cons]
       omega
   have := this es hew
   omega
 obtain ⟨n, hn⟩ : ∃ n, es.length = n := ⟨_, rfl⟩
 rw [hn] at HR hlc hel ⊢
 have HN := Lib.hid hn
 obtain ⟨cm, hcm⟩ : ∃ cm, (cd.map fun c => Value.int .u8 c.toNat).length = cm := ⟨_, rfl⟩
 rw [hcm] at HSTY ⊢
 clear hr hes hew hrow hex hn hsty hcm
 go_enter Try.func14, Try.ntmps14
 go_wp2_with fail
 go_loopg [6, 14] n (fun g s6 s14 wx => Hid (WrRel es (.slice A cm c) cd w g s6 s14 wx))
 case atStart =>
   exact ⟨[], es, 0, [], rfl, HN.out.symm, rfl, rfl, .nil, ⟨⟨0, by omega, by omega, by simp⟩, by omega⟩, HSTY.out, SF.alloc (Nat.le_refl _) _⟩
 case round =>
   obtain ⟨dn, rest, a1, L0, he, hgk, rfl, rfl, hdoc0, hob, hst0, hf0⟩ := hrel.out
   clear hrel HSTY
   cases rest with
   | nil =>
     have hdn : dn = es := by rw [he]; simp
     have hnl : ¬ ((dn.length : Int) < n) := by have := HN.out; rw [← hdn] at this; omega
     obtain ⟨hb1, hb2⟩ := hob.bound
     have hed : ewts dn ≤ 720000 := by rw [hdn]; exact hwb
     have hLm : L0.length ≤ 1000000000 := by omega
     obtain ⟨v, w', hcv, hmr, hbl⟩ := conv_bytes wr L0 hLm
     have HFIN : Hid (WriteTold es w (.returned v) w') := by
       rw [hdn] at hdoc0 hb2
       have hs := hf0.1.size
       refine ⟨L0, v, rfl, ?_, hdoc0, by omega, hf0.1.trans (hbl.mono hs)⟩
       obtain ⟨g, cap, cur, fz, h1, h2, h3⟩ := hmr
       exact ⟨g, cap, cur, fz, h1, by omega, h3⟩
     clear hmr hbl hob hst0 hf0 hdoc0 he hdn hb1 hb2
     go_wp2_with fail
     go_ret
     exact HFIN.out
   | cons x rest =>
     have hnl : dn.length < n := by have := HN.out; rw [he] at this; simp at this; omega
     have hrow : Row (· ≠ w.heap.size) wr 45 6 (.slice lA n lc) n cs := Row.move HR.out fun g t c hg hb => ⟨hg, hf0.keep hb hg⟩
     have hexs : ExsF (· ≠ w.heap.size) wr 43 es cs := HE.out.moveT (fun g t c _ hg hb => ⟨hg, hf0.keep hb hg⟩)
     rw [he] at hexs
     obtain ⟨xc, hx, hxc⟩ := exsF_at hexs
     obtain ⟨kv, c4, rfl, hsk, hnode⟩ := hx
     obtain ⟨xi, xk, xcs, rfl, hvk, hri, _⟩ := hnode.cells
     obtain ⟨ak, ck, rfl, _, _⟩ := Row.slice hsk
     obtain ⟨A1, m1, rfl, _, _⟩ := Row.slice hvk
     obtain ⟨A2, m2, rfl, _, _⟩ := Row.slice hri
     generalize x.keys.length = nk at *
     generalize x.value.keys.length = k1 at *
     generalize x.value.items.length = k2 at *
     obtain ⟨g, cap', e1, _, _, hgs, hgl, hcl⟩ := Row.cells hrow (by omega)
     injection e1 with e1 _ e2
     subst e1
     subst e2
     obtain ⟨j, hj⟩ : ∃ j, dn.length = j := ⟨_, rfl⟩
     rw [hj] at hnl hxc ⊢
     have c0 : wr.cell? ⟨g, j * 6, none⟩ = some (.int .i64 x.kind) := by rw [hcl (j * 6) (by omega)]; exact hxc 0 (by omega)
     have c1 : wr.cell? ⟨g, j * 6 + 1, none⟩ = some (.slice ak nk ck) := by rw [hcl (j * 6 + 1) (by omega)]; exact hxc 1 (by omega)
     have c2 : wr.cell? ⟨g, j * 6 + 2, none⟩ = some (.int .i64 x.value.kind) := by rw [hcl (j * 6 + 2) (by omega)]; exact hxc 2 (by omega)
     have c3 : wr.cell? ⟨g, j * 6 + 3, none⟩ = some (.string ⟨x.value.text.toArray⟩) := by rw [hcl (j * 6 + 3) (by omega)]; exact hxc 3 (by omega)
     have c4 : wr.cell? ⟨g, j * 6 + 4, none⟩ = some (.slice A2 k2 m2) := by rw [hcl (j * 6 + 4) (by omega)]; exact hxc 4 (by omega)
     have c5 : wr.cell? ⟨g, j * 6 + 5, none⟩ = some (.slice A1 k1 m1) := by rw [hcl (j * 6 + 5) (by omega)]; exact hxc 5 (by omega)
     have HXW := Lib.hid (HW.out x (by rw [he]; simp))
     have hwx : ewt x ≤ 60000 := HXW.out.2.1
     have hwd : ewt x + ewts dn ≤ ewts es := by rw [he, ewts_append]; simp only [ewts]; omega
     have HJ := Lib.hid hj
     have HKY : Hid (∀ w', SF w.heap.size wr w' → StrRow (· ≠ w.heap.size) w' (.slice ak nk ck) x.keys) := fun w' h => Row.move hsk fun g t c hg hb => ⟨hg, h.keep hb hg⟩
     have HND : Hid (∀ w', SF w.heap.size wr w' → NodeIs (· ≠ w.heap.size) w' 43 x.value [.int .i64 x.value.kind, .string ⟨x.value.text.toArray⟩, .slice A2 k2 m2, .slice A1 k1 m1]) := fun w' h => NodeIs.move (fun g t c hg hb => ⟨hg, h.keep hb hg⟩) _ hnode
     have HE0 := Lib.hid he
     have HDOC0 := Lib.hid hdoc0
     have HOB := Lib.hid hob
     have HST0 := Lib.hid hst0
     have HF0 := Lib.hid hf0
     have hnl' : (j : Int) < n := by omega
     have hj0 : (0 : Int) ≤ (j : Int) := by omega
     have hebne : wr.heap.size ≠ w.heap.size := by have := hst0.1.lt; omega
     have hsbl : w.heap.size < wr.heap.size := hst0.1.lt
     have HBX0 : Hid (Blk (wr.alloc (.cells #[.int .i64 x.kind, .slice ak nk ck, .int .i64 x.value.kind, .string ⟨x.value.text.toArray⟩, .slice A2 k2 m2, .slice A1 k1 m1] 45)) wr.heap.size 45 #[.int .i64 x.kind, .slice ak nk ck, .int .i64 x.value.kind, .string ⟨x.value.text.toArray⟩, .slice A2 k2 m2, .slice A1 k1 m1]) := Blk.new wr 45 _
     obtain ⟨wrO, hWO⟩ : ∃ wrO, wr = wrO := ⟨_, rfl⟩
     have HWO := Lib.hid hWO
     rw [hWO] at HKY HND
     clear hWO
     obtain ⟨eb, hEB⟩ : ∃ eb, wr.heap.size = eb := ⟨_, rfl⟩
     rw [hEB] at hebne HBX0
     clear hj hst0 hf0 hob hdoc0 he hsk hnode hvk hri hxc hcl hrow hexs
     go_wp2_with fail
     obtain ⟨g0, hg0⟩ := InG.start cd.length a1
     have HG0 := Lib.hid hg0
     clear hg0
     go_loopg [6] g0 (fun gg s6 wx => Hid (WiRel dn (.slice A cm c) cd w wrO eb #[.int .i64 x.kind, .slice ak nk ck, .int .i64 x.value.kind, .string ⟨x.value.text.toArray⟩, .slice A2 k2 m2, .slice A1 k1 m1] gg s6 wx))
     case atStart => exact ⟨a1, L0, HG0.out, rfl, HDOC0.out, HOB.out.inb, HST0.out.alloc _, HF0.out.trans (SF.alloc (Nat.le_of_lt hsbl) _), by rw [← HWO.out]; exact SF.alloc (Nat.le_of_lt hsbl) _, HBX0.out⟩
     case round =>
       obtain ⟨a2, L, hin, rfl, hdoc, hib, hst, hf, hfr, hbx⟩ := hrel.out
       clear hrel
       obtain ⟨hbd1, hbd2⟩ := hib.bound
       have hLm : L.length ≤ 2000000 := by omega
       have ham : a2 ≤ 2000000 := by omega
       have HIN := Lib.hid hin
       have HDOC := Lib.hid hdoc
       have HIB := Lib.hid hib
       have HST := Lib.hid hst
       have HF := Lib.hid hf
       have HFR := Lib.hid hfr
       have HBX := Lib.hid hbx
       clear hin hdoc hib hst hf hfr hbx hbd1 hbd2
       go_wp2_with fail
       refine (pick_any HST.out (by omega) 5 (by omega) (by omega)).mono ?_
       rintro e w1 ⟨rfl, hst1, hf1⟩
       have HST1 := Lib.hid hst1
       have HF1 := Lib.hid (HF.out.trans hf1)
       have HFR1 := Lib.hid (HFR.out.trans hf1)
       have HBX1 := Lib.hid (hf1.keep HBX.out hebne)
       clear hst1 hf1
       obtain ⟨p, hp⟩ : ∃ p, pickV cd a2 5 = p := ⟨_, rfl⟩
       rw [hp]
       have HP := Lib.hid hp
       clear hp
       by_cases hp0 : p = 0
       · subst hp0
         go_wp2_with fail
         refine (end_any _ _ _ _ _ HST1.out (by omega)).mono ?_
         rintro e w2 ⟨u, rfl, hu, hst2, hf2⟩
         have hul := hu.2
         have HU := Lib.hid hu.1
         have HST2 := Lib.hid hst2
         have HF2 := Lib.hid (HF1.out.trans hf2)
         have HFR2 := Lib.hid (HFR1.out.trans hf2)
         have HBX2 := Lib.hid (hf2.keep HBX1.out hebne)
         have hsum : ¬ (9223372036854775807 < L.length + u.length) := by omega
         clear hu hst2 hf2
         go_wp2_with fail
         obtain ⟨g', hg1, hg2⟩ := HIN.out.step (pick_zero HP.out)
         go_roundg g'
         case measure => exact hg1
         case rel =>
           refine ⟨a2 + 4, L ++ u, hg2, congrArg Value.string (str2 _ _), ?_, HIB.out.step (pick_zero HP.out) (by simp; omega), HST2.out, HF2.out, HFR2.out, HBX2.out⟩
           have h := HDOC.out.append (DocTxt.end_ HU.out (DocTxt.nil (z := [])))
           simpa using h
       · have fp : ((p : Int) == 0) = false := by simp; omega
         have fp' : ¬ ((p : Int) = 0) := by omega
         go_wp2_with fail
         refine (blanks_any HST1.out (by omega)).mono ?_
         rintro e w2 ⟨b0, rfl, hb0, hst2, hf2⟩
         have hb0l := hb0.2
         have HB0 := Lib.hid hb0.1
         have HST2 := Lib.hid hst2
         have HF2 := Lib.hid (HF1.out.trans hf2)
         have HFR2 := Lib.hid (HFR1.out.trans hf2)
         have hbx2 := hf2.keep HBX1.out hebne
         have HBX2 := Lib.hid hbx2
         have z0 : w2.cell? ⟨eb, 0, none⟩ = some (.int .i64 x.kind) := by have := hbx2.cell 0; simpa using this
         have z1 : w2.cell? ⟨eb, 1, none⟩ = some (.slice ak nk ck) := by have := hbx2.cell 1; simpa using this
         have z2 : w2.cell? ⟨eb, 2, none⟩ = some (.int .i64 x.value.kind) := by have := hbx2.cell 2; simpa using this
         have z3 : w2.cell? ⟨eb, 3, none⟩ = some (.string ⟨x.value.text.toArray⟩) := by have := hbx2.cell 3; simpa using this
         have z4 : w2.cell? ⟨eb, 4, none⟩ = some (.slice A2 k2 m2) := by have := hbx2.cell 4; simpa using this
         have z5 : w2.cell? ⟨eb, 5, none⟩ = some (.slice A1 k1 m1) := by have := hbx2.cell 5; simpa using this
         obtain ⟨L1, hL1⟩ : ∃ L1, L ++ b0 = L1 := ⟨_, rfl⟩
         have hcat : (⟨L.toArray⟩ : ByteArray) ++ ⟨b0.toArray⟩ = ⟨L1.toArray⟩ := by rw [← hL1, str2]
         have hL1m : L1.length ≤ 2000002 := by rw [← hL1]; simp; omega
         have hL1l : L1.length ≤ L.length + 2 := by rw [← hL1]; simp; omega
         have HL1 := Lib.hid hL1
         have hsum : ¬ (9223372036854775807 < L.length + b0.length) := by omega
         have hebl := hbx2.lt
         clear hb0 hst2 hf2 hbx2 hL1
         have hk012 : x.kind = 0 ∨ x.kind = 1 ∨ x.kind = 2 := by
           rcases HXW.out.1.2.1 with ⟨h, _⟩ | h | h
           · exact .inl h
           · exact .inr (.inl h)
           · exact .inr (.inr h)
         rcases hk012 with hk | hk | hk
         · have hk' : (x.kind : Int) = 0 := by omega
           obtain ⟨kws, hkne, hk3, hkA, hkk⟩ := HXW.out.1.1
           have hkle : kwt kws ≤ kwb x.keys := by rw [hkk]; exact kwt_le kws
           have hewt : kwb x.keys + wt x.value + 100 ≤ 60000 := hwx
           have hval : x.value.keys = [] ∧ VOk 3 x.value := by
             rcases HXW.out.1.2.1 with ⟨_, h1, h2, _⟩ | h | h
             · exact ⟨h1, h2⟩
             · omega
             · omega
           have HKK := Lib.hid (And.intro hkne (And.intro hkA hkk))
           have HK3 := Lib.hid hk3
           have HVAL := Lib.hid hval
           have HSTA : Hid (Sty w2.drew w.heap.size (.slice A cm c) cd (a2 + 1 + 1)) := HST2.out.drewN 1
           have HBXA : Hid (Blk w2.drew eb 45 #[.int .i64 x.kind, .slice ak nk ck, .int .i64 x.value.kind, .string ⟨x.value.text.toArray⟩, .slice A2 k2 m2, .slice A1 k1 m1]) := HBX2.out
           have HFA : Hid (SF w.heap.size w w2.drew) := HF2.out.trans (SF.drewN _ w2 1)
           have HFRA := Lib.hid (HFR2.out.trans (SF.drewN _ w2 1))
           have HKC : Hid (∀ w' a', Sty w' w.heap.size (.slice A cm c) cd a' → SF w.heap.size wrO w' → a' ≤ 3000000 → Calls Try.prog 31 #[.pointer (some ⟨w.heap.size, 0, none⟩), .slice ak nk ck] w' (Told (KeyTold kws) w.heap.size (.slice A cm c) cd a' (kwt kws) w')) := by
             intro w' a' h1 h2 h3
             have h4 := HKY.out w' h2
             rw [hkk] at h4
             exact key_any h1 h4 (fun k hk => (hkA k hk).2) hkne (by omega) (by omega)
           have HVC : Hid (∀ w' a', Sty w' w.heap.size (.slice A cm c) cd a' → SF w.heap.size wrO w' → a' ≤ 3000000 → Calls Try.prog 32 #[.pointer (some ⟨w.heap.size, 0, none⟩), .agg #[.int .i64 x.value.kind, .string ⟨x.value.text.toArray⟩, .slice A2 k2 m2, .slice A1 k1 m1]] w' (Told (ValTold 3 x.value) w.heap.size (.slice A cm c) cd a' (wt x.value) w')) :=
             fun w' a' h1 h2 h3 => valC_all w.heap.size (.slice A cm c) cd 3 x.value hval.2 (by omega) w' a' _ h1 (HND.out w' h2) (by omega)
           clear hkne hkA hkk hk3 hval
           go_wp2_with fail
           clear hk'
           go_region_held3 (fun w' => w'.cell? ⟨eb, 1, none⟩ = some (.slice ak nk ck) ∧ w'.cell? ⟨eb, 2, none⟩ = some (.int .i64 x.value.kind) ∧ w'.cell? ⟨eb, 3, none⟩ = some (.string ⟨x.value.text.toArray⟩) ∧ w'.cell? ⟨eb, 4, none⟩ = some (.slice A2 k2 m2) ∧ w'.cell? ⟨eb, 5, none⟩ = some (.slice A1 k1 m1))
             (first | assumption | (refine ⟨?_, ?_, ?_, ?_, ?_⟩ <;> assumption) | go_keep)
             (first
               | (go_at_call 32
                  refine (HVC.out _ _ HSTD.out HFRD.out (by omega)).mono ?_
                  rintro e w5 ⟨t, a5, rfl, ht, h5, h6, hst5, hf5⟩
                  have hbx5 := hf5.keep HBXD.out hebne
                  have v1 : (w5).cell? ⟨eb, 1, none⟩ = some (.slice ak nk ck) := by have := hbx5.cell 1; simpa using this
                  have v2 : (w5).cell? ⟨eb, 2, none⟩ = some (.int .i64 x.value.kind) := by have := hbx5.cell 2; simpa using this
                  have v3 : (w5).cell? ⟨eb, 3, none⟩ = some (.string ⟨x.value.text.toArray⟩) := by have := hbx5.cell 3; simpa using this
                  have v4 : (w5).cell? ⟨eb, 4, none⟩ = some (.slice A2 k2 m2) := by have := hbx5.cell 4; simpa using this
                  have v5 : (w5).cell? ⟨eb, 5, none⟩ = some (.slice A1 k1 m1) := by have := hbx5.cell 5; simpa using this
                  have htl := ht.2
                  have hsum4 : ¬ (9223372036854775807 < kk.length + b1.length + 1 + b2.length + t.length) := by omega
                  have hsum5 : ¬ (9223372036854775807 < L1.length + (kk.length + b1.length + 1 + b2.length + t.length)) := by omega
                  have HT := Lib.hid ht.1
                  have HSTE := Lib.hid hst5
                  have HFE := Lib.hid (HFD.out.trans hf5)
                  clear ht hbx5 hst5 hf5)
               | (go_at_call 30
                  refine (blanks_any HSTC.out (by omega)).mono ?_
                  rintro e w5 ⟨b2, rfl, hb2, hst5, hf5⟩
                  have hbx5 := hf5.keep HBXC.out hebne
                  have v1 : (w5).cell? ⟨eb, 1, none⟩ = some (.slice ak nk ck) := by have := hbx5.cell 1; simpa using this
                  have v2 : (w5).cell? ⟨eb, 2, none⟩ = some (.int .i64 x.value.kind) := by have := hbx5.cell 2; simpa using this
                  have v3 : (w5).cell? ⟨eb, 3, none⟩ = some (.string ⟨x.value.text.toArray⟩) := by have := hbx5.cell 3; simpa using this
                  have v4 : (w5).cell? ⟨eb, 4, none⟩ = some (.slice A2 k2 m2) := by have := hbx5.cell 4; simpa using this
                  have v5 : (w5).cell? ⟨eb, 5, none⟩ = some (.slice A1 k1 m1) := by have := hbx5.cell 5; simpa using this
                  have hb2l := hb2.2
                  have hsum3 : ¬ (9223372036854775807 < kk.length + b1.length + 1 + b2.length) := by omega
                  have HB2 := Lib.hid hb2.1
                  have HBXD := Lib.hid hbx5
                  have HSTD := Lib.hid hst5
                  have HFD := Lib.hid (HFC.out.trans hf5)
                  have HFRD := Lib.hid (HFRC.out.trans hf5)
                  clear hb2 hbx5 hst5 hf5)
               | (go_at_call 30
                  refine (blanks_any HSTB.out (by omega)).mono ?_
                  rintro e w3 ⟨b1, rfl, hb1, hst5, hf5⟩
                  have hbx5 := hf5.keep HBXB.out hebne
                  have v1 : (w3).cell? ⟨eb, 1, none⟩ = some (.slice ak nk ck) := by have := hbx5.cell 1; simpa using this
                  have v2 : (w3).cell? ⟨eb, 2, none⟩ = some (.int .i64 x.value.kind) := by have := hbx5.cell 2; simpa using this
                  have v3 : (w3).cell? ⟨eb, 3, none⟩ = some (.string ⟨x.value.text.toArray⟩) := by have := hbx5.cell 3; simpa using this
                  have v4 : (w3).cell? ⟨eb, 4, none⟩ = some (.slice A2 k2 m2) := by have := hbx5.cell 4; simpa using this
                  have v5 : (w3).cell? ⟨eb, 5, none⟩ = some (.slice A1 k1 m1) := by have := hbx5.cell 5; simpa using this
                  have hb1l := hb1.2
                  have hsum1 : ¬ (9223372036854775807 < kk.length + b1.length) := by omega
                  have hsum2 : ¬ (9223372036854775807 < kk.length + b1.length + 1) := by omega
                  have HB1 := Lib.hid hb1.1
                  have HBXC := Lib.hid hbx5
                  have HSTC := Lib.hid hst5
                  have HFC := Lib.hid (HFB.out.trans hf5)
                  have HFRC := Lib.hid (HFRB.out.trans hf5)
                  clear hb1 hbx5 hst5 hf5)
               | (go_at_call 31
                  refine (HKC.out _ _ HSTA.out HFRA.out (by omega)).mono ?_
                  rintro e w4 ⟨kk, a4, rfl, hk9, h3, h4, hst5, hf5⟩
                  have hbx5 := hf5.keep HBXA.out hebne
                  have v1 : (w4).cell? ⟨eb, 1, none⟩ = some (.slice ak nk ck) := by have := hbx5.cell 1; simpa using this
                  have v2 : (w4).cell? ⟨eb, 2, none⟩ = some (.int .i64 x.value.kind) := by have := hbx5.cell 2; simpa using this
                  have v3 : (w4).cell? ⟨eb, 3, none⟩ = some (.string ⟨x.value.text.toArray⟩) := by have := hbx5.cell 3; simpa using this
                  have v4 : (w4).cell? ⟨eb, 4, none⟩ = some (.slice A2 k2 m2) := by have := hbx5.cell 4; simpa using this
                  have v5 : (w4).cell? ⟨eb, 5, none⟩ = some (.slice A1 k1 m1) := by have := hbx5.cell 5; simpa using this
                  have hkkl := hk9.2
                  have HK := Lib.hid hk9.1
                  have HBXB := Lib.hid hbx5
                  have HSTB := Lib.hid hst5
                  have HFB := Lib.hid (HFA.out.trans hf5)
                  have HFRB := Lib.hid (HFRA.out.trans hf5)
                  clear hk9 hbx5 hst5 hf5))
           all_goals
             go_wp2_with fail
             refine (end_any _ _ _ _ _ HSTE.out (by omega)).mono ?_
             rintro e w6 ⟨u, rfl, hu, hst6, hf6⟩
             have hul := hu.2
             have HU := Lib.hid hu.1
             have HST6 := Lib.hid hst6
             have HF6 := Lib.hid (HFE.out.trans hf6)
             have hsumU : ¬ (9223372036854775807 < (L1.length + (kk.length + b1.length + 1 + b2.length + t.length)) + u.length) := by omega
             clear hu hst6 hf6
             go_wp2_with fail
             go_roundg rest.length
             case measure => (rw [hgk]; simp)
             case rel =>
               have hjj := HJ.out
               refine ⟨dn ++ [x], rest, a5 + 3, L ++ (b0 ++ ((kk ++ (b1 ++ 61 :: (b2 ++ t))) ++ u)), by rw [HE0.out]; simp, rfl, by simp [hjj], ?_, ?_, ?_, HST6.out, HF6.out⟩
               · have h9 := congrArg Value.string (wr_str2 L1 kk b1 b2 t u)
                 rw [← HL1.out, List.append_assoc] at h9
                 rw [← HL1.out]
                 exact h9
               · refine HDOC.out.more HB0.out (.inl ⟨hk, HVAL.out.1, kk, b1, b2, t, by show KeyTxt x.keys kk; rw [HKK.out.2.2]; exact HK.out, HB1.out, HB2.out, HT.out.withKeys _, rfl⟩) ?_ ?_ HU.out
                 · simp only [List.length_append, List.length_cons, List.length_nil]
                   omega
                 · rw [HKK.out.2.2, List.length_map]
                   have := HK3.out
                   omega
               · rw [ewts_append]
                 have hE : ewts [x] = ewt x := by simp [ewts]
                 rw [hE]
                 refine HIB.out.out (k := kwb x.keys + wt x.value + 70) (by omega) (by omega) ?_ (by unfold ewt; omega)
                 simp only [List.length_append, List.length_cons, List.length_nil]
                 omega
         · have hk' : (x.kind : Int) = 1 := by omega
           obtain ⟨kws, hkne, hk3, hkA, hkk⟩ := HXW.out.1.1
           have hkle : kwt kws ≤ kwb x.keys := by rw [hkk]; exact kwt_le kws
           have hewt : kwb x.keys + wt x.value + 100 ≤ 60000 := hwx
           have HKK := Lib.hid (And.intro hkne (And.intro hkA hkk))
           have HK3 := Lib.hid hk3
           have HSTA : Hid (Sty w2.drew w.heap.size (.slice A cm c) cd (a2 + 1 + 1)) := HST2.out.drewN 1
           have HBXA : Hid (Blk w2.drew eb 45 #[.int .i64 x.kind, .slice ak nk ck, .int .i64 x.value.kind, .string ⟨x.value.text.toArray⟩, .slice A2 k2 m2, .slice A1 k1 m1]) := HBX2.out
           have HFA : Hid (SF w.heap.size w w2.drew) := HF2.out.trans (SF.drewN _ w2 1)
           have HFRA := Lib.hid (HFR2.out.trans (SF.drewN _ w2 1))
           have HKC : Hid (∀ w' a', Sty w' w.heap.size (.slice A cm c) cd a' → SF w.heap.size wrO w' → a' ≤ 3000000 → Calls Try.prog 31 #[.pointer (some ⟨w.heap.size, 0, none⟩), .slice ak nk ck] w' (Told (KeyTold kws) w.heap.size (.slice A cm c) cd a' (kwt kws) w')) := by
             intro w' a' h1 h2 h3
             have h4 := HKY.out w' h2
             rw [hkk] at h4
             exact key_any h1 h4 (fun k hk => (hkA k hk).2) hkne (by omega) (by omega)
           clear hkne hkA hkk hk3
           go_wp2_with fail
           clear hk'
           go_region_held3 (fun w' => w'.cell? ⟨eb, 1, none⟩ = some (.slice ak nk ck))
             (first | assumption | go_keep)
             (first
               | (go_at_call 31
                  refine (HKC.out _ _ HSTB.out HFRB.out (by omega)).mono ?_
                  rintro e w4 ⟨kk, a4, rfl, hk9, h3, h4, hst4, hf4⟩
                  have hbx4 := hf4.keep HBXB.out hebne
                  have y1 : w4.cell? ⟨eb, 1, none⟩ = some (.slice ak nk ck) := by have := hbx4.cell 1; simpa using this
                  have hkkl := hk9.2
                  have hsum2 : ¬ (9223372036854775807 < 1 + b1.length + kk.length) := by omega
                  have HK := Lib.hid hk9.1
                  have HBXC := Lib.hid hbx4
                  have HSTC := Lib.hid hst4
                  have HFC := Lib.hid (HFB.out.trans hf4)
                  have HFRC := Lib.hid (HFRB.out.trans hf4)
                  clear hk9 hbx4 hst4 hf4)
               | (go_at_call 30
                  refine (blanks_any HSTC.out (by omega)).mono ?_
                  rintro e w5 ⟨b2, rfl, hb2, hst5, hf5⟩
                  have hbx5 := hf5.keep HBXC.out hebne
                  have v1 : w5.cell? ⟨eb, 1, none⟩ = some (.slice ak nk ck) := by have := hbx5.cell 1; simpa using this
                  have hb2l := hb2.2
                  have hsum3 : ¬ (9223372036854775807 < 1 + b1.length + kk.length + b2.length) := by omega
                  have hsum4 : ¬ (9223372036854775807 < 1 + b1.length + kk.length + b2.length + 1) := by omega
                  have hsum5 : ¬ (9223372036854775807 < L1.length + (1 + b1.length + kk.length + b2.length + 1)) := by omega
                  have HB2 := Lib.hid hb2.1
                  have HSTD := Lib.hid hst5
                  have HFD := Lib.hid (HFC.out.trans hf5)
                  clear hb2 hbx5 hst5 hf5)
               | (go_at_call 30
                  refine (blanks_any HSTA.out (by omega)).mono ?_
                  rintro e w3 ⟨b1, rfl, hb1, hst3, hf3⟩
                  have hbx3 := hf3.keep HBXA.out hebne
                  have x1 : w3.cell? ⟨eb, 1, none⟩ = some (.slice ak nk ck) := by have := hbx3.cell 1; simpa using this
                  have hb1l := hb1.2
                  have hsum1 : ¬ (9223372036854775807 < 1 + b1.length) := by omega
                  have HB1 := Lib.hid hb1.1
                  have HBXB := Lib.hid hbx3
                  have HSTB := Lib.hid hst3
                  have HFB := Lib.hid (HFA.out.trans hf3)
                  have HFRB := Lib.hid (HFRA.out.trans hf3)
                  clear hb1 hbx3 hst3 hf3))
           all_goals
             go_wp2_with fail
             refine (end_any _ _ _ _ _ HSTD.out (by omega)).mono ?_
             rintro e w6 ⟨u, rfl, hu, hst6, hf6⟩
             have hul := hu.2
             have HU := Lib.hid hu.1
             have HST6 := Lib.hid hst6
             have HF6 := Lib.hid (HFD.out.trans hf6)
             have hsumU : ¬ (9223372036854775807 < (L1.length + (1 + b1.length + kk.length + b2.length + 1)) + u.length) := by omega
             clear hu hst6 hf6
             go_wp2_with fail
             go_roundg rest.length
             case measure => (rw [hgk]; simp)
             case rel =>
               have hjj := HJ.out
               refine ⟨dn ++ [x], rest, (a4 + 1) + 3, L ++ (b0 ++ (([91] ++ (b1 ++ (kk ++ (b2 ++ [93])))) ++ u)), by rw [HE0.out]; simp, rfl, by simp [hjj], ?_, ?_, ?_, HST6.out, HF6.out⟩
               · have h9 := congrArg Value.string (wr_str L1 [91] b1 kk b2 [93] u)
                 rw [← HL1.out, List.append_assoc] at h9
                 rw [← HL1.out]
                 exact h9
               · refine HDOC.out.more HB0.out (.inr (.inl ⟨hk, b1, kk, b2, HB1.out, HB2.out, by rw [HKK.out.2.2]; exact HK.out, by simp⟩)) ?_ ?_ HU.out
                 · simp only [List.length_append, List.length_cons, List.length_nil]
                   omega
                 · rw [HKK.out.2.2, List.length_map]
                   have := HK3.out
                   omega
               · rw [ewts_append]
                 have hE : ewts [x] = ewt x := by simp [ewts]
                 rw [hE]
                 refine HIB.out.out (k := kwb x.keys + wt x.value + 70) (by omega) (by omega) ?_ (by unfold ewt; omega)
                 simp only [List.length_append, List.length_cons, List.length_nil]
                 omega
         · have hk' : (x.kind : Int) = 2 := by omega
           obtain ⟨kws, hkne, hk3, hkA, hkk⟩ := HXW.out.1.1
           have hkle : kwt kws ≤ kwb x.keys := by rw [hkk]; exact kwt_le kws
           have hewt : kwb x.keys + wt x.value + 100 ≤ 60000 := hwx
           have HKK := Lib.hid (And.intro hkne (And.intro hkA hkk))
           have HK3 := Lib.hid hk3
           have HSTA : Hid (Sty w2.drew w.heap.size (.slice A cm c) cd (a2 + 1 + 1)) := HST2.out.drewN 1
           have HBXA : Hid (Blk w2.drew eb 45 #[.int .i64 x.kind, .slice ak nk ck, .int .i64 x.value.kind, .string ⟨x.value.text.toArray⟩, .slice A2 k2 m2, .slice A1 k1 m1]) := HBX2.out
           have HFA : Hid (SF w.heap.size w w2.drew) := HF2.out.trans (SF.drewN _ w2 1)
           have HFRA := Lib.hid (HFR2.out.trans (SF.drewN _ w2 1))
           have HKC : Hid (∀ w' a', Sty w' w.heap.size (.slice A cm c) cd a' → SF w.heap.size wrO w' → a' ≤ 3000000 → Calls Try.prog 31 #[.pointer (some ⟨w.heap.size, 0, none⟩), .slice ak nk ck] w' (Told (KeyTold kws) w.heap.size (.slice A cm c) cd a' (kwt kws) w')) := by
             intro w' a' h1 h2 h3
             have h4 := HKY.out w' h2
             rw [hkk] at h4
             exact key_any h1 h4 (fun k hk => (hkA k hk).2) hkne (by omega) (by omega)
           clear hkne hkA hkk hk3
           go_wp2_with fail
           clear hk'
           go_region_held3 (fun w' => w'.cell? ⟨eb, 1, none⟩ = some (.slice ak nk ck))
             (first | assumption | go_keep)
             (first
               | (go_at_call 31
                  refine (HKC.out _ _ HSTB.out HFRB.out (by omega)).mono ?_
                  rintro e w4 ⟨kk, a4, rfl, hk9, h3, h4, hst4, hf4⟩
                  have hbx4 := hf4.keep HBXB.out hebne
                  have y1 : w4.cell? ⟨eb, 1, none⟩ = some (.slice ak nk ck) := by have := hbx4.cell 1; simpa using this
                  have hkkl := hk9.2
                  have hsum2 : ¬ (9223372036854775807 < 2 + b1.length + kk.length) := by omega
                  have HK := Lib.hid hk9.1
                  have HBXC := Lib.hid hbx4
                  have HSTC := Lib.hid hst4
                  have HFC := Lib.hid (HFB.out.trans hf4)
                  have HFRC := Lib.hid (HFRB.out.trans hf4)
                  clear hk9 hbx4 hst4 hf4)
               | (go_at_call 30
                  refine (blanks_any HSTC.out (by omega)).mono ?_
                  rintro e w5 ⟨b2, rfl, hb2, hst5, hf5⟩
                  have hbx5 := hf5.keep HBXC.out hebne
                  have v1 : w5.cell? ⟨eb, 1, none⟩ = some (.slice ak nk ck) := by have := hbx5.cell 1; simpa using this
                  have hb2l := hb2.2
                  have hsum3 : ¬ (9223372036854775807 < 2 + b1.length + kk.length + b2.length) := by omega
                  have hsum4 : ¬ (9223372036854775807 < 2 + b1.length + kk.length + b2.length + 2) := by omega
                  have hsum5 : ¬ (9223372036854775807 < L1.length + (2 + b1.length + kk.length + b2.length + 2)) := by omega
                  have HB2 := Lib.hid hb2.1
                  have HSTD := Lib.hid hst5
                  have HFD := Lib.hid (HFC.out.trans hf5)
                  clear hb2 hbx5 hst5 hf5)
               | (go_at_call 30
                  refine (blanks_any HSTA.out (by omega)).mono ?_
                  rintro e w3 ⟨b1, rfl, hb1, hst3, hf3⟩
                  have hbx3 := hf3.keep HBXA.out hebne
                  have x1 : w3.cell? ⟨eb, 1, none⟩ = some (.slice ak nk ck) := by have := hbx3.cell 1; simpa using this
                  have hb1l := hb1.2
                  have hsum1 : ¬ (9223372036854775807 < 2 + b1.length) := by omega
                  have HB1 := Lib.hid hb1.1
                  have HBXB := Lib.hid hbx3
                  have HSTB := Lib.hid hst3
                  have HFB := Lib.hid (HFA.out.trans hf3)
                  have HFRB := Lib.hid (HFRA.out.trans hf3)
                  clear hb1 hbx3 hst3 hf3))
           all_goals
             go_wp2_with fail
             refine (end_any _ _ _ _ _ HSTD.out (by omega)).mono ?_
             rintro e w6 ⟨u, rfl, hu, hst6, hf6⟩
             have hul := hu.2
             have HU := Lib.hid hu.1
             have HST6 := Lib.hid hst6
             have HF6 := Lib.hid (HFD.out.trans hf6)
             have hsumU : ¬ (9223372036854775807 < (L1.length + (2 + b1.length + kk.length + b2.length + 2)) + u.length) := by omega
             clear hu hst6 hf6
             go_wp2_with fail
             go_roundg rest.length
             case measure => (rw [hgk]; simp)
             case rel =>
               have hjj := HJ.out
               refine ⟨dn ++ [x], rest, (a4 + 1) + 3, L ++ (b0 ++ (([91, 91] ++ (b1 ++ (kk ++ (b2 ++ [93, 93])))) ++ u)), by rw [HE0.out]; simp, rfl, by simp [hjj], ?_, ?_, ?_, HST6.out, HF6.out⟩
               · have h9 := congrArg Value.string (wr_str L1 [91, 91] b1 kk b2 [93, 93] u)
                 rw [← HL1.out, List.append_assoc] at h9
                 rw [← HL1.out]
                 exact h9
               · refine HDOC.out.more HB0.out (.inr (.inr ⟨hk, b1, kk, b2, HB1.out, HB2.out, by rw [HKK.out.2.2]; exact HK.out, by simp⟩)) ?_ ?_ HU.out
                 · simp only [List.length_append, List.length_cons, List.length_nil]
                   omega
                 · rw [HKK.out.2.2, List.length_map]
                   have := HK3.out
                   omega
               · rw [ewts_append]
                 have hE : ewts [x] = ewt x := by simp [ewts]
                 rw [hE]
                 refine HIB.out.out (k := kwb x.keys + wt x.value + 70) (by omega) (by omega) ?_ (by unfold ewt; omega)
                 simp only [List.length_append, List.length_cons, List.length_nil]
                 omega
end Go.Proofs.Ytnlkbbpmpgdmiaa
