/- parseVal: all values; Expressions: heads of tables, keys with values, the ends of lines; An expression with its line's end; A document's text, and NextExpression over it. -/
import Derived.Test.YtnlkbbpmpgdmiaaXAL
import Derived.Test.YtnlkbbpmpgdmiaaXAM
import Derived.Test.YtnlkbbpmpgdmiaaXAC
namespace Go.Proofs.Ytnlkbbpmpgdmiaa
open Go.RowKit
set_option linter.unusedVariables false
set_option linter.unusedSimpArgs false
theorem PS.nestTo {B g b cap : Nat} {kc : Bool} {D : List UInt8} {left err : Value} {nest : Nat} {ns : List Nd} {w : World} (h : PS B w g b cap kc D left ns err nest) (n : Nat) :
   PS B (w.setCell ⟨g, 5, none⟩ (.int .i64 n)) g b cap kc D left ns err n ∧ Fr B w (w.setCell ⟨g, 5, none⟩ (.int .i64 n)) := by
 obtain ⟨A, V, hg, hBg, harn, hBw⟩ := h
 refine ⟨⟨A, V, hg.set_ 5 _, hBg, ?_, by simpa using hBw⟩, (Below.refl B w).setCell hBg _, Kp.set52 hg 5 _⟩
 rcases harn with h | ⟨gn, ncap, cur, junk, h1, hgn, h2⟩
 · exact .inl h
 · exact .inr ⟨gn, ncap, cur, junk, h1, hgn.far (Ne.symm (hg.ne_ hgn (by decide))) _, h2⟩
theorem PS.cell5 {B g b cap : Nat} {kc : Bool} {D : List UInt8} {left err : Value} {nest : Nat} {ns : List Nd} {w : World} (h : PS B w g b cap kc D left ns err nest) :
   w.cell? ⟨g, 5, none⟩ = some (.int .i64 nest) ∧ w.frozen? ⟨g, 5, none⟩ = false ∧ g < w.heap.size := by
 obtain ⟨A, V, hg, hBg, harn, hBw⟩ := h
 exact ⟨by have := hg.cell 5; simpa using this, hg.frozen 5, hg.lt⟩
set_option maxRecDepth 100000 in
set_option maxHeartbeats 1000000 in
theorem pv_arr {I : N → List UInt8 → Prop} {lim : Nat} (hI : ItOk 69 I ((8 : Nat) = 9) lim) (hIh : ∀ {v t}, I v t → ∃ c r, t = c :: r ∧ Hd c) {items : List N} {ks : List (List UInt8)} {B g b cap k : Nat} {D s rest : List UInt8} {left err : Value} {nest : Nat} {ns : List Nd} {w : World} {a : Addr} (hps : PS B w g b cap false D left ns err nest) (hlim : lim < 9999) (hnest : nest + 1 ≤ lim) (hi : Inp w b cap D)
   (ht : Tail I 93 false items s) (hrest : 0 < rest.length) (hp : Pos b cap D (91 :: (s ++ rest)) a k) (hn : ns.length + (s.length + 1) ≤ 300000) (m : Nat) (hm : m = (91 :: s ++ rest).length) :
   Calls Try.prog 69 #[.pointer (some ⟨g, 0, none⟩), .slice (some a) m k] w (VRead (.mk 8 [] items ks) (91 :: s).length B g b cap false D left ns err nest rest w) := by
 have ha := hp.addr (by simp)
 have c0 := (hi.doc.suffix hp.suf).head.1
 rw [← ha] at c0
 have hml : 1 ≤ m := by rw [hm]; simp
 obtain ⟨c5, f5, hgl⟩ := hps.cell5
 obtain ⟨hps1, hf1⟩ := hps.nestTo (nest + 1)
 have HC := Lib.hid (fun w1 (h : PS B w1 g b cap false D left ns err (nest + 1)) (h2 : Inp w1 b cap D) => (list77_any (ks := ks) rfl hI hIh) h hnest h2 ht hp hrest hn m (by rw [hm]; simp))
 have HP := Lib.hid hp
 have HI := Lib.hid hi
 have HPS1 := Lib.hid hps1
 have HF1 := Lib.hid hf1
 have hn1 : ¬ ((10000 : Int) ≤ (nest : Int)) := by omega
 clear hp hi hps hps1 hf1 hm ha ht
 go_enter Try.func69, Try.ntmps69
 go_wp2_with fail
 refine (HC.out _ HPS1.out (HI.out.kp HF1.out.2)).mono ?_
 rintro e w2 ⟨xs, a2, k2, rfl, hp2, hps2, hv2, hf2, hl2⟩
 obtain ⟨d5, e5, hgl2⟩ := hps2.cell5
 have HP2 := Lib.hid hp2
 have HPS2 := Lib.hid hps2
 have HV2 := Lib.hid hv2
 have HF2 := Lib.hid hf2
 clear hp2 hps2 hv2 hf2
 go_wp2_with fail
 go_ret3
 obtain ⟨hps3, hf3⟩ := HPS2.out.nestTo nest
 exact ⟨xs, a2, k2, rfl, HP2.out, hps3, VNds.k5 hf3.2.k5 _ HV2.out, (HF1.out.trans HF2.out).trans hf3, by simpa using hl2⟩
set_option maxRecDepth 100000 in
set_option maxHeartbeats 1000000 in
theorem pv_tbl {I : N → List UInt8 → Prop} {lim : Nat} (hI : ItOk 63 I ((9 : Nat) = 9) lim) (hIh : ∀ {v t}, I v t → ∃ c r, t = c :: r ∧ Hd c) {items : List N} {ks : List (List UInt8)} {B g b cap k : Nat} {D s rest : List UInt8} {left err : Value} {nest : Nat} {ns : List Nd} {w : World} {a : Addr} (hps : PS B w g b cap false D left ns err nest) (hlim : lim < 9999) (hnest : nest + 1 ≤ lim) (hi : Inp w b cap D)
   (ht : Tail I 125 false items s) (hrest : 0 < rest.length) (hp : Pos b cap D (123 :: (s ++ rest)) a k) (hn : ns.length + (s.length + 1) ≤ 300000) (m : Nat) (hm : m = (123 :: s ++ rest).length) :
   Calls Try.prog 69 #[.pointer (some ⟨g, 0, none⟩), .slice (some a) m k] w (VRead (.mk 9 [] items ks) (123 :: s).length B g b cap false D left ns err nest rest w) := by
 have ha := hp.addr (by simp)
 have c0 := (hi.doc.suffix hp.suf).head.1
 rw [← ha] at c0
 have hml : 1 ≤ m := by rw [hm]; simp
 obtain ⟨c5, f5, hgl⟩ := hps.cell5
 obtain ⟨hps1, hf1⟩ := hps.nestTo (nest + 1)
 have HC := Lib.hid (fun w1 (h : PS B w1 g b cap false D left ns err (nest + 1)) (h2 : Inp w1 b cap D) => (list78_any (ks := ks) rfl hI hIh) h hnest h2 ht hp hrest hn m (by rw [hm]; simp))
 have HP := Lib.hid hp
 have HI := Lib.hid hi
 have HPS1 := Lib.hid hps1
 have HF1 := Lib.hid hf1
 have hn1 : ¬ ((10000 : Int) ≤ (nest : Int)) := by omega
 clear hp hi hps hps1 hf1 hm ha ht
 go_enter Try.func69, Try.ntmps69
 go_wp2_with fail
 refine (HC.out _ HPS1.out (HI.out.kp HF1.out.2)).mono ?_
 rintro e w2 ⟨xs, a2, k2, rfl, hp2, hps2, hv2, hf2, hl2⟩
 obtain ⟨d5, e5, hgl2⟩ := hps2.cell5
 have HP2 := Lib.hid hp2
 have HPS2 := Lib.hid hps2
 have HV2 := Lib.hid hv2
 have HF2 := Lib.hid hf2
 clear hp2 hps2 hv2 hf2
 go_wp2_with fail
 go_ret3
 obtain ⟨hps3, hf3⟩ := HPS2.out.nestTo nest
 exact ⟨xs, a2, k2, rfl, HP2.out, hps3, VNds.k5 hf3.2.k5 _ HV2.out, (HF1.out.trans HF2.out).trans hf3, by simpa using hl2⟩
theorem valOk : ∀ d, d ≤ 50 → ValOk (ValTxt d) (100 - d)
 | 0, _ => by
   rintro v s B g b cap k D rest left err nest ns w a ⟨kd, t, ks, rfl, h⟩ hps hnest hi hf hp hn m hm
   exact pv_scal hps hi h hf hp (by omega) m hm
 | d + 1, hd => by
   rintro v s B g b cap k D rest left err nest ns w a hv hps hnest hi hf hp hn m hm
   have ih := valOk d (by omega)
   have hrest : 0 < rest.length := by obtain ⟨c, r, rfl, _⟩ := hf; simp
   rcases hv with ⟨kd, t, ks, rfl, h⟩ | ⟨items, ks, s', rfl, rfl, ht⟩ | ⟨items, ks, s', rfl, rfl, ht⟩
   · exact pv_scal hps hi h hf hp (by omega) m hm
   · exact pv_arr (ItOk.el ih) (fun h => h.2.head) hps (by omega) (by omega) hi ht hrest hp hn m hm
   · exact pv_tbl (ItOk.kv ih (fun h => h.head)) (fun h => h.head) hps (by omega) (by omega) hi ht hrest hp hn m hm
end Go.Proofs.Ytnlkbbpmpgdmiaa
namespace Go.Proofs.Ytnlkbbpmpgdmiaa
open Go.RowKit
set_option linter.unusedVariables false
set_option linter.unusedSimpArgs false
def EndTxt (u : List UInt8) : Prop := ∃ bl c e, Blk1 bl ∧ (c = [] ∨ ∃ p, (∀ x ∈ p, Plain x) ∧ c = 35 :: p) ∧ (e = [10] ∨ e = [13, 10]) ∧ u = bl ++ (c ++ e)
def N.withKeys (v : N) (ks : List (List UInt8)) : N := .mk v.kind v.text v.items ks
theorem N.withKeys_keys (v : N) (ks : List (List UInt8)) : (v.withKeys ks).keys = ks := rfl
theorem VNds.withKeys {w : World} {v : N} {ks : List (List UInt8)} {base nxt : Nat} {xs : List Nd} : VNds w (v.withKeys ks) base nxt xs ↔ VNds w v base nxt xs := by
 cases v with
 | mk kd t items k0 => unfold N.withKeys VNds; exact Iff.rfl
def ExTxt (d : Nat) (e : Ex) (s : List UInt8) : Prop :=
 (e.kind = 0 ∧ e.value.keys = [] ∧ KvTxt (ValTxt d) (e.value.withKeys e.keys) s) ∨
 (e.kind = 1 ∧ ∃ b1 k b2, Blk1 b1 ∧ Blk1 b2 ∧ KeyTxt e.keys k ∧ s = 91 :: (b1 ++ (k ++ (b2 ++ [93])))) ∨
 (e.kind = 2 ∧ ∃ b1 k b2, Blk1 b1 ∧ Blk1 b2 ∧ KeyTxt e.keys k ∧ s = 91 :: 91 :: (b1 ++ (k ++ (b2 ++ [93, 93]))))
def HeadNds (w : World) (kd : Nat) (ks : List (List UInt8)) (xs : List Nd) : Prop := ∃ x kn, xs = x :: kn ∧ x.kind = kd ∧ x.next = 0 ∧ x.child = 2 ∧ KeyNd1 w 1 ks kn
def ExNds (w : World) (e : Ex) (xs : List Nd) : Prop := (e.kind = 0 ∧ e.value.keys = [] ∧ KvNds w (e.value.withKeys e.keys) 0 0 xs) ∨ (e.kind = 1 ∧ HeadNds w 3 e.keys xs) ∨ (e.kind = 2 ∧ HeadNds w 4 e.keys xs)
theorem HeadNds.k5 {w w' : World} {kd : Nat} {ks : List (List UInt8)} {xs : List Nd} (h : HeadNds w kd ks xs) (hk : K5 w w') : HeadNds w' kd ks xs := by
 obtain ⟨x, kn, h1, h2, h3, h4, h5⟩ := h
 exact ⟨x, kn, h1, h2, h3, h4, KeyNd1.k5 hk h5⟩
theorem ExNds.k5 {w w' : World} {e : Ex} {xs : List Nd} (h : ExNds w e xs) (hk : K5 w w') : ExNds w' e xs := by
 rcases h with ⟨h1, h0, x, kn, vn, h2, h3, h4, h5, h6, h7⟩ | ⟨h1, h2⟩ | ⟨h1, h2⟩
 · exact .inl ⟨h1, h0, x, kn, vn, h2, h3, h4, h5, KeyNd1.k5 hk h6, VNds.k5 hk _ h7⟩
 · exact .inr (.inl ⟨h1, h2.k5 hk⟩)
 · exact .inr (.inr ⟨h1, h2.k5 hk⟩)
theorem EndTxt.follow {u : List UInt8} (h : EndTxt u) (s : List UInt8) : Follow (u ++ s) := by
 obtain ⟨bl, c, e, hb, hc, he, rfl⟩ := h
 have hce : ∃ x y, c ++ e ++ s = x :: y ∧ (x = 35 ∨ x = 10 ∨ x = 13) := by
   rcases hc with rfl | ⟨p, _, rfl⟩
   · rcases he with rfl | rfl
     · exact ⟨_, _, rfl, .inr (.inl rfl)⟩
     · exact ⟨_, _, rfl, .inr (.inr rfl)⟩
   · exact ⟨_, _, rfl, .inl rfl⟩
 obtain ⟨x, y, hxy, hx⟩ := hce
 have hall : ∀ z q, bl ++ (c ++ e) ++ s = z :: q → StopC z := by
   intro z q hz
   cases bl with
   | nil =>
     rw [List.nil_append, hxy] at hz
     injection hz with hz _
     subst hz
     rcases hx with rfl | rfl | rfl <;> decide
   | cons b0 bl =>
     injection hz with hz _
     subst hz
     have := hb b0 (by simp)
     rcases this with h | h
     · obtain rfl : b0 = 32 := UInt8.toNat_inj.1 h
       decide
     · obtain rfl : b0 = 9 := UInt8.toNat_inj.1 h
       decide
 cases bl with
 | nil =>
   refine ⟨x, y, by rw [List.nil_append]; exact hxy, hall x y (by rw [List.nil_append]; exact hxy), ?_⟩
   rintro rfl
   rcases hx with h | h | h <;> cases h
 | cons b0 bl =>
   refine ⟨b0, bl ++ (c ++ e) ++ s, rfl, hall _ _ rfl, ?_⟩
   intro _ d q hd
   cases bl with
   | nil =>
     rw [List.nil_append, hxy] at hd
     injection hd with hd _
     subst hd
     rcases hx with rfl | rfl | rfl <;> decide
   | cons b1 bl =>
     injection hd with hd _
     subst hd
     have := hb b1 (by simp)
     unfold Digit
     omega
def FinOk (B g b cap : Nat) (D : List UInt8) (left : Value) (ns : List Nd) (err : Value) (nest : Nat) (rest : List UInt8) (w : World) (e : Ending) (w' : World) : Prop :=
 ∃ a' k', e = .returned (.tuple #[.slice (some a') rest.length k', .nilIface]) ∧ Pos b cap D rest a' k' ∧ PS B w' g b cap false D left ns err nest ∧ Fr B w w'
set_option maxRecDepth 100000 in
set_option maxHeartbeats 1000000 in
theorem finish_any {B g b cap k : Nat} {D u rest : List UInt8} {left err : Value} {nest : Nat} {ns : List Nd} {w : World} {a : Addr} (hps : PS B w g b cap false D left ns err nest) (hi : Inp w b cap D) (hu : EndTxt u) (hp : Pos b cap D (u ++ rest) a k) (m : Nat) (hm : m = (u ++ rest).length) (h : Value) :
   Calls Try.prog 62 #[.pointer (some ⟨g, 0, none⟩), h, .slice (some a) m k] w (FinOk B g b cap D left ns err nest rest w) := by
 obtain ⟨bl, c, eo, hb, hc, he, hue⟩ := hu
 have hfits := hi.fits
 have hbound := hi.bound
 obtain ⟨ck, hgl⟩ := hps.kcell
 have HE : Hid (eol (eo ++ rest) = some rest) := by
   rcases he with rfl | rfl
   · exact eol_lf (by decide)
   · exact eol_crlf (by decide) (by decide)
 obtain ⟨x, y, hxy, hx⟩ : ∃ x y, eo ++ rest = x :: y ∧ ((x.toNat : Int) == 35) = false := by
   rcases he with rfl | rfl
   · exact ⟨_, _, rfl, by decide⟩
   · exact ⟨_, _, rfl, by decide⟩
 have HLE : Hid (LineEnd (eo ++ rest)) := by
   rcases he with rfl | rfl
   · exact .inr (.inl ⟨_, rfl⟩)
   · exact .inr (.inr ⟨_, rfl⟩)
 have hx' : x.toNat ≠ 35 := by intro h; simp [h] at hx
 have hxn : ¬ (x.toNat = 32 ∨ x.toNat = 9) := by
   rcases he with rfl | rfl
   · injection hxy with h _; subst h; decide
   · injection hxy with h _; subst h; decide
 rcases hc with rfl | ⟨p, hpl, rfl⟩
 · have HSK : Hid (skipWs (u ++ rest) = eo ++ rest) := by
     show _ = _
     rw [hue, List.nil_append, List.append_assoc, skipWs_blk hb, hxy, skipWs_no hxn]
   have hpos : 0 < (eo ++ rest).length := by rw [hxy]; simp
   have HP := Lib.hid hp
   have HI := Lib.hid hi
   have HPS := Lib.hid hps
   have HM := Lib.hid hm
   clear hp hi hps hm hue hb he
   go_enter Try.func62, Try.ntmps62
   go_wp2_with fail
   refine (skip_at m HI.out HP.out HM.out).mono ?_
   rintro e w1 ⟨a1, k1, he, hp1, rfl⟩
   rw [HSK.out] at he hp1
   have HP1 := Lib.hid hp1
   have x1 : w.cell? a1 = some (.int .u8 x.toNat) := by rw [hp1.addr hpos]; have h := HI.out.doc.suffix hp1.suf; rw [hxy] at h ⊢; exact h.head.1
   generalize hL : (eo ++ rest).length = L at *
   have HL := Lib.hid hL
   subst he
   clear hp1 hL hxy
   go_wp2_with fail
   refine (eol_at L HI.out HP1.out HE.out HL.out.symm).mono ?_
   rintro e w6 ⟨a6, k6, rfl, hp6, rfl⟩
   have HP6 := Lib.hid hp6
   clear hp6
   go_wp2_with fail
   go_ret2
   exact ⟨a6, k6, rfl, HP6.out, HPS.out, Fr.refl _ _⟩
 · have HSK : Hid (skipWs (u ++ rest) = 35 :: (p ++ (eo ++ rest))) := by
     show _ = _
     rw [hue, List.append_assoc, skipWs_blk hb, List.cons_append, List.cons_append, skipWs_no (by decide), List.append_assoc]
   have HP := Lib.hid hp
   have HI := Lib.hid hi
   have HPS := Lib.hid hps
   have HM := Lib.hid hm
   have HPL := Lib.hid hpl
   clear hp hi hps hm hue hb he hpl
   go_enter Try.func62, Try.ntmps62
   go_wp2_with fail
   refine (skip_at m HI.out HP.out HM.out).mono ?_
   rintro e w1 ⟨a1, k1, he, hp1, rfl⟩
   rw [HSK.out] at he hp1
   have HP1 := Lib.hid hp1
   have x1 : w.cell? a1 = some (.int .u8 35) := by rw [hp1.addr (by simp)]; exact (HI.out.doc.suffix hp1.suf).head.1
   have hL1 : 0 < (35 :: (p ++ (eo ++ rest))).length := by simp
   have hL0 : (35 :: (p ++ (eo ++ rest))).length = p.length + (eo ++ rest).length + 1 := by simp
   generalize hL : (35 :: (p ++ (eo ++ rest))).length = L at *
   have HL := Lib.hid hL0
   subst he
   clear hp1 hL hxy hL0
   go_wp2_with fail
   refine (scan_at L HI.out HP1.out HPL.out HLE.out HL.out).mono ?_
   rintro e w2 ⟨a2, k2, n, a3, k3, he, hp3, -, -, rfl⟩
   have HP3 := Lib.hid hp3
   have HPS2 := Lib.hid (HPS.out.drewN n)
   obtain ⟨ck2, hgl2⟩ := HPS2.out.kcell
   have HI2 := Lib.hid (HI.out.drewN n)
   have HF2 : Hid (Fr B w (w.drewN n)) := Fr.drewN w n
   generalize w.drewN n = w2 at *
   generalize hL2 : (eo ++ rest).length = L2 at *
   have HL2 := Lib.hid hL2
   subst he
   clear hp3 hL2 x1
   go_wp2_with fail
   refine (eol_at L2 HI2.out HP3.out HE.out HL2.out.symm).mono ?_
   rintro e w6 ⟨a6, k6, rfl, hp6, rfl⟩
   have HP6 := Lib.hid hp6
   clear hp6
   go_wp2_with fail
   go_ret2
   exact ⟨a6, k6, rfl, HP6.out, HPS2.out, HF2.out⟩
def HeadRead (kd : Nat) (ks : List (List UInt8)) (B g b cap : Nat) (D : List UInt8) (left : Value) (err : Value) (nest : Nat) (rest : List UInt8) (w : World) (e : Ending) (w' : World) : Prop :=
 ∃ xs a' k', e = .returned (.tuple #[.int .i32 1, .slice (some a') rest.length k', .nilIface]) ∧ Pos b cap D rest a' k' ∧ PS B w' g b cap false D left xs err nest ∧ HeadNds w' kd ks xs ∧ Fr B w w'
set_option maxRecDepth 100000 in
set_option maxHeartbeats 1000000 in
theorem head61_any {B g b cap k : Nat} {D b1 ks b2 rest : List UInt8} {hks : List (List UInt8)} {left err : Value} {nest : Nat} {w : World} {a : Addr} (hps : PS B w g b cap false D left [] err nest) (hi : Inp w b cap D) (hb1 : Blk1 b1) (hb2 : Blk1 b2) (hk : KeyTxt hks ks) (hkn0 : hks.length ≤ 1000)
   (hp : Pos b cap D (91 :: (b1 ++ (ks ++ (b2 ++ 93 :: rest)))) a k) (m : Nat) (hm : m = (91 :: (b1 ++ (ks ++ (b2 ++ 93 :: rest)))).length) (hrest : 0 < rest.length) :
   Calls Try.prog 61 #[.pointer (some ⟨g, 0, none⟩), .slice (some a) m k] w (HeadRead 3 hks B g b cap D left err nest rest w) := by
 have hfits := hi.fits
 have hbound := hi.bound
 have hroom := hp.room
 have hle := hp.le
 have ha := hp.addr (by simp)
 have HNB : Hid (∀ c r, b2 ++ (93 :: rest) = c :: r → ¬ Bare c) := notBare_blk hb2 (fun c r h => by injection h with h _; subst h; decide)
 have HSK1 : Hid (skipWs (b1 ++ (ks ++ (b2 ++ (93 :: rest)))) = ks ++ (b2 ++ (93 :: rest))) := by
   show _ = _
   obtain ⟨c2, r2, h2, hc2⟩ := hk.head
   rw [skipWs_blk hb1, h2, List.cons_append, skipWs_no (keyhead_ws hc2)]
 have HSK2 : Hid (skipWs (b2 ++ (93 :: rest)) = (93 :: rest)) := by
   show _ = _
   rw [skipWs_blk hb2, skipWs_no (by decide)]
 have hkl := hk.length
 have hpos : 0 < (b1 ++ (ks ++ (b2 ++ (93 :: rest)))).length := by simp; try omega
 have HP := Lib.hid hp
 have HI := Lib.hid hi
 have HPS := Lib.hid hps
 have HK := Lib.hid hk
 rw [← hm] at hroom hle
 have hm1 : m = (b1 ++ (ks ++ (b2 ++ (93 :: rest)))).length + 1 := by rw [hm]; simp
 generalize ho : D.length - (91 :: (b1 ++ (ks ++ (b2 ++ 93 :: rest)))).length = o at *
 have HP1 : Hid (Pos b cap D (b1 ++ (ks ++ (b2 ++ 93 :: rest))) ⟨b, o + 1, none⟩ (k - 1)) := hp.tail hfits (fun _ => by rw [ho]) rfl
 generalize hL1 : (b1 ++ (ks ++ (b2 ++ 93 :: rest))).length = L1 at *
 have HL1 := Lib.hid hL1
 subst ha hm1
 have hk1 : ¬ k = 1 := by omega
 clear hp hi hps hk hb1 hb2 hm ho hL1
 go_enter Try.func61, Try.ntmps61
 go_wp2_with fail
 refine (push_any HPS.out 3 0 0 (.slice none 0 0) rfl (by simp)).mono ?_
 rintro e w1 ⟨rfl, hps1, hf1⟩
 have HPS1 := Lib.hid hps1
 have HF1 := Lib.hid hf1
 clear hps1 hf1
 go_wp2_with fail
 refine (skip_at L1 (HI.out.kp HF1.out.2) HP1.out HL1.out.symm).mono ?_
 rintro e w2 ⟨a2, k2, he, hp2, rfl⟩
 rw [HSK1.out] at he hp2
 have HP2 := Lib.hid hp2
 generalize hL2 : (ks ++ (b2 ++ (93 :: rest))).length = L2 at *
 have HL2 := Lib.hid hL2
 subst he
 clear hp2 hL2
 go_wp2_with fail
 refine (parseKey_any HPS1.out (HI.out.kp HF1.out.2) HK.out HNB.out HP2.out (by simp; omega) 93 _ HSK2.out (by decide) L2 HL2.out.symm).mono ?_
 rintro e w3 ⟨kn, a3, k3, he, hp3, hps3, hkn, hf3⟩
 have hkn' : KeyNds w3 1 hks kn := hkn
 have he' : e = .returned (.tuple #[.int .i32 2, .slice (some a3) ((93 :: rest)).length k3, .nilIface]) := by rw [he]; rfl
 clear he
 have HP3 := Lib.hid hp3
 have HPS3 := Lib.hid hps3
 have HKN := Lib.hid hkn'
 have HF3 := Lib.hid hf3
 have HI3 : Hid (Inp w3 b cap D) := (HI.out.kp HF1.out.2).kp hf3.2
 have hroom3 := hp3.room
 have hle3 := hp3.le
 have ha3 := hp3.addr (by simp)
 have hb3 := HI3.out.doc.suffix hp3.suf
 simp only [List.length_cons] at he' hroom3 hle3
 subst he'
 obtain ⟨gn, hpn⟩ := hps3.pn (by simp)
 have cA : w3.cell? ⟨gn, 6, none⟩ = some (.int .i32 0) := hpn.cellAt (i := 0) (x := ⟨3, 0, 0, .slice none 0 0, 0, 0⟩) (by simp) 6 (by omega) (u := .int .i32 0) rfl
 have fA : w3.frozen? ⟨gn, 6, none⟩ = false := hps3.nf hpn (7 * 0 + 6)
 obtain ⟨hps4, hf4, hpn4⟩ := PS.set' (w' := w3.setCell ⟨gn, 6, none⟩ (.int .i32 2)) (ns' := (⟨3, 0, 0, .slice none 0 0, 0, 2⟩ : Nd) :: kn) hps3 hpn (i := 0) (x := ⟨3, 0, 0, .slice none 0 0, 0, 0⟩) ⟨3, 0, 0, .slice none 0 0, 0, 2⟩ (by simp) 6 (by omega) (.int .i32 2) (by simp [Nd.cells]) rfl (by simp) rfl
 have HI4 : Hid (Inp (w3.setCell ⟨gn, 6, none⟩ (.int .i32 2)) b cap D) := HI3.out.kp hf4.2
 have hb4 := HI4.out.doc.suffix hp3.suf
 have HPS4 := Lib.hid hps4
 have HF4 := Lib.hid hf4
 have HKN4 : Hid (KeyNds (w3.setCell ⟨gn, 6, none⟩ (.int .i32 2)) 1 hks kn) := hkn'.k5 hf4.2.k5
 clear hps4 hf4 hpn4
 have HPN := Lib.hid hpn
 have hcnt := hps3.count
 clear hp3 hps3 hkn hkn' hf3 hpn
 generalize ho3 : D.length - (93 :: rest).length = o3 at *
 have HP4 : Hid (Pos b cap D rest ⟨b, o3 + 1, none⟩ (k3 - 1)) := HP3.out.tail hfits (fun _ => by rw [ho3]) rfl
 subst ha3
 have c4 : (w3.setCell ⟨gn, 6, none⟩ (.int .i32 2)).cell? ⟨b, o3, none⟩ = some (.int .u8 93) := hb4.head.1
 have hk3 : ¬ k3 = 1 := by omega
 clear hb3 hb4 ho3
 go_wp2_with fail
 refine (at_at _ HPN.out 0 (by simp) hcnt rfl).mono ?_
 rintro e w4 ⟨rfl, rfl⟩
 go_wp2_with fail
 go_quiet (fail)
 go_wp2
 go_ret3
 exact ⟨_, _, _, rfl, HP4.out, HPS4.out.drewN _, ⟨_, kn, rfl, rfl, rfl, rfl, HK.out.ne, HKN4.out.k5 (Kp.drewN _ _).k5⟩, ((HF1.out.trans HF3.out).trans HF4.out).trans (Fr.drewN _ _)⟩
set_option maxRecDepth 100000 in
set_option maxHeartbeats 1000000 in
theorem head60_any {B g b cap k : Nat} {D b1 ks b2 rest : List UInt8} {hks : List (List UInt8)} {left err : Value} {nest : Nat} {w : World} {a : Addr} (hps : PS B w g b cap false D left [] err nest) (hi : Inp w b cap D) (hb1 : Blk1 b1) (hb2 : Blk1 b2) (hk : KeyTxt hks ks) (hkn0 : hks.length ≤ 1000)
   (hp : Pos b cap D (91 :: 91 :: (b1 ++ (ks ++ (b2 ++ 93 :: 93 :: rest)))) a k) (m : Nat) (hm : m = (91 :: 91 :: (b1 ++ (ks ++ (b2 ++ 93 :: 93 :: rest)))).length) (hrest : 0 < rest.length) :
   Calls Try.prog 60 #[.pointer (some ⟨g, 0, none⟩), .slice (some a) m k] w (HeadRead 4 hks B g b cap D left err nest rest w) := by
 have hfits := hi.fits
 have hbound := hi.bound
 have hroom := hp.room
 have hle := hp.le
 have ha := hp.addr (by simp)
 have HNB : Hid (∀ c r, b2 ++ (93 :: 93 :: rest) = c :: r → ¬ Bare c) := notBare_blk hb2 (fun c r h => by injection h with h _; subst h; decide)
 have HSK1 : Hid (skipWs (b1 ++ (ks ++ (b2 ++ (93 :: 93 :: rest)))) = ks ++ (b2 ++ (93 :: 93 :: rest))) := by
   show _ = _
   obtain ⟨c2, r2, h2, hc2⟩ := hk.head
   rw [skipWs_blk hb1, h2, List.cons_append, skipWs_no (keyhead_ws hc2)]
 have HSK2 : Hid (skipWs (b2 ++ (93 :: 93 :: rest)) = (93 :: 93 :: rest)) := by
   show _ = _
   rw [skipWs_blk hb2, skipWs_no (by decide)]
 have hkl := hk.length
 have hpos : 0 < (b1 ++ (ks ++ (b2 ++ (93 :: 93 :: rest)))).length := by simp; try omega
 have HP := Lib.hid hp
 have HI := Lib.hid hi
 have HPS := Lib.hid hps
 have HK := Lib.hid hk
 rw [← hm] at hroom hle
 have hm1 : m = (b1 ++ (ks ++ (b2 ++ (93 :: 93 :: rest)))).length + 2 := by rw [hm]; simp
 generalize ho : D.length - (91 :: 91 :: (b1 ++ (ks ++ (b2 ++ 93 :: 93 :: rest)))).length = o at *
 have HP1 : Hid (Pos b cap D (b1 ++ (ks ++ (b2 ++ 93 :: 93 :: rest))) ⟨b, o + 2, none⟩ (k - 2)) := Pos.after (s := [91, 91]) hp hfits (fun _ => by rw [show D.length - ([91, 91] ++ (b1 ++ (ks ++ (b2 ++ 93 :: 93 :: rest))) : List UInt8).length = o from ho]; rfl) rfl
 generalize hL1 : (b1 ++ (ks ++ (b2 ++ 93 :: 93 :: rest))).length = L1 at *
 have HL1 := Lib.hid hL1
 subst ha hm1
 have hk1 : ¬ k = 2 := by omega
 clear hp hi hps hk hb1 hb2 hm ho hL1
 go_enter Try.func60, Try.ntmps60
 go_wp2_with fail
 refine (push_any HPS.out 4 0 0 (.slice none 0 0) rfl (by simp)).mono ?_
 rintro e w1 ⟨rfl, hps1, hf1⟩
 have HPS1 := Lib.hid hps1
 have HF1 := Lib.hid hf1
 clear hps1 hf1
 go_wp2_with fail
 refine (skip_at L1 (HI.out.kp HF1.out.2) HP1.out HL1.out.symm).mono ?_
 rintro e w2 ⟨a2, k2, he, hp2, rfl⟩
 rw [HSK1.out] at he hp2
 have HP2 := Lib.hid hp2
 generalize hL2 : (ks ++ (b2 ++ (93 :: 93 :: rest))).length = L2 at *
 have HL2 := Lib.hid hL2
 subst he
 clear hp2 hL2
 go_wp2_with fail
 refine (parseKey_any HPS1.out (HI.out.kp HF1.out.2) HK.out HNB.out HP2.out (by simp; omega) 93 _ HSK2.out (by decide) L2 HL2.out.symm).mono ?_
 rintro e w3 ⟨kn, a3, k3, he, hp3, hps3, hkn, hf3⟩
 have hkn' : KeyNds w3 1 hks kn := hkn
 have he' : e = .returned (.tuple #[.int .i32 2, .slice (some a3) ((93 :: 93 :: rest)).length k3, .nilIface]) := by rw [he]; rfl
 clear he
 have HP3 := Lib.hid hp3
 have HPS3 := Lib.hid hps3
 have HKN := Lib.hid hkn'
 have HF3 := Lib.hid hf3
 have HI3 : Hid (Inp w3 b cap D) := (HI.out.kp HF1.out.2).kp hf3.2
 have hroom3 := hp3.room
 have hle3 := hp3.le
 have ha3 := hp3.addr (by simp)
 have hb3 := HI3.out.doc.suffix hp3.suf
 simp only [List.length_cons] at he' hroom3 hle3
 subst he'
 obtain ⟨gn, hpn⟩ := hps3.pn (by simp)
 have cA : w3.cell? ⟨gn, 6, none⟩ = some (.int .i32 0) := hpn.cellAt (i := 0) (x := ⟨4, 0, 0, .slice none 0 0, 0, 0⟩) (by simp) 6 (by omega) (u := .int .i32 0) rfl
 have fA : w3.frozen? ⟨gn, 6, none⟩ = false := hps3.nf hpn (7 * 0 + 6)
 obtain ⟨hps4, hf4, hpn4⟩ := PS.set' (w' := w3.setCell ⟨gn, 6, none⟩ (.int .i32 2)) (ns' := (⟨4, 0, 0, .slice none 0 0, 0, 2⟩ : Nd) :: kn) hps3 hpn (i := 0) (x := ⟨4, 0, 0, .slice none 0 0, 0, 0⟩) ⟨4, 0, 0, .slice none 0 0, 0, 2⟩ (by simp) 6 (by omega) (.int .i32 2) (by simp [Nd.cells]) rfl (by simp) rfl
 have HI4 : Hid (Inp (w3.setCell ⟨gn, 6, none⟩ (.int .i32 2)) b cap D) := HI3.out.kp hf4.2
 have hb4 := HI4.out.doc.suffix hp3.suf
 have HPS4 := Lib.hid hps4
 have HF4 := Lib.hid hf4
 have HKN4 : Hid (KeyNds (w3.setCell ⟨gn, 6, none⟩ (.int .i32 2)) 1 hks kn) := hkn'.k5 hf4.2.k5
 clear hps4 hf4 hpn4
 have HPN := Lib.hid hpn
 have hcnt := hps3.count
 clear hp3 hps3 hkn hkn' hf3 hpn
 generalize ho3 : D.length - (93 :: 93 :: rest).length = o3 at *
 have HP4 : Hid (Pos b cap D rest ⟨b, o3 + 2, none⟩ (k3 - 2)) := Pos.after (s := [93, 93]) HP3.out hfits (fun _ => by rw [show D.length - ([93, 93] ++ rest : List UInt8).length = o3 from ho3]; rfl) rfl
 subst ha3
 have c4 : (w3.setCell ⟨gn, 6, none⟩ (.int .i32 2)).cell? ⟨b, o3, none⟩ = some (.int .u8 93) := hb4.head.1
 have c5 : (w3.setCell ⟨gn, 6, none⟩ (.int .i32 2)).cell? ⟨b, o3 + 1, none⟩ = some (.int .u8 93) := hb4.head.2.head.1
 have hk3 : ¬ k3 = 2 := by omega
 clear hb3 hb4 ho3
 go_wp2_with fail
 refine (at_at _ HPN.out 0 (by simp) hcnt rfl).mono ?_
 rintro e w4 ⟨rfl, rfl⟩
 go_wp2_with fail
 go_quiet (fail)
 go_wp2
 go_ret3
 exact ⟨_, _, _, rfl, HP4.out, HPS4.out.drewN _, ⟨_, kn, rfl, rfl, rfl, rfl, HK.out.ne, HKN4.out.k5 (Kp.drewN _ _).k5⟩, ((HF1.out.trans HF3.out).trans HF4.out).trans (Fr.drewN _ _)⟩
end Go.Proofs.Ytnlkbbpmpgdmiaa
namespace Go.Proofs.Ytnlkbbpmpgdmiaa
open Go.RowKit
set_option linter.unusedVariables false
set_option linter.unusedSimpArgs false
def ExRead (x : Ex) (B g b cap : Nat) (D : List UInt8) (left : Value) (err : Value) (nest : Nat) (rest : List UInt8) (w : World) (e : Ending) (w' : World) : Prop :=
 ∃ xs a' k', e = .returned (.tuple #[.slice (some a') rest.length k', .nilIface]) ∧ Pos b cap D rest a' k' ∧ PS B w' g b cap false D left xs err nest ∧ ExNds w' x xs ∧ xs ≠ [] ∧ Fr B w w'
set_option maxRecDepth 100000 in
set_option maxHeartbeats 1000000 in
theorem expr41_any {x : Ex} {B g b cap k : Nat} {D t u rest : List UInt8} {left err : Value} {w : World} {a : Addr} (hps : PS B w g b cap false D left [] err 0) (hi : Inp w b cap D) (hx : x.kind = 0) (hxk : x.value.keys = []) (ht : KvTxt (ValTxt 3) (x.value.withKeys x.keys) t) (hu : EndTxt u)
   (hp : Pos b cap D (t ++ (u ++ rest)) a k) (hn : t.length ≤ 300000) (m : Nat) (hm : m = (t ++ (u ++ rest)).length) :
   Calls Try.prog 41 #[.pointer (some ⟨g, 0, none⟩), .slice (some a) m k] w (ExRead x B g b cap D left err 0 rest w) := by
 have HC := Lib.hid (parseKv_any (valOk 3 (by omega)) hps (by omega) hi ht (hu.follow rest) hp (by simpa using hn) m hm (fun h => h.head))
 have HI := Lib.hid hi
 have HU := Lib.hid hu
 clear hps hi ht hu hp hm
 go_enter Try.func41, Try.ntmps41
 go_wp2_with fail
 refine HC.out.mono ?_
 rintro e w1 ⟨xs, a1, k1, he, hp1, hps1, hv1, hf1, hl1⟩
 simp only [List.length_nil, List.nil_append] at he hps1 hv1
 have he' : e = .returned (.tuple #[.int .i32 1, .slice (some a1) (u ++ rest).length k1, .nilIface]) := by rw [he]; rfl
 generalize hL : (u ++ rest).length = L at *
 have HL := Lib.hid hL
 subst he'
 have HP1 := Lib.hid hp1
 have HPS1 := Lib.hid hps1
 have HV1 := Lib.hid hv1
 have HF1 := Lib.hid hf1
 clear he hp1 hps1 hv1 hf1 hL
 go_wp2_with fail
 refine (finish_any HPS1.out (HI.out.kp HF1.out.2) HU.out HP1.out L HL.out.symm _).mono ?_
 rintro e w2 ⟨a2, k2, rfl, hp2, hps2, hf2⟩
 have HP2 := Lib.hid hp2
 have HPS2 := Lib.hid hps2
 have HF2 := Lib.hid hf2
 clear hp2 hps2 hf2
 go_wp2_with fail
 go_ret2
 refine ⟨xs, a2, k2, rfl, HP2.out, HPS2.out, ExNds.k5 (.inl ⟨hx, hxk, HV1.out⟩) HF2.out.2.k5, ?_, HF1.out.trans HF2.out⟩
 obtain ⟨r, kn, vn, rfl, _⟩ := HV1.out
 simp
set_option maxRecDepth 100000 in
set_option maxHeartbeats 1000000 in
theorem expr40_one {x : Ex} {B g b cap k : Nat} {D b1 ks b2 u rest : List UInt8} {left err : Value} {w : World} {a : Addr} (hps : PS B w g b cap false D left [] err 0) (hi : Inp w b cap D) (hx : x.kind = 1) (hb1 : Blk1 b1) (hb2 : Blk1 b2) (hk : KeyTxt x.keys ks) (hkn : x.keys.length ≤ 1000) (hu : EndTxt u)
   (hp : Pos b cap D (91 :: (b1 ++ (ks ++ (b2 ++ 93 :: (u ++ rest))))) a k) (m : Nat) (hm : m = (91 :: (b1 ++ (ks ++ (b2 ++ 93 :: (u ++ rest))))).length) :
   Calls Try.prog 40 #[.pointer (some ⟨g, 0, none⟩), .slice (some a) m k] w (ExRead x B g b cap D left err 0 rest w) := by
 have hur : 0 < (u ++ rest).length := by obtain ⟨c, r, h, _⟩ := hu.follow rest; rw [h]; simp
 have HC := Lib.hid (head61_any hps hi hb1 hb2 hk hkn hp m hm hur)
 obtain ⟨c1, r1, hc1, hn1⟩ : ∃ c r, b1 ++ (ks ++ (b2 ++ 93 :: (u ++ rest))) = c :: r ∧ ((c.toNat : Int) == 91) = false := by
   cases b1 with
   | nil =>
     obtain ⟨c, r, h, hc⟩ := hk.head
     refine ⟨c, r ++ (b2 ++ 93 :: (u ++ rest)), by rw [h]; rfl, ?_⟩
     simp
     rcases hc with hc | rfl | rfl
     · unfold Bare at hc; omega
     · decide
     · decide
   | cons c r =>
     refine ⟨c, _, rfl, ?_⟩
     have := hb1 c (by simp)
     simp
     omega
 have hb0 := hi.doc.suffix hp.suf
 have ha := hp.addr (by simp)
 have c1 : w.cell? ⟨b, D.length - (91 :: (b1 ++ (ks ++ (b2 ++ 93 :: (u ++ rest))))).length + 1, none⟩ = some (.int .u8 c1.toNat) := by
   rw [hc1] at hb0 ⊢
   exact hb0.head.2.head.1
 have hml : 2 ≤ m := by rw [hm, hc1]; simp
 have hmk : m ≤ k := by have := hp.room; have := hp.le; have := hi.fits; omega
 generalize D.length - (91 :: (b1 ++ (ks ++ (b2 ++ 93 :: (u ++ rest))))).length = o at *
 have HI := Lib.hid hi
 have HU := Lib.hid hu
 subst ha
 clear hps hi hu hp hm hb1 hb2 hk hc1 hb0 hur
 go_enter Try.func40, Try.ntmps40
 go_wp2_with fail
 refine HC.out.mono ?_
 rintro e w1 ⟨xs, a1, k1, he, hp1, hps1, hv1, hf1⟩
 generalize hL : (u ++ rest).length = L at *
 have HL := Lib.hid hL
 subst he
 have HP1 := Lib.hid hp1
 have HPS1 := Lib.hid hps1
 have HV1 := Lib.hid hv1
 have HF1 := Lib.hid hf1
 clear hp1 hps1 hv1 hf1 hL
 go_wp2_with fail
 refine (finish_any HPS1.out (HI.out.kp HF1.out.2) HU.out HP1.out L HL.out.symm _).mono ?_
 rintro e w2 ⟨a2, k2, rfl, hp2, hps2, hf2⟩
 have HP2 := Lib.hid hp2
 have HPS2 := Lib.hid hps2
 have HF2 := Lib.hid hf2
 clear hp2 hps2 hf2
 go_wp2_with fail
 go_ret2
 refine ⟨xs, a2, k2, rfl, HP2.out, HPS2.out, ExNds.k5 (.inr (.inl ⟨hx, HV1.out⟩)) HF2.out.2.k5, ?_, HF1.out.trans HF2.out⟩
 obtain ⟨r, kn, rfl, _⟩ := HV1.out
 simp
set_option maxRecDepth 100000 in
set_option maxHeartbeats 1000000 in
theorem expr40_two {x : Ex} {B g b cap k : Nat} {D b1 ks b2 u rest : List UInt8} {left err : Value} {w : World} {a : Addr} (hps : PS B w g b cap false D left [] err 0) (hi : Inp w b cap D) (hx : x.kind = 2) (hb1 : Blk1 b1) (hb2 : Blk1 b2) (hk : KeyTxt x.keys ks) (hkn : x.keys.length ≤ 1000) (hu : EndTxt u)
   (hp : Pos b cap D (91 :: 91 :: (b1 ++ (ks ++ (b2 ++ 93 :: 93 :: (u ++ rest))))) a k) (m : Nat) (hm : m = (91 :: 91 :: (b1 ++ (ks ++ (b2 ++ 93 :: 93 :: (u ++ rest))))).length) :
   Calls Try.prog 40 #[.pointer (some ⟨g, 0, none⟩), .slice (some a) m k] w (ExRead x B g b cap D left err 0 rest w) := by
 have hur : 0 < (u ++ rest).length := by obtain ⟨c, r, h, _⟩ := hu.follow rest; rw [h]; simp
 have HC := Lib.hid (head60_any hps hi hb1 hb2 hk hkn hp m hm hur)
 have hb0 := hi.doc.suffix hp.suf
 have ha := hp.addr (by simp)
 have c1 : w.cell? ⟨b, D.length - (91 :: 91 :: (b1 ++ (ks ++ (b2 ++ 93 :: 93 :: (u ++ rest))))).length + 1, none⟩ = some (.int .u8 91) := hb0.head.2.head.1
 have hml : 2 ≤ m := by rw [hm]; simp
 have hmk : m ≤ k := by have := hp.room; have := hp.le; have := hi.fits; omega
 generalize D.length - (91 :: 91 :: (b1 ++ (ks ++ (b2 ++ 93 :: 93 :: (u ++ rest))))).length = o at *
 have HI := Lib.hid hi
 have HU := Lib.hid hu
 subst ha
 clear hps hi hu hp hm hb1 hb2 hk hb0 hur
 go_enter Try.func40, Try.ntmps40
 go_wp2_with fail
 refine HC.out.mono ?_
 rintro e w1 ⟨xs, a1, k1, he, hp1, hps1, hv1, hf1⟩
 generalize hL : (u ++ rest).length = L at *
 have HL := Lib.hid hL
 subst he
 have HP1 := Lib.hid hp1
 have HPS1 := Lib.hid hps1
 have HV1 := Lib.hid hv1
 have HF1 := Lib.hid hf1
 clear hp1 hps1 hv1 hf1 hL
 go_wp2_with fail
 refine (finish_any HPS1.out (HI.out.kp HF1.out.2) HU.out HP1.out L HL.out.symm _).mono ?_
 rintro e w2 ⟨a2, k2, rfl, hp2, hps2, hf2⟩
 have HP2 := Lib.hid hp2
 have HPS2 := Lib.hid hps2
 have HF2 := Lib.hid hf2
 clear hp2 hps2 hf2
 go_wp2_with fail
 go_ret2
 refine ⟨xs, a2, k2, rfl, HP2.out, HPS2.out, ExNds.k5 (.inr (.inr ⟨hx, HV1.out⟩)) HF2.out.2.k5, ?_, HF1.out.trans HF2.out⟩
 obtain ⟨r, kn, rfl, _⟩ := HV1.out
 simp
end Go.Proofs.Ytnlkbbpmpgdmiaa
namespace Go.Proofs.Ytnlkbbpmpgdmiaa
open Go.RowKit
set_option linter.unusedVariables false
set_option linter.unusedSimpArgs false
inductive DocTxt (z : List UInt8) : List Ex → List UInt8 → Prop
 | nil : DocTxt z [] z
 | ws (es : List Ex) (s : List UInt8) (c : UInt8) : c = 32 ∨ c = 9 → DocTxt z es s → DocTxt z es (c :: s)
 | nl (es : List Ex) (s : List UInt8) : DocTxt z es s → DocTxt z es (10 :: s)
 | crnl (es : List Ex) (s : List UInt8) : DocTxt z es s → DocTxt z es (13 :: 10 :: s)
 | com (es : List Ex) (p s : List UInt8) : (∀ c ∈ p, Plain c) → LineBr s → DocTxt z es s → DocTxt z es (35 :: (p ++ s))
 | ex (x : Ex) (es : List Ex) (t u s : List UInt8) : ExTxt 3 x t → t.length ≤ 300000 → x.keys.length ≤ 1000 → EndTxt u → DocTxt z es s → DocTxt z (x :: es) (t ++ (u ++ s))
def LastTxt (z : List UInt8) : Prop := z = [] ∨ ∃ p, (∀ c ∈ p, Plain c) ∧ z = 35 :: p
theorem ExTxt.head {d : Nat} {x : Ex} {t : List UInt8} (h : ExTxt d x t) : ∃ c r, t = c :: r ∧ Hd c ∧ (x.kind = 0 → ((c.toNat : Int) == 91) = false) := by
 rcases h with ⟨h0, _, k, b1, b2, v, hk, _, _, _, rfl⟩ | ⟨h0, b1, k, b2, _, _, _, rfl⟩ | ⟨h0, b1, k, b2, _, _, _, rfl⟩
 · obtain ⟨c, r, rfl, hc⟩ := hk.head
   refine ⟨c, _, by simp; rfl, ?_, fun _ => ?_⟩
   · rcases hc with h | h | h
     · exact .inl h
     · exact .inr (.inl h)
     · exact .inr (.inr (.inl h))
   · simp
     rcases hc with hc | rfl | rfl
     · unfold Bare at hc; omega
     · decide
     · decide
 · exact ⟨_, _, rfl, .inr (.inr (.inr (.inl rfl))), fun h => by omega⟩
 · exact ⟨_, _, rfl, .inr (.inr (.inr (.inl rfl))), fun h => by omega⟩
theorem DocTxt.strip {z : List UInt8} (hz : LastTxt z) {es : List Ex} {s : List UInt8} (h : DocTxt z es s) : ∃ s', DocTxt z es s' ∧ skipWs s = s' ∧ s'.length ≤ s.length ∧ ∀ c r, s' = c :: r → ¬ (c = 32 ∨ c = 9) := by
 induction h with
 | nil =>
   refine ⟨z, .nil, ?_, Nat.le_refl _, ?_⟩
   · rcases hz with rfl | ⟨p, _, rfl⟩
     · rfl
     · exact skipWs_no (by decide)
   · rcases hz with rfl | ⟨p, _, rfl⟩
     · intro c r h; cases h
     · intro c r h; injection h with h _; subst h; decide
 | ws es s c h1 h2 ih =>
   obtain ⟨s', g1, g2, g3, g4⟩ := ih
   refine ⟨s', g1, ?_, by simp only [List.length_cons]; omega, g4⟩
   rw [skipWs_yes (by rcases h1 with rfl | rfl <;> decide)]
   exact g2
 | nl es s h ih =>
   refine ⟨_, .nl es s h, skipWs_no (by decide), Nat.le_refl _, ?_⟩
   intro c r h; injection h with h _; subst h; decide
 | crnl es s h ih =>
   refine ⟨_, .crnl es s h, skipWs_no (by decide), Nat.le_refl _, ?_⟩
   intro c r h; injection h with h _; subst h; decide
 | com es p s h1 h2 h ih =>
   refine ⟨_, .com es p s h1 h2 h, skipWs_no (by decide), Nat.le_refl _, ?_⟩
   intro c r h; injection h with h _; subst h; decide
 | ex x es t u s h1 h2 h3 h4 h ih =>
   refine ⟨_, .ex x es t u s h1 h2 h3 h4 h, ?_, Nat.le_refl _, ?_⟩
   · obtain ⟨c, r, rfl, hc, _⟩ := h1.head
     rw [List.cons_append, skipWs_no hc.noWs]
   · obtain ⟨c0, r0, rfl, hcc, _⟩ := h1.head
     intro c r h
     rw [List.cons_append] at h
     injection h with h _
     subst h
     rintro (rfl | rfl) <;> exact absurd hcc.facts (by decide)
theorem DocTxt.br {z : List UInt8} (hz : LastTxt z) {es : List Ex} {s : List UInt8} (hb : LineBr s) (h : DocTxt z es s) : ∃ r, eol s = some r ∧ DocTxt z es r ∧ r.length < s.length := by
 cases h with
 | nil =>
   rcases hz with rfl | ⟨p, _, rfl⟩
   · rcases hb with ⟨r, h⟩ | ⟨r, h⟩ <;> cases h
   · rcases hb with ⟨r, h⟩ | ⟨r, h⟩ <;> (injection h with h _; exact absurd h (by decide))
 | ws _ s c h1 h2 =>
   rcases hb with ⟨r, h⟩ | ⟨r, h⟩ <;> (injection h with h _; subst h; rcases h1 with h1 | h1 <;> exact absurd h1 (by decide))
 | nl _ s h => exact ⟨s, eol_lf (by decide), h, by simp⟩
 | crnl _ s h => exact ⟨s, eol_crlf (by decide) (by decide), h, by simp; omega⟩
 | com _ p s _ _ _ =>
   rcases hb with ⟨r, h⟩ | ⟨r, h⟩ <;> (injection h with h _; exact absurd h (by decide))
 | ex x es t u s h1 _ _ _ _ =>
   obtain ⟨c, r, rfl, hc, _⟩ := h1.head
   have hc' := hc.facts
   rcases hb with ⟨r, h⟩ | ⟨r, h⟩
   · rw [List.cons_append] at h
     injection h with h _
     exact absurd h hc'.2.2.1
   · rw [List.cons_append] at h
     injection h with h _
     exact absurd h hc'.2.2.2.1
def NextIs (es : List Ex) (B g b cap : Nat) (D : List UInt8) (w : World) (e : Ending) (w' : World) : Prop :=
 (es = [] ∧ e = .returned (.bool false) ∧ (∃ left, PS B w' g b cap false D left [] .nilIface 0) ∧ Fr B w w') ∨
 (∃ x es' z' s' a' k' xs, es = x :: es' ∧ e = .returned (.bool true) ∧ LastTxt z' ∧ DocTxt z' es' s' ∧ Pos b cap D s' a' k' ∧ PS B w' g b cap false D (.slice (some a') s'.length k') xs .nilIface 0 ∧ ExNds w' x xs ∧ xs ≠ [] ∧ Fr B w w')
def NRel (es : List Ex) (B g b cap : Nat) (D : List UInt8) (w : World) (gg : Nat) (s3 : Value) (wx : World) : Prop :=
 ∃ z s a k, LastTxt z ∧ DocTxt z es s ∧ gg = s.length ∧ Pos b cap D s a k ∧ PS B wx g b cap false D (.slice (some a) s.length k) [] .nilIface 0 ∧ Inp wx b cap D ∧ Fr B w wx
set_option maxRecDepth 100000 in
set_option maxHeartbeats 4000000 in
theorem nextEx_any {B g b cap k : Nat} {D z s : List UInt8} {es : List Ex} {ns : List Nd} {w : World} {a : Addr} (hz : LastTxt z) (hd : DocTxt z es s) (hps : PS B w g b cap false D (.slice (some a) s.length k) ns .nilIface 0) (hi : Inp w b cap D) (hp : Pos b cap D s a k) :
   Calls Try.prog 18 #[.pointer (some ⟨g, 0, none⟩)] w (NextIs es B g b cap D w) := by
 obtain ⟨V, V0, c3, hV, hT⟩ := hps.trunc
 obtain ⟨c2, c4, hfr, hgl⟩ := hps.cells
 have f3 := hfr 3
 have HP := Lib.hid hp
 have HI := Lib.hid hi
 have HPS := Lib.hid hps
 have HT := Lib.hid hT
 have HZ := Lib.hid hz
 have HD := Lib.hid hd
 clear hp hi hps hT hfr hz hd
 rcases hV with ⟨rfl, rfl⟩ | ⟨gn, n, c, rfl, hnc, rfl, hcb⟩
 · go_enter Try.func18, Try.ntmps18
   go_wp2_with fail
   clear c2 c3 c4 f3 hgl
   generalize hw0 : w.setCell ⟨g, 3, none⟩ (.slice none 0 0) = w0
   obtain ⟨hps0, hf0⟩ := HT.out w0 hw0
   have HPS0 := Lib.hid hps0
   have HF0 := Lib.hid hf0
   clear hps0 hf0 hw0
   refine wp_loop_u1 174 3 (fun U => U 0 = .pointer (some ⟨g, 0, none⟩)) (fun s3 U => ⟨#[.pointer (some ⟨g, 0, none⟩), U 1, U 2, s3, U 4, U 5, U 6, U 7, U 8, U 9, U 10, U 11, U 12, U 13, U 14, U 15, U 16, U 17, U 18, U 19, U 20, U 21, U 22, U 23, U 24, U 25, U 26, U 27, U 28, U 29, U 30, U 31, U 32, U 33, U 34, U 35, U 36, U 37, U 38, U 39, U 40, U 41, U 42, U 43, U 44, U 45, U 46, U 47, U 48, U 49, U 50, U 51, U 52, U 53, U 54, U 55, U 56, U 57, U 58, U 59, U 60, U 61, U 62, U 63, U 64, U 65, U 66, U 67, U 68, U 69, U 70, U 71, U 72, U 73, U 74, U 75, U 76, U 77, U 78, U 79, U 80, U 81, U 82, U 83, U 84, U 85, U 86, U 87, U 88, U 89, U 90, U 91, U 92, U 93, U 94, U 95, U 96, U 97, U 98, U 99, U 100, U 101, U 102, U 103, U 104, U 105, U 106, U 107, U 108, U 109, U 110, U 111, U 112, U 113, U 114, U 115, U 116, U 117, U 118, U 119, U 120, U 121, U 122, U 123, U 124, U 125, U 126, U 127, U 128, U 129, U 130, U 131, U 132, U 133, U 134, U 135, U 136, U 137, U 138, U 139, U 140, U 141, U 142, U 143, U 144, U 145, U 146, U 147, U 148, U 149, U 150, U 151, U 152, U 153, U 154, U 155, U 156, U 157, U 158, U 159, U 160, U 161, U 162, U 163, U 164, U 165, U 166, U 167, U 168, U 169, U 170, U 171, U 172, U 173], []⟩) (by rintro U h0; rw [← h0]; rfl) (fun gg s3 wx => NRel es B g b cap D w gg s3 wx) s.length undef ⟨rfl, rfl, rfl⟩ rfl ?_ ?_
   · exact ⟨z, s, a, k, HZ.out, HD.out, rfl, HP.out, HPS0.out, HI.out.kp HF0.out.2, HF0.out⟩
   intro gk u3 U wr hrel J K hJ hK
   clear HPS0 HF0 HP HPS HT HD HI HZ
   obtain ⟨z, s0, a0, k0, hz, hd, rfl, hpos, hps, hin, hf⟩ := hrel
   obtain ⟨s2, hd2, hsk, hlen2, hws⟩ := hd.strip hz
   obtain ⟨c2, c4, hfr, hgl⟩ := hps.cells
   obtain ⟨ck, -⟩ := hps.kcell
   have f2 := hfr 2
   have HZ := Lib.hid hz
   have HP := Lib.hid hpos
   have HPS := Lib.hid hps
   have HIN := Lib.hid hin
   have HF := Lib.hid hf
   have HSK := Lib.hid hsk
   generalize hL0 : s0.length = L0 at *
   have HL0 := Lib.hid hL0
   clear hz hpos hps hin hf hsk hd hL0 hfr
   cases hd2 with
   | ws _ s3 c h1 h2 => exact absurd h1 (hws c _ rfl)
   | nil =>
     rcases HZ.out with rfl | ⟨p, hpl, rfl⟩
     · go_wp2_with fail
       refine (skip_at L0 HIN.out HP.out HL0.out.symm).mono ?_
       rintro e w1 ⟨a1, k1, he, hp1, rfl⟩
       rw [HSK.out] at he hp1
       simp only [List.length_nil] at he
       subst he
       clear hp1
       go_wp2_with fail
       go_ret
       exact .inl ⟨rfl, rfl, ⟨_, (HPS.out.leftOk _).1⟩, HF.out.trans (HPS.out.leftOk _).2⟩
     · go_wp2_with fail
       refine (skip_at L0 HIN.out HP.out HL0.out.symm).mono ?_
       rintro e w1 ⟨a1, k1, he, hp1, rfl⟩
       rw [HSK.out, show 35 :: p = 35 :: (p ++ []) from by simp] at he hp1
       have HPL := Lib.hid hpl
       have HP1 := Lib.hid hp1
       have x1 : wr.cell? a1 = some (.int .u8 35) := by rw [hp1.addr (by simp)]; exact (HIN.out.doc.suffix hp1.suf).head.1
       have hL1 : (35 :: (p ++ ([] : List UInt8))).length = (p).length + (([] : List UInt8)).length + 1 := by simp
       have hL2 : 0 < (35 :: (p ++ ([] : List UInt8))).length := by simp
       generalize hL : (35 :: (p ++ ([] : List UInt8))).length = L at *
       have HL := Lib.hid hL1
       subst he
       clear hp1 hL hL1
       go_wp2_with fail
       refine (scan_at L HIN.out HP1.out HPL.out (.inl rfl) HL.out).mono ?_
       rintro e w2 ⟨a2, k2, n, a3, k3, he, hp3, -, -, rfl⟩
       have HP3 := Lib.hid hp3
       have HPS2 := Lib.hid (HPS.out.drewN n)
       have HIN2 := Lib.hid (HIN.out.drewN n)
       have HF2 : Hid (Fr B wr (wr.drewN n)) := Fr.drewN wr n
       obtain ⟨d2, d4, dfr, dgl⟩ := HPS2.out.cells
       obtain ⟨dk, -⟩ := HPS2.out.kcell
       have df2 := dfr 2
       generalize wr.drewN n = w2 at *
       generalize hL3 : (([] : List UInt8)).length = L3 at *
       have HL3 := Lib.hid hL3
       subst he
       clear hp3 x1 dfr hL3
       go_wp2_with fail
       refine (eol_at L3 HIN2.out HP3.out (rest := ([] : List UInt8)) rfl HL3.out.symm).mono ?_
       rintro e w6 ⟨a6, k6, rfl, hp6, rfl⟩
       have HP6 := Lib.hid hp6
       clear hp6
       go_wp2_with fail
       refine Handed.u1 hJ 0 _ ⟨rfl, rfl, rfl⟩ rfl (by simp only [List.length_cons] at hlen2; omega) ?_
       exact ⟨[], [], a6, k6, .inl rfl, .nil, rfl, HP6.out, (HPS2.out.leftOk _).1, HIN2.out.kp (HPS2.out.leftOk _).2.2, (HF.out.trans HF2.out).trans (HPS2.out.leftOk _).2⟩
   | nl _ s3 h3 =>
     go_wp2_with fail
     refine (skip_at L0 HIN.out HP.out HL0.out.symm).mono ?_
     rintro e w1 ⟨a1, k1, he, hp1, rfl⟩
     rw [HSK.out] at he hp1
     have HP1 := Lib.hid hp1
     have x1 : wr.cell? a1 = some (.int .u8 10) := by rw [hp1.addr (by simp)]; exact (HIN.out.doc.suffix hp1.suf).head.1
     have hroom := hp1.room
     have hle := hp1.le
     have hfits := HIN.out.fits
     have hbnd := HIN.out.bound
     have ha1 := hp1.addr (by simp)
     generalize ho1 : D.length - (10 :: s3).length = o1 at *
     simp only [List.length_cons] at he hroom hle hlen2
     subst he ha1
     clear hp1
     by_cases hk1 : k1 = 1
     · have hs3 : s3.length = 0 := by omega
       have HP2 : Hid (Pos b cap D s3 ⟨b, o1, none⟩ 0) := HP1.out.tail hfits (fun h => by omega) (by omega)
       have HS3 := Lib.hid hs3
       clear ho1
       subst hk1
       go_wp2_with fail
       refine Handed.u1 hJ s3.length _ ⟨rfl, rfl, rfl⟩ rfl (by omega) ?_
       refine ⟨z, s3, _, _, HZ.out, h3, rfl, HP2.out, ?_, HIN.out.kp (HPS.out.leftOk _).2.2, HF.out.trans (HPS.out.leftOk _).2⟩
       rw [HS3.out]
       have h9 := (HPS.out.leftOk (.slice (some ⟨b, o1, none⟩) 0 0)).1
       simpa [HS3.out] using h9
     · have HP2 : Hid (Pos b cap D s3 ⟨b, o1 + 1, none⟩ (k1 - 1)) := HP1.out.tail hfits (fun _ => by rw [ho1]) rfl
       clear ho1
       go_wp2_with fail
       refine Handed.u1 hJ s3.length _ ⟨rfl, rfl, rfl⟩ rfl (by omega) ?_
       exact ⟨z, s3, _, _, HZ.out, h3, rfl, HP2.out, (HPS.out.leftOk _).1, HIN.out.kp (HPS.out.leftOk _).2.2, HF.out.trans (HPS.out.leftOk _).2⟩
   | crnl _ s3 h3 =>
     go_wp2_with fail
     refine (skip_at L0 HIN.out HP.out HL0.out.symm).mono ?_
     rintro e w1 ⟨a1, k1, he, hp1, rfl⟩
     rw [HSK.out] at he hp1
     have HP1 := Lib.hid hp1
     have x1 : wr.cell? a1 = some (.int .u8 13) := by rw [hp1.addr (by simp)]; exact (HIN.out.doc.suffix hp1.suf).head.1
     have x2 : wr.cell? ⟨b, D.length - (13 :: 10 :: s3).length + 1, none⟩ = some (.int .u8 10) := (HIN.out.doc.suffix hp1.suf).head.2.head.1
     have hroom := hp1.room
     have hle := hp1.le
     have hfits := HIN.out.fits
     have hbnd := HIN.out.bound
     have ha1 := hp1.addr (by simp)
     generalize ho1 : D.length - (13 :: 10 :: s3).length = o1 at *
     simp only [List.length_cons] at he hroom hle hlen2
     subst he ha1
     clear hp1
     by_cases hk1 : k1 = 2
     · have hs3 : s3.length = 0 := by omega
       have HP2 : Hid (Pos b cap D s3 ⟨b, o1, none⟩ 0) := Pos.after (s := [13, 10]) HP1.out hfits (fun h => by omega) (by simp; omega)
       have HS3 := Lib.hid hs3
       clear ho1
       subst hk1
       go_wp2_with fail
       refine Handed.u1 hJ s3.length _ ⟨rfl, rfl, rfl⟩ rfl (by omega) ?_
       refine ⟨z, s3, _, _, HZ.out, h3, rfl, HP2.out, ?_, HIN.out.kp (HPS.out.leftOk _).2.2, HF.out.trans (HPS.out.leftOk _).2⟩
       rw [HS3.out]
       have h9 := (HPS.out.leftOk (.slice (some ⟨b, o1, none⟩) 0 0)).1
       simpa [HS3.out] using h9
     · have HP2 : Hid (Pos b cap D s3 ⟨b, o1 + 2, none⟩ (k1 - 2)) := Pos.after (s := [13, 10]) HP1.out hfits (fun _ => by rw [show D.length - ([13, 10] ++ s3 : List UInt8).length = o1 from ho1]; rfl) rfl
       clear ho1
       go_wp2_with fail
       refine Handed.u1 hJ s3.length _ ⟨rfl, rfl, rfl⟩ rfl (by omega) ?_
       exact ⟨z, s3, _, _, HZ.out, h3, rfl, HP2.out, (HPS.out.leftOk _).1, HIN.out.kp (HPS.out.leftOk _).2.2, HF.out.trans (HPS.out.leftOk _).2⟩
   | com _ p s3 hpl hbr h3 =>
     have HLE : Hid (LineEnd s3) := by
       rcases hbr with h | h
       · exact .inr (.inl h)
       · exact .inr (.inr h)
     obtain ⟨r3, heol, hd3, hrl⟩ := DocTxt.br HZ.out hbr h3
     have HEO := Lib.hid heol
     have HD3 := Lib.hid hd3
     have HPL := Lib.hid hpl
     clear hpl hbr h3 heol hd3
     go_wp2_with fail
     refine (skip_at L0 HIN.out HP.out HL0.out.symm).mono ?_
     rintro e w1 ⟨a1, k1, he, hp1, rfl⟩
     rw [HSK.out] at he hp1
     have HP1 := Lib.hid hp1
     have x1 : wr.cell? a1 = some (.int .u8 35) := by rw [hp1.addr (by simp)]; exact (HIN.out.doc.suffix hp1.suf).head.1
     have hL1 : (35 :: (p ++ s3)).length = (p).length + (s3).length + 1 := by simp
     have hL2 : 0 < (35 :: (p ++ s3)).length := by simp
     generalize hL : (35 :: (p ++ s3)).length = L at *
     have HL := Lib.hid hL1
     subst he
     clear hp1 hL hL1
     go_wp2_with fail
     refine (scan_at L HIN.out HP1.out HPL.out HLE.out HL.out).mono ?_
     rintro e w2 ⟨a2, k2, n, a3, k3, he, hp3, -, -, rfl⟩
     have HP3 := Lib.hid hp3
     have HPS2 := Lib.hid (HPS.out.drewN n)
     have HIN2 := Lib.hid (HIN.out.drewN n)
     have HF2 : Hid (Fr B wr (wr.drewN n)) := Fr.drewN wr n
     obtain ⟨d2, d4, dfr, dgl⟩ := HPS2.out.cells
     obtain ⟨dk, -⟩ := HPS2.out.kcell
     have df2 := dfr 2
     generalize wr.drewN n = w2 at *
     generalize hL3 : (s3).length = L3 at *
     have HL3 := Lib.hid hL3
     subst he
     clear hp3 x1 dfr hL3
     go_wp2_with fail
     refine (eol_at L3 HIN2.out HP3.out (rest := r3) HEO.out HL3.out.symm).mono ?_
     rintro e w6 ⟨a6, k6, rfl, hp6, rfl⟩
     have HP6 := Lib.hid hp6
     clear hp6
     go_wp2_with fail
     refine Handed.u1 hJ r3.length _ ⟨rfl, rfl, rfl⟩ rfl (by have := HL.out; omega) ?_
     exact ⟨z, r3, a6, k6, HZ.out, HD3.out, rfl, HP6.out, (HPS2.out.leftOk _).1, HIN2.out.kp (HPS2.out.leftOk _).2.2, (HF.out.trans HF2.out).trans (HPS2.out.leftOk _).2⟩
   | ex x es2 t u s3 h1 h2 h3 h4 h5 =>
     obtain ⟨c, r, htc, hc, hc91⟩ := h1.head
     obtain ⟨i10, i13, i35, i44, i93, i125⟩ := hc.ifacts
     go_wp2_with fail
     refine (skip_at L0 HIN.out HP.out HL0.out.symm).mono ?_
     rintro e w1 ⟨a1, k1, he, hp1, rfl⟩
     rw [HSK.out] at he hp1
     have HP1 := Lib.hid hp1
     have x1 : wr.cell? a1 = some (.int .u8 c.toNat) := by
       rw [hp1.addr (by rw [htc]; simp)]
       have h := HIN.out.doc.suffix hp1.suf
       rw [htc] at h ⊢
       exact h.head.1
     have hpos : 0 < (t ++ (u ++ s3)).length := by rw [htc]; simp
     have HD5 := Lib.hid h5
     have HCT : Hid (∃ r, t = c :: r) := ⟨r, htc⟩
     rcases h1 with ⟨hx0, hxk, hkv⟩ | ⟨hx0, b1, ks, b2, hb1, hb2, hk, hte⟩ | ⟨hx0, b1, ks, b2, hb1, hb2, hk, hte⟩
     · have hc91' := hc91 hx0
       have HC := Lib.hid (fun m (hm : m = (t ++ (u ++ s3)).length) => expr41_any HPS.out HIN.out hx0 hxk hkv h4 HP1.out h2 m hm)
       generalize hL : (t ++ (u ++ s3)).length = L at *
       have HL := Lib.hid hL
       subst he
       clear hp1 hL h5 hx0 hxk hkv h4 htc hc hc91
       go_wp2_with fail
       refine (HC.out L rfl).mono ?_
       rintro e w2 ⟨xs, a2, k2, rfl, hp2, hps2, hx2, hne2, hf2⟩
       obtain ⟨d2, d4, dfr, dgl⟩ := hps2.cells
       have df2 := dfr 2
       have HP2 := Lib.hid hp2
       have HPS2 := Lib.hid hps2
       have HX2 := Lib.hid hx2
       have HF2 := Lib.hid hf2
       have HNE := Lib.hid hne2
       clear hp2 hps2 hx2 hf2 dfr x1 hne2
       go_wp2_with fail
       go_ret
       exact .inr ⟨x, es2, z, s3, a2, k2, xs, rfl, rfl, HZ.out, HD5.out, HP2.out, (HPS2.out.leftOk _).1, HX2.out.k5 (HPS2.out.leftOk _).2.2.k5, HNE.out, (HF.out.trans HF2.out).trans (HPS2.out.leftOk _).2⟩
     · have hch : c = 91 := by rw [hte] at htc; injection htc with h _; exact h.symm
       have hte2 : t ++ (u ++ s3) = 91 :: (b1 ++ (ks ++ (b2 ++ 93 :: (u ++ s3)))) := by rw [hte]; simp
       rw [hte2] at hp1 HP1 he
       subst hch
       have HC := Lib.hid (fun m (hm : m = (91 :: (b1 ++ (ks ++ (b2 ++ 93 :: (u ++ s3))))).length) => expr40_one HPS.out HIN.out hx0 hb1 hb2 hk h3 h4 HP1.out m hm)
       have hpos2 : 0 < (91 :: (b1 ++ (ks ++ (b2 ++ 93 :: (u ++ s3))))).length := by simp
       generalize hL : (91 :: (b1 ++ (ks ++ (b2 ++ 93 :: (u ++ s3))))).length = L at *
       have HL := Lib.hid hL
       subst he
       clear hp1 hL h5 hx0 hk hb1 hb2 h4 htc hc hc91 hte hte2 hpos
       go_wp2_with fail
       refine (HC.out L rfl).mono ?_
       rintro e w2 ⟨xs, a2, k2, rfl, hp2, hps2, hx2, hne2, hf2⟩
       obtain ⟨d2, d4, dfr, dgl⟩ := hps2.cells
       have df2 := dfr 2
       have HP2 := Lib.hid hp2
       have HPS2 := Lib.hid hps2
       have HX2 := Lib.hid hx2
       have HF2 := Lib.hid hf2
       have HNE := Lib.hid hne2
       clear hp2 hps2 hx2 hf2 dfr x1 hne2
       go_wp2_with fail
       go_ret
       exact .inr ⟨x, es2, z, s3, a2, k2, xs, rfl, rfl, HZ.out, HD5.out, HP2.out, (HPS2.out.leftOk _).1, HX2.out.k5 (HPS2.out.leftOk _).2.2.k5, HNE.out, (HF.out.trans HF2.out).trans (HPS2.out.leftOk _).2⟩
     · have hch : c = 91 := by rw [hte] at htc; injection htc with h _; exact h.symm
       have hte2 : t ++ (u ++ s3) = 91 :: 91 :: (b1 ++ (ks ++ (b2 ++ 93 :: 93 :: (u ++ s3)))) := by rw [hte]; simp
       rw [hte2] at hp1 HP1 he
       subst hch
       have HC := Lib.hid (fun m (hm : m = (91 :: 91 :: (b1 ++ (ks ++ (b2 ++ 93 :: 93 :: (u ++ s3))))).length) => expr40_two HPS.out HIN.out hx0 hb1 hb2 hk h3 h4 HP1.out m hm)
       have hpos2 : 0 < (91 :: 91 :: (b1 ++ (ks ++ (b2 ++ 93 :: 93 :: (u ++ s3))))).length := by simp
       generalize hL : (91 :: 91 :: (b1 ++ (ks ++ (b2 ++ 93 :: 93 :: (u ++ s3))))).length = L at *
       have HL := Lib.hid hL
       subst he
       clear hp1 hL h5 hx0 hk hb1 hb2 h4 htc hc hc91 hte hte2 hpos
       go_wp2_with fail
       refine (HC.out L rfl).mono ?_
       rintro e w2 ⟨xs, a2, k2, rfl, hp2, hps2, hx2, hne2, hf2⟩
       obtain ⟨d2, d4, dfr, dgl⟩ := hps2.cells
       have df2 := dfr 2
       have HP2 := Lib.hid hp2
       have HPS2 := Lib.hid hps2
       have HX2 := Lib.hid hx2
       have HF2 := Lib.hid hf2
       have HNE := Lib.hid hne2
       clear hp2 hps2 hx2 hf2 dfr x1 hne2
       go_wp2_with fail
       go_ret
       exact .inr ⟨x, es2, z, s3, a2, k2, xs, rfl, rfl, HZ.out, HD5.out, HP2.out, (HPS2.out.leftOk _).1, HX2.out.k5 (HPS2.out.leftOk _).2.2.k5, HNE.out, (HF.out.trans HF2.out).trans (HPS2.out.leftOk _).2⟩
 · go_enter Try.func18, Try.ntmps18
   go_wp2_with fail
   clear c2 c3 c4 f3 hgl
   generalize hw0 : w.setCell ⟨g, 3, none⟩ (.slice (some ⟨gn, 0, none⟩) 0 c) = w0
   obtain ⟨hps0, hf0⟩ := HT.out w0 hw0
   have HPS0 := Lib.hid hps0
   have HF0 := Lib.hid hf0
   clear hps0 hf0 hw0
   refine wp_loop_u1 174 3 (fun U => U 0 = .pointer (some ⟨g, 0, none⟩)) (fun s3 U => ⟨#[.pointer (some ⟨g, 0, none⟩), U 1, U 2, s3, U 4, U 5, U 6, U 7, U 8, U 9, U 10, U 11, U 12, U 13, U 14, U 15, U 16, U 17, U 18, U 19, U 20, U 21, U 22, U 23, U 24, U 25, U 26, U 27, U 28, U 29, U 30, U 31, U 32, U 33, U 34, U 35, U 36, U 37, U 38, U 39, U 40, U 41, U 42, U 43, U 44, U 45, U 46, U 47, U 48, U 49, U 50, U 51, U 52, U 53, U 54, U 55, U 56, U 57, U 58, U 59, U 60, U 61, U 62, U 63, U 64, U 65, U 66, U 67, U 68, U 69, U 70, U 71, U 72, U 73, U 74, U 75, U 76, U 77, U 78, U 79, U 80, U 81, U 82, U 83, U 84, U 85, U 86, U 87, U 88, U 89, U 90, U 91, U 92, U 93, U 94, U 95, U 96, U 97, U 98, U 99, U 100, U 101, U 102, U 103, U 104, U 105, U 106, U 107, U 108, U 109, U 110, U 111, U 112, U 113, U 114, U 115, U 116, U 117, U 118, U 119, U 120, U 121, U 122, U 123, U 124, U 125, U 126, U 127, U 128, U 129, U 130, U 131, U 132, U 133, U 134, U 135, U 136, U 137, U 138, U 139, U 140, U 141, U 142, U 143, U 144, U 145, U 146, U 147, U 148, U 149, U 150, U 151, U 152, U 153, U 154, U 155, U 156, U 157, U 158, U 159, U 160, U 161, U 162, U 163, U 164, U 165, U 166, U 167, U 168, U 169, U 170, U 171, U 172, U 173], []⟩) (by rintro U h0; rw [← h0]; rfl) (fun gg s3 wx => NRel es B g b cap D w gg s3 wx) s.length undef ⟨rfl, rfl, rfl⟩ rfl ?_ ?_
   · exact ⟨z, s, a, k, HZ.out, HD.out, rfl, HP.out, HPS0.out, HI.out.kp HF0.out.2, HF0.out⟩
   intro gk u3 U wr hrel J K hJ hK
   clear HPS0 HF0 HP HPS HT HD HI HZ
   obtain ⟨z, s0, a0, k0, hz, hd, rfl, hpos, hps, hin, hf⟩ := hrel
   obtain ⟨s2, hd2, hsk, hlen2, hws⟩ := hd.strip hz
   obtain ⟨c2, c4, hfr, hgl⟩ := hps.cells
   obtain ⟨ck, -⟩ := hps.kcell
   have f2 := hfr 2
   have HZ := Lib.hid hz
   have HP := Lib.hid hpos
   have HPS := Lib.hid hps
   have HIN := Lib.hid hin
   have HF := Lib.hid hf
   have HSK := Lib.hid hsk
   generalize hL0 : s0.length = L0 at *
   have HL0 := Lib.hid hL0
   clear hz hpos hps hin hf hsk hd hL0 hfr
   cases hd2 with
   | ws _ s3 c h1 h2 => exact absurd h1 (hws c _ rfl)
   | nil =>
     rcases HZ.out with rfl | ⟨p, hpl, rfl⟩
     · go_wp2_with fail
       refine (skip_at L0 HIN.out HP.out HL0.out.symm).mono ?_
       rintro e w1 ⟨a1, k1, he, hp1, rfl⟩
       rw [HSK.out] at he hp1
       simp only [List.length_nil] at he
       subst he
       clear hp1
       go_wp2_with fail
       go_ret
       exact .inl ⟨rfl, rfl, ⟨_, (HPS.out.leftOk _).1⟩, HF.out.trans (HPS.out.leftOk _).2⟩
     · go_wp2_with fail
       refine (skip_at L0 HIN.out HP.out HL0.out.symm).mono ?_
       rintro e w1 ⟨a1, k1, he, hp1, rfl⟩
       rw [HSK.out, show 35 :: p = 35 :: (p ++ []) from by simp] at he hp1
       have HPL := Lib.hid hpl
       have HP1 := Lib.hid hp1
       have x1 : wr.cell? a1 = some (.int .u8 35) := by rw [hp1.addr (by simp)]; exact (HIN.out.doc.suffix hp1.suf).head.1
       have hL1 : (35 :: (p ++ ([] : List UInt8))).length = (p).length + (([] : List UInt8)).length + 1 := by simp
       have hL2 : 0 < (35 :: (p ++ ([] : List UInt8))).length := by simp
       generalize hL : (35 :: (p ++ ([] : List UInt8))).length = L at *
       have HL := Lib.hid hL1
       subst he
       clear hp1 hL hL1
       go_wp2_with fail
       refine (scan_at L HIN.out HP1.out HPL.out (.inl rfl) HL.out).mono ?_
       rintro e w2 ⟨a2, k2, n, a3, k3, he, hp3, -, -, rfl⟩
       have HP3 := Lib.hid hp3
       have HPS2 := Lib.hid (HPS.out.drewN n)
       have HIN2 := Lib.hid (HIN.out.drewN n)
       have HF2 : Hid (Fr B wr (wr.drewN n)) := Fr.drewN wr n
       obtain ⟨d2, d4, dfr, dgl⟩ := HPS2.out.cells
       obtain ⟨dk, -⟩ := HPS2.out.kcell
       have df2 := dfr 2
       generalize wr.drewN n = w2 at *
       generalize hL3 : (([] : List UInt8)).length = L3 at *
       have HL3 := Lib.hid hL3
       subst he
       clear hp3 x1 dfr hL3
       go_wp2_with fail
       refine (eol_at L3 HIN2.out HP3.out (rest := ([] : List UInt8)) rfl HL3.out.symm).mono ?_
       rintro e w6 ⟨a6, k6, rfl, hp6, rfl⟩
       have HP6 := Lib.hid hp6
       clear hp6
       go_wp2_with fail
       refine Handed.u1 hJ 0 _ ⟨rfl, rfl, rfl⟩ rfl (by simp only [List.length_cons] at hlen2; omega) ?_
       exact ⟨[], [], a6, k6, .inl rfl, .nil, rfl, HP6.out, (HPS2.out.leftOk _).1, HIN2.out.kp (HPS2.out.leftOk _).2.2, (HF.out.trans HF2.out).trans (HPS2.out.leftOk _).2⟩
   | nl _ s3 h3 =>
     go_wp2_with fail
     refine (skip_at L0 HIN.out HP.out HL0.out.symm).mono ?_
     rintro e w1 ⟨a1, k1, he, hp1, rfl⟩
     rw [HSK.out] at he hp1
     have HP1 := Lib.hid hp1
     have x1 : wr.cell? a1 = some (.int .u8 10) := by rw [hp1.addr (by simp)]; exact (HIN.out.doc.suffix hp1.suf).head.1
     have hroom := hp1.room
     have hle := hp1.le
     have hfits := HIN.out.fits
     have hbnd := HIN.out.bound
     have ha1 := hp1.addr (by simp)
     generalize ho1 : D.length - (10 :: s3).length = o1 at *
     simp only [List.length_cons] at he hroom hle hlen2
     subst he ha1
     clear hp1
     by_cases hk1 : k1 = 1
     · have hs3 : s3.length = 0 := by omega
       have HP2 : Hid (Pos b cap D s3 ⟨b, o1, none⟩ 0) := HP1.out.tail hfits (fun h => by omega) (by omega)
       have HS3 := Lib.hid hs3
       clear ho1
       subst hk1
       go_wp2_with fail
       refine Handed.u1 hJ s3.length _ ⟨rfl, rfl, rfl⟩ rfl (by omega) ?_
       refine ⟨z, s3, _, _, HZ.out, h3, rfl, HP2.out, ?_, HIN.out.kp (HPS.out.leftOk _).2.2, HF.out.trans (HPS.out.leftOk _).2⟩
       rw [HS3.out]
       have h9 := (HPS.out.leftOk (.slice (some ⟨b, o1, none⟩) 0 0)).1
       simpa [HS3.out] using h9
     · have HP2 : Hid (Pos b cap D s3 ⟨b, o1 + 1, none⟩ (k1 - 1)) := HP1.out.tail hfits (fun _ => by rw [ho1]) rfl
       clear ho1
       go_wp2_with fail
       refine Handed.u1 hJ s3.length _ ⟨rfl, rfl, rfl⟩ rfl (by omega) ?_
       exact ⟨z, s3, _, _, HZ.out, h3, rfl, HP2.out, (HPS.out.leftOk _).1, HIN.out.kp (HPS.out.leftOk _).2.2, HF.out.trans (HPS.out.leftOk _).2⟩
   | crnl _ s3 h3 =>
     go_wp2_with fail
     refine (skip_at L0 HIN.out HP.out HL0.out.symm).mono ?_
     rintro e w1 ⟨a1, k1, he, hp1, rfl⟩
     rw [HSK.out] at he hp1
     have HP1 := Lib.hid hp1
     have x1 : wr.cell? a1 = some (.int .u8 13) := by rw [hp1.addr (by simp)]; exact (HIN.out.doc.suffix hp1.suf).head.1
     have x2 : wr.cell? ⟨b, D.length - (13 :: 10 :: s3).length + 1, none⟩ = some (.int .u8 10) := (HIN.out.doc.suffix hp1.suf).head.2.head.1
     have hroom := hp1.room
     have hle := hp1.le
     have hfits := HIN.out.fits
     have hbnd := HIN.out.bound
     have ha1 := hp1.addr (by simp)
     generalize ho1 : D.length - (13 :: 10 :: s3).length = o1 at *
     simp only [List.length_cons] at he hroom hle hlen2
     subst he ha1
     clear hp1
     by_cases hk1 : k1 = 2
     · have hs3 : s3.length = 0 := by omega
       have HP2 : Hid (Pos b cap D s3 ⟨b, o1, none⟩ 0) := Pos.after (s := [13, 10]) HP1.out hfits (fun h => by omega) (by simp; omega)
       have HS3 := Lib.hid hs3
       clear ho1
       subst hk1
       go_wp2_with fail
       refine Handed.u1 hJ s3.length _ ⟨rfl, rfl, rfl⟩ rfl (by omega) ?_
       refine ⟨z, s3, _, _, HZ.out, h3, rfl, HP2.out, ?_, HIN.out.kp (HPS.out.leftOk _).2.2, HF.out.trans (HPS.out.leftOk _).2⟩
       rw [HS3.out]
       have h9 := (HPS.out.leftOk (.slice (some ⟨b, o1, none⟩) 0 0)).1
       simpa [HS3.out] using h9
     · have HP2 : Hid (Pos b cap D s3 ⟨b, o1 + 2, none⟩ (k1 - 2)) := Pos.after (s := [13, 10]) HP1.out hfits (fun _ => by rw [show D.length - ([13, 10] ++ s3 : List UInt8).length = o1 from ho1]; rfl) rfl
       clear ho1
       go_wp2_with fail
       refine Handed.u1 hJ s3.length _ ⟨rfl, rfl, rfl⟩ rfl (by omega) ?_
       exact ⟨z, s3, _, _, HZ.out, h3, rfl, HP2.out, (HPS.out.leftOk _).1, HIN.out.kp (HPS.out.leftOk _).2.2, HF.out.trans (HPS.out.leftOk _).2⟩
   | com _ p s3 hpl hbr h3 =>
     have HLE : Hid (LineEnd s3) := by
       rcases hbr with h | h
       · exact .inr (.inl h)
       · exact .inr (.inr h)
     obtain ⟨r3, heol, hd3, hrl⟩ := DocTxt.br HZ.out hbr h3
     have HEO := Lib.hid heol
     have HD3 := Lib.hid hd3
     have HPL := Lib.hid hpl
     clear hpl hbr h3 heol hd3
     go_wp2_with fail
     refine (skip_at L0 HIN.out HP.out HL0.out.symm).mono ?_
     rintro e w1 ⟨a1, k1, he, hp1, rfl⟩
     rw [HSK.out] at he hp1
     have HP1 := Lib.hid hp1
     have x1 : wr.cell? a1 = some (.int .u8 35) := by rw [hp1.addr (by simp)]; exact (HIN.out.doc.suffix hp1.suf).head.1
     have hL1 : (35 :: (p ++ s3)).length = (p).length + (s3).length + 1 := by simp
     have hL2 : 0 < (35 :: (p ++ s3)).length := by simp
     generalize hL : (35 :: (p ++ s3)).length = L at *
     have HL := Lib.hid hL1
     subst he
     clear hp1 hL hL1
     go_wp2_with fail
     refine (scan_at L HIN.out HP1.out HPL.out HLE.out HL.out).mono ?_
     rintro e w2 ⟨a2, k2, n, a3, k3, he, hp3, -, -, rfl⟩
     have HP3 := Lib.hid hp3
     have HPS2 := Lib.hid (HPS.out.drewN n)
     have HIN2 := Lib.hid (HIN.out.drewN n)
     have HF2 : Hid (Fr B wr (wr.drewN n)) := Fr.drewN wr n
     obtain ⟨d2, d4, dfr, dgl⟩ := HPS2.out.cells
     obtain ⟨dk, -⟩ := HPS2.out.kcell
     have df2 := dfr 2
     generalize wr.drewN n = w2 at *
     generalize hL3 : (s3).length = L3 at *
     have HL3 := Lib.hid hL3
     subst he
     clear hp3 x1 dfr hL3
     go_wp2_with fail
     refine (eol_at L3 HIN2.out HP3.out (rest := r3) HEO.out HL3.out.symm).mono ?_
     rintro e w6 ⟨a6, k6, rfl, hp6, rfl⟩
     have HP6 := Lib.hid hp6
     clear hp6
     go_wp2_with fail
     refine Handed.u1 hJ r3.length _ ⟨rfl, rfl, rfl⟩ rfl (by have := HL.out; omega) ?_
     exact ⟨z, r3, a6, k6, HZ.out, HD3.out, rfl, HP6.out, (HPS2.out.leftOk _).1, HIN2.out.kp (HPS2.out.leftOk _).2.2, (HF.out.trans HF2.out).trans (HPS2.out.leftOk _).2⟩
   | ex x es2 t u s3 h1 h2 h3 h4 h5 =>
     obtain ⟨c, r, htc, hc, hc91⟩ := h1.head
     obtain ⟨i10, i13, i35, i44, i93, i125⟩ := hc.ifacts
     go_wp2_with fail
     refine (skip_at L0 HIN.out HP.out HL0.out.symm).mono ?_
     rintro e w1 ⟨a1, k1, he, hp1, rfl⟩
     rw [HSK.out] at he hp1
     have HP1 := Lib.hid hp1
     have x1 : wr.cell? a1 = some (.int .u8 c.toNat) := by
       rw [hp1.addr (by rw [htc]; simp)]
       have h := HIN.out.doc.suffix hp1.suf
       rw [htc] at h ⊢
       exact h.head.1
     have hpos : 0 < (t ++ (u ++ s3)).length := by rw [htc]; simp
     have HD5 := Lib.hid h5
     have HCT : Hid (∃ r, t = c :: r) := ⟨r, htc⟩
     rcases h1 with ⟨hx0, hxk, hkv⟩ | ⟨hx0, b1, ks, b2, hb1, hb2, hk, hte⟩ | ⟨hx0, b1, ks, b2, hb1, hb2, hk, hte⟩
     · have hc91' := hc91 hx0
       have HC := Lib.hid (fun m (hm : m = (t ++ (u ++ s3)).length) => expr41_any HPS.out HIN.out hx0 hxk hkv h4 HP1.out h2 m hm)
       generalize hL : (t ++ (u ++ s3)).length = L at *
       have HL := Lib.hid hL
       subst he
       clear hp1 hL h5 hx0 hxk hkv h4 htc hc hc91
       go_wp2_with fail
       refine (HC.out L rfl).mono ?_
       rintro e w2 ⟨xs, a2, k2, rfl, hp2, hps2, hx2, hne2, hf2⟩
       obtain ⟨d2, d4, dfr, dgl⟩ := hps2.cells
       have df2 := dfr 2
       have HP2 := Lib.hid hp2
       have HPS2 := Lib.hid hps2
       have HX2 := Lib.hid hx2
       have HF2 := Lib.hid hf2
       have HNE := Lib.hid hne2
       clear hp2 hps2 hx2 hf2 dfr x1 hne2
       go_wp2_with fail
       go_ret
       exact .inr ⟨x, es2, z, s3, a2, k2, xs, rfl, rfl, HZ.out, HD5.out, HP2.out, (HPS2.out.leftOk _).1, HX2.out.k5 (HPS2.out.leftOk _).2.2.k5, HNE.out, (HF.out.trans HF2.out).trans (HPS2.out.leftOk _).2⟩
     · have hch : c = 91 := by rw [hte] at htc; injection htc with h _; exact h.symm
       have hte2 : t ++ (u ++ s3) = 91 :: (b1 ++ (ks ++ (b2 ++ 93 :: (u ++ s3)))) := by rw [hte]; simp
       rw [hte2] at hp1 HP1 he
       subst hch
       have HC := Lib.hid (fun m (hm : m = (91 :: (b1 ++ (ks ++ (b2 ++ 93 :: (u ++ s3))))).length) => expr40_one HPS.out HIN.out hx0 hb1 hb2 hk h3 h4 HP1.out m hm)
       have hpos2 : 0 < (91 :: (b1 ++ (ks ++ (b2 ++ 93 :: (u ++ s3))))).length := by simp
       generalize hL : (91 :: (b1 ++ (ks ++ (b2 ++ 93 :: (u ++ s3))))).length = L at *
       have HL := Lib.hid hL
       subst he
       clear hp1 hL h5 hx0 hk hb1 hb2 h4 htc hc hc91 hte hte2 hpos
       go_wp2_with fail
       refine (HC.out L rfl).mono ?_
       rintro e w2 ⟨xs, a2, k2, rfl, hp2, hps2, hx2, hne2, hf2⟩
       obtain ⟨d2, d4, dfr, dgl⟩ := hps2.cells
       have df2 := dfr 2
       have HP2 := Lib.hid hp2
       have HPS2 := Lib.hid hps2
       have HX2 := Lib.hid hx2
       have HF2 := Lib.hid hf2
       have HNE := Lib.hid hne2
       clear hp2 hps2 hx2 hf2 dfr x1 hne2
       go_wp2_with fail
       go_ret
       exact .inr ⟨x, es2, z, s3, a2, k2, xs, rfl, rfl, HZ.out, HD5.out, HP2.out, (HPS2.out.leftOk _).1, HX2.out.k5 (HPS2.out.leftOk _).2.2.k5, HNE.out, (HF.out.trans HF2.out).trans (HPS2.out.leftOk _).2⟩
     · have hch : c = 91 := by rw [hte] at htc; injection htc with h _; exact h.symm
       have hte2 : t ++ (u ++ s3) = 91 :: 91 :: (b1 ++ (ks ++ (b2 ++ 93 :: 93 :: (u ++ s3)))) := by rw [hte]; simp
       rw [hte2] at hp1 HP1 he
       subst hch
       have HC := Lib.hid (fun m (hm : m = (91 :: 91 :: (b1 ++ (ks ++ (b2 ++ 93 :: 93 :: (u ++ s3))))).length) => expr40_two HPS.out HIN.out hx0 hb1 hb2 hk h3 h4 HP1.out m hm)
       have hpos2 : 0 < (91 :: 91 :: (b1 ++ (ks ++ (b2 ++ 93 :: 93 :: (u ++ s3))))).length := by simp
       generalize hL : (91 :: 91 :: (b1 ++ (ks ++ (b2 ++ 93 :: 93 :: (u ++ s3))))).length = L at *
       have HL := Lib.hid hL
       subst he
       clear hp1 hL h5 hx0 hk hb1 hb2 h4 htc hc hc91 hte hte2 hpos
       go_wp2_with fail
       refine (HC.out L rfl).mono ?_
       rintro e w2 ⟨xs, a2, k2, rfl, hp2, hps2, hx2, hne2, hf2⟩
       obtain ⟨d2, d4, dfr, dgl⟩ := hps2.cells
       have df2 := dfr 2
       have HP2 := Lib.hid hp2
       have HPS2 := Lib.hid hps2
       have HX2 := Lib.hid hx2
       have HF2 := Lib.hid hf2
       have HNE := Lib.hid hne2
       clear hp2 hps2 hx2 hf2 dfr x1 hne2
       go_wp2_with fail
       go_ret
       exact .inr ⟨x, es2, z, s3, a2, k2, xs, rfl, rfl, HZ.out, HD5.out, HP2.out, (HPS2.out.leftOk _).1, HX2.out.k5 (HPS2.out.leftOk _).2.2.k5, HNE.out, (HF.out.trans HF2.out).trans (HPS2.out.leftOk _).2⟩
end Go.Proofs.Ytnlkbbpmpgdmiaa
