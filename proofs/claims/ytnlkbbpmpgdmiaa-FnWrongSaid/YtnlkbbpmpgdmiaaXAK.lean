/- Numbers of all our kinds as tokens; A part of a key: scanSimpleKey, parseSimpleKey; parseKey: keys with points; Values of all kinds: their texts, and the parser's nodes of them. -/
import Derived.Test.YtnlkbbpmpgdmiaaXAJ
import Derived.Test.YtnlkbbpmpgdmiaaXAH
import Derived.Test.YtnlkbbpmpgdmiaaXAC
namespace Go.Proofs.Ytnlkbbpmpgdmiaa
open Go.RowKit
set_option linter.unusedVariables false
set_option linter.unusedSimpArgs false
inductive NumTxt : Nat → List UInt8 → Prop
 | plain (c : UInt8) (t : List UInt8) : Digit c → ((c.toNat : Int) == 48) = false → Strokes Digit t → NumTxt 11 (c :: t)
 | zero : NumTxt 11 [48]
 | plus (c : UInt8) (t : List UInt8) : Digit c → ((c.toNat : Int) == 48) = false → Strokes Digit t → NumTxt 11 (43 :: c :: t)
 | minus (c : UInt8) (t : List UInt8) : Digit c → ((c.toNat : Int) == 48) = false → Strokes Digit t → NumTxt 11 (45 :: c :: t)
 | minusZero : NumTxt 11 [45, 48]
 | hex (d : UInt8) (t : List UInt8) : HexD d → Strokes HexD t → NumTxt 11 (48 :: 120 :: d :: t)
 | oct (d : UInt8) (t : List UInt8) : Octal d → Strokes Octal t → NumTxt 11 (48 :: 111 :: d :: t)
 | bin (d : UInt8) (t : List UInt8) : Binary d → Strokes Binary t → NumTxt 11 (48 :: 98 :: d :: t)
 | plusInf : NumTxt 10 [43, 105, 110, 102]
 | minusInf : NumTxt 10 [45, 105, 110, 102]
 | plusNan : NumTxt 10 [43, 110, 97, 110]
 | minusNan : NumTxt 10 [45, 110, 97, 110]
 | point (c : UInt8) (t1 : List UInt8) (d2 : UInt8) (t2 : List UInt8) : Digit c → ((c.toNat : Int) == 48) = false → Strokes Digit t1 → Digit d2 → Strokes Digit t2 → NumTxt 10 (c :: (t1 ++ 46 :: d2 :: t2))
 | minusZeroPoint (d2 : UInt8) (t2 : List UInt8) : Digit d2 → Strokes Digit t2 → NumTxt 10 (45 :: 48 :: 46 :: d2 :: t2)
 | power (c : UInt8) (t1 : List UInt8) (d3 : UInt8) (t3 : List UInt8) : Digit c → ((c.toNat : Int) == 48) = false → Strokes Digit t1 → Digit d3 → Strokes Digit t3 → NumTxt 10 (c :: (t1 ++ 101 :: d3 :: t3))
 | minusZeroPointPower (d2 : UInt8) (t2 : List UInt8) (d3 : UInt8) (t3 : List UInt8) : Digit d2 → Strokes Digit t2 → Digit d3 → Strokes Digit t3 → NumTxt 10 (45 :: 48 :: 46 :: d2 :: (t2 ++ 101 :: 43 :: d3 :: t3))
 | plusPointPower (c : UInt8) (t1 : List UInt8) (d2 : UInt8) (t2 : List UInt8) (d3 : UInt8) (t3 : List UInt8) : Digit c → ((c.toNat : Int) == 48) = false → Strokes Digit t1 → Digit d2 → Strokes Digit t2 → Digit d3 → Strokes Digit t3 → NumTxt 10 (43 :: c :: (t1 ++ 46 :: d2 :: (t2 ++ 101 :: 45 :: d3 :: t3)))
theorem numTxt_scan {b cap k kind : Nat} {D s rest : List UInt8} {a : Addr} {w : World} (hi : Inp w b cap D) (hs : NumTxt kind s) (hf : Follow rest) (hp : Pos b cap D (s ++ rest) a k) (m : Nat) (hm : m = (s ++ rest).length) :
   Calls Try.prog 88 #[.slice (some a) m k] w (TokAt b cap D (s ++ rest) rest s kind a k w) := by
 cases hs with
 | plain c t h1 h2 h3 => exact scanInt_plain hi h1 h2 h3 hf hp m hm
 | zero => exact scanInt_zero hi hf hp m hm
 | plus c t h1 h2 h3 => exact scanNum_p99 hi h1 h2 h3 hf hp m hm
 | minus c t h1 h2 h3 => exact scanNum_m17 hi h1 h2 h3 hf hp m hm
 | minusZero => exact scanNum_m0 hi hf hp m hm
 | hex d t h1 h2 => exact scanNum_x hi h1 h2 hf hp m hm
 | oct d t h1 h2 => exact scanNum_o hi h1 h2 hf hp m hm
 | bin d t h1 h2 => exact scanNum_b hi h1 h2 hf hp m hm
 | plusInf => exact scanNum_inf43 hi hf hp m hm
 | minusInf => exact scanNum_inf45 hi hf hp m hm
 | plusNan => exact scanNum_nan43 hi hf hp m hm
 | minusNan => exact scanNum_nan45 hi hf hp m hm
 | point c t1 d2 t2 h1 h2 h3 h4 h5 => exact scanNum_pt hi h1 h2 h3 h4 h5 hf hp m hm
 | minusZeroPoint d2 t2 h1 h2 => exact scanNum_m0pt hi h1 h2 hf hp m hm
 | power c t1 d3 t3 h1 h2 h3 h4 h5 => exact scanNum_pw hi h1 h2 h3 h4 h5 hf hp m hm
 | minusZeroPointPower d2 t2 d3 t3 h1 h2 h3 h4 => exact scanNum_m0ptpw hi h1 h2 h3 h4 hf hp m hm
 | plusPointPower c t1 d2 t2 d3 t3 h1 h2 h3 h4 h5 h6 h7 => exact scanNum_pptpw hi h1 h2 h3 h4 h5 h6 h7 hf hp m hm
theorem NumTxt.head {kind : Nat} {s : List UInt8} (hs : NumTxt kind s) : ∃ c r, s = c :: r ∧ (Digit c ∨ c = 43 ∨ c = 45) := by
 cases hs with
 | plain c t h1 h2 h3 => exact ⟨_, _, rfl, .inl h1⟩
 | point c t1 d2 t2 h1 h2 h3 h4 h5 => exact ⟨_, _, rfl, .inl h1⟩
 | power c t1 d3 t3 h1 h2 h3 h4 h5 => exact ⟨_, _, rfl, .inl h1⟩
 | _ => exact ⟨_, _, rfl, by decide⟩
theorem Strokes.signs {P : UInt8 → Prop} {t : List UInt8} (h : Strokes P t) : ∀ c ∈ t, P c ∨ c = 95 := by
 induction h with
 | nil => intro c hc; cases hc
 | digit c t h1 h2 ih =>
   intro x hx
   rcases List.mem_cons.1 hx with rfl | hx
   · exact .inl h1
   · exact ih x hx
 | stroke c t h1 h2 ih =>
   intro x hx
   rcases List.mem_cons.1 hx with rfl | hx
   · exact .inr rfl
   rcases List.mem_cons.1 hx with rfl | hx
   · exact .inl h1
   · exact ih x hx
def NoDt (c : UInt8) : Prop := c ≠ 58 ∧ c ≠ 45
theorem noDt_digit {c : UInt8} (h : Digit c) : NoDt c := by
 constructor <;> (rintro rfl; revert h; decide)
theorem noDt_str {P : UInt8 → Prop} (hP : ∀ c, P c → NoDt c) {t : List UInt8} (h : Strokes P t) : ∀ c ∈ t, NoDt c := by
 intro c hc
 rcases h.signs c hc with h | rfl
 · exact hP c h
 · exact ⟨by decide, by decide⟩
theorem noDt_hex {c : UInt8} (h : HexD c) : NoDt c := by
 constructor <;> (rintro rfl; revert h; unfold HexD Digit; decide)
theorem noDt_oct {c : UInt8} (h : Octal c) : NoDt c := by
 constructor <;> (rintro rfl; revert h; unfold Octal; decide)
theorem noDt_bin {c : UInt8} (h : Binary c) : NoDt c := by
 constructor <;> (rintro rfl; revert h; unfold Binary; decide)
theorem NumTxt.noDt {kind : Nat} {s : List UInt8} (hs : NumTxt kind s) : (∃ r, s = 43 :: r) ∨ (∃ r, s = 45 :: r) ∨ ∀ c ∈ s, NoDt c := by
 have L : ∀ {x : UInt8} {l : List UInt8}, NoDt x → (∀ c ∈ l, NoDt c) → ∀ c ∈ x :: l, NoDt c := by
   intro x l h1 h2 c hc
   rcases List.mem_cons.1 hc with rfl | hc
   · exact h1
   · exact h2 c hc
 have A : ∀ {a l : List UInt8}, (∀ c ∈ a, NoDt c) → (∀ c ∈ l, NoDt c) → ∀ c ∈ a ++ l, NoDt c := by
   intro a l h1 h2 c hc
   rcases List.mem_append.1 hc with hc | hc
   · exact h1 c hc
   · exact h2 c hc
 have Dg : ∀ {c : UInt8}, Digit c → NoDt c := noDt_digit
 have St : ∀ {t : List UInt8}, Strokes Digit t → ∀ c ∈ t, NoDt c := fun h => noDt_str (fun _ => noDt_digit) h
 cases hs with
 | plain c t h1 h2 h3 => exact .inr (.inr (L (Dg h1) (St h3)))
 | zero => exact .inr (.inr (L ⟨by decide, by decide⟩ (by intro c hc; cases hc)))
 | hex d t h1 h2 => exact .inr (.inr (L ⟨by decide, by decide⟩ (L ⟨by decide, by decide⟩ (L (noDt_hex h1) (noDt_str (fun _ => noDt_hex) h2)))))
 | oct d t h1 h2 => exact .inr (.inr (L ⟨by decide, by decide⟩ (L ⟨by decide, by decide⟩ (L (noDt_oct h1) (noDt_str (fun _ => noDt_oct) h2)))))
 | bin d t h1 h2 => exact .inr (.inr (L ⟨by decide, by decide⟩ (L ⟨by decide, by decide⟩ (L (noDt_bin h1) (noDt_str (fun _ => noDt_bin) h2)))))
 | point c t1 d2 t2 h1 h2 h3 h4 h5 => exact .inr (.inr (L (Dg h1) (A (St h3) (L ⟨by decide, by decide⟩ (L (Dg h4) (St h5))))))
 | power c t1 d3 t3 h1 h2 h3 h4 h5 => exact .inr (.inr (L (Dg h1) (A (St h3) (L ⟨by decide, by decide⟩ (L (Dg h4) (St h5))))))
 | plus | plusInf | plusNan | plusPointPower => exact .inl ⟨_, rfl⟩
 | _ => exact .inr (.inl ⟨_, rfl⟩)
theorem noDt_start {s rest : List UInt8} (hs : ∀ c ∈ s, NoDt c) (hne : s ≠ []) (hf : Follow rest) : ¬ dtStart (s ++ rest) := by
 obtain ⟨cr, rr, rfl, hcr, h58, h45, -⟩ := hf.facts
 have n58 : cr ≠ 58 := by rintro rfl; simp at h58
 have n45 : cr ≠ 45 := by rintro rfl; simp at h45
 intro h
 rcases s with _ | ⟨c0, _ | ⟨c1, _ | ⟨c2, _ | ⟨c3, _ | ⟨c4, q⟩⟩⟩⟩⟩
 · exact hne rfl
 · rcases rr with _ | ⟨r1, rr⟩
   · exact h
   · rcases h with ⟨h, _⟩ | ⟨h, _⟩ <;> exact hcr h
 · rcases h with ⟨_, h⟩ | ⟨_, h, _⟩
   · exact n58 h
   · exact hcr h
 · rcases h with ⟨_, h⟩ | ⟨_, _, c3, q, h, h2⟩
   · exact (hs c2 (by simp)).1 h
   · injection h with h _
     subst h
     exact hcr h2
 · rcases h with ⟨_, h⟩ | ⟨_, _, x, q, h, h2⟩
   · exact (hs c2 (by simp)).1 h
   · injection h with _ h
     injection h with h _
     exact n45 h
 · rcases h with ⟨_, h⟩ | ⟨_, _, x, q', h, h2⟩
   · exact (hs c2 (by simp)).1 h
   · injection h with _ h
     injection h with h _
     exact (hs c4 (by simp)).2 h
end Go.Proofs.Ytnlkbbpmpgdmiaa
namespace Go.Proofs.Ytnlkbbpmpgdmiaa
open Go.RowKit
set_option linter.unusedVariables false
set_option linter.unusedSimpArgs false
theorem LitTxt.head {t s : List UInt8} (h : LitTxt t s) : ∃ r, s = 39 :: r := by obtain ⟨es, _, _, rfl⟩ := h; exact ⟨_, rfl⟩
theorem BasTxt.head {t s : List UInt8} (h : BasTxt t s) : ∃ r, s = 34 :: r := by obtain ⟨ps, _, _, rfl⟩ := h; exact ⟨_, rfl⟩
set_option maxRecDepth 100000 in
set_option maxHeartbeats 1000000 in
theorem scanKey_at {b cap k : Nat} {D rest t s : List UInt8} {a : Addr} {w : World} (hi : Inp w b cap D) (ht : PartTxt t s) (hr : ∀ c r, rest = c :: r → ¬ Bare c) (hp : Pos b cap D (s ++ rest) a k) (m : Nat) (hm : m = (s ++ rest).length) (pv : Value) :
   Calls Try.prog 82 #[pv, .slice (some a) m k] w (StrAt b cap D (s ++ rest) rest t a k w) := by
 rcases ht with ⟨rfl, hne, hb⟩ | hl | hb
 · exact bareTxt_at hi hne hb hr hp m hm pv
 · obtain ⟨r, hs⟩ := hl.head
   have HC := Lib.hid (litTxt_at hi hl hp m hm pv)
   have hc0 : w.cell? a = some (.int .u8 39) := by
     have h1 := hp.addr (by rw [hs]; simp)
     have h2 := hi.doc.suffix hp.suf
     rw [h1]
     rw [hs] at h2 ⊢
     exact h2.head.1
   have hm0 : 0 < m := by rw [hm, hs]; simp
   have ha := hp.addr (by rw [hs]; simp)
   generalize D.length - (s ++ rest).length = o at *
   subst ha
   have hmk : m ≤ k := by have := hp.room; have := hp.le; have := hi.fits; omega
   have hb1 : m ≤ 140737488351232 ∧ k ≤ 9223372036854775807 := by have := hp.room; have := hp.le; have := hi.fits; have := hi.bound; omega
   clear hi hl hp hm hs hr
   go_enter Try.func82, Try.ntmps82
   go_wp2_with fail
   refine HC.out.mono ?_
   rintro e w1 ⟨m1, dv, a1, k1, h1, rfl, h2, h3, h4⟩
   have H1 := Lib.hid h1
   have H2 := Lib.hid h2
   have H3 := Lib.hid h3
   have H4 := Lib.hid h4
   clear h1 h2 h3 h4
   go_wp2_with fail
   ((try simp only [Exit.inBlock, Exit.then]); refine bodyPost_ret (results_tmp4 rfl _ _ _) rfl ?_)
   exact ⟨m1, dv, a1, k1, H1.out, rfl, H2.out, H3.out, H4.out⟩
 · obtain ⟨r, hs⟩ := hb.head
   have HC := Lib.hid (basTxt_at hi hb hp m hm pv)
   have hc0 : w.cell? a = some (.int .u8 34) := by
     have h1 := hp.addr (by rw [hs]; simp)
     have h2 := hi.doc.suffix hp.suf
     rw [h1]
     rw [hs] at h2 ⊢
     exact h2.head.1
   have hm0 : 0 < m := by rw [hm, hs]; simp
   have ha := hp.addr (by rw [hs]; simp)
   generalize D.length - (s ++ rest).length = o at *
   subst ha
   have hmk : m ≤ k := by have := hp.room; have := hp.le; have := hi.fits; omega
   have hb1 : m ≤ 140737488351232 ∧ k ≤ 9223372036854775807 := by have := hp.room; have := hp.le; have := hi.fits; have := hi.bound; omega
   clear hi hb hp hm hs hr
   go_enter Try.func82, Try.ntmps82
   go_wp2_with fail
   refine HC.out.mono ?_
   rintro e w1 ⟨m1, dv, a1, k1, h1, rfl, h2, h3, h4⟩
   have H1 := Lib.hid h1
   have H2 := Lib.hid h2
   have H3 := Lib.hid h3
   have H4 := Lib.hid h4
   clear h1 h2 h3 h4
   go_wp2_with fail
   ((try simp only [Exit.inBlock, Exit.then]); refine bodyPost_ret (results_tmp4 rfl _ _ _) rfl ?_)
   exact ⟨m1, dv, a1, k1, H1.out, rfl, H2.out, H3.out, H4.out⟩
set_option maxRecDepth 100000 in
set_option maxHeartbeats 1000000 in
theorem parseSimpleKey_any {B g b cap k : Nat} {kc : Bool} {D t s rest : List UInt8} {left err : Value} {nest : Nat} {ns : List Nd} {w : World} {a : Addr} (hps : PS B w g b cap kc D left ns err nest) (hi : Inp w b cap D) (ht : PartTxt t s) (hr : ∀ c r, rest = c :: r → ¬ Bare c) (hp : Pos b cap D (s ++ rest) a k)
   (hn : ns.length ≤ 400000) (m : Nat) (hm : m = (s ++ rest).length) :
   Calls Try.prog 71 #[.pointer (some ⟨g, 0, none⟩), .slice (some a) m k] w (KeyRead B g b cap kc D left ns err nest t rest w) := by
 have HC := Lib.hid (scanKey_at hi ht hr hp m hm (.pointer (some ⟨g, 0, none⟩)))
 have HP := Lib.hid hp
 have HI := Lib.hid hi
 have HPS := Lib.hid hps
 clear hp hi hps ht hr hm
 generalize s ++ rest = l at *
 go_enter Try.func71, Try.ntmps71
 go_wp2_with fail
 refine HC.out.mono ?_
 rintro e w1 ⟨m1, dv, a1, k1, h1, rfl, h2, h3, h4⟩
 have H1 := Lib.hid h1
 have H2 := Lib.hid h2
 have H3 := Lib.hid h3
 obtain ⟨_, _, dc, _, da, hdv, _⟩ := h3
 subst hdv
 have hps1 := HPS.out.kp h4
 have HPS1 := Lib.hid hps1
 have H4 := Lib.hid h4
 clear h1 h2 h4 hps1
 go_wp2_with fail
 refine (range_at HPS1.out HI.out.fits HI.out.bound HP.out m1 H1.out).mono ?_
 rintro e w2 ⟨ro, rl, rfl, hb2⟩
 have hps2 := HPS1.out.kp hb2
 have HPS2 := Lib.hid hps2
 have HD2 : Hid (DataIs w2 (.slice (some da) t.length dc) t) := H3.out.below hb2
 have HF2 : Hid (Fr B w w2) := (Fr.of_below H4.out HPS.out.le).trans (Fr.of_below hb2 HPS1.out.le)
 clear hb2 hps2
 go_wp2_with fail
 refine (push_any HPS2.out 2 ro rl _ HD2.out.one hn).mono ?_
 rintro e w3 ⟨rfl, hps3, hf3⟩
 have HPS3 := Lib.hid hps3
 have HF3 := Lib.hid hf3
 clear hps3 hf3
 go_wp2_with fail
 go_ret3
 exact ⟨ro, rl, _, a1, k1, rfl, H2.out, HPS3.out, HD2.out.kp HF3.out.2, HF2.out.trans HF3.out⟩
end Go.Proofs.Ytnlkbbpmpgdmiaa
namespace Go.Proofs.Ytnlkbbpmpgdmiaa
open Go.RowKit
set_option linter.unusedVariables false
set_option linter.unusedSimpArgs false
def KeyNds (w : World) : Nat → List (List UInt8) → List Nd → Prop
 | _, [], [] => True
 | base, k :: ks, x :: xs => x.kind = 2 ∧ DataIs w x.data k ∧ x.child = 0 ∧ x.next = (if ks = [] then 0 else base + 2) ∧ KeyNds w (base + 1) ks xs
 | _, _, _ => False
theorem KeyNds.kp {w w' : World} (hk : Kp w w') : ∀ {base : Nat} {ks : List (List UInt8)} {xs : List Nd}, KeyNds w base ks xs → KeyNds w' base ks xs
 | _, [], [], _ => trivial
 | base, k :: ks, x :: xs, h => ⟨h.1, h.2.1.kp hk, h.2.2.1, h.2.2.2.1, KeyNds.kp hk h.2.2.2.2⟩
 | _, [], _ :: _, h => h.elim
 | _, _ :: _, [], h => h.elim
theorem KeyNds.length {w : World} : ∀ {base : Nat} {ks : List (List UInt8)} {xs : List Nd}, KeyNds w base ks xs → xs.length = ks.length
 | _, [], [], _ => rfl
 | base, k :: ks, x :: xs, h => by simp [KeyNds.length h.2.2.2.2]
 | _, [], _ :: _, h => h.elim
 | _, _ :: _, [], h => h.elim
theorem KeyNds.snoc {w : World} {q : List UInt8} {y : Nd} (hy : y.kind = 2 ∧ DataIs w y.data q ∧ y.child = 0 ∧ y.next = 0) : ∀ {base : Nat} {k : List UInt8} {ks : List (List UInt8)} {xs : List Nd} {x : Nd}, KeyNds w base (ks ++ [k]) (xs ++ [x]) →
   KeyNds w base ((ks ++ [k]) ++ [q]) ((xs ++ [{ x with next := base + ks.length + 2 }]) ++ [y])
 | base, k, [], [], x, h => by
   obtain ⟨h1, h2, h3, _, _⟩ := h
   exact ⟨h1, h2, h3, by simp, hy.1, hy.2.1, hy.2.2.1, by simp [hy.2.2.2], trivial⟩
 | base, k, [], z :: xs, x, h => by
   have := h.length
   simp at this
 | base, k, k' :: ks, [], x, h => by
   have := h.length
   simp at this
 | base, k, k' :: ks, z :: xs, x, h => by
   obtain ⟨h1, h2, h3, h4, h5⟩ := h
   have h6 := KeyNds.snoc hy h5
   refine ⟨h1, h2, h3, ?_, ?_⟩
   · rw [h4]; simp
   · have e : base + 1 + ks.length + 2 = base + (k' :: ks).length + 2 := by simp; omega
     rw [e] at h6
     exact h6
def KeysRead (B g b cap : Nat) (kc : Bool) (D : List UInt8) (left : Value) (ns : List Nd) (err : Value) (nest : Nat) (ks : List (List UInt8)) (rest : List UInt8) (w : World) (e : Ending) (w' : World) : Prop :=
 ∃ kn a' k', e = .returned (.tuple #[.int .i32 ((ns.length : Int) + 1), .slice (some a') rest.length k', .nilIface]) ∧ Pos b cap D rest a' k' ∧
   PS B w' g b cap kc D left (ns ++ kn) err nest ∧ KeyNds w' ns.length ks kn ∧ Fr B w w'
theorem PartTxt.head {t s : List UInt8} (h : PartTxt t s) : ∃ c r, s = c :: r ∧ (Bare c ∨ c = 39 ∨ c = 34) := by
 rcases h with ⟨rfl, hne, hb⟩ | hl | hb
 · cases s with
   | nil => exact absurd rfl hne
   | cons c r => exact ⟨c, r, rfl, .inl (hb c (by simp))⟩
 · obtain ⟨r, rfl⟩ := hl.head
   exact ⟨39, r, rfl, .inr (.inl rfl)⟩
 · obtain ⟨r, rfl⟩ := hb.head
   exact ⟨34, r, rfl, .inr (.inr rfl)⟩
theorem KeyTxt.head {ks : List (List UInt8)} {s : List UInt8} (h : KeyTxt ks s) : ∃ c r, s = c :: r ∧ (Bare c ∨ c = 39 ∨ c = 34) := by
 match ks, s, h with
 | [k], _, h => exact PartTxt.head h
 | k :: k' :: ks, _, ⟨s1, b1, b2, s2, h1, _, _, _, rfl⟩ =>
   obtain ⟨c, r, rfl, hc⟩ := h1.head
   exact ⟨c, r ++ (b1 ++ 46 :: (b2 ++ s2)), by simp, hc⟩
theorem skipWs_blk {bl l : List UInt8} (h : Blk1 bl) : skipWs (bl ++ l) = skipWs l := by
 induction bl with
 | nil => rfl
 | cons c r ih =>
   rw [List.cons_append, skipWs_yes (h c (by simp)), ih (fun x hx => h x (by simp [hx]))]
theorem keyhead_ws {c : UInt8} (h : Bare c ∨ c = 39 ∨ c = 34) : ¬ (c.toNat = 32 ∨ c.toNat = 9) := by
 rcases h with h | rfl | rfl
 · unfold Bare at h; omega
 · decide
 · decide
theorem notBare_blk {bl l : List UInt8} (h : Blk1 bl) (hl : ∀ c r, l = c :: r → ¬ Bare c) : ∀ c r, bl ++ l = c :: r → ¬ Bare c := by
 intro c r hc
 cases bl with
 | nil => exact hl c r hc
 | cons d t =>
   injection hc with hd _
   subst hd
   have := h d (by simp)
   unfold Bare
   omega
def KRel (B g b cap : Nat) (kc : Bool) (D : List UInt8) (left : Value) (ns : List Nd) (err : Value) (nest : Nat) (ks : List (List UInt8)) (rest0 : List UInt8) (w : World) (gg : Nat) (s1 s7 s8 : Value) (wx : World) : Prop :=
 ∃ (dn more : List (List UInt8)) (kn : List Nd) (s : List UInt8) (a : Addr) (k : Nat), ks = dn ++ more ∧ gg = more.length ∧ KeyTxt more s ∧ s1 = .slice (some a) (s ++ rest0).length k ∧ Pos b cap D (s ++ rest0) a k ∧
   PS B wx g b cap kc D left (ns ++ kn) err nest ∧ KeyNds wx ns.length dn kn ∧ Inp wx b cap D ∧ Fr B w wx ∧ ((dn = [] ∧ s7 = .int .i32 0) ∨ (dn ≠ [] ∧ s7 = .int .i32 ((ns.length : Int) + 1) ∧ s8 = .int .i32 ((ns.length : Int) + dn.length)))
set_option maxRecDepth 100000 in
set_option maxHeartbeats 4000000 in
theorem parseKey_any {B g b cap k : Nat} {kc : Bool} {D s rest0 : List UInt8} {ks : List (List UInt8)} {left err : Value} {nest : Nat} {ns : List Nd} {w : World} {a : Addr} (hps : PS B w g b cap kc D left ns err nest) (hi : Inp w b cap D) (ht : KeyTxt ks s) (hr : ∀ c r, rest0 = c :: r → ¬ Bare c) (hp : Pos b cap D (s ++ rest0) a k)
   (hn : ns.length + ks.length ≤ 400000) (c : UInt8) (r : List UInt8) (hs : skipWs rest0 = c :: r) (hc46 : c.toNat ≠ 46) (m : Nat) (hm : m = (s ++ rest0).length) :
   Calls Try.prog 66 #[.pointer (some ⟨g, 0, none⟩), .slice (some a) m k] w (KeysRead B g b cap kc D left ns err nest ks (c :: r) w) := by
 have HR0 : Hid (KRel B g b cap kc D left ns err nest ks rest0 w ks.length (.slice (some a) m k) (.int .i32 0) (.int .i32 0) w) := ⟨[], ks, [], s, a, k, rfl, rfl, ht, by rw [hm], hp, by rw [List.append_nil]; exact hps, trivial, hi, Fr.refl _ _, .inl ⟨rfl, rfl⟩⟩
 have HR := Lib.hid hr
 have HS := Lib.hid hs
 clear hps hi ht hr hp hs hm
 go_enter Try.func66, Try.ntmps66
 go_wp2_with fail
 go_loopg [1, 7, 8] ks.length (fun gg s1 s7 s8 wx => KRel B g b cap kc D left ns err nest ks rest0 w gg s1 s7 s8 wx)
 case atStart => exact HR0.out
 case round =>
   clear HR0
   obtain ⟨dn, more, kn, s, a1, k1, rfl, rfl, hkt, rfl, hpos, hps, hkn, hin, hf, hst⟩ := hrel
   match more, hkt with
   | [q], hkt =>
     have HSK1 : Hid (∀ {ns' : List Nd} {w' : World}, PS B w' g b cap kc D left ns' err nest → Inp w' b cap D → Pos b cap D (s ++ rest0) a1 k1 → ns'.length ≤ 400000 → Calls Try.prog 71 #[.pointer (some ⟨g, 0, none⟩), .slice (some a1) (s ++ rest0).length k1] w' (KeyRead B g b cap kc D left ns' err nest q rest0 w')) :=
       fun h1 h2 h3 h4 => parseSimpleKey_any h1 h2 hkt HR.out h3 h4 _ rfl
     clear hkt
     generalize s ++ rest0 = l at *
     rcases hst with hst | hst
     · obtain ⟨rfl, rfl⟩ := hst
       obtain rfl : kn = [] := List.eq_nil_of_length_eq_zero (by have := hkn.length; simpa using this)
       rw [List.append_nil] at hps
       have HPS := Lib.hid hps
       have HIN := Lib.hid hin
       have HF := Lib.hid hf
       have HPOS := Lib.hid hpos
       clear hps hin hf hkn hpos
       go_wp2_with fail
       refine (HSK1.out HPS.out HIN.out HPOS.out (by simp only [List.nil_append, List.length_cons] at hn; omega)).mono ?_
       rintro e w3 ⟨ro, rl, dv, a2, k2, rfl, hp1, hps3, hd3, hf3⟩
       have hnz : ¬ ((ns.length : Int) + 1 = 0) := by omega
       obtain ⟨kn3, hkn3⟩ : ∃ kn3 : List Nd, kn3 = [⟨2, ro, rl, dv, 0, 0⟩] := ⟨_, rfl⟩
       rw [← hkn3] at hps3
       have HKN3 : Hid (KeyNds w3 ns.length ([] ++ [q]) kn3) := by rw [hkn3]; exact ⟨rfl, hd3, rfl, rfl, trivial⟩
       have HP1 := Lib.hid hp1
       have HPS3 := Lib.hid hps3
       have HIN3 : Hid (Inp w3 b cap D) := HIN.out.kp hf3.2
       have HF3 : Hid (Fr B w w3) := HF.out.trans hf3
       have HL8 : Hid (Value.int .i32 ((ns.length : Int) + 1) = .int .i32 ((ns.length : Int) + (([] ++ [q] : List (List UInt8)).length : Nat))) := by show _ = _; simp
       clear hp1 hps3 hd3 hf3 hkn3
       go_wp2_with fail
       refine (skip_at _ HIN3.out HP1.out rfl).mono ?_
       rintro e w4 ⟨a4, k4, he, hp4, rfl⟩
       rw [HS.out] at he hp4
       have hx : w3.cell? a4 = some (.int .u8 c.toNat) := by
         rw [hp4.addr (by simp)]
         exact (HIN3.out.doc.suffix hp4.suf).head.1
       have HP4 := Lib.hid hp4
       simp only [List.length_cons] at he
       subst he
       clear hp4
       go_wp2_with fail
       go_ret3
       exact ⟨kn3, a4, k4, rfl, HP4.out, HPS3.out, HKN3.out, HF3.out⟩
     · obtain ⟨hdn, rfl, rfl⟩ := hst
       have hkl := hkn.length
       obtain ⟨dn0, dl, rfl⟩ : ∃ dn0 dl, dn = dn0 ++ [dl] := ⟨dn.dropLast, dn.getLast hdn, (List.dropLast_concat_getLast hdn).symm⟩
       obtain ⟨kn0, x, rfl⟩ : ∃ kn0 x, kn = kn0 ++ [x] := by
         have hkn0 : kn ≠ [] := by intro h; rw [h] at hkl; simp at hkl
         exact ⟨kn.dropLast, kn.getLast hkn0, (List.dropLast_concat_getLast hkn0).symm⟩
       have hkl0 : kn0.length = dn0.length := by simpa using hkl
       have HPS := Lib.hid hps
       have HIN := Lib.hid hin
       have HF := Lib.hid hf
       have HPOS := Lib.hid hpos
       have HKN := Lib.hid hkn
       simp only [List.length_append, List.length_cons, List.length_nil] at hn
       clear hps hin hf hkn hpos hkl hdn
       have hnl : (ns ++ (kn0 ++ [x])).length = ns.length + dn0.length + 1 := by simp; omega
       have HNL := Lib.hid hnl
       clear hnl
       have hnz : ¬ ((ns.length : Int) + 1 = 0) := by omega
       go_wp2_with fail
       refine (HSK1.out HPS.out HIN.out HPOS.out (by rw [HNL.out]; omega)).mono ?_
       rintro e w1 ⟨ro, rl, dv, a2, k2, he, hp1, hps1, hd1, hf1⟩
       rw [HNL.out] at he
       have he' : e = .returned (.tuple #[.int .i32 ((ns.length : Int) + dn0.length + 1 + 1), .slice (some a2) rest0.length k2, .nilIface]) := by rw [he]; congr 4
       clear he
       subst he'
       have hx1 : ((ns ++ (kn0 ++ [x])) ++ [(⟨2, ro, rl, dv, 0, 0⟩ : Nd)])[ns.length + dn0.length]? = some x := by
         rw [List.append_assoc, List.append_assoc, List.getElem?_append_right (by omega), List.getElem?_append_right (by omega)]
         simp [hkl0]
       have hlen1 : ((ns ++ (kn0 ++ [x])) ++ [(⟨2, ro, rl, dv, 0, 0⟩ : Nd)]).length = ns.length + dn0.length + 2 := by rw [List.length_append, HNL.out]; rfl
       obtain ⟨gn, hpn⟩ := hps1.pn (by simp)
       have cA := hpn.cellAt hx1 5 (by omega) (u := .int .i32 x.next) rfl
       have fA := hps1.nf hpn (7 * (ns.length + dn0.length) + 5)
       have hxd : x.data.oneCell' = true := by
         obtain ⟨A1, V1, hg1, _, harn, _⟩ := hps1
         rcases harn with ⟨h0, _⟩ | ⟨_, _, _, _, _, _, _, _, _, _, _, hone⟩
         · simp at h0
         · exact hone x (List.mem_of_getElem? hx1)
       have HX1 := Lib.hid hx1
       have HXD := Lib.hid hxd
       have HLEN1 := Lib.hid hlen1
       have HPS1 := Lib.hid hps1
       have HPN1 := Lib.hid hpn
       have HP1 := Lib.hid hp1
       have HD1 := Lib.hid hd1
       have HF1 := Lib.hid hf1
       clear hps1 hpn hp1 hd1 hf1 hx1 hxd hlen1
       go_wp2_with fail
       refine (at_at _ HPN1.out (ns.length + dn0.length) (by rw [HLEN1.out]; omega) (by rw [HLEN1.out]; omega) (by simp; omega)).mono ?_
       rintro e w2 ⟨rfl, rfl⟩
       go_wp2_with fail
       generalize hw3 : w1.setCell ⟨gn, 7 * (ns.length + dn0.length) + 5, none⟩ (.int .i32 ((ns.length : Int) + dn0.length + 1 + 1)) = w3
       obtain ⟨hps3, hf3, hpn3⟩ := PS.set' (ns' := ns ++ ((kn0 ++ [{ x with next := ns.length + dn0.length + 2 }]) ++ [⟨2, ro, rl, dv, 0, 0⟩])) HPS1.out HPN1.out { x with next := ns.length + dn0.length + 2 } HX1.out 5 (by omega) (.int .i32 ((ns.length : Int) + dn0.length + 1 + 1)) (by simp [Nd.cells]; omega) HXD.out (by
         rw [List.append_assoc, List.append_assoc, List.set_append_right _ _ (by omega), List.set_append_right _ _ (by omega)]
         simp [hkl0]) hw3
       obtain ⟨kn3, hkn3⟩ : ∃ kn3 : List Nd, kn3 = (kn0 ++ [{ x with next := ns.length + dn0.length + 2 }]) ++ [⟨2, ro, rl, dv, 0, 0⟩] := ⟨_, rfl⟩
       have HKN3 : Hid (KeyNds w3 ns.length ((dn0 ++ [dl]) ++ [q]) kn3) := by
         rw [hkn3]
         exact KeyNds.snoc (y := ⟨2, ro, rl, dv, 0, 0⟩) ⟨rfl, HD1.out.kp hf3.2, rfl, rfl⟩ (HKN.out.kp (HF1.out.2.trans hf3.2))
       rw [← hkn3] at hps3
       have HPS3 := Lib.hid hps3
       have HF3 : Hid (Fr B w w3) := (HF.out.trans HF1.out).trans hf3
       have HIN3 : Hid (Inp w3 b cap D) := HIN.out.kp (HF1.out.2.trans hf3.2)
       have HL8 : Hid (Value.int .i32 ((ns.length : Int) + dn0.length + 1 + 1) = .int .i32 ((ns.length : Int) + (((dn0 ++ [dl]) ++ [q] : List (List UInt8)).length : Nat))) := by show _ = _; simp; omega
       clear hps3 hf3 hpn3 hw3 hkn3 cA fA
       go_wp2_with fail
       refine (skip_at _ HIN3.out HP1.out rfl).mono ?_
       rintro e w4 ⟨a4, k4, he, hp4, rfl⟩
       rw [HS.out] at he hp4
       have hx : w3.cell? a4 = some (.int .u8 c.toNat) := by
         rw [hp4.addr (by simp)]
         exact (HIN3.out.doc.suffix hp4.suf).head.1
       have HP4 := Lib.hid hp4
       simp only [List.length_cons] at he
       subst he
       clear hp4
       go_wp2_with fail
       go_ret3
       exact ⟨kn3, a4, k4, rfl, HP4.out, HPS3.out, HKN3.out, HF3.out⟩
   | q :: q2 :: more2, ⟨s1, b1, b2, s2, hs1, hb1, hb2, hk2, hse⟩ =>
     have hrest : s ++ rest0 = s1 ++ (b1 ++ 46 :: (b2 ++ (s2 ++ rest0))) := by rw [hse]; simp
     rw [hrest] at hpos ⊢
     have HSK1 : Hid (∀ {ns' : List Nd} {w' : World}, PS B w' g b cap kc D left ns' err nest → Inp w' b cap D → Pos b cap D (s1 ++ (b1 ++ 46 :: (b2 ++ (s2 ++ rest0)))) a1 k1 → ns'.length ≤ 400000 → Calls Try.prog 71 #[.pointer (some ⟨g, 0, none⟩), .slice (some a1) (s1 ++ (b1 ++ 46 :: (b2 ++ (s2 ++ rest0)))).length k1] w' (KeyRead B g b cap kc D left ns' err nest q (b1 ++ 46 :: (b2 ++ (s2 ++ rest0))) w')) :=
       fun h1 h2 h3 h4 => parseSimpleKey_any h1 h2 hs1 (notBare_blk hb1 (fun c r h => by injection h with h _; subst h; decide)) h3 h4 _ rfl
     have HSK : Hid (skipWs (b1 ++ 46 :: (b2 ++ (s2 ++ rest0))) = 46 :: (b2 ++ (s2 ++ rest0))) := by
       show _ = _
       rw [skipWs_blk hb1, skipWs_no (by decide)]
     have HSK2 : Hid (skipWs (b2 ++ (s2 ++ rest0)) = s2 ++ rest0) := by
       show _ = _
       obtain ⟨c2, r2, h2, hc2⟩ := hk2.head
       rw [skipWs_blk hb2, h2, List.cons_append, skipWs_no (keyhead_ws hc2)]
     have HK2 := Lib.hid hk2
     clear hs1 hb1 hb2 hk2 hse hrest hkt
     generalize hr1 : b1 ++ 46 :: (b2 ++ (s2 ++ rest0)) = rest1 at *
     generalize s1 ++ rest1 = l at *
     clear hr1
     rcases hst with hst | hst
     · obtain ⟨rfl, rfl⟩ := hst
       obtain rfl : kn = [] := List.eq_nil_of_length_eq_zero (by have := hkn.length; simpa using this)
       rw [List.append_nil] at hps
       have HPS := Lib.hid hps
       have HIN := Lib.hid hin
       have HF := Lib.hid hf
       have HPOS := Lib.hid hpos
       clear hps hin hf hkn hpos
       go_wp2_with fail
       refine (HSK1.out HPS.out HIN.out HPOS.out (by simp only [List.nil_append, List.length_cons] at hn; omega)).mono ?_
       rintro e w3 ⟨ro, rl, dv, a2, k2, rfl, hp1, hps3, hd3, hf3⟩
       have hnz : ¬ ((ns.length : Int) + 1 = 0) := by omega
       obtain ⟨kn3, hkn3⟩ : ∃ kn3 : List Nd, kn3 = [⟨2, ro, rl, dv, 0, 0⟩] := ⟨_, rfl⟩
       rw [← hkn3] at hps3
       have HKN3 : Hid (KeyNds w3 ns.length ([] ++ [q]) kn3) := by rw [hkn3]; exact ⟨rfl, hd3, rfl, rfl, trivial⟩
       have HP1 := Lib.hid hp1
       have HPS3 := Lib.hid hps3
       have HIN3 : Hid (Inp w3 b cap D) := HIN.out.kp hf3.2
       have HF3 : Hid (Fr B w w3) := HF.out.trans hf3
       have HL8 : Hid (Value.int .i32 ((ns.length : Int) + 1) = .int .i32 ((ns.length : Int) + (([] ++ [q] : List (List UInt8)).length : Nat))) := by show _ = _; simp
       clear hp1 hps3 hd3 hf3 hkn3
       go_wp2_with fail
       refine (skip_at _ HIN3.out HP1.out rfl).mono ?_
       rintro e w4 ⟨a4, k4, he, hp4, rfl⟩
       rw [HSK.out] at he hp4
       have hx : w3.cell? a4 = some (.int .u8 46) := by
         rw [hp4.addr (by simp)]
         exact (HIN3.out.doc.suffix hp4.suf).head.1
       have HP4 := Lib.hid hp4
       have hroom := hp4.room
       have hle := hp4.le
       have hfits := HIN3.out.fits
       have hbnd := HIN3.out.bound
       have ha4 := hp4.addr (by simp)
       simp only [List.length_cons, List.length_append] at he hroom hle
       subst he
       generalize ho : D.length - (46 :: (b2 ++ (s2 ++ rest0))).length = o at *
       subst ha4
       have HO := Lib.hid ho
       clear hp4 ho
       have hk1 : ¬ k4 = 1 := by
         obtain ⟨cc, rr, hcr, _⟩ := HK2.out.head
         have := congrArg List.length hcr
         simp only [List.length_cons] at this
         omega
       have HP5 : Hid (Pos b cap D (b2 ++ (s2 ++ rest0)) ⟨b, o + 1, none⟩ (k4 - 1)) := HP4.out.tail hfits (fun _ => by rw [HO.out]) rfl
       go_wp2_with fail
       refine (skip_at _ HIN3.out HP5.out (by first | (simp only [List.length_append]; done) | (simp only [List.length_append]; omega))).mono ?_
       rintro e w4 ⟨a5, k5, he, hp5, rfl⟩
       rw [HSK2.out] at he hp5
       subst he
       have HP6 := Lib.hid hp5
       clear hp5
       go_wp2_with fail
       go_roundg (q2 :: more2).length
       case measure => simp
       case rel => exact ⟨[] ++ [q], q2 :: more2, kn3, s2, a5, k5, by simp, rfl, HK2.out, by rw [List.length_append], HP6.out, HPS3.out, HKN3.out, HIN3.out, HF3.out, .inr ⟨by simp, rfl, HL8.out⟩⟩
     · obtain ⟨hdn, rfl, rfl⟩ := hst
       have hkl := hkn.length
       obtain ⟨dn0, dl, rfl⟩ : ∃ dn0 dl, dn = dn0 ++ [dl] := ⟨dn.dropLast, dn.getLast hdn, (List.dropLast_concat_getLast hdn).symm⟩
       obtain ⟨kn0, x, rfl⟩ : ∃ kn0 x, kn = kn0 ++ [x] := by
         have hkn0 : kn ≠ [] := by intro h; rw [h] at hkl; simp at hkl
         exact ⟨kn.dropLast, kn.getLast hkn0, (List.dropLast_concat_getLast hkn0).symm⟩
       have hkl0 : kn0.length = dn0.length := by simpa using hkl
       have HPS := Lib.hid hps
       have HIN := Lib.hid hin
       have HF := Lib.hid hf
       have HPOS := Lib.hid hpos
       have HKN := Lib.hid hkn
       simp only [List.length_append, List.length_cons, List.length_nil] at hn
       clear hps hin hf hkn hpos hkl hdn
       have hnl : (ns ++ (kn0 ++ [x])).length = ns.length + dn0.length + 1 := by simp; omega
       have HNL := Lib.hid hnl
       clear hnl
       have hnz : ¬ ((ns.length : Int) + 1 = 0) := by omega
       go_wp2_with fail
       refine (HSK1.out HPS.out HIN.out HPOS.out (by rw [HNL.out]; omega)).mono ?_
       rintro e w1 ⟨ro, rl, dv, a2, k2, he, hp1, hps1, hd1, hf1⟩
       rw [HNL.out] at he
       have he' : e = .returned (.tuple #[.int .i32 ((ns.length : Int) + dn0.length + 1 + 1), .slice (some a2) rest1.length k2, .nilIface]) := by rw [he]; congr 4
       clear he
       subst he'
       have hx1 : ((ns ++ (kn0 ++ [x])) ++ [(⟨2, ro, rl, dv, 0, 0⟩ : Nd)])[ns.length + dn0.length]? = some x := by
         rw [List.append_assoc, List.append_assoc, List.getElem?_append_right (by omega), List.getElem?_append_right (by omega)]
         simp [hkl0]
       have hlen1 : ((ns ++ (kn0 ++ [x])) ++ [(⟨2, ro, rl, dv, 0, 0⟩ : Nd)]).length = ns.length + dn0.length + 2 := by rw [List.length_append, HNL.out]; rfl
       obtain ⟨gn, hpn⟩ := hps1.pn (by simp)
       have cA := hpn.cellAt hx1 5 (by omega) (u := .int .i32 x.next) rfl
       have fA := hps1.nf hpn (7 * (ns.length + dn0.length) + 5)
       have hxd : x.data.oneCell' = true := by
         obtain ⟨A1, V1, hg1, _, harn, _⟩ := hps1
         rcases harn with ⟨h0, _⟩ | ⟨_, _, _, _, _, _, _, _, _, _, _, hone⟩
         · simp at h0
         · exact hone x (List.mem_of_getElem? hx1)
       have HX1 := Lib.hid hx1
       have HXD := Lib.hid hxd
       have HLEN1 := Lib.hid hlen1
       have HPS1 := Lib.hid hps1
       have HPN1 := Lib.hid hpn
       have HP1 := Lib.hid hp1
       have HD1 := Lib.hid hd1
       have HF1 := Lib.hid hf1
       clear hps1 hpn hp1 hd1 hf1 hx1 hxd hlen1
       go_wp2_with fail
       refine (at_at _ HPN1.out (ns.length + dn0.length) (by rw [HLEN1.out]; omega) (by rw [HLEN1.out]; omega) (by simp; omega)).mono ?_
       rintro e w2 ⟨rfl, rfl⟩
       go_wp2_with fail
       generalize hw3 : w1.setCell ⟨gn, 7 * (ns.length + dn0.length) + 5, none⟩ (.int .i32 ((ns.length : Int) + dn0.length + 1 + 1)) = w3
       obtain ⟨hps3, hf3, hpn3⟩ := PS.set' (ns' := ns ++ ((kn0 ++ [{ x with next := ns.length + dn0.length + 2 }]) ++ [⟨2, ro, rl, dv, 0, 0⟩])) HPS1.out HPN1.out { x with next := ns.length + dn0.length + 2 } HX1.out 5 (by omega) (.int .i32 ((ns.length : Int) + dn0.length + 1 + 1)) (by simp [Nd.cells]; omega) HXD.out (by
         rw [List.append_assoc, List.append_assoc, List.set_append_right _ _ (by omega), List.set_append_right _ _ (by omega)]
         simp [hkl0]) hw3
       obtain ⟨kn3, hkn3⟩ : ∃ kn3 : List Nd, kn3 = (kn0 ++ [{ x with next := ns.length + dn0.length + 2 }]) ++ [⟨2, ro, rl, dv, 0, 0⟩] := ⟨_, rfl⟩
       have HKN3 : Hid (KeyNds w3 ns.length ((dn0 ++ [dl]) ++ [q]) kn3) := by
         rw [hkn3]
         exact KeyNds.snoc (y := ⟨2, ro, rl, dv, 0, 0⟩) ⟨rfl, HD1.out.kp hf3.2, rfl, rfl⟩ (HKN.out.kp (HF1.out.2.trans hf3.2))
       rw [← hkn3] at hps3
       have HPS3 := Lib.hid hps3
       have HF3 : Hid (Fr B w w3) := (HF.out.trans HF1.out).trans hf3
       have HIN3 : Hid (Inp w3 b cap D) := HIN.out.kp (HF1.out.2.trans hf3.2)
       have HL8 : Hid (Value.int .i32 ((ns.length : Int) + dn0.length + 1 + 1) = .int .i32 ((ns.length : Int) + (((dn0 ++ [dl]) ++ [q] : List (List UInt8)).length : Nat))) := by show _ = _; simp; omega
       clear hps3 hf3 hpn3 hw3 hkn3 cA fA
       go_wp2_with fail
       refine (skip_at _ HIN3.out HP1.out rfl).mono ?_
       rintro e w4 ⟨a4, k4, he, hp4, rfl⟩
       rw [HSK.out] at he hp4
       have hx : w3.cell? a4 = some (.int .u8 46) := by
         rw [hp4.addr (by simp)]
         exact (HIN3.out.doc.suffix hp4.suf).head.1
       have HP4 := Lib.hid hp4
       have hroom := hp4.room
       have hle := hp4.le
       have hfits := HIN3.out.fits
       have hbnd := HIN3.out.bound
       have ha4 := hp4.addr (by simp)
       simp only [List.length_cons, List.length_append] at he hroom hle
       subst he
       generalize ho : D.length - (46 :: (b2 ++ (s2 ++ rest0))).length = o at *
       subst ha4
       have HO := Lib.hid ho
       clear hp4 ho
       have hk1 : ¬ k4 = 1 := by
         obtain ⟨cc, rr, hcr, _⟩ := HK2.out.head
         have := congrArg List.length hcr
         simp only [List.length_cons] at this
         omega
       have HP5 : Hid (Pos b cap D (b2 ++ (s2 ++ rest0)) ⟨b, o + 1, none⟩ (k4 - 1)) := HP4.out.tail hfits (fun _ => by rw [HO.out]) rfl
       go_wp2_with fail
       refine (skip_at _ HIN3.out HP5.out (by first | (simp only [List.length_append]; done) | (simp only [List.length_append]; omega))).mono ?_
       rintro e w4 ⟨a5, k5, he, hp5, rfl⟩
       rw [HSK2.out] at he hp5
       subst he
       have HP6 := Lib.hid hp5
       clear hp5
       go_wp2_with fail
       go_roundg (q2 :: more2).length
       case measure => simp
       case rel => exact ⟨(dn0 ++ [dl]) ++ [q], q2 :: more2, kn3, s2, a5, k5, by simp, rfl, HK2.out, by rw [List.length_append], HP6.out, HPS3.out, HKN3.out, HIN3.out, HF3.out, .inr ⟨by simp, rfl, HL8.out⟩⟩
end Go.Proofs.Ytnlkbbpmpgdmiaa
namespace Go.Proofs.Ytnlkbbpmpgdmiaa
open Go.RowKit
set_option linter.unusedVariables false
set_option linter.unusedSimpArgs false
def pk (k : Nat) : Nat := if k = 0 then 8 else if k = 1 then 11 else if k = 2 then 10 else if k = 3 then 9 else if k = 4 then 15 else if k = 5 then 14 else if k = 6 then 12 else if k = 7 then 13 else if k = 8 then 6 else 7
def Scal (kd : Nat) (t s : List UInt8) : Prop :=
 (kd = 0 ∧ (LitTxt t s ∨ BasTxt t s ∨ MLitTxt t s ∨ MBasTxt t s)) ∨
 (t = s ∧ ((kd = 3 ∧ (s = [116, 114, 117, 101] ∨ s = [102, 97, 108, 115, 101])) ∨ (kd = 2 ∧ (s = [105, 110, 102] ∨ s = [110, 97, 110])) ∨
   (4 ≤ kd ∧ kd ≤ 7 ∧ DtTxt (pk kd) s ∧ dtStart s ∧ ∃ c r, s = c :: r ∧ Digit c) ∨ ((kd = 1 ∨ kd = 2) ∧ NumTxt (pk kd) s)))
def LineBr (s : List UInt8) : Prop := (∃ r, s = 10 :: r) ∨ (∃ r, s = 13 :: 10 :: r)
inductive Tail (I : N → List UInt8 → Prop) (close : UInt8) : Bool → List N → List UInt8 → Prop
 | close (av : Bool) : Tail I close av [] [close]
 | ws (av : Bool) (l : List N) (s : List UInt8) (c : UInt8) : c = 32 ∨ c = 9 → Tail I close av l s → Tail I close av l (c :: s)
 | nl (av : Bool) (l : List N) (s : List UInt8) : Tail I close av l s → Tail I close av l (10 :: s)
 | crnl (av : Bool) (l : List N) (s : List UInt8) : Tail I close av l s → Tail I close av l (13 :: 10 :: s)
 | com (av : Bool) (l : List N) (p s : List UInt8) : (∀ c ∈ p, Plain c) → LineBr s → Tail I close av l s → Tail I close av l (35 :: (p ++ s))
 | comma (l : List N) (s : List UInt8) : Tail I close false l s → Tail I close true l (44 :: s)
 | item (x : N) (l : List N) (t s : List UInt8) : I x t → Tail I close true l s → Tail I close false (x :: l) (t ++ s)
def KvTxt (P : N → List UInt8 → Prop) (x : N) (s : List UInt8) : Prop := ∃ k b1 b2 t, KeyTxt x.keys k ∧ Blk1 b1 ∧ Blk1 b2 ∧ P x t ∧ s = k ++ (b1 ++ 61 :: (b2 ++ t))
def ElTxt (P : N → List UInt8 → Prop) (x : N) (s : List UInt8) : Prop := x.keys = [] ∧ P x s
def ValTxt : Nat → N → List UInt8 → Prop
 | 0, v, s => ∃ kd t ks, v = .mk kd t [] ks ∧ Scal kd t s
 | d + 1, v, s => (∃ kd t ks, v = .mk kd t [] ks ∧ Scal kd t s) ∨
     (∃ items ks s', v = .mk 8 [] items ks ∧ s = 91 :: s' ∧ Tail (ElTxt (ValTxt d)) 93 false items s') ∨
     (∃ items ks s', v = .mk 9 [] items ks ∧ s = 123 :: s' ∧ Tail (KvTxt (ValTxt d)) 125 false items s')
def Hd (c : UInt8) : Prop := Bare c ∨ c = 39 ∨ c = 34 ∨ c = 91 ∨ c = 123 ∨ c = 43
theorem Hd.facts {c : UInt8} (h : Hd c) : c ≠ 32 ∧ c ≠ 9 ∧ c ≠ 10 ∧ c ≠ 13 ∧ c ≠ 35 ∧ c ≠ 44 ∧ c ≠ 93 ∧ c ≠ 125 ∧ c ≠ 46 ∧ c ≠ 61 := by
 refine ⟨?_, ?_, ?_, ?_, ?_, ?_, ?_, ?_, ?_, ?_⟩ <;> (rintro rfl; revert h; unfold Hd Bare; decide)
theorem Digit.bare {c : UInt8} (h : Digit c) : Bare c := .inl h
instance (c : UInt8) : Decidable (StopC c) := by unfold StopC; infer_instance
theorem dtStart.cons {s : List UInt8} (h : dtStart s) : ∃ c r, s = c :: r := by
 rcases s with _ | ⟨c, r⟩
 · exact h.elim
 · exact ⟨c, r, rfl⟩
theorem Scal.head {kd : Nat} {t s : List UInt8} (h : Scal kd t s) : ∃ c r, s = c :: r ∧ Hd c := by
 rcases h with ⟨_, h | h | h | h⟩ | ⟨rfl, ⟨_, rfl | rfl⟩ | ⟨_, rfl | rfl⟩ | ⟨_, _, h1, h2, h3⟩ | ⟨_, h⟩⟩
 · obtain ⟨r, rfl⟩ := LitTxt.head h
   exact ⟨_, _, rfl, .inr (.inl rfl)⟩
 · obtain ⟨r, rfl⟩ := BasTxt.head h
   exact ⟨_, _, rfl, .inr (.inr (.inl rfl))⟩
 · obtain ⟨es, _, _, rfl⟩ := h
   exact ⟨_, _, rfl, .inr (.inl rfl)⟩
 · obtain ⟨es, _, _, rfl⟩ := h
   exact ⟨_, _, rfl, .inr (.inr (.inl rfl))⟩
 · exact ⟨_, _, rfl, .inl (by decide)⟩
 · exact ⟨_, _, rfl, .inl (by decide)⟩
 · exact ⟨_, _, rfl, .inl (by decide)⟩
 · exact ⟨_, _, rfl, .inl (by decide)⟩
 · obtain ⟨c, r, rfl, hc⟩ := h3
   exact ⟨c, r, rfl, .inl hc.bare⟩
 · obtain ⟨c, r, rfl, hc⟩ := h.head
   refine ⟨c, r, rfl, ?_⟩
   rcases hc with hc | rfl | rfl
   · exact .inl hc.bare
   · exact .inr (.inr (.inr (.inr (.inr rfl))))
   · exact .inl (by decide)
theorem ValTxt.head : ∀ {d : Nat} {v : N} {s : List UInt8}, ValTxt d v s → ∃ c r, s = c :: r ∧ Hd c
 | 0, _, _, ⟨_, _, _, _, h⟩ => h.head
 | _ + 1, _, _, .inl ⟨_, _, _, _, h⟩ => h.head
 | _ + 1, _, _, .inr (.inl ⟨_, _, s', _, rfl, _⟩) => ⟨_, _, rfl, .inr (.inr (.inr (.inl rfl)))⟩
 | _ + 1, _, _, .inr (.inr ⟨_, _, s', _, rfl, _⟩) => ⟨_, _, rfl, .inr (.inr (.inr (.inr (.inl rfl))))⟩
theorem KvTxt.head {P : N → List UInt8 → Prop} {x : N} {s : List UInt8} (h : KvTxt P x s) : ∃ c r, s = c :: r ∧ Hd c := by
 obtain ⟨k, b1, b2, t, hk, _, _, _, rfl⟩ := h
 obtain ⟨c, r, rfl, hc⟩ := hk.head
 refine ⟨c, r ++ (b1 ++ 61 :: (b2 ++ t)), by simp, ?_⟩
 rcases hc with h | h | h
 · exact .inl h
 · exact .inr (.inl h)
 · exact .inr (.inr (.inl h))
theorem Tail.stop {I : N → List UInt8 → Prop} {close : UInt8} (hc : close = 93 ∨ close = 125) {l : List N} {s : List UInt8} {av : Bool} (h : Tail I close av l s) (hav : av = true) : ∃ c r, s = c :: r ∧ StopC c := by
 cases h with
 | close => rcases hc with rfl | rfl
            · exact ⟨_, _, rfl, by decide⟩
            · exact ⟨_, _, rfl, by decide⟩
 | ws _ _ s c h1 h2 => rcases h1 with rfl | rfl
                       · exact ⟨_, _, rfl, by decide⟩
                       · exact ⟨_, _, rfl, by decide⟩
 | nl => exact ⟨_, _, rfl, by decide⟩
 | crnl => exact ⟨_, _, rfl, by decide⟩
 | com => exact ⟨_, _, rfl, by decide⟩
 | comma => exact ⟨_, _, rfl, by decide⟩
 | item => cases hav
theorem StopC.noDigit {c : UInt8} (h : StopC c) : ¬ Digit c := by
 rcases h with rfl | rfl | rfl | rfl | rfl | rfl | rfl | rfl <;> decide
theorem Tail.follow {I : N → List UInt8 → Prop} {close : UInt8} (hc : close = 93 ∨ close = 125) {l : List N} {s : List UInt8} (h : Tail I close true l s) (rest : List UInt8) : Follow (s ++ rest) := by
 have hs := h.stop hc rfl
 obtain ⟨c, r, rfl, hcs⟩ := hs
 refine ⟨c, r ++ rest, rfl, hcs, ?_⟩
 rintro rfl d q hq
 cases h with
 | close => rcases hc with h | h <;> cases h
 | ws _ _ _ _ h1 h2 =>
   obtain ⟨c2, r2, rfl, h3⟩ := h2.stop hc rfl
   rw [List.cons_append] at hq
   injection hq with e _
   subst e
   exact h3.noDigit
def K5 (w w' : World) : Prop := w.heap.size ≤ w'.heap.size ∧ ∀ g cs, Blk w g 5 cs → Blk w' g 5 cs
theorem Kp.k5 {w w' : World} (h : Kp w w') : K5 w w' := ⟨h.1, fun g cs hb => h.2 g 5 cs (by decide) (by decide) hb⟩
theorem K5.trans {w w1 w2 : World} (h : K5 w w1) (h2 : K5 w1 w2) : K5 w w2 := ⟨Nat.le_trans h.1 h2.1, fun g cs hb => h2.2 g cs (h.2 g cs hb)⟩
theorem K5.refl (w : World) : K5 w w := ⟨Nat.le_refl _, fun _ _ h => h⟩
theorem DataIs.k5 {w w' : World} {v : Value} {s : List UInt8} (h : DataIs w v s) (hk : K5 w w') : DataIs w' v s := by
 obtain ⟨blk, off, c, cs, a, h1, h2, h3⟩ := h
 exact ⟨blk, off, c, cs, a, h1, h2, fun h0 => ⟨(h3 h0).1, hk.2 _ _ (h3 h0).2.1, (h3 h0).2.2⟩⟩
theorem Inp.k5 {w w' : World} {b cap : Nat} {D : List UInt8} (h : Inp w b cap D) (hk : K5 w w') : Inp w' b cap D := by
 refine ⟨?_, h.fits, h.bound⟩
 rcases h.doc with h | ⟨cs, h1, h2⟩
 · exact .inl h
 · exact .inr ⟨cs, hk.2 _ _ h1, h2⟩
theorem KeyNds.k5 {w w' : World} (hk : K5 w w') : ∀ {base : Nat} {ks : List (List UInt8)} {xs : List Nd}, KeyNds w base ks xs → KeyNds w' base ks xs
 | _, [], [], _ => trivial
 | base, k :: ks, x :: xs, h => ⟨h.1, h.2.1.k5 hk, h.2.2.1, h.2.2.2.1, KeyNds.k5 hk h.2.2.2.2⟩
 | _, [], _ :: _, h => h.elim
 | _, _ :: _, [], h => h.elim
def KeyNd1 (w : World) (base : Nat) (ks : List (List UInt8)) (kn : List Nd) : Prop := ks ≠ [] ∧ KeyNds w base ks kn
theorem KeyNd1.k5 {w w' : World} (hk : K5 w w') {base : Nat} {ks : List (List UInt8)} {xs : List Nd} (h : KeyNd1 w base ks xs) : KeyNd1 w' base ks xs := ⟨h.1, h.2.k5 hk⟩
mutual
def VNds (w : World) : N → Nat → Nat → List Nd → Prop
 | .mk kd t items _, base, nxt, xs => ∃ x ys, xs = x :: ys ∧ x.kind = pk kd ∧ x.next = nxt ∧
     ((kd < 8 ∧ DataIs w x.data t ∧ x.child = 0 ∧ ys = [] ∧ items = []) ∨ ((kd = 8 ∨ kd = 9) ∧ t = [] ∧ x.child = (if items = [] then 0 else base + 2) ∧ CNds w (kd = 9) items (base + 1) 0 ys))
def CNds (w : World) (tb : Prop) : List N → Nat → Nat → List Nd → Prop
 | [], _, _, xs => xs = []
 | v :: vs, base, fin, xs => ∃ a b, xs = a ++ b ∧
     ((¬ tb ∧ v.keys = [] ∧ VNds w v base (if vs = [] then fin else base + a.length + 1) a) ∨
      (tb ∧ ∃ x kn vn, a = x :: (kn ++ vn) ∧ x.kind = 5 ∧ x.next = (if vs = [] then fin else base + a.length + 1) ∧ x.child = base + kn.length + 2 ∧ KeyNd1 w (base + 1) v.keys kn ∧ VNds w v (base + 1 + kn.length) (base + 2) vn)) ∧
     CNds w tb vs (base + a.length) fin b
end
def KvNds (w : World) (v : N) (base nxt : Nat) (a : List Nd) : Prop :=
 ∃ x kn vn, a = x :: (kn ++ vn) ∧ x.kind = 5 ∧ x.next = nxt ∧ x.child = base + kn.length + 2 ∧ KeyNd1 w (base + 1) v.keys kn ∧ VNds w v (base + 1 + kn.length) (base + 2) vn
def ItNds (w : World) (tb : Prop) (v : N) (base nxt : Nat) (a : List Nd) : Prop := (¬ tb ∧ v.keys = [] ∧ VNds w v base nxt a) ∨ (tb ∧ KvNds w v base nxt a)
mutual
theorem VNds.k5 {w w' : World} (hk : K5 w w') : ∀ (v : N) {base nxt : Nat} {xs : List Nd}, VNds w v base nxt xs → VNds w' v base nxt xs
 | .mk kd t items _, base, nxt, xs, h => by
   unfold VNds at h ⊢
   obtain ⟨x, ys, h1, h2, h3, h4⟩ := h
   refine ⟨x, ys, h1, h2, h3, ?_⟩
   rcases h4 with ⟨g1, g2, g3⟩ | ⟨g1, g2, g3, g4⟩
   · exact .inl ⟨g1, g2.k5 hk, g3⟩
   · exact .inr ⟨g1, g2, g3, CNds.k5 hk _ items g4⟩
theorem CNds.k5 {w w' : World} (hk : K5 w w') (tb : Prop) : ∀ (l : List N) {base fin : Nat} {xs : List Nd}, CNds w tb l base fin xs → CNds w' tb l base fin xs
 | [], base, fin, xs, h => by unfold CNds at h ⊢; exact h
 | v :: vs, base, fin, xs, h => by
   unfold CNds at h ⊢
   obtain ⟨a, b, h1, h2, h3⟩ := h
   refine ⟨a, b, h1, ?_, CNds.k5 hk tb vs h3⟩
   rcases h2 with ⟨g1, g2, g3⟩ | ⟨g1, x, kn, vn, g2, g3, g4, g5, g6, g7⟩
   · exact .inl ⟨g1, g2, VNds.k5 hk v g3⟩
   · exact .inr ⟨g1, x, kn, vn, g2, g3, g4, g5, KeyNd1.k5 hk g6, VNds.k5 hk v g7⟩
end
theorem cnds_nil {w : World} {tb : Prop} {base fin : Nat} {xs : List Nd} : CNds w tb [] base fin xs ↔ xs = [] := by unfold CNds; exact Iff.rfl
theorem cnds_cons {w : World} {tb : Prop} {v : N} {vs : List N} {base fin : Nat} {xs : List Nd} : CNds w tb (v :: vs) base fin xs ↔ ∃ a b, xs = a ++ b ∧ ItNds w tb v base (if vs = [] then fin else base + a.length + 1) a ∧ CNds w tb vs (base + a.length) fin b := by
 conv => lhs; unfold CNds
 exact Iff.rfl
theorem VNds.root {w : World} {v : N} {base nxt : Nat} {a : List Nd} (h : VNds w v base nxt a) : ∃ r ra, a = r :: ra ∧ r.next = nxt ∧ r.kind ≠ 0 ∧ r.kind = pk v.kind ∧ ∀ f, VNds w v base f ({ r with next := f } :: ra) := by
 cases v with
 | mk kd t items ks =>
   unfold VNds at h
   obtain ⟨x, ys, rfl, h2, h3, h4⟩ := h
   refine ⟨x, ys, rfl, h3, ?_, h2, fun f => ?_⟩
   · rw [h2]; unfold pk; repeat' split
     all_goals omega
   · unfold VNds
     exact ⟨_, ys, rfl, h2, rfl, h4⟩
theorem ItNds.root {w : World} {tb : Prop} {v : N} {base nxt : Nat} {a : List Nd} (h : ItNds w tb v base nxt a) : ∃ r ra, a = r :: ra ∧ r.next = nxt ∧ ∀ f, ItNds w tb v base f ({ r with next := f } :: ra) := by
 rcases h with ⟨h1, h2, h3⟩ | ⟨h1, x, kn, vn, rfl, h3, h4, h5, h6, h7⟩
 · obtain ⟨r, ra, rfl, g1, _, _, g2⟩ := h3.root
   exact ⟨r, ra, rfl, g1, fun f => .inl ⟨h1, h2, g2 f⟩⟩
 · exact ⟨x, kn ++ vn, rfl, h4, fun f => .inr ⟨h1, _, kn, vn, rfl, h3, rfl, h5, h6, h7⟩⟩
theorem CNds.snoc {w : World} {tb : Prop} {v : N} {ys : List Nd} {fin : Nat} : ∀ {l : List N} {base : Nat} {xs : List Nd}, CNds w tb l base (base + xs.length + 1) xs → ItNds w tb v (base + xs.length) fin ys → CNds w tb (l ++ [v]) base fin (xs ++ ys)
 | [], base, xs, h, hv => by
   rw [cnds_nil] at h
   subst h
   rw [List.nil_append, cnds_cons]
   exact ⟨ys, [], by simp, by simpa using hv, cnds_nil.2 rfl⟩
 | u :: us, base, xs, h, hv => by
   rw [cnds_cons] at h
   obtain ⟨a, b, rfl, h1, h2⟩ := h
   rw [List.cons_append, cnds_cons]
   refine ⟨a, b ++ ys, by simp, ?_, ?_⟩
   · cases us with
     | nil =>
       rw [cnds_nil] at h2
       subst h2
       simpa using h1
     | cons q qs => simpa using h1
   · refine CNds.snoc ?_ ?_
     · rw [show base + a.length + b.length + 1 = base + (a ++ b).length + 1 from by rw [List.length_append]; omega]
       exact h2
     · rw [show base + a.length + b.length = base + (a ++ b).length from by rw [List.length_append]; omega]
       exact hv
def CLast (w : World) (tb : Prop) (l : List N) (base : Nat) (xs : List Nd) (lc : Nat) : Prop :=
 (l = [] ∧ xs = [] ∧ lc = 0) ∨ (l ≠ [] ∧ ∃ xa r ra, xs = xa ++ r :: ra ∧ lc = base + xa.length + 1 ∧ r.next = 0 ∧ ∀ f, CNds w tb l base f (xa ++ { r with next := f } :: ra))
theorem CLast.k5 {w w' : World} {tb : Prop} {l : List N} {base : Nat} {xs : List Nd} {lc : Nat} (h : CLast w tb l base xs lc) (hk : K5 w w') : CLast w' tb l base xs lc := by
 rcases h with h | ⟨h0, xa, r, ra, h1, h2, h3, h4⟩
 · exact .inl h
 · exact .inr ⟨h0, xa, r, ra, h1, h2, h3, fun f => CNds.k5 hk tb l (h4 f)⟩
theorem CLast.done {w : World} {tb : Prop} {l : List N} {base : Nat} {xs : List Nd} {lc : Nat} (h : CLast w tb l base xs lc) : CNds w tb l base 0 xs := by
 rcases h with ⟨rfl, rfl, _⟩ | ⟨h0, xa, r, ra, rfl, h2, h3, h4⟩
 · exact cnds_nil.2 rfl
 · have := h4 0
   rwa [show ({ r with next := 0 } : Nd) = r from by rw [← h3]] at this
theorem CLast.snoc {w : World} {tb : Prop} {l : List N} {base : Nat} {xa ra ys : List Nd} {r : Nd} {v : N} (h : ∀ f, CNds w tb l base f (xa ++ { r with next := f } :: ra)) (hv : ItNds w tb v (base + (xa ++ r :: ra).length) 0 ys) :
   CLast w tb (l ++ [v]) base ((xa ++ { r with next := base + (xa ++ r :: ra).length + 1 } :: ra) ++ ys) (base + (xa ++ r :: ra).length + 1) := by
 obtain ⟨q, qs, rfl, hq, hf⟩ := hv.root
 refine .inr ⟨by simp, xa ++ { r with next := base + (xa ++ r :: ra).length + 1 } :: ra, q, qs, rfl, by simp, hq, fun f => ?_⟩
 refine CNds.snoc ?_ ?_
 · have := h (base + (xa ++ r :: ra).length + 1)
   simpa using this
 · have := hf f
   simpa using this
theorem CLast.one {w : World} {tb : Prop} {base : Nat} {ys : List Nd} {v : N} (hv : ItNds w tb v base 0 ys) : CLast w tb ([] ++ [v]) base ([] ++ ys) (base + 1) := by
 obtain ⟨q, qs, rfl, hq, hf⟩ := hv.root
 refine .inr ⟨by simp, [], q, qs, rfl, by simp, hq, fun f => ?_⟩
 rw [List.nil_append, List.nil_append, cnds_cons]
 exact ⟨_, [], by simp; rfl, by simpa using hf f, cnds_nil.2 rfl⟩
end Go.Proofs.Ytnlkbbpmpgdmiaa
