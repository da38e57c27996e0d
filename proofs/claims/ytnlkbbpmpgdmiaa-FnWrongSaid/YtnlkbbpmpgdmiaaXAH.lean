/- Strings at a place of the document; Words: true, false, inf, nan; Dates and times as tokens: scanDateTime; scanDateTime, parseDateTime; parseDateTime; isDateTimeStart. -/
import Derived.Test.YtnlkbbpmpgdmiaaXAG
import Derived.Test.YtnlkbbpmpgdmiaaXAC
import Derived.Laws.IdiomStrings
import Derived.Test.YtnlkbbpmpgdmiaaXAF
namespace Go.Proofs.Ytnlkbbpmpgdmiaa
open Go.RowKit
set_option linter.unusedVariables false
set_option linter.unusedSimpArgs false
def StrAt (b cap : Nat) (D l rest s : List UInt8) (a : Addr) (k : Nat) (w : World) (e : Ending) (w' : World) : Prop :=
 ∃ m dv a' k', m ≤ l.length ∧ e = .returned (.tuple #[.slice (some a) m k, dv, .slice (some a') rest.length k', .nilIface]) ∧ Pos b cap D rest a' k' ∧ DataIs w' dv s ∧ Below w.heap.size w w'
theorem Doc.below {w w' : World} {b : Nat} {D : List UInt8} (h : Doc w b D) (hb : Below w.heap.size w w') : Doc w' b D := h.kp (Kp.of_below hb)
theorem Inp.below {w w' : World} {b cap : Nat} {D : List UInt8} (h : Inp w b cap D) (hb : Below w.heap.size w w') : Inp w' b cap D := h.kp (Kp.of_below hb)
theorem Doc.drewN' {w : World} {b : Nat} {D : List UInt8} (h : Doc w b D) (n : Nat) : Doc (w.drewN n) b D := h.kp (Kp.drewN w n)
theorem DataIs.below {w w' : World} {v : Value} {s : List UInt8} (h : DataIs w v s) (hb : Below w.heap.size w w') : DataIs w' v s := h.kp (Kp.of_below hb)
theorem strAt_of {b cap k : Nat} {D l rest s : List UInt8} {a : Addr} {w : World} (hi : Inp w b cap D) (hp : Pos b cap D l a k) (hl : l ≠ []) {e : Ending} {w' : World} (h : StrRes b (D.length - l.length) k l rest s w e w') : StrAt b cap D l rest s a k w e w' := by
 obtain ⟨m, v, dv, hm, rfl, hr, hb, hd⟩ := h
 have ha := hp.addr (by cases l with | nil => exact absurd rfl hl | cons => simp)
 obtain ⟨a', k', rfl, hp'⟩ := hp.rest rfl hi.fits hr
 refine ⟨m, dv, a', k', hm, by rw [ha], hp', ?_, hb⟩
 rcases hd with hd | ⟨i, c, t, rfl, hc, hdr⟩
 · exact hd.1.data hd.2
 · have hil : l = l.take i ++ (s ++ t) := by rw [← hdr, List.take_append_drop]
   refine (hi.doc.below hb).data hp hil hi.fits (fun h0 => ?_) hc
   have hin : i ≤ l.length := by
     rcases Nat.lt_or_ge l.length i with h1 | h1
     · rw [List.drop_eq_nil_of_le (by omega)] at hdr
       have := congrArg List.length hdr
       simp at this
       omega
     · exact h1
   rw [List.length_take, Nat.min_eq_left hin]
theorem litTxt_at {b cap k : Nat} {D rest t s : List UInt8} {a : Addr} {w : World} (hi : Inp w b cap D) (ht : LitTxt t s) (hp : Pos b cap D (s ++ rest) a k) (m : Nat) (hm : m = (s ++ rest).length) (pv : Value) :
   Calls Try.prog 75 #[pv, .slice (some a) m k] w (StrAt b cap D (s ++ rest) rest t a k w) := by
 obtain ⟨es, he, rfl, rfl⟩ := ht
 have hlen : (39 :: (es.flatten ++ [39]) ++ rest) = 39 :: (es.flatten ++ 39 :: rest) := by simp
 rw [hlen] at hp hm ⊢
 have ha := hp.addr (by simp)
 have h1 := hp.room
 have h2 := hp.le
 have h3 := hi.fits
 have h4 := hi.bound
 have hl : (39 :: (es.flatten ++ 39 :: rest)).length = es.flatten.length + rest.length + 2 := by simp only [List.length_cons, List.length_append]; omega
 rw [hl] at hm h1 h2
 subst hm
 have hc := litStr_any es rest he pv b (D.length - (39 :: (es.flatten ++ 39 :: rest)).length) k es.flatten.length rest.length w (hi.doc.suffix hp.suf) rfl rfl (by omega) (by omega)
 rw [← ha] at hc
 refine hc.mono ?_
 rintro e w' ⟨v, rfl, hr, nd, rfl⟩
 refine strAt_of hi hp (by simp) ⟨es.flatten.length + 2, v, _, by rw [hl]; omega, rfl, hr, (Fr.drewN w nd).1, .inr ⟨1, k - 1, 39 :: rest, rfl, by omega, by simp⟩⟩
theorem mlitTxt_at {b cap k : Nat} {D rest t s : List UInt8} {a : Addr} {w : World} (hi : Inp w b cap D) (ht : MLitTxt t s) (hr : ∀ c r, rest = c :: r → c.toNat ≠ 39 ∧ c.toNat < 128) (hp : Pos b cap D (s ++ rest) a k) (m : Nat) (hm : m = (s ++ rest).length) (pv : Value) :
   Calls Try.prog 74 #[pv, .slice (some a) m k] w (StrAt b cap D (s ++ rest) rest t a k w) := by
 obtain ⟨es, he, rfl, rfl⟩ := ht
 have hlen : (39 :: 39 :: 39 :: 10 :: (es.flatten ++ [39, 39, 39]) ++ rest) = 39 :: 39 :: 39 :: 10 :: (es.flatten ++ 39 :: 39 :: 39 :: rest) := by simp
 rw [hlen] at hp hm ⊢
 have ha := hp.addr (by simp)
 have h1 := hp.room
 have h2 := hp.le
 have h3 := hi.fits
 have h4 := hi.bound
 have hl : (39 :: 39 :: 39 :: 10 :: (es.flatten ++ 39 :: 39 :: 39 :: rest)).length = es.flatten.length + rest.length + 7 := by simp only [List.length_cons, List.length_append]; omega
 rw [hl] at hm h1 h2
 subst hm
 have hc := mlitStr_any es rest he hr pv b (D.length - (39 :: 39 :: 39 :: 10 :: (es.flatten ++ 39 :: 39 :: 39 :: rest)).length) k es.flatten.length rest.length w (hi.doc.suffix hp.suf) rfl rfl (by omega) (by omega)
 rw [← ha] at hc
 refine hc.mono ?_
 rintro e w' ⟨m, v, hm, rfl, hr, nd, rfl⟩
 refine strAt_of hi hp (by simp) ⟨m, v, _, hm, rfl, hr, (Fr.drewN w nd).1, .inr ⟨4, k - 4, 39 :: 39 :: 39 :: rest, rfl, by omega, by simp⟩⟩
theorem basTxt_at {b cap k : Nat} {D rest t s : List UInt8} {a : Addr} {w : World} (hi : Inp w b cap D) (ht : BasTxt t s) (hp : Pos b cap D (s ++ rest) a k) (m : Nat) (hm : m = (s ++ rest).length) (pv : Value) :
   Calls Try.prog 73 #[pv, .slice (some a) m k] w (StrAt b cap D (s ++ rest) rest t a k w) := by
 obtain ⟨ps, he, rfl, rfl⟩ := ht
 have hlen : (34 :: (srcs ps ++ [34]) ++ rest) = 34 :: (srcs ps ++ 34 :: rest) := by simp
 rw [hlen] at hp hm ⊢
 have ha := hp.addr (by simp)
 have h1 := hp.room
 have h2 := hp.le
 have h3 := hi.fits
 have h4 := hi.bound
 have hl : (34 :: (srcs ps ++ 34 :: rest)).length = (srcs ps).length + rest.length + 2 := by simp only [List.length_cons, List.length_append]; omega
 rw [hl] at hm h1 h2
 subst hm
 have hc := basStr_any ps rest he pv b (D.length - (34 :: (srcs ps ++ 34 :: rest)).length) k (srcs ps).length rest.length w (hi.doc.suffix hp.suf) rfl rfl (by omega) (by omega)
 rw [← ha] at hc
 exact hc.mono fun e w' h => strAt_of hi hp (by simp) h
theorem mbasTxt_at {b cap k : Nat} {D rest t s : List UInt8} {a : Addr} {w : World} (hi : Inp w b cap D) (ht : MBasTxt t s) (hr : ∀ c r, rest = c :: r → c.toNat ≠ 34) (hp : Pos b cap D (s ++ rest) a k) (m : Nat) (hm : m = (s ++ rest).length) (pv : Value) :
   Calls Try.prog 72 #[pv, .slice (some a) m k] w (StrAt b cap D (s ++ rest) rest t a k w) := by
 obtain ⟨ps, he, rfl, rfl⟩ := ht
 have hlen : (34 :: 34 :: 34 :: 10 :: (srcs ps ++ [34, 34, 34]) ++ rest) = 34 :: 34 :: 34 :: 10 :: (srcs ps ++ 34 :: 34 :: 34 :: rest) := by simp
 rw [hlen] at hp hm ⊢
 have ha := hp.addr (by simp)
 have h1 := hp.room
 have h2 := hp.le
 have h3 := hi.fits
 have h4 := hi.bound
 have hl : (34 :: 34 :: 34 :: 10 :: (srcs ps ++ 34 :: 34 :: 34 :: rest)).length = (srcs ps).length + rest.length + 7 := by simp only [List.length_cons, List.length_append]; omega
 rw [hl] at hm h1 h2
 subst hm
 have hc := mbasStr_any ps rest he hr pv b (D.length - (34 :: 34 :: 34 :: 10 :: (srcs ps ++ 34 :: 34 :: 34 :: rest)).length) k (srcs ps).length rest.length w (hi.doc.suffix hp.suf) rfl rfl (by omega) (by omega)
 rw [← ha] at hc
 exact hc.mono fun e w' h => strAt_of hi hp (by simp) h
theorem bareTxt_at {b cap k : Nat} {D rest t : List UInt8} {a : Addr} {w : World} (hi : Inp w b cap D) (ht : t ≠ []) (hb : ∀ c ∈ t, Bare c) (hr : ∀ c r, rest = c :: r → ¬ Bare c) (hp : Pos b cap D (t ++ rest) a k) (m : Nat) (hm : m = (t ++ rest).length) (pv : Value) :
   Calls Try.prog 82 #[pv, .slice (some a) m k] w (StrAt b cap D (t ++ rest) rest t a k w) := by
 have hne : 0 < t.length := List.length_pos_iff.2 ht
 have ha := hp.addr (by simp; omega)
 have h1 := hp.room
 have h2 := hp.le
 have h3 := hi.fits
 have h4 := hi.bound
 rw [List.length_append] at hm h1 h2
 subst hm
 have hc := scanKey_bare t rest hb hne hr pv b (D.length - (t ++ rest).length) k w (hi.doc.suffix hp.suf) (by omega) (by omega)
 rw [← ha] at hc
 refine hc.mono ?_
 rintro e w' ⟨v, rfl, hrr, nd, rfl⟩
 obtain ⟨a', k', rfl, hp'⟩ := hp.rest rfl h3 hrr
 exact ⟨t.length, _, a', k', by rw [List.length_append]; omega, by rw [ha], hp', (hi.doc.drewN' nd).data (p := []) (a' := ⟨b, D.length - (t ++ rest).length, none⟩) (c := k) hp rfl h3 (fun _ => rfl) (by omega), (Fr.drewN w nd).1⟩
end Go.Proofs.Ytnlkbbpmpgdmiaa
namespace Go.Proofs.Ytnlkbbpmpgdmiaa
open Go.RowKit
set_option linter.unusedVariables false
set_option linter.unusedSimpArgs false
def TokAt (b cap : Nat) (D l rest s : List UInt8) (kind : Nat) (a : Addr) (k : Nat) (w : World) (e : Ending) (w' : World) : Prop :=
 ∃ a' k', e = .returned (.tuple #[.int .i64 kind, .slice (some a) s.length k, .slice (some a) s.length k, .slice (some a') rest.length k', .nilIface]) ∧ Pos b cap D rest a' k' ∧ ∃ n, w' = w.drewN n
theorem conv_bts {w : World} {b off c : Nat} {s : List UInt8} (h : Bts w b off s) : (convert 25 9 (.slice (some ⟨b, off, none⟩) s.length c)).run Try.prog w = .ok (.string ⟨s.toArray⟩) w := by
 refine run_convert_bytes_back w 25 9 5 ⟨b, off, none⟩ c s Try.underlying25 Try.underlying5 Try.underlying9 ?_
 intro j hj
 rw [Go.WideShapes.add_plain, h j hj]
 congr 3
 simp [List.getD, hj]
theorem Pos.after {b cap k : Nat} {D s rest : List UInt8} {a a' : Addr} {k' : Nat} (h : Pos b cap D (s ++ rest) a k) (hf : D.length ≤ cap) (ha : 0 < rest.length → a' = ⟨b, D.length - (s ++ rest).length + s.length, none⟩) (hk : k' = k - s.length) : Pos b cap D rest a' k' := by
 have h1 := h.room
 have h2 := h.le
 simp only [List.length_append] at h1 h2 ha
 refine ⟨(List.suffix_append s rest).trans h.suf, by omega, fun h0 => ?_⟩
 rw [ha h0]
 congr 1
 omega
set_option maxRecDepth 100000 in
set_option maxHeartbeats 1000000 in
theorem scanKw_any {b cap k kind : Nat} {D s rest : List UInt8} {a : Addr} {w : World} (hi : Inp w b cap D) (hs : 0 < s.length) (hs5 : s.length ≤ 5) (hrest : 0 < rest.length) (hp : Pos b cap D (s ++ rest) a k) (m : Nat) (hm : m = (s ++ rest).length) :
   Calls Try.prog 85 #[.slice (some a) m k, .string ⟨s.toArray⟩, .int .i64 kind] w (TokAt b cap D (s ++ rest) rest s kind a k w) := by
 have ha := hp.addr (by simp; omega)
 have h1 := hp.room
 have h2 := hp.le
 have h3 := hi.fits
 have h4 := hi.bound
 have HB : Hid (Bts w b (D.length - (s ++ rest).length) s) := (hi.doc.suffix hp.suf).pre
 have HP := Lib.hid hp
 rw [List.length_append] at h1 h2 hm
 generalize ho : D.length - (s ++ rest).length = o at *
 have HO := Lib.hid ho
 subst ha
 have hcv := conv_bts (c := k) HB.out
 have HPA : Hid (∀ a' k', (0 < rest.length → a' = ⟨b, o + s.length, none⟩) → k' = k - s.length → Pos b cap D rest a' k') := fun a' k' e1 e2 => HP.out.after h3 (fun h => by rw [e1 h, HO.out]) e2
 generalize hR : rest.length = R at *
 have HRR := Lib.hid hR
 have hmS : s.length < m := by omega
 have hm2 : m ≤ k := by omega
 have hkS : ¬ k = s.length := by omega
 have HM : Hid (m - s.length = R) := by show _ = _; omega
 clear hp hi ho hR hm
 go_enter Try.func85, Try.ntmps85
 go_wp2_with fail
 go_quiet (fail)
 go_wp2
 ((try simp only [Exit.inBlock, Exit.then]); refine bodyPost_ret (results_tmp5 rfl _ _ _) rfl ?_)
 exact ⟨_, _, by rw [HRR.out, ← HM.out]; rfl, HPA.out _ _ (fun _ => rfl) rfl, _, rfl⟩
set_option maxRecDepth 100000 in
set_option maxHeartbeats 1000000 in
theorem parseKw_any {B g b cap k kind : Nat} {kc : Bool} {D s rest : List UInt8} {left err : Value} {nest : Nat} {ns : List Nd} {w : World} {a : Addr} (hps : PS B w g b cap kc D left ns err nest) (hi : Inp w b cap D) (hs : 0 < s.length) (hs5 : s.length ≤ 5) (hrest : 0 < rest.length) (hp : Pos b cap D (s ++ rest) a k)
   (hn : ns.length ≤ 400000) (m : Nat) (hm : m = (s ++ rest).length) :
   Calls Try.prog 76 #[.pointer (some ⟨g, 0, none⟩), .slice (some a) m k, .string ⟨s.toArray⟩, .int .i64 kind] w (ValRead kind B g b cap kc D left ns err nest s rest w) := by
 have HC := Lib.hid (scanKw_any (kind := kind) hi hs hs5 hrest hp m hm)
 have HP := Lib.hid hp
 have HI := Lib.hid hi
 have HPS := Lib.hid hps
 clear hp hi hps hm
 go_enter Try.func76, Try.ntmps76
 go_wp2_with fail
 refine HC.out.mono ?_
 rintro e w1 ⟨a1, k1, rfl, hp1, n1, rfl⟩
 have HP1 := Lib.hid hp1
 have hps1 := HPS.out.drewN n1
 have HPS1 := Lib.hid hps1
 have HD1 : Hid (DataIs (w.drewN n1) (.slice (some a) s.length k) s) := (HI.out.drewN n1).doc.data (p := []) (q := rest) HP.out rfl HI.out.fits (fun h0 => HP.out.addr (by rw [List.length_append]; omega)) (by have := HP.out.room; have := HP.out.le; have := HI.out.fits; rw [List.length_append] at *; omega)
 clear hp1 hps1
 go_wp2_with fail
 refine (range_at HPS1.out HI.out.fits HI.out.bound HP.out s.length (by rw [List.length_append]; omega)).mono ?_
 rintro e w2 ⟨ro, rl, rfl, hb2⟩
 have hps2 := HPS1.out.kp hb2
 have HPS2 := Lib.hid hps2
 have HD2 : Hid (DataIs w2 (.slice (some a) s.length k) s) := HD1.out.below hb2
 have HF2 : Hid (Fr B w w2) := (Fr.drewN w n1).trans (Fr.of_below hb2 HPS1.out.le)
 clear hb2 hps2
 go_wp2_with fail
 refine (push_any HPS2.out kind ro rl _ HD2.out.one hn).mono ?_
 rintro e w3 ⟨rfl, hps3, hf3⟩
 have HPS3 := Lib.hid hps3
 have HF3 := Lib.hid hf3
 clear hps3 hf3
 go_wp2_with fail
 go_ret3
 exact ⟨ro, rl, _, a1, k1, rfl, HP1.out, HPS3.out, HD2.out.kp HF3.out.2, HF2.out.trans HF3.out⟩
end Go.Proofs.Ytnlkbbpmpgdmiaa
namespace Go.Proofs.Ytnlkbbpmpgdmiaa
open Go.RowKit
set_option linter.unusedVariables false
set_option linter.unusedSimpArgs false
def DtC (c : UInt8) : Prop := Digit c ∨ c = 58 ∨ c = 45 ∨ c = 43 ∨ c = 46 ∨ c = 90
def StopC (c : UInt8) : Prop := c = 32 ∨ c = 9 ∨ c = 10 ∨ c = 13 ∨ c = 35 ∨ c = 44 ∨ c = 93 ∨ c = 125
def Follow (t : List UInt8) : Prop := ∃ c r, t = c :: r ∧ StopC c ∧ (c = 32 → ∀ d q, r = d :: q → ¬ Digit d)
def DtTxt (kind : Nat) (s : List UInt8) : Prop :=
 (∃ c0 c1 c2 r, s = c0 :: c1 :: c2 :: r ∧ (∀ c ∈ s, DtC c) ∧ ((c2 = 58 ∧ kind = 13) ∨ (c2 ≠ 58 ∧ kind = 12))) ∨
 (∃ c0 c1 c2 r d q, s = (c0 :: c1 :: c2 :: r) ++ d :: q ∧ (∀ c ∈ c0 :: c1 :: c2 :: r, DtC c) ∧ (∀ c ∈ q, DtC c) ∧ (d = 84 ∨ (d = 32 ∧ ∃ e t, q = e :: t ∧ Digit e)) ∧ c2 ≠ 58 ∧
   (((∃ c ∈ q, c = 90 ∨ c = 43 ∨ c = 45) ∧ kind = 15) ∨ ((∀ c ∈ q, c ≠ 90 ∧ c ≠ 43 ∧ c ≠ 45) ∧ kind = 14)))
set_option maxRecDepth 100000 in
theorem hasZone_any (m : Nat) {l : List UInt8} {b off cap : Nat} {a : Addr} {w : World} (hm' : m = l.length) (hm : Bts w b off l) (hc : m ≤ cap) (hcb : m ≤ 140737488351232 ∧ cap ≤ 9223372036854775807) (ha : 0 < m → a = ⟨b, off, none⟩) (v : Bool) (hv : (∃ c ∈ l, c = 90 ∨ c = 43 ∨ c = 45) ∧ v = true ∨ (∀ c ∈ l, c ≠ 90 ∧ c ≠ 122 ∧ c ≠ 43 ∧ c ≠ 45) ∧ v = false) :
   Calls Try.prog 99 #[.slice (some a) m cap] w fun e w' => e = .returned (.bool v) ∧ w = w' := by
 have HM := Lib.hid hm
 have HN := Lib.hid hm'.symm
 have HA := Lib.hid ha
 have HV := Lib.hid hv
 clear hm hm' ha hv
 go_enter Try.func99, Try.ntmps99
 go_wp2_with fail
 go_loopg [7] m (fun g s7 wx => ∃ k : Nat, s7 = .int .i64 k ∧ k + g = m ∧ wx = w ∧ Hid (∀ c ∈ l.take k, c ≠ 90 ∧ c ≠ 43 ∧ c ≠ 45))
 case atStart => exact ⟨0, rfl, by omega, rfl, by intro c hc; simp at hc⟩
 case round =>
   obtain ⟨k, rfl, hk, rfl, HT⟩ := hrel
   cases gk with
   | zero =>
     have hv : v = false := by
       rcases HV.out with ⟨⟨c, hc, h⟩, _⟩ | ⟨_, h⟩
       · have h2 := HT.out c (by rw [List.take_of_length_le (by have := HN.out; omega)]; exact hc)
         rcases h with h | h | h
         · exact absurd h h2.1
         · exact absurd h h2.2.1
         · exact absurd h h2.2.2
       · exact h
     subst hv
     have hkn : ¬ ((k : Int) < m) := by omega
     go_wp2_with fail
     go_ret
     exact ⟨rfl, rfl⟩
   | succ g =>
     have hkn : k < m := by omega
     have ha := HA.out (by omega)
     subst ha
     have hkl : k < l.length := by have := HN.out; omega
     obtain ⟨c, hc⟩ : ∃ c, l[k]? = some c := ⟨_, List.getElem?_eq_getElem hkl⟩
     have hcm := List.mem_of_getElem? hc
     have hcell := HM.out k hkl
     rw [List.getD_eq_getElem?_getD, hc] at hcell
     simp only [Option.getD_some] at hcell
     have HS : Hid (c ≠ 90 ∧ c ≠ 43 ∧ c ≠ 45 → ∀ x ∈ l.take (k + 1), x ≠ 90 ∧ x ≠ 43 ∧ x ≠ 45) := by
       intro h x hx
       rw [List.take_add_one, hc] at hx
       simp at hx
       rcases hx with hx | rfl
       · exact HT.out x hx
       · exact h
     by_cases hz : c = 90 ∨ c = 43 ∨ c = 45
     · have hv : v = true := by
         rcases HV.out with ⟨_, h⟩ | ⟨h, _⟩
         · exact h
         · have h2 := h c hcm
           rcases hz with h3 | h3 | h3
           · exact absurd h3 h2.1
           · exact absurd h3 h2.2.2.1
           · exact absurd h3 h2.2.2.2
       subst hv
       clear hc hcm
       have hz' : (c.toNat : Int) = 90 ∨ (c.toNat : Int) = 43 ∨ (c.toNat : Int) = 45 := by rcases hz with rfl | rfl | rfl <;> decide
       clear hz HS
       generalize (c.toNat : Int) = x at *
       rcases hz' with rfl | rfl | rfl
       all_goals
         go_wp2_with fail
         go_ret
         exact ⟨rfl, rfl⟩
     · have hnz : c ≠ 90 ∧ c ≠ 43 ∧ c ≠ 45 := ⟨fun h => hz (.inl h), fun h => hz (.inr (.inl h)), fun h => hz (.inr (.inr h))⟩
       have h122 : c ≠ 122 ∨ v = true := by
         rcases HV.out with ⟨_, h⟩ | ⟨h, _⟩
         · exact .inr h
         · exact .inl (h c hcm).2.1
       have HS2 := Lib.hid (HS.out hnz)
       have f90 : ((c.toNat : Int) == 90) = false := by simp; intro h; exact hnz.1 (UInt8.toNat_inj.1 (by show c.toNat = 90; omega))
       have f43 : ((c.toNat : Int) == 43) = false := by simp; intro h; exact hnz.2.1 (UInt8.toNat_inj.1 (by show c.toNat = 43; omega))
       have f45 : ((c.toNat : Int) == 45) = false := by simp; intro h; exact hnz.2.2 (UInt8.toNat_inj.1 (by show c.toNat = 45; omega))
       have h122' : (c.toNat : Int) = 122 ∨ ((c.toNat : Int) == 122) = false := by
         by_cases h : (c.toNat : Int) = 122
         · exact .inl h
         · exact .inr (by simp; omega)
       have HVT : Hid ((c.toNat : Int) = 122 → v = true) := fun h => by
         rcases h122 with h2 | h2
         · exact absurd (UInt8.toNat_inj.1 (by show c.toNat = 122; omega)) h2
         · exact h2
       clear hc hcm hz HS h122 hnz
       generalize (c.toNat : Int) = x at *
       rcases h122' with rfl | f122
       · obtain rfl := HVT.out rfl
         go_wp2_with fail
         go_ret
         exact ⟨rfl, rfl⟩
       · go_wp2_with fail
         go_roundg g
         case measure => omega
         case rel => exact ⟨k + 1, by go_num, by omega, rfl, HS2.out⟩
theorem Follow.facts {t : List UInt8} (h : Follow t) : ∃ c r, t = c :: r ∧ ¬ Digit c ∧ ((c.toNat : Int) == 58) = false ∧ ((c.toNat : Int) == 45) = false ∧ ((c.toNat : Int) == 43) = false ∧ ((c.toNat : Int) == 46) = false ∧ ((c.toNat : Int) == 90) = false ∧ ((c.toNat : Int) == 122) = false ∧ ((c.toNat : Int) == 84) = false ∧ ((c.toNat : Int) == 116) = false ∧
   (((c.toNat : Int) == 32) = false ∨ ((c.toNat : Int) = 32 ∧ ∀ d q, r = d :: q → ¬ Digit d)) := by
 obtain ⟨c, r, rfl, hc, h32⟩ := h
 refine ⟨c, r, rfl, ?_⟩
 rcases hc with rfl | rfl | rfl | rfl | rfl | rfl | rfl | rfl
 · exact ⟨by decide, by decide, by decide, by decide, by decide, by decide, by decide, by decide, by decide, .inr ⟨by decide, h32 rfl⟩⟩
 all_goals exact ⟨by decide, by decide, by decide, by decide, by decide, by decide, by decide, by decide, by decide, .inl (by decide)⟩
structure DtAt (kind : Nat) (s : List UInt8) (P : Nat) : Prop where
 le : P ≤ s.length
 three : 3 ≤ P
 part : ∀ i c, s[i]? = some c → i ≠ P → DtC c
 sep : ∀ c, s[P]? = some c → c = 84 ∨ (c = 32 ∧ ∃ e, s[P + 1]? = some e ∧ Digit e)
 third : ∃ c2, s[2]? = some c2 ∧ ((c2 = 58 ∧ kind = 13 ∧ P = s.length) ∨ (c2 ≠ 58 ∧ ((P = s.length ∧ kind = 12) ∨ (P < s.length ∧ (((∃ c ∈ s.drop (P + 1), c = 90 ∨ c = 43 ∨ c = 45) ∧ kind = 15) ∨ ((∀ c ∈ s.drop (P + 1), c ≠ 90 ∧ c ≠ 122 ∧ c ≠ 43 ∧ c ≠ 45) ∧ kind = 14))))))
theorem DtC.no122 {c : UInt8} (h : DtC c) : c ≠ 122 := by
 rcases h with h | rfl | rfl | rfl | rfl | rfl
 · intro e; subst e; exact absurd h (by decide)
 all_goals decide
theorem DtTxt.at_ {kind : Nat} {s : List UInt8} (h : DtTxt kind s) : ∃ P, DtAt kind s P := by
 rcases h with ⟨c0, c1, c2, r, rfl, hall, hk⟩ | ⟨c0, c1, c2, r, d, q, rfl, hp, hq, hd, h58, hz⟩
 · refine ⟨(c0 :: c1 :: c2 :: r).length, Nat.le_refl _, by simp, fun i c hi _ => hall c (List.mem_of_getElem? hi), (fun c hc => by rw [List.getElem?_eq_none (Nat.le_refl _)] at hc; cases hc), c2, rfl, ?_⟩
   rcases hk with ⟨h1, h2⟩ | ⟨h1, h2⟩
   · exact .inl ⟨h1, h2, rfl⟩
   · exact .inr ⟨h1, .inl ⟨rfl, h2⟩⟩
 · have hL : ((c0 :: c1 :: c2 :: r) ++ d :: q).length = (c0 :: c1 :: c2 :: r).length + q.length + 1 := by simp; omega
   have hdrop : ((c0 :: c1 :: c2 :: r) ++ d :: q).drop ((c0 :: c1 :: c2 :: r).length + 1) = q := by
     rw [← List.drop_drop, List.drop_left]
     rfl
   refine ⟨(c0 :: c1 :: c2 :: r).length, by rw [hL]; omega, by simp, ?_, ?_, c2, by simp, .inr ⟨h58, .inr ⟨by rw [hL]; omega, ?_⟩⟩⟩
   · intro i c hi hne
     rcases Nat.lt_or_ge i (c0 :: c1 :: c2 :: r).length with h | h
     · rw [List.getElem?_append_left h] at hi
       exact hp c (List.mem_of_getElem? hi)
     · rw [List.getElem?_append_right h] at hi
       obtain ⟨j, hj⟩ : ∃ j, i - (c0 :: c1 :: c2 :: r).length = j + 1 := ⟨i - (c0 :: c1 :: c2 :: r).length - 1, by omega⟩
       rw [hj, List.getElem?_cons_succ] at hi
       exact hq c (List.mem_of_getElem? hi)
   · intro c hc
     rw [List.getElem?_append_right (Nat.le_refl _), Nat.sub_self] at hc
     simp at hc
     subst hc
     rcases hd with h | ⟨h, e, t, ht, he⟩
     · exact .inl h
     · refine .inr ⟨h, e, ?_, he⟩
       rw [List.getElem?_append_right (by omega), Nat.add_sub_cancel_left, ht]
       rfl
   · rw [hdrop]
     rcases hz with ⟨h1, h2⟩ | ⟨h1, h2⟩
     · exact .inl ⟨h1, h2⟩
     · exact .inr ⟨fun c hc => ⟨(h1 c hc).1, (hq c hc).no122, (h1 c hc).2.1, (h1 c hc).2.2⟩, h2⟩
end Go.Proofs.Ytnlkbbpmpgdmiaa
namespace Go.Proofs.Ytnlkbbpmpgdmiaa
open Go.RowKit
set_option linter.unusedVariables false
set_option linter.unusedSimpArgs false
def DRel (P L : Nat) (w0 : World) (gg : Nat) (s7 s8 : Value) (wx : World) : Prop :=
 ∃ (i : Nat) (dl : Int), s7 = .int .i64 i ∧ s8 = .int .i64 dl ∧ i + gg = L ∧ ((i ≤ P ∧ dl = -1) ∨ (P < i ∧ dl = P)) ∧ wx = w0
set_option maxRecDepth 100000 in
set_option maxHeartbeats 4000000 in
theorem scanDt_any {b cap k kind : Nat} {D s rest : List UInt8} {a : Addr} {w : World} (hi : Inp w b cap D) (hd : DtTxt kind s) (hf : Follow rest) (hp : Pos b cap D (s ++ rest) a k) (m : Nat) (hm : m = (s ++ rest).length) :
   Calls Try.prog 90 #[.slice (some a) m k] w (TokAt b cap D (s ++ rest) rest s kind a k w) := by
 obtain ⟨P, hP⟩ := hd.at_
 have h3 := hP.three
 have hPL := hP.le
 have ha := hp.addr (by simp; omega)
 have h1 := hp.room
 have h2 := hp.le
 have hfit := hi.fits
 have h4 := hi.bound
 have HB : Hid (Bts w b (D.length - (s ++ rest).length) (s ++ rest)) := hi.doc.suffix hp.suf
 have HP := Lib.hid hp
 obtain ⟨cr, rr, hcr, hrd, r58, r45, r43, r46, r90, r122, r84, r116, r32⟩ := hf.facts
 rw [List.length_append] at h1 h2 hm
 generalize ho : D.length - (s ++ rest).length = o at *
 have HO := Lib.hid ho
 subst ha
 have HBS : Hid (Bts w b o s) := HB.out.pre
 have HBR : Hid (Bts w b (o + s.length) (cr :: rr)) := by rw [← hcr]; exact HB.out.post
 have hcell0 := HBR.out.head.1
 have HPA : Hid (∀ a' k', (0 < rest.length → a' = ⟨b, o + s.length, none⟩) → k' = k - s.length → Pos b cap D rest a' k') := fun a' k' e1 e2 => HP.out.after hfit (fun h => by rw [e1 h, HO.out]) e2
 have hrl : rest.length = rr.length + 1 := by rw [hcr]; rfl
 have HNX : Hid (∀ d q, rr = d :: q → w.cell? ⟨b, o + (s.length + 1), none⟩ = some (.int .u8 d.toNat)) := fun d q h => by
   have := HBR.out.head.2
   rw [h] at this
   exact this.head.1
 obtain ⟨c2, hc2s, hth⟩ := hP.third
 have hc2 : w.cell? ⟨b, o + 2, none⟩ = some (.int .u8 c2.toNat) := by
   have := HBS.out 2 (by omega)
   rw [List.getD_eq_getElem?_getD, hc2s] at this
   exact this
 have HTH := Lib.hid hth
 have HDT := Lib.hid hP
 generalize hR : rest.length = R at *
 have HRR := Lib.hid hR
 have HMS : Hid (m - s.length = R) := by show _ = _; omega
 have hms : s.length < m := by omega
 have hmk : m ≤ k := by omega
 have hm1 : m = s.length + rr.length + 1 := by omega
 have HM1 := Lib.hid hm1
 have hkS : ¬ k = s.length := by omega
 have hrr : m ≤ s.length + rr.length + 1 := by omega
 have hrr2 : s.length + rr.length + 1 ≤ m := by omega
 clear hp hi ho hd hf hcr hP hth hc2s hR hrl hm hm1
 go_enter Try.func90, Try.ntmps90
 go_wp2_with fail
 go_loopg [7, 8] s.length (fun gg s7 s8 wx => DRel P s.length w gg s7 s8 wx)
 case atStart => exact ⟨0, -1, rfl, rfl, by omega, .inl ⟨by omega, rfl⟩, rfl⟩
 case round =>
   obtain ⟨i, dl, rfl, rfl, hg, hdl, rfl⟩ := hrel
   cases gk with
   | zero =>
     have hiL : i ≤ s.length := by omega
     have hiL2 : s.length ≤ i := by omega
     have hcell : wr.cell? ⟨b, o + i, none⟩ = some (.int .u8 cr.toNat) := by rw [show i = s.length from by omega]; exact hcell0
     have him : i < m := by omega
     have hi2 : 2 < i := by omega
     obtain rfl : i = s.length := by omega
     have hkp : P ≤ k := by omega
     clear hcell0
     rcases r32 with f32 | ⟨h32, hno⟩
     · go_wp2_with fail
       refine (isDigit_no cr hrd _).mono ?_
       rintro e w1 ⟨rfl, rfl⟩
       rcases HTH.out with ⟨h58, rfl, hPL⟩ | ⟨h58, (⟨hPL, rfl⟩ | ⟨hPL, (⟨hz, rfl⟩ | ⟨hz, rfl⟩)⟩)⟩
       · subst h58
         have hc2' : wr.cell? ⟨b, o + 2, none⟩ = some (.int .u8 58) := hc2
         go_wp2_with fail
         (go_quiet (fail)
          go_wp2
          ((try simp only [Exit.inBlock, Exit.then]); refine bodyPost_ret (results_tmp5 rfl _ _ _) rfl ?_)
          exact ⟨_, _, by rw [HRR.out, ← HMS.out]; rfl, HPA.out _ _ (fun _ => rfl) rfl, _, rfl⟩)
       · have f58 : ((c2.toNat : Int) == 58) = false := by simp; intro h; exact h58 (UInt8.toNat_inj.1 (by show c2.toNat = 58; omega))
         have hdl : dl = -1 := by omega
         subst hdl
         clear h58
         generalize (c2.toNat : Int) = y2 at *
         go_wp2_with fail
         (go_quiet (fail)
          go_wp2
          ((try simp only [Exit.inBlock, Exit.then]); refine bodyPost_ret (results_tmp5 rfl _ _ _) rfl ?_)
          exact ⟨_, _, by rw [HRR.out, ← HMS.out]; rfl, HPA.out _ _ (fun _ => rfl) rfl, _, rfl⟩)
       · have f58 : ((c2.toNat : Int) == 58) = false := by simp; intro h; exact h58 (UInt8.toNat_inj.1 (by show c2.toNat = 58; omega))
         have hdl : dl = P := by omega
         subst hdl
         clear h58
         have HZ := Lib.hid (hasZone_any (w := wr) (cap := k - (P + 1)) (a := ⟨b, o + (P + 1), none⟩) (s.length - (P + 1)) (l := s.drop (P + 1)) (by rw [List.length_drop]) (HBS.out.drop (P + 1) (by omega)) (by omega) (by omega) (fun _ => rfl) true (.inl ⟨hz, rfl⟩))
         clear hz
         generalize (c2.toNat : Int) = y2 at *
         go_wp2_with fail
         refine HZ.out.mono ?_
         rintro e w1 ⟨rfl, rfl⟩
         go_wp2_with fail
         (go_quiet (fail)
          go_wp2
          ((try simp only [Exit.inBlock, Exit.then]); refine bodyPost_ret (results_tmp5 rfl _ _ _) rfl ?_)
          exact ⟨_, _, by rw [HRR.out, ← HMS.out]; rfl, HPA.out _ _ (fun _ => rfl) rfl, _, rfl⟩)
       · have f58 : ((c2.toNat : Int) == 58) = false := by simp; intro h; exact h58 (UInt8.toNat_inj.1 (by show c2.toNat = 58; omega))
         have hdl : dl = P := by omega
         subst hdl
         clear h58
         have HZ := Lib.hid (hasZone_any (w := wr) (cap := k - (P + 1)) (a := ⟨b, o + (P + 1), none⟩) (s.length - (P + 1)) (l := s.drop (P + 1)) (by rw [List.length_drop]) (HBS.out.drop (P + 1) (by omega)) (by omega) (by omega) (fun _ => rfl) false (.inr ⟨hz, rfl⟩))
         clear hz
         generalize (c2.toNat : Int) = y2 at *
         go_wp2_with fail
         refine HZ.out.mono ?_
         rintro e w1 ⟨rfl, rfl⟩
         go_wp2_with fail
         (go_quiet (fail)
          go_wp2
          ((try simp only [Exit.inBlock, Exit.then]); refine bodyPost_ret (results_tmp5 rfl _ _ _) rfl ?_)
          exact ⟨_, _, by rw [HRR.out, ← HMS.out]; rfl, HPA.out _ _ (fun _ => rfl) rfl, _, rfl⟩)
     · obtain rfl : cr = 32 := UInt8.toNat_inj.1 (by show cr.toNat = 32; omega)
       rcases rr with _ | ⟨d, q⟩
       · simp only [List.length_nil] at hrr hrr2
         clear HNX hno
         go_wp2_with fail
         refine (isDigit_no 32 hrd _).mono ?_
         rintro e w1 ⟨rfl, rfl⟩
         rcases HTH.out with ⟨h58, rfl, hPL⟩ | ⟨h58, (⟨hPL, rfl⟩ | ⟨hPL, (⟨hz, rfl⟩ | ⟨hz, rfl⟩)⟩)⟩
         · subst h58
           have hc2' : wr.cell? ⟨b, o + 2, none⟩ = some (.int .u8 58) := hc2
           go_wp2_with fail
           (go_quiet (fail)
            go_wp2
            ((try simp only [Exit.inBlock, Exit.then]); refine bodyPost_ret (results_tmp5 rfl _ _ _) rfl ?_)
            exact ⟨_, _, by rw [HRR.out, ← HMS.out]; rfl, HPA.out _ _ (fun _ => rfl) rfl, _, rfl⟩)
         · have f58 : ((c2.toNat : Int) == 58) = false := by simp; intro h; exact h58 (UInt8.toNat_inj.1 (by show c2.toNat = 58; omega))
           have hdl : dl = -1 := by omega
           subst hdl
           clear h58
           generalize (c2.toNat : Int) = y2 at *
           go_wp2_with fail
           (go_quiet (fail)
            go_wp2
            ((try simp only [Exit.inBlock, Exit.then]); refine bodyPost_ret (results_tmp5 rfl _ _ _) rfl ?_)
            exact ⟨_, _, by rw [HRR.out, ← HMS.out]; rfl, HPA.out _ _ (fun _ => rfl) rfl, _, rfl⟩)
         · have f58 : ((c2.toNat : Int) == 58) = false := by simp; intro h; exact h58 (UInt8.toNat_inj.1 (by show c2.toNat = 58; omega))
           have hdl : dl = P := by omega
           subst hdl
           clear h58
           have HZ := Lib.hid (hasZone_any (w := wr) (cap := k - (P + 1)) (a := ⟨b, o + (P + 1), none⟩) (s.length - (P + 1)) (l := s.drop (P + 1)) (by rw [List.length_drop]) (HBS.out.drop (P + 1) (by omega)) (by omega) (by omega) (fun _ => rfl) true (.inl ⟨hz, rfl⟩))
           clear hz
           generalize (c2.toNat : Int) = y2 at *
           go_wp2_with fail
           refine HZ.out.mono ?_
           rintro e w1 ⟨rfl, rfl⟩
           go_wp2_with fail
           (go_quiet (fail)
            go_wp2
            ((try simp only [Exit.inBlock, Exit.then]); refine bodyPost_ret (results_tmp5 rfl _ _ _) rfl ?_)
            exact ⟨_, _, by rw [HRR.out, ← HMS.out]; rfl, HPA.out _ _ (fun _ => rfl) rfl, _, rfl⟩)
         · have f58 : ((c2.toNat : Int) == 58) = false := by simp; intro h; exact h58 (UInt8.toNat_inj.1 (by show c2.toNat = 58; omega))
           have hdl : dl = P := by omega
           subst hdl
           clear h58
           have HZ := Lib.hid (hasZone_any (w := wr) (cap := k - (P + 1)) (a := ⟨b, o + (P + 1), none⟩) (s.length - (P + 1)) (l := s.drop (P + 1)) (by rw [List.length_drop]) (HBS.out.drop (P + 1) (by omega)) (by omega) (by omega) (fun _ => rfl) false (.inr ⟨hz, rfl⟩))
           clear hz
           generalize (c2.toNat : Int) = y2 at *
           go_wp2_with fail
           refine HZ.out.mono ?_
           rintro e w1 ⟨rfl, rfl⟩
           go_wp2_with fail
           (go_quiet (fail)
            go_wp2
            ((try simp only [Exit.inBlock, Exit.then]); refine bodyPost_ret (results_tmp5 rfl _ _ _) rfl ?_)
            exact ⟨_, _, by rw [HRR.out, ← HMS.out]; rfl, HPA.out _ _ (fun _ => rfl) rfl, _, rfl⟩)
       · simp only [List.length_cons] at hrr hrr2
         have hnd := hno d q rfl
         have hcell1 := HNX.out d q rfl
         clear HNX hno
         go_wp2_with fail
         refine (isDigit_no 32 hrd _).mono ?_
         rintro e w1 ⟨rfl, rfl⟩
         go_wp2_with fail
         refine (isDigit_no d hnd _).mono ?_
         rintro e w1 ⟨rfl, rfl⟩
         rcases HTH.out with ⟨h58, rfl, hPL⟩ | ⟨h58, (⟨hPL, rfl⟩ | ⟨hPL, (⟨hz, rfl⟩ | ⟨hz, rfl⟩)⟩)⟩
         · subst h58
           have hc2' : wr.cell? ⟨b, o + 2, none⟩ = some (.int .u8 58) := hc2
           go_wp2_with fail
           (go_quiet (fail)
            go_wp2
            ((try simp only [Exit.inBlock, Exit.then]); refine bodyPost_ret (results_tmp5 rfl _ _ _) rfl ?_)
            exact ⟨_, _, by rw [HRR.out, ← HMS.out]; rfl, HPA.out _ _ (fun _ => rfl) rfl, _, rfl⟩)
         · have f58 : ((c2.toNat : Int) == 58) = false := by simp; intro h; exact h58 (UInt8.toNat_inj.1 (by show c2.toNat = 58; omega))
           have hdl : dl = -1 := by omega
           subst hdl
           clear h58
           generalize (c2.toNat : Int) = y2 at *
           go_wp2_with fail
           (go_quiet (fail)
            go_wp2
            ((try simp only [Exit.inBlock, Exit.then]); refine bodyPost_ret (results_tmp5 rfl _ _ _) rfl ?_)
            exact ⟨_, _, by rw [HRR.out, ← HMS.out]; rfl, HPA.out _ _ (fun _ => rfl) rfl, _, rfl⟩)
         · have f58 : ((c2.toNat : Int) == 58) = false := by simp; intro h; exact h58 (UInt8.toNat_inj.1 (by show c2.toNat = 58; omega))
           have hdl : dl = P := by omega
           subst hdl
           clear h58
           have HZ := Lib.hid (hasZone_any (w := wr) (cap := k - (P + 1)) (a := ⟨b, o + (P + 1), none⟩) (s.length - (P + 1)) (l := s.drop (P + 1)) (by rw [List.length_drop]) (HBS.out.drop (P + 1) (by omega)) (by omega) (by omega) (fun _ => rfl) true (.inl ⟨hz, rfl⟩))
           clear hz
           generalize (c2.toNat : Int) = y2 at *
           go_wp2_with fail
           refine HZ.out.mono ?_
           rintro e w1 ⟨rfl, rfl⟩
           go_wp2_with fail
           (go_quiet (fail)
            go_wp2
            ((try simp only [Exit.inBlock, Exit.then]); refine bodyPost_ret (results_tmp5 rfl _ _ _) rfl ?_)
            exact ⟨_, _, by rw [HRR.out, ← HMS.out]; rfl, HPA.out _ _ (fun _ => rfl) rfl, _, rfl⟩)
         · have f58 : ((c2.toNat : Int) == 58) = false := by simp; intro h; exact h58 (UInt8.toNat_inj.1 (by show c2.toNat = 58; omega))
           have hdl : dl = P := by omega
           subst hdl
           clear h58
           have HZ := Lib.hid (hasZone_any (w := wr) (cap := k - (P + 1)) (a := ⟨b, o + (P + 1), none⟩) (s.length - (P + 1)) (l := s.drop (P + 1)) (by rw [List.length_drop]) (HBS.out.drop (P + 1) (by omega)) (by omega) (by omega) (fun _ => rfl) false (.inr ⟨hz, rfl⟩))
           clear hz
           generalize (c2.toNat : Int) = y2 at *
           go_wp2_with fail
           refine HZ.out.mono ?_
           rintro e w1 ⟨rfl, rfl⟩
           go_wp2_with fail
           (go_quiet (fail)
            go_wp2
            ((try simp only [Exit.inBlock, Exit.then]); refine bodyPost_ret (results_tmp5 rfl _ _ _) rfl ?_)
            exact ⟨_, _, by rw [HRR.out, ← HMS.out]; rfl, HPA.out _ _ (fun _ => rfl) rfl, _, rfl⟩)
   | succ g =>
     have hiL : i < s.length := by omega
     obtain ⟨c, hc⟩ : ∃ c, s[i]? = some c := ⟨_, List.getElem?_eq_getElem hiL⟩
     have hcell : wr.cell? ⟨b, o + i, none⟩ = some (.int .u8 c.toNat) := by
       have := HBS.out i hiL
       rw [List.getD_eq_getElem?_getD, hc] at this
       exact this
     have him : i < m := by omega
     clear hcell0 hc2
     by_cases hiP : i = P
     · have hdl1 : dl = -1 := by omega
       subst hdl1
       subst hiP
       rcases HDT.out.sep c hc with rfl | ⟨rfl, e, he, hde⟩
       · have hnd : ¬ Digit 84 := by decide
         clear hc
         go_wp2_with fail
         refine (isDigit_no _ hnd _).mono ?_
         rintro e w1 ⟨rfl, rfl⟩
         go_wp2_with fail
         go_roundg g
         case measure => omega
         case rel => exact ⟨i + 1, i, by go_num, rfl, by omega, by omega, rfl⟩
       · have hnd : ¬ Digit 32 := by decide
         have hi1 : i + 1 < s.length := by
           rcases Nat.lt_or_ge (i + 1) s.length with h | h
           · exact h
           · rw [List.getElem?_eq_none h] at he; cases he
         have hcell1 : wr.cell? ⟨b, o + (i + 1), none⟩ = some (.int .u8 e.toNat) := by
           have := HBS.out (i + 1) hi1
           rw [List.getD_eq_getElem?_getD, he] at this
           exact this
         clear hc he
         go_wp2_with fail
         refine (isDigit_no _ hnd _).mono ?_
         rintro e w1 ⟨rfl, rfl⟩
         go_wp2_with fail
         refine (isDigit_yes _ hde _).mono ?_
         rintro e w1 ⟨rfl, rfl⟩
         go_wp2_with fail
         go_roundg g
         case measure => omega
         case rel => exact ⟨i + 1, i, by go_num, rfl, by omega, by omega, rfl⟩
     · rcases HDT.out.part i c hc hiP with hdg | hot
       · go_wp2_with fail
         refine (isDigit_yes c hdg _).mono ?_
         rintro e w1 ⟨rfl, rfl⟩
         go_wp2_with fail
         go_roundg g
         case measure => omega
         case rel => exact ⟨i + 1, dl, by go_num, rfl, by omega, by omega, rfl⟩
       · have hnd : ¬ Digit c := by rcases hot with rfl | rfl | rfl | rfl | rfl <;> decide
         clear hc
         have hx : (c.toNat : Int) = 58 ∨ (c.toNat : Int) = 45 ∨ (c.toNat : Int) = 43 ∨ (c.toNat : Int) = 46 ∨ (c.toNat : Int) = 90 := by rcases hot with rfl | rfl | rfl | rfl | rfl <;> decide
         rcases hot with rfl | rfl | rfl | rfl | rfl
         · go_wp2_with fail
           refine (isDigit_no _ hnd _).mono ?_
           rintro e w1 ⟨rfl, rfl⟩
           go_wp2_with fail
           go_roundg g
           case measure => omega
           case rel => exact ⟨i + 1, dl, by go_num, rfl, by omega, by omega, rfl⟩
         · go_wp2_with fail
           refine (isDigit_no _ hnd _).mono ?_
           rintro e w1 ⟨rfl, rfl⟩
           go_wp2_with fail
           go_roundg g
           case measure => omega
           case rel => exact ⟨i + 1, dl, by go_num, rfl, by omega, by omega, rfl⟩
         · go_wp2_with fail
           refine (isDigit_no _ hnd _).mono ?_
           rintro e w1 ⟨rfl, rfl⟩
           go_wp2_with fail
           go_roundg g
           case measure => omega
           case rel => exact ⟨i + 1, dl, by go_num, rfl, by omega, by omega, rfl⟩
         · go_wp2_with fail
           refine (isDigit_no _ hnd _).mono ?_
           rintro e w1 ⟨rfl, rfl⟩
           go_wp2_with fail
           go_roundg g
           case measure => omega
           case rel => exact ⟨i + 1, dl, by go_num, rfl, by omega, by omega, rfl⟩
         · go_wp2_with fail
           refine (isDigit_no _ hnd _).mono ?_
           rintro e w1 ⟨rfl, rfl⟩
           go_wp2_with fail
           go_roundg g
           case measure => omega
           case rel => exact ⟨i + 1, dl, by go_num, rfl, by omega, by omega, rfl⟩
end Go.Proofs.Ytnlkbbpmpgdmiaa
namespace Go.Proofs.Ytnlkbbpmpgdmiaa
open Go.RowKit
set_option linter.unusedVariables false
set_option linter.unusedSimpArgs false
set_option maxRecDepth 100000 in
set_option maxHeartbeats 1000000 in
theorem parseDt_any {B g b cap k kind : Nat} {kc : Bool} {D s rest : List UInt8} {left err : Value} {nest : Nat} {ns : List Nd} {w : World} {a : Addr} (hps : PS B w g b cap kc D left ns err nest) (hi : Inp w b cap D) (hd : DtTxt kind s) (hf : Follow rest) (hp : Pos b cap D (s ++ rest) a k)
   (hn : ns.length ≤ 400000) (m : Nat) (hm : m = (s ++ rest).length) :
   Calls Try.prog 81 #[.pointer (some ⟨g, 0, none⟩), .slice (some a) m k] w (ValRead kind B g b cap kc D left ns err nest s rest w) := by
 have HC := Lib.hid (scanDt_any hi hd hf hp m hm)
 have hrest : 0 < rest.length := by obtain ⟨c, r, rfl, _⟩ := hf; simp
 have hs : 0 < s.length := by obtain ⟨P, h⟩ := hd.at_; have := h.three; have := h.le; omega
 have HP := Lib.hid hp
 have HI := Lib.hid hi
 have HPS := Lib.hid hps
 clear hp hi hps hm hd hf
 go_enter Try.func81, Try.ntmps81
 go_wp2_with fail
 refine HC.out.mono ?_
 rintro e w1 ⟨a1, k1, rfl, hp1, n1, rfl⟩
 have HP1 := Lib.hid hp1
 have hps1 := HPS.out.drewN n1
 have HPS1 := Lib.hid hps1
 have HD1 : Hid (DataIs (w.drewN n1) (.slice (some a) s.length k) s) := (HI.out.drewN n1).doc.data (p := []) (q := rest) HP.out rfl HI.out.fits (fun h0 => HP.out.addr (by rw [List.length_append]; omega)) (by have := HP.out.room; have := HP.out.le; have := HI.out.fits; rw [List.length_append] at *; omega)
 clear hp1 hps1
 go_wp2_with fail
 refine (range_at HPS1.out HI.out.fits HI.out.bound HP.out s.length (by rw [List.length_append]; omega)).mono ?_
 rintro e w2 ⟨ro, rl, rfl, hb2⟩
 have hps2 := HPS1.out.kp hb2
 have HPS2 := Lib.hid hps2
 have HD2 : Hid (DataIs w2 (.slice (some a) s.length k) s) := HD1.out.below hb2
 have HF2 : Hid (Fr B w w2) := (Fr.drewN w n1).trans (Fr.of_below hb2 HPS1.out.le)
 clear hb2 hps2
 go_wp2_with fail
 refine (push_any HPS2.out kind ro rl _ HD2.out.one hn).mono ?_
 rintro e w3 ⟨rfl, hps3, hf3⟩
 have HPS3 := Lib.hid hps3
 have HF3 := Lib.hid hf3
 clear hps3 hf3
 go_wp2_with fail
 go_ret3
 exact ⟨ro, rl, _, a1, k1, rfl, HP1.out, HPS3.out, HD2.out.kp HF3.out.2, HF2.out.trans HF3.out⟩
end Go.Proofs.Ytnlkbbpmpgdmiaa
namespace Go.Proofs.Ytnlkbbpmpgdmiaa
open Go.RowKit
set_option linter.unusedVariables false
set_option linter.unusedSimpArgs false
def dtStart : List UInt8 → Prop
 | _ :: c1 :: c2 :: r => (Digit c1 ∧ c2 = 58) ∨ (Digit c1 ∧ Digit c2 ∧ ∃ c3 q, r = c3 :: 45 :: q ∧ Digit c3)
 | _ => False
set_option maxRecDepth 100000 in
set_option maxHeartbeats 2000000 in
theorem dtStart_no {b off m k : Nat} {l : List UInt8} {w : World} (hl : ¬ dtStart l) (hb : Bts w b off l) (hm : m = l.length) (hk : m ≤ k) (hk2 : off + k ≤ 9223372036854775807) :
   Calls Try.prog 80 #[.slice (some ⟨b, off, none⟩) m k] w (fun e w' => e = .returned (.bool false) ∧ w' = w) := by
 rcases l with _ | ⟨c0, _ | ⟨c1, _ | ⟨c2, r⟩⟩⟩
 · have : m < 3 := by rw [hm]; simp
   clear hm hl
   go_enter Try.func80, Try.ntmps80
   go_wp2_with fail
   go_ret
   exact ⟨rfl, rfl⟩
 · have : m < 3 := by rw [hm]; simp
   clear hm hl
   go_enter Try.func80, Try.ntmps80
   go_wp2_with fail
   go_ret
   exact ⟨rfl, rfl⟩
 · have : m < 3 := by rw [hm]; simp
   clear hm hl
   go_enter Try.func80, Try.ntmps80
   go_wp2_with fail
   go_ret
   exact ⟨rfl, rfl⟩
 · have hlen : m = r.length + 3 := by rw [hm]; rfl
   have h1 : w.cell? ⟨b, off + 1, none⟩ = some (.int .u8 c1.toNat) := hb 1 (by simp)
   have h2 : w.cell? ⟨b, off + 2, none⟩ = some (.int .u8 c2.toNat) := hb 2 (by simp)
   have h3 : Hid (∀ c3 q, r = c3 :: q → w.cell? ⟨b, off + 3, none⟩ = some (.int .u8 c3.toNat)) := by
     rintro c3 q rfl; exact hb 3 (by simp)
   have h4 : Hid (∀ c3 c4 q, r = c3 :: c4 :: q → w.cell? ⟨b, off + 4, none⟩ = some (.int .u8 c4.toNat)) := by
     rintro c3 c4 q rfl; exact hb 4 (by simp)
   clear hm hb
   have hm3 : 3 ≤ m := by omega
   by_cases d1 : Digit c1
   · have n58 : c2 ≠ 58 := fun h => hl (.inl ⟨d1, h⟩)
     have f58 : ((c2.toNat : Int) == 58) = false := by simp; intro h; exact n58 (UInt8.toNat_inj.1 (by show c2.toNat = 58; omega))
     clear n58
     rcases r with _ | ⟨c3, _ | ⟨c4, q⟩⟩
     · have hm5 : m < 5 := by rw [hlen]; decide
       clear hl h3 h4 hlen
       go_enter Try.func80, Try.ntmps80
       go_wp2_with fail
       refine (isDigit_yes c1 d1 _).mono ?_
       rintro e w1 ⟨rfl, rfl⟩
       go_wp2_with fail
       go_ret
       exact ⟨rfl, rfl⟩
     · have hm5 : m < 5 := by rw [hlen]; simp
       clear hl h3 h4 hlen
       go_enter Try.func80, Try.ntmps80
       go_wp2_with fail
       refine (isDigit_yes c1 d1 _).mono ?_
       rintro e w1 ⟨rfl, rfl⟩
       go_wp2_with fail
       go_ret
       exact ⟨rfl, rfl⟩
     · have hm5 : 5 ≤ m := by rw [hlen]; simp
       have c3h := h3.out c3 (c4 :: q) rfl
       have c4h := h4.out c3 c4 q rfl
       clear hlen h3 h4
       by_cases d2 : Digit c2
       · by_cases d3 : Digit c3
         · have n45 : c4 ≠ 45 := fun h => hl (.inr ⟨d1, d2, c3, q, by rw [h], d3⟩)
           have f45 : ((c4.toNat : Int) == 45) = false := by simp; intro h; exact n45 (UInt8.toNat_inj.1 (by show c4.toNat = 45; omega))
           clear n45 hl
           go_enter Try.func80, Try.ntmps80
           go_wp2_with fail
           refine (isDigit_yes c1 d1 _).mono ?_
           rintro e w1 ⟨rfl, rfl⟩
           go_wp2_with fail
           refine (isDigit_yes c1 d1 _).mono ?_
           rintro e w1 ⟨rfl, rfl⟩
           go_wp2_with fail
           refine (isDigit_yes c2 d2 _).mono ?_
           rintro e w1 ⟨rfl, rfl⟩
           go_wp2_with fail
           refine (isDigit_yes c3 d3 _).mono ?_
           rintro e w1 ⟨rfl, rfl⟩
           go_wp2_with fail
           go_ret
           exact ⟨rfl, rfl⟩
         · clear hl
           go_enter Try.func80, Try.ntmps80
           go_wp2_with fail
           refine (isDigit_yes c1 d1 _).mono ?_
           rintro e w1 ⟨rfl, rfl⟩
           go_wp2_with fail
           refine (isDigit_yes c1 d1 _).mono ?_
           rintro e w1 ⟨rfl, rfl⟩
           go_wp2_with fail
           refine (isDigit_yes c2 d2 _).mono ?_
           rintro e w1 ⟨rfl, rfl⟩
           go_wp2_with fail
           refine (isDigit_no c3 d3 _).mono ?_
           rintro e w1 ⟨rfl, rfl⟩
           go_wp2_with fail
           go_ret
           exact ⟨rfl, rfl⟩
       · clear hl
         go_enter Try.func80, Try.ntmps80
         go_wp2_with fail
         refine (isDigit_yes c1 d1 _).mono ?_
         rintro e w1 ⟨rfl, rfl⟩
         go_wp2_with fail
         refine (isDigit_yes c1 d1 _).mono ?_
         rintro e w1 ⟨rfl, rfl⟩
         go_wp2_with fail
         refine (isDigit_no c2 d2 _).mono ?_
         rintro e w1 ⟨rfl, rfl⟩
         go_wp2_with fail
         go_ret
         exact ⟨rfl, rfl⟩
   · clear hl h3 h4
     by_cases hm5 : 5 ≤ m
     · go_enter Try.func80, Try.ntmps80
       go_wp2_with fail
       refine (isDigit_no c1 d1 _).mono ?_
       rintro e w1 ⟨rfl, rfl⟩
       go_wp2_with fail
       refine (isDigit_no c1 d1 _).mono ?_
       rintro e w1 ⟨rfl, rfl⟩
       go_wp2_with fail
       go_ret
       exact ⟨rfl, rfl⟩
     · have hm5' : m < 5 := by omega
       go_enter Try.func80, Try.ntmps80
       go_wp2_with fail
       refine (isDigit_no c1 d1 _).mono ?_
       rintro e w1 ⟨rfl, rfl⟩
       go_wp2_with fail
       go_ret
       exact ⟨rfl, rfl⟩
set_option maxRecDepth 100000 in
set_option maxHeartbeats 2000000 in
theorem dtStart_yes {b off m k : Nat} {l : List UInt8} {w : World} (hl : dtStart l) (hb : Bts w b off l) (hm : m = l.length) (hk : m ≤ k) (hk2 : off + k ≤ 9223372036854775807) :
   Calls Try.prog 80 #[.slice (some ⟨b, off, none⟩) m k] w (fun e w' => e = .returned (.bool true) ∧ w' = w) := by
 rcases l with _ | ⟨c0, _ | ⟨c1, _ | ⟨c2, r⟩⟩⟩
 · exact hl.elim
 · exact hl.elim
 · exact hl.elim
 · have hlen : m = r.length + 3 := by rw [hm]; rfl
   have h1 : w.cell? ⟨b, off + 1, none⟩ = some (.int .u8 c1.toNat) := hb 1 (by simp)
   have h2 : w.cell? ⟨b, off + 2, none⟩ = some (.int .u8 c2.toNat) := hb 2 (by simp)
   have hm3 : 3 ≤ m := by omega
   rcases hl with ⟨d1, rfl⟩ | ⟨d1, d2, c3, q, rfl, d3⟩
   · clear hm hb hlen
     go_enter Try.func80, Try.ntmps80
     go_wp2_with fail
     refine (isDigit_yes c1 d1 _).mono ?_
     rintro e w1 ⟨rfl, rfl⟩
     go_wp2_with fail
     go_ret
     exact ⟨rfl, rfl⟩
   · have f58 : ((c2.toNat : Int) == 58) = false := by simp; intro h; have := d2.2; omega
     have h3 : w.cell? ⟨b, off + 3, none⟩ = some (.int .u8 c3.toNat) := hb 3 (by simp)
     have h4 : w.cell? ⟨b, off + 4, none⟩ = some (.int .u8 45) := hb 4 (by simp)
     have hm5 : 5 ≤ m := by rw [hlen]; simp
     clear hm hb hlen
     go_enter Try.func80, Try.ntmps80
     go_wp2_with fail
     refine (isDigit_yes c1 d1 _).mono ?_
     rintro e w1 ⟨rfl, rfl⟩
     go_wp2_with fail
     refine (isDigit_yes c1 d1 _).mono ?_
     rintro e w1 ⟨rfl, rfl⟩
     go_wp2_with fail
     refine (isDigit_yes c2 d2 _).mono ?_
     rintro e w1 ⟨rfl, rfl⟩
     go_wp2_with fail
     refine (isDigit_yes c3 d3 _).mono ?_
     rintro e w1 ⟨rfl, rfl⟩
     go_wp2_with fail
     go_ret
     exact ⟨rfl, rfl⟩
theorem dtStart.append {s : List UInt8} (h : dtStart s) (r : List UInt8) : dtStart (s ++ r) := by
 rcases s with _ | ⟨c0, _ | ⟨c1, _ | ⟨c2, t⟩⟩⟩
 · exact h.elim
 · exact h.elim
 · exact h.elim
 · rcases h with h | ⟨h1, h2, c3, q, rfl, h3⟩
   · exact .inl h
   · exact .inr ⟨h1, h2, c3, q ++ r, rfl, h3⟩
end Go.Proofs.Ytnlkbbpmpgdmiaa
