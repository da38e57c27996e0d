/- nodeIs of equal data; exprsAre of equal data; A document made, written and read: the laws' common step; Errors of the parser: keys; Errors of the parser: a key's second part; what stands behind a key; Errors of the parser: a value that is refused, a missing sign behind a key, heads; Errors of the parser: the end of a line, an expression; Errors of the parser: heads that are not closed; an expression table; Errors of the parser: NextExpression refuses. -/
import Derived.Test.YtnlkbbpmpgdmiaaXAV
import Derived.Test.YtnlkbbpmpgdmiaaXAD
import Derived.Deep.RegionHeld3
import Derived.Test.YtnlkbbpmpgdmiaaXAW
import Derived.Test.YtnlkbbpmpgdmiaaXAC
namespace Go.Proofs.Ytnlkbbpmpgdmiaa
open Go.RowKit
set_option linter.unusedVariables false
set_option linter.unusedSimpArgs false
theorem StrsAt.below {w w' : World} {v : Value} {ss : List ByteArray} (h : StrsAt w v ss) (hb : Below w.heap.size w w') : StrsAt w' v ss := by
 obtain ⟨o, c, g, h1, h2, h3, h4⟩ := h
 refine ⟨o, c, g, h1, h2, h3, fun i s hi => ?_⟩
 obtain ⟨e, hc⟩ := h4 i s hi
 exact ⟨e, (hb.cell (p := ⟨g, i, none⟩) (World.block_lt_of_cell? w ⟨g, i, none⟩ hc)).trans hc⟩
def TrueBel (w : World) (e : Ending) (w' : World) : Prop := e = .returned (.bool true) ∧ Below w.heap.size w w'
end Go.Proofs.Ytnlkbbpmpgdmiaa
namespace Go.Proofs.Ytnlkbbpmpgdmiaa
open Go.RowKit
set_option linter.unusedVariables false
set_option linter.unusedSimpArgs false
end Go.Proofs.Ytnlkbbpmpgdmiaa
namespace Go.Proofs.Ytnlkbbpmpgdmiaa
open Go.RowKit
set_option linter.unusedVariables false
set_option linter.unusedSimpArgs false
theorem ArgNums.u32s {w : World} {v : Value} {z : List Nat} (h : ArgNums w v z) : U32s w w.heap.size v z.length := by
 obtain ⟨⟨A, c, rfl, h1, h2, h3⟩, hb⟩ := h
 simp only [List.length_map] at h1 h3
 refine ⟨A, c, by simp, h1, h2, fun h0 => ?_⟩
 obtain ⟨b, off, e, hlt, hc⟩ := h3 h0
 refine ⟨b, off, e, hlt, fun k hk => ?_⟩
 have hz : z[k]? = some z[k] := List.getElem?_eq_getElem hk
 refine ⟨z[k], ?_, hc k _ (by rw [List.getElem?_map, hz]; rfl)⟩
 have := hb z[k] (List.getElem_mem hk)
 omega
theorem ArgNums.form {w : World} {v : Value} {z : List Nat} (h : ArgNums w v z) : ∃ A c, v = .slice A z.length c ∧ z.length ≤ c := by
 obtain ⟨⟨A, c, rfl, h1, h2, h3⟩, hb⟩ := h
 exact ⟨A, c, by simp, by simpa using h1⟩
theorem ArgBytes.form {w : World} {v : Value} {z : List UInt8} (h : ArgBytes w v z) : ∃ A c, v = .slice A z.length c ∧ z.length ≤ c := by
 obtain ⟨A, c, rfl, h1, h2, h3⟩ := h
 exact ⟨A, c, by simp, by simpa using h1⟩
def DocAt (es : List Ex) (w : World) (v : Value) : Prop := ∃ cs, Row (fun _ => True) w 45 6 v es.length cs ∧ ExsF (fun _ => True) w 43 es cs
def DocOk (es : List Ex) : Prop := es.length ≤ 12 ∧ ∀ x ∈ es, ExOk x
theorem DocAt.below {es : List Ex} {w w' : World} {v : Value} (h : DocAt es w v) (hb : Below w.heap.size w w') : DocAt es w' v := by
 obtain ⟨cs, h1, h2⟩ := h
 exact ⟨cs, h1.move fun g t c _ h => ⟨trivial, h.below hb h.lt⟩, h2.moveT fun g t c _ _ h => ⟨trivial, h.below hb h.lt⟩⟩
theorem DocAt.form {es : List Ex} {w : World} {v : Value} (h : DocAt es w v) : ∃ A c, v = .slice A es.length c := by
 obtain ⟨cs, h1, _⟩ := h
 obtain ⟨A, c, e, _⟩ := h1.slice
 exact ⟨A, c, e⟩
def DocMade (w : World) (e : Ending) (w' : World) : Prop := ∃ es A c, e = .returned (.slice A es.length c) ∧ DocAt es w' (.slice A es.length c) ∧ DocOk es ∧ Below w.heap.size w w'
theorem doc_made {w w0 : World} {v : Value} {z : List Nat} (h : ArgNums w0 v z) (hz : z.length ≤ 100) (hb : Below w0.heap.size w0 w) : Calls Try.prog 12 #[v] w (DocMade w) := by
 refine (doc_any ((h.u32s.keep hb).mono hb.size) hz).mono ?_
 rintro e w' ⟨es, v', cs, rfl, h1, h2, h3, h4, h5⟩
 obtain ⟨A, c, rfl, _⟩ := h1.slice
 exact ⟨es, A, c, rfl, ⟨cs, h1.move fun g t c _ h => ⟨trivial, h⟩, h2.moveT fun g t c _ _ h => ⟨trivial, h⟩⟩, ⟨h3, h4⟩, h5⟩
def DocWritten (es : List Ex) (w : World) (e : Ending) (w' : World) : Prop := ∃ s A c, e = .returned (.slice A s.length c) ∧ MRow w' w.heap.size (.slice A s.length c) s ∧ DocTxt [] es s ∧ s.length ≤ 730000 ∧ Below w.heap.size w w'
theorem ArgBytes.keep {w w' : World} {v : Value} {z : List UInt8} (h : ArgBytes w v z) (hb : Below w.heap.size w w') : ArgBytes w' v z := ArgBytes.below h hb
theorem doc_written {w w0 : World} {v C : Value} {es : List Ex} {cd : List UInt8} (h : DocAt es w v) (ho : DocOk es) (hc : ArgBytes w0 C cd) (hcd : cd.length ≤ 1000) (hb : Below w0.heap.size w0 w) : Calls Try.prog 14 #[v, C] w (DocWritten es w) := by
 obtain ⟨cs, h1, h2⟩ := h
 refine (write_any h1 h2 (fun x hx => (ho.2 x hx).w) ho.1 (hc.keep hb) hcd).mono ?_
 rintro e w' ⟨s, v', rfl, h3, h4, h5, h6⟩
 have hw : ∀ l : List Ex, (∀ x ∈ l, ExOk x) → ewts l ≤ l.length * 60000 := by
   intro l
   induction l with
   | nil => intro _; simp [ewts]
   | cons x l ih =>
     intro h
     have h1 := ih (fun y hy => h y (by simp [hy]))
     have h2 := (h x (by simp)).w.2.1
     simp only [ewts, List.length_cons]
     omega
 have h7 := hw es ho.2
 have h8 := ho.1
 obtain ⟨g, cap, cur, fz, rfl, h9⟩ := h3
 exact ⟨s, _, _, rfl, ⟨g, cap, cur, fz, rfl, h9⟩, h4, by omega, h6⟩
theorem doc_read {w : World} {v : Value} {es : List Ex} {z s : List UInt8} (h : RdIs w v s) (hz : LastTxt z) (hd : DocTxt z es s) (hl : es.length ≤ 1000) (hs : s.length ≤ 4000000) : Calls Try.prog 13 #[v] w fun e w' => ∃ A c cs, e = .returned (.tuple #[.slice A es.length c, .bool true]) ∧ Row (fun _ => True) w' 77 6 (.slice A es.length c) es.length cs ∧ ExsIs (fun _ => True) w' 74 es cs ∧ Below w.heap.size w w' := by
 refine (read_any h hz hd hl hs).mono ?_
 rintro e w' ⟨v', cs, rfl, h1, h2, h3⟩
 obtain ⟨A, c, rfl, _⟩ := h1.slice
 exact ⟨A, c, cs, rfl, h1.move fun g t c _ h => ⟨trivial, h⟩, h2.moveT fun g t c _ _ h => ⟨trivial, h⟩, h3⟩
theorem bel_mono {w w1 w2 : World} (h : Below w.heap.size w w1) (h2 : Below w1.heap.size w1 w2) : Below w.heap.size w w2 := h.trans (h2.mono h.size)
end Go.Proofs.Ytnlkbbpmpgdmiaa
namespace Go.Proofs.Ytnlkbbpmpgdmiaa
open Go.RowKit
set_option linter.unusedVariables false
set_option linter.unusedSimpArgs false
def EAt (M : Nat) (w : World) (pe : Nat) : Prop := M ≤ pe ∧ ∃ (A : Option Addr) (hl hc : Nat) (msg : ByteArray), Blk w pe 96 #[.slice A hl hc, .string msg, .slice none 0 0] ∧ hl ≤ hc ∧ hc ≤ 9223372036854775807
theorem EAt.mono {M M' : Nat} {w : World} {pe : Nat} (h : EAt M w pe) (hm : M' ≤ M) : EAt M' w pe := ⟨Nat.le_trans hm h.1, h.2⟩
theorem EAt.kp {M : Nat} {w w' : World} {pe : Nat} (h : EAt M w pe) (hk : Kp w w') : EAt M w' pe := by
 obtain ⟨hM, A, hl, hc, msg, h1, h2⟩ := h
 exact ⟨hM, A, hl, hc, msg, hk.2 _ _ _ (by decide) (by decide) h1, h2⟩
abbrev eV (pe : Nat) : Value := .iface 93 (.pointer (some ⟨pe, 0, none⟩))
def ErrIs (w : World) (e : Ending) (w' : World) : Prop := ∃ pe, e = .returned (eV pe) ∧ EAt w.heap.size w' pe ∧ Below w.heap.size w w'
theorem newErr_e (A : Option Addr) (hl hc : Nat) (msg : ByteArray) (w : World) (h : hl ≤ hc) (h2 : hc ≤ 9223372036854775807) : Calls Try.prog 35 #[.slice A hl hc, .string msg] w (ErrIs w) := by
 go_enter Try.func35, Try.ntmps35
 go_wp2
 go_ret
 exact ⟨_, rfl, ⟨Nat.le_refl _, A, hl, hc, msg, Blk.new _ _ _, h, h2⟩, (Below.refl _ _).alloc (Nat.le_refl _) _⟩
def BadS (w : World) (e : Ending) (w' : World) : Prop := ∃ pe, e = .returned (.tuple #[.slice none 0 0, .slice none 0 0, .slice none 0 0, eV pe]) ∧ EAt w.heap.size w' pe ∧ Below w.heap.size w w'
def BadR (B g b cap : Nat) (D : List UInt8) (left err : Value) (nest : Nat) (w : World) (e : Ending) (w' : World) : Prop :=
 ∃ pe ns', e = .returned (.tuple #[.int .i32 0, .slice none 0 0, eV pe]) ∧ EAt B w' pe ∧ PS B w' g b cap false D left ns' err nest ∧ Fr B w w'
set_option maxRecDepth 100000 in
set_option maxHeartbeats 1000000 in
theorem scanKey_bad {c : UInt8} {r : List UInt8} {b off cap : Nat} {w : World} (hm : Bts w b off (c :: r)) (hc : ¬ Bare c) (h39 : c ≠ 39) (h34 : c ≠ 34) (m : Nat) (hml : m = (c :: r).length) (hcap : m ≤ cap) (hcb : m ≤ 140737488351232 ∧ cap ≤ 9223372036854775807) (pv : Value) :
   Calls Try.prog 82 #[pv, .slice (some ⟨b, off, none⟩) m cap] w (BadS w) := by
 have h0 := hm.head.1
 have hm0 : 0 < m := by rw [hml]; simp
 have e39 : ((c.toNat : Int) == 39) = false := by
   have : c.toNat ≠ 39 := fun h => h39 (UInt8.toNat_inj.1 h)
   simp; omega
 have e34 : ((c.toNat : Int) == 34) = false := by
   have : c.toNat ≠ 34 := fun h => h34 (UInt8.toNat_inj.1 h)
   simp; omega
 have hcd : decide (Bare c) = false := by simp [hc]
 clear hm hml h39 h34 hc
 go_enter Try.func82, Try.ntmps82
 go_wp2_with fail
 go_loopg [8] 0 (fun g s8 wx => s8 = .int .i64 0 ∧ wx = w)
 case atStart => exact ⟨rfl, rfl⟩
 case round =>
   obtain ⟨rfl, rfl⟩ := hrel
   go_wp2_with fail
   refine (isBare_any c _).mono ?_
   rintro e w' ⟨rfl, rfl⟩
   rw [hcd]
   go_wp2_with fail
   refine (newErr_e _ _ _ _ _ (by omega) (by omega)).mono ?_
   rintro e w1 ⟨pe, rfl, hE, hbE⟩
   have HE := Lib.hid hE
   have HBE := Lib.hid hbE
   clear hE hbE
   go_wp2_with fail
   ((try simp only [Exit.inBlock, Exit.then]); refine bodyPost_ret (results_tmp4 rfl _ _ _) rfl ?_)
   exact ⟨pe, rfl, HE.out, HBE.out⟩
theorem scanKey_badAt {b cap k : Nat} {D r : List UInt8} {c : UInt8} {a : Addr} {w : World} (hi : Inp w b cap D) (hp : Pos b cap D (c :: r) a k) (hc : ¬ Bare c) (h39 : c ≠ 39) (h34 : c ≠ 34) (m : Nat) (hm : m = (c :: r).length) (pv : Value) : Calls Try.prog 82 #[pv, .slice (some a) m k] w (BadS w) := by
 rw [hp.addr (by simp)]
 have h1 := hp.room
 have h2 := hp.le
 have h3 := hi.fits
 have h4 := hi.bound
 exact scanKey_bad (hi.doc.suffix hp.suf) hc h39 h34 m hm (by omega) (by omega) pv
set_option maxRecDepth 100000 in
set_option maxHeartbeats 1000000 in
theorem simpleKey_bad {B g b cap k : Nat} {D l : List UInt8} {left err : Value} {nest : Nat} {ns : List Nd} {w : World} {a : Addr} (hps : PS B w g b cap false D left ns err nest) (m : Nat) (hbad : ∀ pv, Calls Try.prog 82 #[pv, .slice (some a) m k] w (BadS w)) :
   Calls Try.prog 71 #[.pointer (some ⟨g, 0, none⟩), .slice (some a) m k] w (BadR B g b cap D left err nest w) := by
 have HC := Lib.hid (hbad (.pointer (some ⟨g, 0, none⟩)))
 have HPS := Lib.hid hps
 clear hps hbad
 go_enter Try.func71, Try.ntmps71
 go_wp2_with fail
 refine HC.out.mono ?_
 rintro e w1 ⟨pe, rfl, hE, hb⟩
 have HE := Lib.hid hE
 have HB := Lib.hid hb
 clear hE hb
 go_wp2_with fail
 go_ret3
 exact ⟨pe, ns, rfl, HE.out.mono HPS.out.le, HPS.out.kp HB.out, Fr.of_below HB.out HPS.out.le⟩
set_option maxRecDepth 100000 in
set_option maxHeartbeats 1000000 in
theorem key_bad {B g b cap k : Nat} {D l : List UInt8} {left err : Value} {nest : Nat} {ns : List Nd} {w : World} {a : Addr} (hps : PS B w g b cap false D left ns err nest) (m : Nat) (hbad : ∀ pv, Calls Try.prog 82 #[pv, .slice (some a) m k] w (BadS w)) :
   Calls Try.prog 66 #[.pointer (some ⟨g, 0, none⟩), .slice (some a) m k] w (BadR B g b cap D left err nest w) := by
 have HC := Lib.hid (simpleKey_bad (l := l) hps m hbad)
 clear hps hbad
 go_enter Try.func66, Try.ntmps66
 go_wp2_with fail
 go_loopg [1, 7, 8] 0 (fun gg s1 s7 s8 wx => s1 = .slice (some a) m k ∧ s7 = .int .i32 0 ∧ s8 = .int .i32 0 ∧ wx = w)
 case atStart => exact ⟨rfl, rfl, rfl, rfl⟩
 case round =>
   obtain ⟨rfl, rfl, rfl, rfl⟩ := hrel
   go_wp2_with fail
   refine HC.out.mono ?_
   rintro e w1 ⟨pe, ns', rfl, hE, hps1, hf1⟩
   have HE := Lib.hid hE
   have HPS1 := Lib.hid hps1
   have HF1 := Lib.hid hf1
   clear hE hps1 hf1
   go_wp2_with fail
   go_ret3
   exact ⟨pe, ns', rfl, HE.out, HPS1.out, HF1.out⟩
end Go.Proofs.Ytnlkbbpmpgdmiaa
namespace Go.Proofs.Ytnlkbbpmpgdmiaa
open Go.RowKit
set_option linter.unusedVariables false
set_option linter.unusedSimpArgs false
def K2Rel (B g b cap : Nat) (D : List UInt8) (left err : Value) (nest : Nat) (w : World) (S1 : Value) (c : UInt8) (r : List UInt8) (gg : Nat) (s1 s7 : Value) (wx : World) : Prop :=
 (gg = 1 ∧ s1 = S1 ∧ s7 = .int .i32 0 ∧ wx = w) ∨ (gg = 0 ∧ ∃ a k ns', s1 = .slice (some a) (c :: r).length k ∧ Pos b cap D (c :: r) a k ∧ PS B wx g b cap false D left ns' err nest ∧ Inp wx b cap D ∧ Fr B w wx)
set_option maxRecDepth 100000 in
set_option maxHeartbeats 1000000 in
theorem key_bad2 {B g b cap k : Nat} {D r0 r : List UInt8} {c : UInt8} {left err : Value} {nest : Nat} {ns : List Nd} {w : World} {a : Addr} (hps : PS B w g b cap false D left ns err nest) (hi : Inp w b cap D) (hp : Pos b cap D (97 :: 46 :: r0) a k) (hn : ns.length ≤ 300001) (hsk : skipWs r0 = c :: r) (hc : ¬ Bare c) (h39 : c ≠ 39) (h34 : c ≠ 34) (hr0 : 0 < r0.length) (m : Nat) (hm : m = (97 :: 46 :: r0).length) :
   Calls Try.prog 66 #[.pointer (some ⟨g, 0, none⟩), .slice (some a) m k] w (BadR B g b cap D left err nest w) := by
 have HC := Lib.hid (parseSimpleKey_any (rest := 46 :: r0) (s := [97]) (t := [97]) hps hi (.inl ⟨rfl, by simp, by intro c hc; simp at hc; subst hc; decide⟩) (fun c r h => by injection h with h _; subst h; decide) hp (by omega) m hm)
 have HBAD : Hid (∀ {w' : World} {a' : Addr} {k' : Nat} {ns' : List Nd}, PS B w' g b cap false D left ns' err nest → Inp w' b cap D → Pos b cap D (c :: r) a' k' → Calls Try.prog 71 #[.pointer (some ⟨g, 0, none⟩), .slice (some a') (c :: r).length k'] w' (BadR B g b cap D left err nest w')) :=
   fun h1 h2 h3 => simpleKey_bad (l := r) h1 _ (fun pv => scanKey_badAt h2 h3 hc h39 h34 _ rfl pv)
 have HI := Lib.hid hi
 have HSK := Lib.hid hsk
 clear hps hi hp hsk hc h39 h34 hm
 go_enter Try.func66, Try.ntmps66
 go_wp2_with fail
 go_loopg [1, 7] 1 (fun gg s1 s7 wx => Hid (K2Rel B g b cap D left err nest w (.slice (some a) m k) c r gg s1 s7 wx))
 case atStart => exact .inl ⟨rfl, rfl, rfl, rfl⟩
 case round =>
   rcases hrel.out with ⟨rfl, rfl, rfl, rfl⟩ | ⟨rfl, a1, k1, ns1, rfl, hp1, hps1, hi1, hf1⟩
   · clear hrel
     go_wp2_with fail
     refine HC.out.mono ?_
     rintro e w3 ⟨ro, rl, dv, a2, k2, rfl, hp1, hps3, hd3, hf3⟩
     have hnz : ¬ ((ns.length : Int) + 1 = 0) := by omega
     have HP1 := Lib.hid hp1
     have HPS3 := Lib.hid hps3
     have HIN3 : Hid (Inp w3 b cap D) := HI.out.kp hf3.2
     have HF3 := Lib.hid hf3
     clear hp1 hps3 hd3 hf3
     go_wp2_with fail
     refine (skip_at _ HIN3.out HP1.out (by simp)).mono ?_
     rintro e w4 ⟨a4, k4, he, hp4, rfl⟩
     rw [skipWs_no (by decide)] at he hp4
     have hx : w3.cell? a4 = some (.int .u8 46) := by
       rw [hp4.addr (by simp)]
       exact (HIN3.out.doc.suffix hp4.suf).head.1
     have HP4 := Lib.hid hp4
     have hroom := hp4.room
     have hle := hp4.le
     have hfits := HIN3.out.fits
     have hbnd := HIN3.out.bound
     have ha4 := hp4.addr (by simp)
     simp only [List.length_cons] at he hroom hle
     subst he
     generalize ho : D.length - (46 :: r0).length = o at *
     subst ha4
     have HO := Lib.hid ho
     clear hp4 ho
     have hk1 : ¬ k4 = 1 := by omega
     have HP5 : Hid (Pos b cap D r0 ⟨b, o + 1, none⟩ (k4 - 1)) := HP4.out.tail hfits (fun _ => by rw [HO.out]) rfl
     go_wp2_with fail
     refine (skip_at _ HIN3.out HP5.out rfl).mono ?_
     rintro e w4 ⟨a5, k5, he, hp5, rfl⟩
     rw [HSK.out] at he hp5
     subst he
     have HP6 := Lib.hid hp5
     clear hp5
     go_wp2_with fail
     go_roundg 0
     case measure => omega
     case rel => exact .inr ⟨rfl, a5, k5, _, rfl, HP6.out, HPS3.out, HIN3.out, HF3.out⟩
   · clear hrel HC
     have HCC := Lib.hid (HBAD.out hps1 hi1 hp1)
     have HF1 := Lib.hid hf1
     clear hps1 hi1 hp1 hf1 HBAD
     go_wp2_with fail
     refine HCC.out.mono ?_
     rintro e w2 ⟨pe, ns', rfl, hE, hps2, hf2⟩
     have HE := Lib.hid hE
     have HPS2 := Lib.hid hps2
     have HF2 := Lib.hid (HF1.out.trans hf2)
     clear hE hps2 hf2
     go_wp2_with fail
     go_ret3
     exact ⟨pe, ns', rfl, HE.out, HPS2.out, HF2.out⟩
set_option maxRecDepth 100000 in
set_option maxHeartbeats 1000000 in
theorem kv_badKey {B g b cap k : Nat} {D l : List UInt8} {left err : Value} {nest : Nat} {ns : List Nd} {w : World} {a : Addr} (hps : PS B w g b cap false D left ns err nest) (hi : Inp w b cap D) (hp : Pos b cap D l a k) (hn : ns.length ≤ 300000) (m : Nat) (hm : m = l.length)
   (hbad : ∀ {w' : World} {ns' : List Nd}, PS B w' g b cap false D left ns' err nest → Inp w' b cap D → ns'.length ≤ 300001 → Calls Try.prog 66 #[.pointer (some ⟨g, 0, none⟩), .slice (some a) m k] w' (BadR B g b cap D left err nest w')) :
   Calls Try.prog 63 #[.pointer (some ⟨g, 0, none⟩), .slice (some a) m k] w (BadR B g b cap D left err nest w) := by
 have HPS := Lib.hid hps
 have HI := Lib.hid hi
 have HBAD : Hid (∀ w' ns', PS B w' g b cap false D left ns' err nest → Inp w' b cap D → ns'.length ≤ 300001 → Calls Try.prog 66 #[.pointer (some ⟨g, 0, none⟩), .slice (some a) m k] w' (BadR B g b cap D left err nest w')) := fun w' ns' h1 h2 h3 => hbad h1 h2 h3
 clear hps hi hp hm hbad
 go_enter Try.func63, Try.ntmps63
 go_wp2_with fail
 refine (push_any HPS.out 5 0 0 (.slice none 0 0) rfl (by omega)).mono ?_
 rintro e w1 ⟨rfl, hps1, hf1⟩
 have HF1 := Lib.hid hf1
 have HCC := Lib.hid (HBAD.out w1 _ hps1 (HI.out.kp hf1.2) (by simp; omega))
 clear hps1 hf1 HBAD
 go_wp2_with fail
 refine HCC.out.mono ?_
 rintro e w2 ⟨pe, ns', rfl, hE, hps2, hf2⟩
 have HE := Lib.hid hE
 have HPS2 := Lib.hid hps2
 have HF2 := Lib.hid (HF1.out.trans hf2)
 clear hE hps2 hf2
 go_wp2_with fail
 go_ret3
 exact ⟨pe, ns', rfl, HE.out, HPS2.out, HF2.out⟩
end Go.Proofs.Ytnlkbbpmpgdmiaa
namespace Go.Proofs.Ytnlkbbpmpgdmiaa
open Go.RowKit
set_option linter.unusedVariables false
set_option linter.unusedSimpArgs false
theorem hl1_any (a : Addr) (m k : Nat) (hm : 0 < m) (hmk : m ≤ k) (hk : k ≤ 9223372036854775807) (w : World) : Calls Try.prog 68 #[.slice (some a) m k] w fun e w' => e = .returned (.slice (some a) 1 k) ∧ w = w' := by
 go_enter Try.func68, Try.ntmps68
 go_wp2_with fail
 go_ret
 exact ⟨rfl, rfl⟩
theorem aTxt : KeyTxt [[97]] [97] := .inl ⟨rfl, by simp, by intro c hc; simp at hc; subst hc; decide⟩
set_option maxRecDepth 100000 in
set_option maxHeartbeats 1000000 in
theorem kv_noEq {B g b cap k : Nat} {D l r : List UInt8} {c : UInt8} {left err : Value} {nest : Nat} {ns : List Nd} {w : World} {a : Addr} (hps : PS B w g b cap false D left ns err nest) (hi : Inp w b cap D) (hp : Pos b cap D ([97] ++ l) a k) (hn : ns.length ≤ 300000) (hnb : ∀ c r, l = c :: r → ¬ Bare c) (hsk : skipWs l = c :: r) (h46 : c.toNat ≠ 46) (h61 : c.toNat ≠ 61) (m : Nat) (hm : m = ([97] ++ l).length) :
   Calls Try.prog 63 #[.pointer (some ⟨g, 0, none⟩), .slice (some a) m k] w (BadR B g b cap D left err nest w) := by
 have HNB := Lib.hid hnb
 have HSK1 := Lib.hid hsk
 have HC46 := Lib.hid h46
 have HP := Lib.hid hp
 have HI := Lib.hid hi
 have HPS := Lib.hid hps
 have HM := Lib.hid hm
 have e61 : ((c.toNat : Int) == 61) = false := by simp; omega
 have e61b : ((c.toNat : Int) != 61) = true := by simp; omega
 have e61c : ¬ (c.toNat : Int) = 61 := by omega
 clear hps hi hp hnb hsk h46 hm
 go_enter Try.func63, Try.ntmps63
 go_wp2_with fail
 refine (push_any HPS.out 5 0 0 (.slice none 0 0) rfl (by omega)).mono ?_
 rintro e w1 ⟨rfl, hps1, hf1⟩
 have HPS1 := Lib.hid hps1
 have HF1 := Lib.hid hf1
 clear hps1 hf1
 go_wp2_with fail
 refine (parseKey_any (s := [97]) HPS1.out (HI.out.kp HF1.out.2) aTxt HNB.out HP.out (by simp; omega) _ _ HSK1.out HC46.out m HM.out).mono ?_
 rintro e w2 ⟨kn, a2, k2, he, hp2, hps2, hkn, hf2⟩
 have he' : e = .returned (.tuple #[.int .i32 ((ns.length : Int) + 2), .slice (some a2) (c :: r).length k2, .nilIface]) := by
   rw [he]
   simp only [List.length_append, List.length_cons, List.length_nil]
   congr 4
 clear he
 simp only [List.length_cons] at he'
 subst he'
 have HP2 := Lib.hid hp2
 have HPS2 := Lib.hid hps2
 have HF2 := Lib.hid (HF1.out.trans hf2)
 have HI2 : Hid (Inp w2 b cap D) := (HI.out.kp HF1.out.2).kp hf2.2
 have x2 : w2.cell? a2 = some (.int .u8 c.toNat) := by rw [hp2.addr (by simp)]; exact (HI2.out.doc.suffix hp2.suf).head.1
 have room2 := hp2.room
 have le2 := hp2.le
 have hfits := HI2.out.fits
 have hbound := HI2.out.bound
 simp only [List.length_cons] at room2 le2
 have hknl : kn.length = 1 := hkn.length
 clear hp2 hps2 hkn hf2
 go_wp2_with fail
 refine (hl1_any a2 (r.length + 1) k2 (by omega) (by omega) (by omega) _).mono ?_
 rintro e w3 ⟨rfl, rfl⟩
 go_wp2_with fail
 refine (newErr_e _ _ _ _ _ (by omega) (by omega)).mono ?_
 rintro e w1 ⟨pe, rfl, hE, hbE⟩
 have HE := Lib.hid hE
 have HBE := Lib.hid hbE
 clear hE hbE
 have HPS3 := Lib.hid (HPS2.out.kp HBE.out)
 go_wp2_with fail
 go_ret3
 exact ⟨pe, _, rfl, HE.out.mono HPS2.out.le, HPS3.out, HF2.out.trans (Fr.of_below HBE.out HPS2.out.le)⟩
set_option maxRecDepth 100000 in
set_option maxHeartbeats 1000000 in
theorem kv_badVal {B g b cap k : Nat} {D l r t : List UInt8} {left err : Value} {nest : Nat} {ns : List Nd} {w : World} {a : Addr} (hps : PS B w g b cap false D left ns err nest) (hi : Inp w b cap D) (hp : Pos b cap D ([97] ++ l) a k) (hn : ns.length ≤ 300000) (hnb : ∀ c r, l = c :: r → ¬ Bare c) (hsk : skipWs l = 61 :: r) (hsk2 : skipWs r = t) (hr : 0 < r.length) (m : Nat) (hm : m = ([97] ++ l).length)
   (hbad : ∀ {w' : World} {a' : Addr} {k' : Nat} {ns' : List Nd}, PS B w' g b cap false D left ns' err nest → Inp w' b cap D → Pos b cap D t a' k' → ns'.length ≤ ns.length + 2 → Calls Try.prog 69 #[.pointer (some ⟨g, 0, none⟩), .slice (some a') t.length k'] w' (BadR B g b cap D left err nest w')) :
   Calls Try.prog 63 #[.pointer (some ⟨g, 0, none⟩), .slice (some a) m k] w (BadR B g b cap D left err nest w) := by
 have HNB := Lib.hid hnb
 obtain ⟨c, hc⟩ : ∃ c : UInt8, (61 : UInt8) = c := ⟨_, rfl⟩
 rw [hc] at hsk
 have HSK1 := Lib.hid hsk
 have HC46 : Hid (c.toNat ≠ 46) := by rw [← hc]; exact (by decide : (61 : UInt8).toNat ≠ 46)
 have HSK2 := Lib.hid hsk2
 have HP := Lib.hid hp
 have HI := Lib.hid hi
 have HPS := Lib.hid hps
 have HM := Lib.hid hm
 have HBAD : Hid (∀ w' a' k' ns', PS B w' g b cap false D left ns' err nest → Inp w' b cap D → Pos b cap D t a' k' → ns'.length ≤ ns.length + 2 → Calls Try.prog 69 #[.pointer (some ⟨g, 0, none⟩), .slice (some a') t.length k'] w' (BadR B g b cap D left err nest w')) := fun w' a' k' ns' h1 h2 h3 h4 => hbad h1 h2 h3 h4
 have e61 : ((c.toNat : Int) == 61) = true := by rw [← hc]; rfl
 have HC := Lib.hid hc
 clear hps hi hp hnb hsk hsk2 hm hbad hc
 go_enter Try.func63, Try.ntmps63
 go_wp2_with fail
 refine (push_any HPS.out 5 0 0 (.slice none 0 0) rfl (by omega)).mono ?_
 rintro e w1 ⟨rfl, hps1, hf1⟩
 have HPS1 := Lib.hid hps1
 have HF1 := Lib.hid hf1
 clear hps1 hf1
 go_wp2_with fail
 refine (parseKey_any (s := [97]) HPS1.out (HI.out.kp HF1.out.2) aTxt HNB.out HP.out (by simp; omega) _ _ HSK1.out HC46.out m HM.out).mono ?_
 rintro e w2 ⟨kn, a2, k2, he, hp2, hps2, hkn, hf2⟩
 have he' : e = .returned (.tuple #[.int .i32 ((ns.length : Int) + 2), .slice (some a2) (c :: r).length k2, .nilIface]) := by
   rw [he]
   simp only [List.length_append, List.length_cons, List.length_nil]
   congr 4
 clear he
 simp only [List.length_cons] at he'
 subst he'
 have HP2 := Lib.hid hp2
 have HPS2 := Lib.hid hps2
 have HF2 := Lib.hid (HF1.out.trans hf2)
 have HI2 : Hid (Inp w2 b cap D) := (HI.out.kp HF1.out.2).kp hf2.2
 have x2 : w2.cell? a2 = some (.int .u8 c.toNat) := by rw [hp2.addr (by simp)]; exact (HI2.out.doc.suffix hp2.suf).head.1
 have room2 := hp2.room
 have le2 := hp2.le
 have hfits := HI2.out.fits
 have hbound := HI2.out.bound
 simp only [List.length_cons] at room2 le2
 have hknl : kn.length = 1 := hkn.length
 clear hp2 hps2 hkn hf2
 have hns2 : (ns ++ [(⟨5, 0, 0, .slice none 0 0, 0, 0⟩ : Nd)]).length ≤ 300001 := by simp; omega
 have e61n : (c.toNat : Int) = 61 := by simpa using e61
 rw [e61n] at x2
 clear e61
 have ha2 := HP2.out.addr (by simp)
 generalize ho : D.length - (c :: r).length = o at *
 have HO := Lib.hid ho
 subst ha2
 clear ho
 have hk1 : ¬ k2 = 1 := by omega
 have HP5 : Hid (Pos b cap D r ⟨b, o + 1, none⟩ (k2 - 1)) := HP2.out.tail hfits (fun _ => by rw [HO.out]) rfl
 clear e61n
 go_wp2_with fail
 refine (skip_at _ HI2.out HP5.out rfl).mono ?_
 rintro e w4 ⟨a5, k5, he, hp5, rfl⟩
 rw [HSK2.out] at he hp5
 subst he
 have HCC : Hid (Calls Try.prog 69 #[.pointer (some ⟨g, 0, none⟩), .slice (some a5) t.length k5] w2 (BadR B g b cap D left err nest w2)) := HBAD.out w2 a5 k5 _ HPS2.out HI2.out hp5 (by
   simp only [List.length_append, List.length_cons, List.length_nil] at hns2 ⊢
   omega)
 clear hp5 HBAD
 go_wp2_with fail
 refine HCC.out.mono ?_
 rintro e w5 ⟨pe, ns', rfl, hE, hps5, hf5⟩
 have HE := Lib.hid hE
 have HPS5 := Lib.hid hps5
 have HF5 := Lib.hid (HF2.out.trans hf5)
 clear hE hps5 hf5
 go_wp2_with fail
 go_ret3
 exact ⟨pe, ns', rfl, HE.out, HPS5.out, HF5.out⟩
end Go.Proofs.Ytnlkbbpmpgdmiaa
namespace Go.Proofs.Ytnlkbbpmpgdmiaa
open Go.RowKit
set_option linter.unusedVariables false
set_option linter.unusedSimpArgs false
def BadF (w : World) (e : Ending) (w' : World) : Prop := ∃ pe, e = .returned (.tuple #[.slice none 0 0, eV pe]) ∧ EAt w.heap.size w' pe ∧ Below w.heap.size w w'
def BadX (B g b cap : Nat) (D : List UInt8) (left err : Value) (nest : Nat) (w : World) (e : Ending) (w' : World) : Prop :=
 ∃ pe ns', e = .returned (.tuple #[.slice none 0 0, eV pe]) ∧ EAt B w' pe ∧ PS B w' g b cap false D left ns' err nest ∧ Fr B w w'
set_option maxRecDepth 100000 in
set_option maxHeartbeats 1000000 in
theorem eol_bad {b cap k : Nat} {D r : List UInt8} {c : UInt8} {a : Addr} {w : World} (hi : Inp w b cap D) (hp : Pos b cap D (c :: r) a k) (h10 : c.toNat ≠ 10) (h13 : c.toNat ≠ 13) (m : Nat) (hm : m = (c :: r).length) : Calls Try.prog 37 #[.slice (some a) m k] w (BadF w) := by
 have h0 : w.cell? a = some (.int .u8 c.toNat) := by rw [hp.addr (by simp)]; exact (hi.doc.suffix hp.suf).head.1
 have h1 := hp.room
 have h2 := hp.le
 have h3 := hi.fits
 have h4 := hi.bound
 have hm0 : 0 < m := by rw [hm]; simp
 rw [← hm] at h1 h2
 have e10 : ((c.toNat : Int) == 10) = false := by simp; omega
 have e13 : ((c.toNat : Int) == 13) = false := by simp; omega
 have hmk : m ≤ k := by omega
 have hkb : k ≤ 9223372036854775807 := by omega
 clear hi hp hm h10 h13 h1 h2 h3 h4
 go_enter Try.func37, Try.ntmps37
 go_wp2_with fail
 refine (newErr_e _ _ _ _ _ (by omega) (by omega)).mono ?_
 rintro e w1 ⟨pe, rfl, hE, hbE⟩
 have HE := Lib.hid hE
 have HBE := Lib.hid hbE
 clear hE hbE
 go_wp2_with fail
 go_ret2
 exact ⟨pe, rfl, HE.out, HBE.out⟩
set_option maxRecDepth 100000 in
set_option maxHeartbeats 1000000 in
theorem fin_bad {b cap k : Nat} {D l r : List UInt8} {c : UInt8} {a : Addr} {w : World} (hi : Inp w b cap D) (hp : Pos b cap D l a k) (hsk : skipWs l = c :: r) (h10 : c.toNat ≠ 10) (h13 : c.toNat ≠ 13) (h35 : c.toNat ≠ 35) (m : Nat) (hm : m = l.length) (pv h : Value) : Calls Try.prog 62 #[pv, h, .slice (some a) m k] w (BadF w) := by
 have HI := Lib.hid hi
 have HP := Lib.hid hp
 have HSK := Lib.hid hsk
 have HM := Lib.hid hm
 have e35 : ((c.toNat : Int) == 35) = false := by simp; omega
 clear hi hp hsk hm
 go_enter Try.func62, Try.ntmps62
 go_wp2_with fail
 refine (skip_at m HI.out HP.out HM.out).mono ?_
 rintro e w1 ⟨a1, k1, he, hp1, rfl⟩
 rw [HSK.out] at he hp1
 have x1 : w.cell? a1 = some (.int .u8 c.toNat) := by rw [hp1.addr (by simp)]; exact (HI.out.doc.suffix hp1.suf).head.1
 have HC := Lib.hid (fun m hm => eol_bad HI.out hp1 h10 h13 m hm)
 obtain ⟨L, hL⟩ : ∃ L, (c :: r).length = L := ⟨_, rfl⟩
 have hL0 : 0 < L := by rw [← hL]; simp
 rw [hL] at he
 have HL := Lib.hid hL
 subst he
 clear hp1 hL
 go_wp2_with fail
 refine (HC.out L HL.out.symm).mono ?_
 rintro e w2 ⟨pe, rfl, hE, hb⟩
 have HE := Lib.hid hE
 have HB := Lib.hid hb
 clear hE hb
 go_wp2_with fail
 go_ret2
 exact ⟨pe, rfl, HE.out, HB.out⟩
set_option maxRecDepth 100000 in
set_option maxHeartbeats 1000000 in
theorem e41_kv {B g b cap k : Nat} {D : List UInt8} {left err : Value} {nest : Nat} {w : World} {a : Addr} (m : Nat) (h : Calls Try.prog 63 #[.pointer (some ⟨g, 0, none⟩), .slice (some a) m k] w (BadR B g b cap D left err nest w)) :
   Calls Try.prog 41 #[.pointer (some ⟨g, 0, none⟩), .slice (some a) m k] w (BadX B g b cap D left err nest w) := by
 have HC := Lib.hid h
 clear h
 go_enter Try.func41, Try.ntmps41
 go_wp2_with fail
 refine HC.out.mono ?_
 rintro e w2 ⟨pe, ns', rfl, hE, hps2, hf2⟩
 have HE := Lib.hid hE
 have HPS2 := Lib.hid hps2
 have HF2 := Lib.hid hf2
 clear hE hps2 hf2
 go_wp2_with fail
 go_ret2
 exact ⟨pe, ns', rfl, HE.out, HPS2.out, HF2.out⟩
set_option maxRecDepth 100000 in
set_option maxHeartbeats 1000000 in
theorem e41_fin {v : N} {sl : Nat} {B g b cap k : Nat} {D l r : List UInt8} {c : UInt8} {left err : Value} {w : World} {a : Addr} (m : Nat) (hi : Inp w b cap D) (h : Calls Try.prog 63 #[.pointer (some ⟨g, 0, none⟩), .slice (some a) m k] w (KRead v sl B g b cap false D left [] err 0 l w)) (hsk : skipWs l = c :: r) (h10 : c.toNat ≠ 10) (h13 : c.toNat ≠ 13) (h35 : c.toNat ≠ 35) :
   Calls Try.prog 41 #[.pointer (some ⟨g, 0, none⟩), .slice (some a) m k] w (BadX B g b cap D left err 0 w) := by
 have HC := Lib.hid h
 have HI := Lib.hid hi
 have HSK := Lib.hid hsk
 clear h hi hsk
 go_enter Try.func41, Try.ntmps41
 go_wp2_with fail
 refine HC.out.mono ?_
 rintro e w1 ⟨xs, a1, k1, he, hp1, hps1, hv1, hf1, hl1⟩
 obtain ⟨L, hL⟩ : ∃ L, l.length = L := ⟨_, rfl⟩
 have he' : e = .returned (.tuple #[.int .i32 1, .slice (some a1) L k1, .nilIface]) := by rw [he, hL]; rfl
 have HP1 := Lib.hid hp1
 have HPS1 := Lib.hid hps1
 have HF1 := Lib.hid hf1
 have HL := Lib.hid hL
 subst he'
 clear he hp1 hps1 hv1 hf1 hL
 go_wp2_with fail
 refine (fin_bad (HI.out.kp HF1.out.2) HP1.out HSK.out h10 h13 h35 L HL.out.symm _ _).mono ?_
 rintro e w2 ⟨pe, rfl, hE, hb⟩
 have HE := Lib.hid hE
 have HB := Lib.hid hb
 clear hE hb
 go_wp2_with fail
 go_ret2
 exact ⟨pe, _, rfl, HE.out.mono HPS1.out.le, HPS1.out.kp HB.out, HF1.out.trans (Fr.of_below HB.out HPS1.out.le)⟩
set_option maxRecDepth 100000 in
set_option maxHeartbeats 1000000 in
theorem h61_key {B g b cap k : Nat} {D l l2 : List UInt8} {left err : Value} {nest : Nat} {w : World} {a : Addr} (hps : PS B w g b cap false D left [] err nest) (hi : Inp w b cap D) (hp : Pos b cap D (91 :: l) a k) (hl : 0 < l.length) (hsk : skipWs l = l2) (m : Nat) (hm : m = (91 :: l).length)
   (hbad : ∀ {w' : World} {a' : Addr} {k' : Nat} {ns' : List Nd}, PS B w' g b cap false D left ns' err nest → Inp w' b cap D → Pos b cap D l2 a' k' → ns'.length ≤ 1 → Calls Try.prog 66 #[.pointer (some ⟨g, 0, none⟩), .slice (some a') l2.length k'] w' (BadR B g b cap D left err nest w')) :
   Calls Try.prog 61 #[.pointer (some ⟨g, 0, none⟩), .slice (some a) m k] w (BadR B g b cap D left err nest w) := by
 have HBAD : Hid (∀ w' a' k' ns', PS B w' g b cap false D left ns' err nest → Inp w' b cap D → Pos b cap D l2 a' k' → ns'.length ≤ 1 → Calls Try.prog 66 #[.pointer (some ⟨g, 0, none⟩), .slice (some a') l2.length k'] w' (BadR B g b cap D left err nest w')) := fun w' a' k' ns' h1 h2 h3 h4 => hbad h1 h2 h3 h4
 have HPS := Lib.hid hps
 have HI := Lib.hid hi
 have HSK := Lib.hid hsk
 have hroom := hp.room
 have hle := hp.le
 have hfits := hi.fits
 have hbnd := hi.bound
 have ha := hp.addr (by simp)
 simp only [List.length_cons] at hroom hle hm
 generalize ho : D.length - (91 :: l).length = o at *
 have HP1 : Hid (Pos b cap D l ⟨b, o + 1, none⟩ (k - 1)) := hp.tail hfits (fun _ => by rw [ho]) rfl
 subst ha
 obtain ⟨L, hL⟩ : ∃ L, l.length = L := ⟨_, rfl⟩
 rw [hL] at hroom hle hm hl
 subst hm
 have HL := Lib.hid hL
 have hk1 : ¬ k = 1 := by omega
 clear hps hi hp hsk hbad ho hL
 go_enter Try.func61, Try.ntmps61
 go_wp2_with fail
 refine (push_any HPS.out 3 0 0 (.slice none 0 0) rfl (by simp)).mono ?_
 rintro e w1 ⟨rfl, hps1, hf1⟩
 have HPS1 := Lib.hid hps1
 have HF1 := Lib.hid hf1
 clear hps1 hf1
 go_wp2_with fail
 refine (skip_at L (HI.out.kp HF1.out.2) HP1.out HL.out.symm).mono ?_
 rintro e w2 ⟨a2, k2, he, hp2, rfl⟩
 rw [HSK.out] at he hp2
 subst he
 have HCC := Lib.hid (HBAD.out _ _ _ _ HPS1.out (HI.out.kp HF1.out.2) hp2 (by simp))
 clear hp2 HBAD
 go_wp2_with fail
 refine HCC.out.mono ?_
 rintro e w3 ⟨pe, ns', rfl, hE, hps3, hf3⟩
 have HE := Lib.hid hE
 have HPS3 := Lib.hid hps3
 have HF3 := Lib.hid (HF1.out.trans hf3)
 clear hE hps3 hf3
 go_wp2_with fail
 go_ret3
 exact ⟨pe, ns', rfl, HE.out, HPS3.out, HF3.out⟩
end Go.Proofs.Ytnlkbbpmpgdmiaa
namespace Go.Proofs.Ytnlkbbpmpgdmiaa
open Go.RowKit
set_option linter.unusedVariables false
set_option linter.unusedSimpArgs false
set_option maxRecDepth 100000 in
set_option maxHeartbeats 1000000 in
theorem h61_open {B g b cap k : Nat} {D r : List UInt8} {c : UInt8} {left err : Value} {nest : Nat} {w : World} {a : Addr} (hps : PS B w g b cap false D left [] err nest) (hi : Inp w b cap D) (hp : Pos b cap D (91 :: ([97] ++ c :: r)) a k) (hnb : ¬ Bare c) (hws : ¬ (c.toNat = 32 ∨ c.toNat = 9)) (h46 : c.toNat ≠ 46) (h93 : c.toNat ≠ 93) (m : Nat) (hm : m = (91 :: ([97] ++ c :: r)).length) :
   Calls Try.prog 61 #[.pointer (some ⟨g, 0, none⟩), .slice (some a) m k] w (BadR B g b cap D left err nest w) := by
 have HPS := Lib.hid hps
 have HI := Lib.hid hi
 have hroom := hp.room
 have hle := hp.le
 have hfits := hi.fits
 have hbnd := hi.bound
 have ha := hp.addr (by simp)
 have HNB : Hid (∀ c' r', c :: r = c' :: r' → ¬ Bare c') := fun c' r' h => by injection h with h _; subst h; exact hnb
 have HSK1 : Hid (skipWs ([97] ++ c :: r) = [97] ++ c :: r) := skipWs_no (by decide)
 have HSK2 : Hid (skipWs (c :: r) = c :: r) := skipWs_no hws
 have HC46 := Lib.hid h46
 rw [← hm] at hroom hle
 have hm1 : m = ([97] ++ c :: r).length + 1 := by rw [hm]; simp
 generalize ho : D.length - (91 :: ([97] ++ c :: r)).length = o at *
 have HP1 : Hid (Pos b cap D ([97] ++ c :: r) ⟨b, o + 1, none⟩ (k - 1)) := hp.tail hfits (fun _ => by rw [ho]) rfl
 have hl1 : 2 ≤ ([97] ++ c :: r).length := by simp
 generalize hL1 : ([97] ++ c :: r).length = L1 at *
 have HL1 := Lib.hid hL1
 subst ha hm1
 have hk1 : ¬ k = 1 := by omega
 clear hp hi hps hm ho hL1
 go_enter Try.func61, Try.ntmps61
 go_wp2_with fail
 refine (push_any HPS.out 3 0 0 (.slice none 0 0) rfl (by simp)).mono ?_
 rintro e w1 ⟨rfl, hps1, hf1⟩
 have HPS1 := Lib.hid hps1
 have HF1 := Lib.hid hf1
 clear hps1 hf1
 go_wp2_with fail
 refine (skip_at L1 (HI.out.kp HF1.out.2) HP1.out HL1.out.symm).mono ?_
 rintro e w2 ⟨a2, k2, he, hp2, rfl⟩
 rw [HSK1.out] at he hp2
 have HP2 := Lib.hid hp2
 generalize hL2 : ([97] ++ c :: r).length = L2 at *
 have HL2 := Lib.hid hL2
 subst he
 clear hp2 hL2
 go_wp2_with fail
 refine (parseKey_any (s := [97]) HPS1.out (HI.out.kp HF1.out.2) aTxt HNB.out HP2.out (by simp) c r HSK2.out HC46.out L2 HL2.out.symm).mono ?_
 rintro e w3 ⟨kn, a3, k3, he, hp3, hps3, hkn, hf3⟩
 have he' : e = .returned (.tuple #[.int .i32 2, .slice (some a3) (c :: r).length k3, .nilIface]) := by rw [he]; rfl
 clear he
 have HP3 := Lib.hid hp3
 have HPS3 := Lib.hid hps3
 have HF3 := Lib.hid hf3
 have HI3 : Hid (Inp w3 b cap D) := (HI.out.kp HF1.out.2).kp hf3.2
 have hroom3 := hp3.room
 have hle3 := hp3.le
 have hfits3 := HI3.out.fits
 have hbnd3 := HI3.out.bound
 have ha3 := hp3.addr (by simp)
 have hb3 := HI3.out.doc.suffix hp3.suf
 simp only [List.length_cons] at he' hroom3 hle3
 subst he'
 obtain ⟨gn, hpn⟩ := hps3.pn (by simp)
 have cA : w3.cell? ⟨gn, 6, none⟩ = some (.int .i32 0) := hpn.cellAt (i := 0) (x := ⟨3, 0, 0, .slice none 0 0, 0, 0⟩) (by simp) 6 (by omega) (u := .int .i32 0) rfl
 have fA : w3.frozen? ⟨gn, 6, none⟩ = false := hps3.nf hpn (7 * 0 + 6)
 obtain ⟨hps4, hf4, hpn4⟩ := PS.set' (w' := w3.setCell ⟨gn, 6, none⟩ (.int .i32 2)) (ns' := (⟨3, 0, 0, .slice none 0 0, 0, 2⟩ : Nd) :: kn) hps3 hpn (i := 0) (x := ⟨3, 0, 0, .slice none 0 0, 0, 0⟩) ⟨3, 0, 0, .slice none 0 0, 0, 2⟩ (by simp) 6 (by omega) (.int .i32 2) (by simp [Nd.cells]) rfl (by simp) rfl
 have HI4 : Hid (Inp (w3.setCell ⟨gn, 6, none⟩ (.int .i32 2)) b cap D) := HI3.out.kp hf4.2
 have hb4 := HI4.out.doc.suffix hp3.suf
 have HPS4 := Lib.hid hps4
 have HF4 := Lib.hid hf4
 clear hps4 hf4 hpn4
 have HPN := Lib.hid hpn
 have hcnt := hps3.count
 clear hp3 hps3 hkn hf3 hpn
 have x4 : (w3.setCell ⟨gn, 6, none⟩ (.int .i32 2)).cell? a3 = some (.int .u8 c.toNat) := by rw [ha3]; exact hb4.head.1
 have e93 : ((c.toNat : Int) == 93) = false := by simp; omega
 have f93 : ((c.toNat : Int) != 93) = true := by simp; omega
 clear hb3 hb4 ha3
 go_wp2_with fail
 refine (at_at _ HPN.out 0 (by simp) hcnt rfl).mono ?_
 rintro e w4 ⟨rfl, rfl⟩
 go_wp2_with fail
 refine (hl1_any a3 (r.length + 1) k3 (by omega) (by omega) (by omega) _).mono ?_
 rintro e w4 ⟨rfl, rfl⟩
 go_wp2_with fail
 refine (newErr_e _ _ _ _ _ (by omega) (by omega)).mono ?_
 rintro e w1 ⟨pe, rfl, hE, hbE⟩
 have HE := Lib.hid hE
 have HBE := Lib.hid hbE
 clear hE hbE
 go_wp2_with fail
 go_ret3
 exact ⟨pe, _, rfl, HE.out.mono HPS4.out.le, HPS4.out.kp HBE.out, ((HF1.out.trans HF3.out).trans HF4.out).trans (Fr.of_below HBE.out HPS4.out.le)⟩
set_option maxRecDepth 100000 in
set_option maxHeartbeats 1000000 in
theorem h60_open {B g b cap k : Nat} {D r : List UInt8} {c : UInt8} {left err : Value} {nest : Nat} {w : World} {a : Addr} (hps : PS B w g b cap false D left [] err nest) (hi : Inp w b cap D) (hp : Pos b cap D (91 :: 91 :: ([97] ++ c :: r)) a k) (hnb : ¬ Bare c) (hws : ¬ (c.toNat = 32 ∨ c.toNat = 9)) (h46 : c.toNat ≠ 46) (h93 : c.toNat = 93) (x : UInt8) (q : List UInt8) (hr : r = x :: q) (hx : x.toNat ≠ 93) (m : Nat) (hm : m = (91 :: 91 :: ([97] ++ c :: r)).length) :
   Calls Try.prog 60 #[.pointer (some ⟨g, 0, none⟩), .slice (some a) m k] w (BadR B g b cap D left err nest w) := by
 have HPS := Lib.hid hps
 have HI := Lib.hid hi
 have hroom := hp.room
 have hle := hp.le
 have hfits := hi.fits
 have hbnd := hi.bound
 have ha := hp.addr (by simp)
 have HNB : Hid (∀ c' r', c :: r = c' :: r' → ¬ Bare c') := fun c' r' h => by injection h with h _; subst h; exact hnb
 have HSK1 : Hid (skipWs ([97] ++ c :: r) = [97] ++ c :: r) := skipWs_no (by decide)
 have HSK2 : Hid (skipWs (c :: r) = c :: r) := skipWs_no hws
 have HC46 := Lib.hid h46
 rw [← hm] at hroom hle
 have hm1 : m = ([97] ++ c :: r).length + 2 := by rw [hm]; simp
 generalize ho : D.length - (91 :: 91 :: ([97] ++ c :: r)).length = o at *
 have HP1 : Hid (Pos b cap D ([97] ++ c :: r) ⟨b, o + 2, none⟩ (k - 2)) := Pos.after (s := [91, 91]) hp hfits (fun _ => by rw [show D.length - ([91, 91] ++ ([97] ++ c :: r) : List UInt8).length = o from ho]; rfl) rfl
 have hl1 : 2 ≤ ([97] ++ c :: r).length := by simp
 generalize hL1 : ([97] ++ c :: r).length = L1 at *
 have HL1 := Lib.hid hL1
 subst ha hm1
 have hk1 : ¬ k = 2 := by omega
 have HR := Lib.hid hr
 clear hp hi hps hm ho hL1 hr
 go_enter Try.func60, Try.ntmps60
 go_wp2_with fail
 refine (push_any HPS.out 4 0 0 (.slice none 0 0) rfl (by simp)).mono ?_
 rintro e w1 ⟨rfl, hps1, hf1⟩
 have HPS1 := Lib.hid hps1
 have HF1 := Lib.hid hf1
 clear hps1 hf1
 go_wp2_with fail
 refine (skip_at L1 (HI.out.kp HF1.out.2) HP1.out HL1.out.symm).mono ?_
 rintro e w2 ⟨a2, k2, he, hp2, rfl⟩
 rw [HSK1.out] at he hp2
 have HP2 := Lib.hid hp2
 generalize hL2 : ([97] ++ c :: r).length = L2 at *
 have HL2 := Lib.hid hL2
 subst he
 clear hp2 hL2
 go_wp2_with fail
 refine (parseKey_any (s := [97]) HPS1.out (HI.out.kp HF1.out.2) aTxt HNB.out HP2.out (by simp) c r HSK2.out HC46.out L2 HL2.out.symm).mono ?_
 rintro e w3 ⟨kn, a3, k3, he, hp3, hps3, hkn, hf3⟩
 have he' : e = .returned (.tuple #[.int .i32 2, .slice (some a3) (c :: r).length k3, .nilIface]) := by rw [he]; rfl
 clear he
 have HP3 := Lib.hid hp3
 have HPS3 := Lib.hid hps3
 have HF3 := Lib.hid hf3
 have HI3 : Hid (Inp w3 b cap D) := (HI.out.kp HF1.out.2).kp hf3.2
 have hroom3 := hp3.room
 have hle3 := hp3.le
 have hfits3 := HI3.out.fits
 have hbnd3 := HI3.out.bound
 have ha3 := hp3.addr (by simp)
 have hb3 := HI3.out.doc.suffix hp3.suf
 simp only [List.length_cons] at he' hroom3 hle3
 subst he'
 obtain ⟨gn, hpn⟩ := hps3.pn (by simp)
 have cA : w3.cell? ⟨gn, 6, none⟩ = some (.int .i32 0) := hpn.cellAt (i := 0) (x := ⟨4, 0, 0, .slice none 0 0, 0, 0⟩) (by simp) 6 (by omega) (u := .int .i32 0) rfl
 have fA : w3.frozen? ⟨gn, 6, none⟩ = false := hps3.nf hpn (7 * 0 + 6)
 obtain ⟨hps4, hf4, hpn4⟩ := PS.set' (w' := w3.setCell ⟨gn, 6, none⟩ (.int .i32 2)) (ns' := (⟨4, 0, 0, .slice none 0 0, 0, 2⟩ : Nd) :: kn) hps3 hpn (i := 0) (x := ⟨4, 0, 0, .slice none 0 0, 0, 0⟩) ⟨4, 0, 0, .slice none 0 0, 0, 2⟩ (by simp) 6 (by omega) (.int .i32 2) (by simp [Nd.cells]) rfl (by simp) rfl
 have HI4 : Hid (Inp (w3.setCell ⟨gn, 6, none⟩ (.int .i32 2)) b cap D) := HI3.out.kp hf4.2
 have hb4 := HI4.out.doc.suffix hp3.suf
 have HPS4 := Lib.hid hps4
 have HF4 := Lib.hid hf4
 clear hps4 hf4 hpn4
 have HPN := Lib.hid hpn
 have hcnt := hps3.count
 clear hp3 hps3 hkn hf3 hpn
 generalize ho3 : D.length - (c :: r).length = o3 at *
 subst ha3
 have x4 : (w3.setCell ⟨gn, 6, none⟩ (.int .i32 2)).cell? ⟨b, o3, none⟩ = some (.int .u8 c.toNat) := hb4.head.1
 have x5 : (w3.setCell ⟨gn, 6, none⟩ (.int .i32 2)).cell? ⟨b, o3 + 1, none⟩ = some (.int .u8 x.toNat) := by
   have h5 := hb4.head.2
   rw [HR.out] at h5
   exact h5.head.1
 have e93 : (c.toNat : Int) = 93 := by omega
 have hr2 : 1 ≤ r.length := by rw [HR.out]; simp
 have f93 : ((x.toNat : Int) != 93) = true := by simp; omega
 have g93 : ((x.toNat : Int) == 93) = false := by simp; omega
 rw [e93] at x4
 clear hb3 hb4 ho3
 go_wp2_with fail
 refine (at_at _ HPN.out 0 (by simp) hcnt rfl).mono ?_
 rintro e w4 ⟨rfl, rfl⟩
 go_wp2_with fail
 refine (hl1_any _ (r.length + 1) k3 (by omega) (by omega) (by omega) _).mono ?_
 rintro e w4 ⟨rfl, rfl⟩
 go_wp2_with fail
 refine (newErr_e _ _ _ _ _ (by omega) (by omega)).mono ?_
 rintro e w1 ⟨pe, rfl, hE, hbE⟩
 have HE := Lib.hid hE
 have HBE := Lib.hid hbE
 clear hE hbE
 go_wp2_with fail
 go_ret3
 exact ⟨pe, _, rfl, HE.out.mono HPS4.out.le, HPS4.out.kp HBE.out, ((HF1.out.trans HF3.out).trans HF4.out).trans (Fr.of_below HBE.out HPS4.out.le)⟩
set_option maxRecDepth 100000 in
set_option maxHeartbeats 1000000 in
theorem e40_61 {B g b cap k o : Nat} {D : List UInt8} {left err : Value} {nest : Nat} {w : World} {x : UInt8} (m : Nat) (h2 : 2 ≤ m) (hb : b + 0 = b) (hx : w.cell? ⟨b, o + 1, none⟩ = some (.int .u8 x.toNat)) (hx2 : x.toNat ≠ 91) (hmb : m ≤ 140737488351232) (h : Calls Try.prog 61 #[.pointer (some ⟨g, 0, none⟩), .slice (some ⟨b, o, none⟩) m k] w (BadR B g b cap D left err nest w)) :
   Calls Try.prog 40 #[.pointer (some ⟨g, 0, none⟩), .slice (some ⟨b, o, none⟩) m k] w (BadX B g b cap D left err nest w) := by
 have HC := Lib.hid h
 have e91 : ((x.toNat : Int) == 91) = false := by simp; omega
 clear h
 go_enter Try.func40, Try.ntmps40
 go_wp2_with fail
 refine HC.out.mono ?_
 rintro e w2 ⟨pe, ns', rfl, hE, hps2, hf2⟩
 have HE := Lib.hid hE
 have HPS2 := Lib.hid hps2
 have HF2 := Lib.hid hf2
 clear hE hps2 hf2
 go_wp2_with fail
 go_ret2
 exact ⟨pe, ns', rfl, HE.out, HPS2.out, HF2.out⟩
set_option maxRecDepth 100000 in
set_option maxHeartbeats 1000000 in
theorem e40_60 {B g b cap k o : Nat} {D : List UInt8} {left err : Value} {nest : Nat} {w : World} (m : Nat) (h2 : 2 ≤ m) (hx : w.cell? ⟨b, o + 1, none⟩ = some (.int .u8 91)) (hmb : m ≤ 140737488351232) (h : Calls Try.prog 60 #[.pointer (some ⟨g, 0, none⟩), .slice (some ⟨b, o, none⟩) m k] w (BadR B g b cap D left err nest w)) :
   Calls Try.prog 40 #[.pointer (some ⟨g, 0, none⟩), .slice (some ⟨b, o, none⟩) m k] w (BadX B g b cap D left err nest w) := by
 have HC := Lib.hid h
 clear h
 go_enter Try.func40, Try.ntmps40
 go_wp2_with fail
 refine HC.out.mono ?_
 rintro e w2 ⟨pe, ns', rfl, hE, hps2, hf2⟩
 have HE := Lib.hid hE
 have HPS2 := Lib.hid hps2
 have HF2 := Lib.hid hf2
 clear hE hps2 hf2
 go_wp2_with fail
 go_ret2
 exact ⟨pe, ns', rfl, HE.out, HPS2.out, HF2.out⟩
end Go.Proofs.Ytnlkbbpmpgdmiaa
namespace Go.Proofs.Ytnlkbbpmpgdmiaa
open Go.RowKit
set_option linter.unusedVariables false
set_option linter.unusedSimpArgs false
@[go_sem] theorem assert93 (v : Value) (xT : TypeId) (w : World) : (Instr.typeAssert (.iface 93 v) xT 93 true).run Try.prog w = .ok (.tuple #[v, .bool true]) w := by
 simp [Instr.typeAssert, run_underlying Try.underlying93]
theorem PS.set96 {B g b cap : Nat} {kc : Bool} {D : List UInt8} {left err : Value} {nest : Nat} {ns : List Nd} {w : World} (h : PS B w g b cap kc D left ns err nest) {pe : Nat} {cs : Array Value} (hpe : Blk w pe 96 cs) (i : Nat) (u : Value) :
   PS B (w.setCell ⟨pe, i, none⟩ u) g b cap kc D left ns err nest := by
 obtain ⟨A, V, hg, hBg, harn, hBw⟩ := h
 refine ⟨A, V, hg.far (Ne.symm (hpe.ne_ hg (by decide))) u, hBg, ?_, by simpa using hBw⟩
 rcases harn with h | ⟨gn, ncap, cur, junk, h1, hgn, h2⟩
 · exact .inl h
 · exact .inr ⟨gn, ncap, cur, junk, h1, hgn.far (Ne.symm (hpe.ne_ hgn (by decide))) u, h2⟩
theorem PS.err4 {B g b cap : Nat} {kc : Bool} {D : List UInt8} {left err : Value} {nest : Nat} {ns : List Nd} {w : World} (h : PS B w g b cap kc D left ns err nest) (v : Value) :
   PS B (w.setCell ⟨g, 4, none⟩ v) g b cap kc D left ns v nest ∧ Fr B w (w.setCell ⟨g, 4, none⟩ v) := by
 obtain ⟨A, V, hg, hBg, harn, hBw⟩ := h
 refine ⟨⟨A, V, hg.set_ 4 v, hBg, ?_, by simpa using hBw⟩, (Below.refl B w).setCell hBg _, Kp.set52 hg 4 v⟩
 rcases harn with h | ⟨gn, ncap, cur, junk, h1, hgn, h2⟩
 · exact .inl h
 · exact .inr ⟨gn, ncap, cur, junk, h1, hgn.far (Ne.symm (hg.ne_ hgn (by decide))) v, h2⟩
set_option maxRecDepth 100000 in
theorem offsetOf_all {w : World} {g dl dcap : Nat} {A : Addr} {kc : Bool} {left V err nv : Value} (hg : Blk w g 52 #[.bool kc, .slice (some A) dl dcap, left, V, err, nv]) (a : Option Addr) (n k : Nat) (h1 : k ≤ 9223372036854775807) (hb : dcap ≤ 9223372036854775807) :
   Calls Try.prog 42 #[.pointer (some ⟨g, 0, none⟩), .slice a n k] w fun e w' => e = .returned (.int .i64 ((dcap : Int) - k)) ∧ w = w' := by
 have c1 : w.cell? ⟨g, 1, none⟩ = some (.slice (some A) dl dcap) := by have := hg.cell 1; simpa using this
 have hlt := hg.lt
 go_enter Try.func42, Try.ntmps42
 go_wp2_with fail
 go_ret
 exact ⟨rfl, rfl⟩
def NextBad (B g b cap : Nat) (D : List UInt8) (w : World) (e : Ending) (w' : World) : Prop :=
 e = .returned (.bool false) ∧ Below B w w' ∧ ∃ left ns pe, PS B w' g b cap false D left ns (eV pe) 0
theorem beq_nat (a n : Nat) : ((a : Int) == (n : Int)) = decide (a = n) := by
 by_cases h : a = n
 · simp [h]
 · simp [h]
   omega
def BadC (w : World) (e : Ending) (w' : World) : Prop := ∃ pe, e = .returned (.tuple #[.slice none 0 0, .slice none 0 0, eV pe]) ∧ EAt w.heap.size w' pe ∧ Below w.heap.size w w'
set_option maxRecDepth 100000 in
set_option maxHeartbeats 12000000 in
theorem nextEx_bad {B g b cap k : Nat} {D s r : List UInt8} {c : UInt8} {ns : List Nd} {w : World} {a : Addr} (hsk : skipWs s = c :: r) (h10 : c.toNat ≠ 10) (h13 : c.toNat ≠ 13) (m : Nat) (hm : m = s.length) (hps : PS B w g b cap false D (.slice (some a) m k) ns .nilIface 0) (hi : Inp w b cap D) (hp : Pos b cap D s a k)
   (hbad : (c.toNat ≠ 35 ∧ c.toNat ≠ 91 ∧ ∀ (w' : World) (a' : Addr) (k' : Nat), PS B w' g b cap false D (.slice (some a) m k) [] .nilIface 0 → Inp w' b cap D → Pos b cap D (c :: r) a' k' → Calls Try.prog 41 #[.pointer (some ⟨g, 0, none⟩), .slice (some a') (c :: r).length k'] w' (BadX B g b cap D (.slice (some a) m k) .nilIface 0 w')) ∨
     (c.toNat = 91 ∧ ∀ (w' : World) (a' : Addr) (k' : Nat), PS B w' g b cap false D (.slice (some a) m k) [] .nilIface 0 → Inp w' b cap D → Pos b cap D (c :: r) a' k' → Calls Try.prog 40 #[.pointer (some ⟨g, 0, none⟩), .slice (some a') (c :: r).length k'] w' (BadX B g b cap D (.slice (some a) m k) .nilIface 0 w')) ∨
     (c.toNat = 35 ∧ ∀ (w' : World) (a' : Addr) (k' : Nat), PS B w' g b cap false D (.slice (some a) m k) [] .nilIface 0 → Inp w' b cap D → Pos b cap D (c :: r) a' k' → Calls Try.prog 36 #[.slice (some a') (c :: r).length k'] w' (BadC w'))) :
   Calls Try.prog 18 #[.pointer (some ⟨g, 0, none⟩)] w (NextBad B g b cap D w) := by
 obtain ⟨V, V0, c3, hV, hT⟩ := hps.trunc
 obtain ⟨c2, c4, hfr, hgl⟩ := hps.cells
 have f3 := hfr 3
 have hfits := hi.fits
 have hbnd := hi.bound
 have HP := Lib.hid hp
 have HI := Lib.hid hi
 have HT := Lib.hid hT
 have HSK := Lib.hid hsk
 have HM := Lib.hid hm
 have e10 : ((c.toNat : Int) == 10) = false := by simp; omega
 have e13 : ((c.toNat : Int) == 13) = false := by simp; omega
 clear hp hi hps hT hfr hsk hm
 rcases hV with ⟨rfl, rfl⟩ | ⟨gn, n, cc, rfl, hnc, rfl, hcb⟩
 all_goals
   rcases hbad with ⟨e35, e91, hb⟩ | ⟨e91, hb⟩ | ⟨e35, hb⟩
 all_goals
   have e35 : ((c.toNat : Int) == 35) = decide (c.toNat = 35) := beq_nat c.toNat 35
   have e91 : ((c.toNat : Int) == 91) = decide (c.toNat = 91) := beq_nat c.toNat 91
   first
     | rw [decide_eq_false (by assumption)] at e35
     | rw [decide_eq_true (by assumption)] at e35
     | rw [decide_eq_false (by omega)] at e35
   first
     | rw [decide_eq_false (by assumption)] at e91
     | rw [decide_eq_true (by assumption)] at e91
     | rw [decide_eq_false (by omega)] at e91
   have HBAD := Lib.hid hb
   clear hb
   go_enter Try.func18, Try.ntmps18
   go_wp2_with fail
   clear c2 c3 c4 f3 hgl
   try clear hnc hcb
   first
     | generalize hw0 : w.setCell ⟨g, 3, none⟩ (.slice (some ⟨gn, 0, none⟩) 0 cc) = w0
     | generalize hw0 : w.setCell ⟨g, 3, none⟩ (.slice none 0 0) = w0
   obtain ⟨hps0, hf0⟩ := HT.out w0 hw0
   have HPS0 := Lib.hid hps0
   have HF0 := Lib.hid hf0
   clear hps0 hf0 hw0
   refine wp_loop_u1 174 3 (fun U => U 0 = .pointer (some ⟨g, 0, none⟩)) (fun s3 U => ⟨#[.pointer (some ⟨g, 0, none⟩), U 1, U 2, s3, U 4, U 5, U 6, U 7, U 8, U 9, U 10, U 11, U 12, U 13, U 14, U 15, U 16, U 17, U 18, U 19, U 20, U 21, U 22, U 23, U 24, U 25, U 26, U 27, U 28, U 29, U 30, U 31, U 32, U 33, U 34, U 35, U 36, U 37, U 38, U 39, U 40, U 41, U 42, U 43, U 44, U 45, U 46, U 47, U 48, U 49, U 50, U 51, U 52, U 53, U 54, U 55, U 56, U 57, U 58, U 59, U 60, U 61, U 62, U 63, U 64, U 65, U 66, U 67, U 68, U 69, U 70, U 71, U 72, U 73, U 74, U 75, U 76, U 77, U 78, U 79, U 80, U 81, U 82, U 83, U 84, U 85, U 86, U 87, U 88, U 89, U 90, U 91, U 92, U 93, U 94, U 95, U 96, U 97, U 98, U 99, U 100, U 101, U 102, U 103, U 104, U 105, U 106, U 107, U 108, U 109, U 110, U 111, U 112, U 113, U 114, U 115, U 116, U 117, U 118, U 119, U 120, U 121, U 122, U 123, U 124, U 125, U 126, U 127, U 128, U 129, U 130, U 131, U 132, U 133, U 134, U 135, U 136, U 137, U 138, U 139, U 140, U 141, U 142, U 143, U 144, U 145, U 146, U 147, U 148, U 149, U 150, U 151, U 152, U 153, U 154, U 155, U 156, U 157, U 158, U 159, U 160, U 161, U 162, U 163, U 164, U 165, U 166, U 167, U 168, U 169, U 170, U 171, U 172, U 173], []⟩) (by rintro U h0; rw [← h0]; rfl) (fun gg s3 wx => wx = w0) 0 undef ⟨rfl, rfl, rfl⟩ rfl ?_ ?_
   · rfl
   intro gk u3 U wr hrel J K hJ hK
   subst hrel
   obtain ⟨c2, c4, hfr, hgl⟩ := HPS0.out.cells
   have HIN := Lib.hid (HI.out.kp HF0.out.2)
   clear HT hfr c4
   go_wp2_with fail
   refine (skip_at m HIN.out HP.out HM.out).mono ?_
   rintro e w1 ⟨a1, k1, he, hp1, rfl⟩
   rw [HSK.out] at he hp1
   have x1 : wr.cell? a1 = some (.int .u8 c.toNat) := by rw [hp1.addr (by simp)]; exact (HIN.out.doc.suffix hp1.suf).head.1
   have HC := Lib.hid (HBAD.out _ _ _ HPS0.out HIN.out hp1)
   have hL0 : 0 < (c :: r).length := by simp
   generalize hL : (c :: r).length = L at *
   subst he
   clear hp1 hL HBAD
   go_wp2_with fail
   first
     | (refine HC.out.mono ?_
        rintro e w2 ⟨pe, ns', rfl, ⟨hBpe, A, hl, hc, msg, hpe, hlc, hcb⟩, hps2, hf2⟩)
     | (refine HC.out.mono ?_
        rintro e w2 ⟨pe, rfl, hE, hbe⟩
        obtain ⟨hBpe, A, hl, hc, msg, hpe, hlc, hcb⟩ := hE.mono HPS0.out.le
        have hps2 := HPS0.out.kp hbe
        have hf2 : Fr B wr w2 := Fr.of_below hbe HPS0.out.le
        clear hbe hE)
   have p0 : w2.cell? ⟨pe, 0, none⟩ = some (.slice A hl hc) := by have := hpe.cell 0; simpa using this
   have pfr : w2.frozen? ⟨pe, 0, none⟩ = false := hpe.frozen 0
   have plt := hpe.lt
   obtain ⟨c2, c4, hfr, hgl⟩ := hps2.cells
   have f4 := hfr 4
   have HPS2 := Lib.hid hps2
   obtain ⟨DA, DV, hg, _, _, _⟩ := hps2
   have c1 : w2.cell? ⟨g, 1, none⟩ = some (.slice (some DA) D.length cap) := by have := hg.cell 1; simpa using this
   have HPE := Lib.hid hpe
   have HG := Lib.hid hg
   have HF2 := Lib.hid hf2
   clear hpe hg hfr hf2 x1 HC
   by_cases hl0 : hl = 0
   · have e0 : ((hl : Int) == 0) = true := by simp; omega
     go_wp2_with fail
     refine (offsetOf_all HG.out A 0 hc (by omega) (by omega)).mono ?_
     rintro e w3 ⟨rfl, rfl⟩
     obtain ⟨off, hoff⟩ : ∃ off, (cap : Int) - hc = off := ⟨_, rfl⟩
     obtain ⟨dl, hdl⟩ : ∃ dl, D.length = dl := ⟨_, rfl⟩
     rw [hoff]
     rw [hdl] at c1 hfits hbnd
     have hof1 : off ≤ 9223372036854775807 := by omega
     have hof2 : -9223372036854775807 ≤ off := by omega
     clear hoff hdl
     by_cases ho : (0 : Int) < off
     · by_cases hd : off = dl
       · subst hd
         have hd0 : 0 < dl := by omega
         go_wp2_with fail
         go_ret
         have HPS3 := HPS2.out.set96 HPE.out 0 (.slice (some (DA.add (dl - 1))) (dl - (dl - 1)) (cap - (dl - 1)))
         exact ⟨rfl, ((HF0.out.trans HF2.out).1.setCell hBpe _).trans (HPS3.err4 _).2.1, _, _, pe, (HPS3.err4 _).1⟩
       · have hd' : (off == (dl : Int)) = false := by simpa using hd
         go_wp2_with fail
         go_ret
         exact ⟨rfl, ((HF0.out.trans HF2.out).trans (HPS2.out.err4 _).2).1, _, _, pe, (HPS2.out.err4 _).1⟩
     · go_wp2_with fail
       go_ret
       exact ⟨rfl, ((HF0.out.trans HF2.out).trans (HPS2.out.err4 _).2).1, _, _, pe, (HPS2.out.err4 _).1⟩
   · have e0 : ((hl : Int) == 0) = false := by simp; omega
     go_wp2_with fail
     go_ret
     exact ⟨rfl, ((HF0.out.trans HF2.out).trans (HPS2.out.err4 _).2).1, _, _, pe, (HPS2.out.err4 _).1⟩
end Go.Proofs.Ytnlkbbpmpgdmiaa
