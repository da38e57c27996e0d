/- The document and places in it; parseSimpleKey for keys without quotes; parseKey for one key without quotes; The number 5, ahead of a blank; The value 5; key and value; Key and value: a = 5; The end of a line with a remark; An expression "a = 5 # ; Reset; slices; slices; The texts that a document of ours may have: a grammar in plain Lean, no program in sight; Eight bytes at a time: bytes below 128, bytes that are not a sign; chunks of signs (plain facts); Arguments that came in, as lists: bytes, numbers, truth values, slices of slices of bytes; NextExpression where remarks are kept; NextExpress. -/
import Derived.Test.YtnlkbbpmpgdmiaaXAB
import Derived.OwnWalk
import Derived.Test.YtnlkbbpmpgdmiaaXAA
import Derived.ProofKit
import Derived.OpenShut
import Derived.ChangeSame
import Derived.ShutString
import Derived.Deep.Slices
import Derived.Carry
namespace Go.Proofs.Ytnlkbbpmpgdmiaa
open Go.RowKit
set_option linter.unusedVariables false
set_option linter.unusedSimpArgs false
def Doc (w : World) (b : Nat) (D : List UInt8) : Prop := D = [] ∨ ∃ cs : Array Value, Blk w b 5 cs ∧ ∀ k, k < D.length → cs[k]? = some (.int .u8 (D.getD k 0).toNat)
theorem Doc.kp {w w' : World} {b : Nat} {D : List UInt8} (h : Doc w b D) (hk : Kp w w') : Doc w' b D := by
 rcases h with h | ⟨cs, h1, h2⟩
 · exact .inl h
 · exact .inr ⟨cs, hk.2 _ _ _ (by decide) (by decide) h1, h2⟩
theorem Doc.bts {w : World} {b : Nat} {D : List UInt8} (h : Doc w b D) : Bts w b 0 D := by
 rcases h with rfl | ⟨cs, h1, h2⟩
 · intro k hk; simp at hk
 · intro k hk
   rw [Nat.zero_add, h1.cell k]
   exact h2 k hk
theorem Doc.suffix {w : World} {b : Nat} {D l : List UInt8} (h : Doc w b D) (hl : l <:+ D) : Bts w b (D.length - l.length) l := by
 have := h.bts.suffix hl
 rwa [Nat.zero_add] at this
structure Pos (b cap : Nat) (D l : List UInt8) (a : Addr) (k : Nat) : Prop where
 suf : l <:+ D
 room : k + D.length = cap + l.length
 addr : 0 < l.length → a = ⟨b, D.length - l.length, none⟩
structure Inp (w : World) (b cap : Nat) (D : List UInt8) : Prop where
 doc : Doc w b D
 fits : D.length ≤ cap
 bound : D.length ≤ 140737488351232 ∧ cap ≤ 9223372036854775807
theorem Inp.kp {w w' : World} {b cap : Nat} {D : List UInt8} (h : Inp w b cap D) (hk : Kp w w') : Inp w' b cap D := ⟨h.doc.kp hk, h.fits, h.bound⟩
theorem Inp.drewN {w : World} {b cap : Nat} {D : List UInt8} (h : Inp w b cap D) (n : Nat) : Inp (w.drewN n) b cap D := h.kp (Kp.drewN w n)
theorem Pos.le {b cap : Nat} {D l : List UInt8} {a : Addr} {k : Nat} (h : Pos b cap D l a k) : l.length ≤ D.length := h.suf.length_le
theorem Pos.rest {b cap : Nat} {D l r : List UInt8} {a : Addr} {k o : Nat} (h : Pos b cap D l a k) (ho : o = D.length - l.length) (hf : D.length ≤ cap) {v : Value} (hr : Rest b o k l r v) : ∃ a' k', v = .slice (some a') r.length k' ∧ Pos b cap D r a' k' := by
 subst ho
 obtain ⟨h1, a', rfl, h2⟩ := hr
 have l1 := h1.length_le
 have l2 := h.le
 have h3 := h.room
 refine ⟨a', _, rfl, h1.trans h.suf, by omega, fun h0 => ?_⟩
 rw [h2 h0]
 congr 1
 omega
def DataIs (w : World) (v : Value) (s : List UInt8) : Prop := ∃ (blk off c : Nat) (cs : Array Value) (a : Addr), v = .slice (some a) s.length c ∧ s.length ≤ c ∧ (0 < s.length → a = ⟨blk, off, none⟩ ∧ Blk w blk 5 cs ∧ ∀ k, k < s.length → cs[off + k]? = some (.int .u8 (s.getD k 0).toNat))
theorem DataIs.kp {w w' : World} {v : Value} {s : List UInt8} (h : DataIs w v s) (hk : Kp w w') : DataIs w' v s := by
 obtain ⟨blk, off, c, cs, a, h1, h2, h3⟩ := h
 exact ⟨blk, off, c, cs, a, h1, h2, fun h0 => ⟨(h3 h0).1, hk.2 _ _ _ (by decide) (by decide) (h3 h0).2.1, (h3 h0).2.2⟩⟩
theorem DataIs.one {w : World} {v : Value} {s : List UInt8} (h : DataIs w v s) : v.oneCell' = true := by
 obtain ⟨blk, off, c, cs, a, rfl, _⟩ := h
 rfl
theorem Doc.data {w : World} {b cap k : Nat} {D l p s q : List UInt8} {a : Addr} (h : Doc w b D) (hp : Pos b cap D l a k) (hl : l = p ++ (s ++ q)) (hf : D.length ≤ cap) {a' : Addr} {c : Nat} (ha : 0 < s.length → a' = ⟨b, D.length - l.length + p.length, none⟩) (hc : s.length ≤ c) :
   DataIs w (.slice (some a') s.length c) s := by
 rcases h with rfl | ⟨cs, h1, h2⟩
 · have h3 := hp.le
   rw [hl] at h3
   simp at h3
   exact ⟨b, 0, c, #[], a', rfl, hc, fun h0 => by simp [h3.2.1] at h0⟩
 · refine ⟨b, D.length - l.length + p.length, c, cs, a', rfl, hc, fun h0 => ⟨ha h0, h1, fun j hj => ?_⟩⟩
   obtain ⟨t, ht⟩ := hp.suf
   have e : D.length - l.length = t.length := by rw [← ht]; simp
   rw [e, h2 _ (by rw [← ht, hl]; simp; omega)]
   congr 3
   rw [← ht, hl]
   rw [List.getD_eq_getElem?_getD, List.getD_eq_getElem?_getD, List.getElem?_append_right (by omega), List.getElem?_append_right (by omega), List.getElem?_append_left (by omega),
     show t.length + p.length + j - t.length - p.length = j from by omega]
def KeyRead (B g b cap : Nat) (kc : Bool) (D : List UInt8) (left : Value) (ns : List Nd) (err : Value) (nest : Nat) (s rest : List UInt8) (w : World) (e : Ending) (w' : World) : Prop :=
 ∃ ro rl dv a' k', e = .returned (.tuple #[.int .i32 ((ns.length : Int) + 1), .slice (some a') rest.length k', .nilIface]) ∧ Pos b cap D rest a' k' ∧
   PS B w' g b cap kc D left (ns ++ [⟨2, ro, rl, dv, 0, 0⟩]) err nest ∧ DataIs w' dv s ∧ Fr B w w'
theorem PS.kp {B g b cap : Nat} {kc : Bool} {D : List UInt8} {left err : Value} {nest : Nat} {ns : List Nd} {w w' : World} (h : PS B w g b cap kc D left ns err nest) (hb : Below w.heap.size w w') : PS B w' g b cap kc D left ns err nest := by
 obtain ⟨A, V, hg, hBg, harn, hBw⟩ := h
 refine ⟨A, V, hg.below hb hg.lt, hBg, ?_, Nat.le_trans hBw hb.size⟩
 rcases harn with h | ⟨gn, ncap, cur, junk, h1, hgn, h2⟩
 · exact .inl h
 · exact .inr ⟨gn, ncap, cur, junk, h1, hgn.below hb hgn.lt, h2⟩
theorem PS.drewN {B g b cap : Nat} {kc : Bool} {D : List UInt8} {left err : Value} {nest : Nat} {ns : List Nd} {w : World} (h : PS B w g b cap kc D left ns err nest) (n : Nat) : PS B (w.drewN n) g b cap kc D left ns err nest :=
 h.kp (Fr.drewN w n).1
end Go.Proofs.Ytnlkbbpmpgdmiaa
namespace Go.Proofs.Ytnlkbbpmpgdmiaa
open Go.RowKit
set_option linter.unusedVariables false
set_option linter.unusedSimpArgs false
def SkipIs (b cap : Nat) (D l : List UInt8) (w : World) (e : Ending) (w' : World) : Prop :=
 ∃ a' k', e = .returned (.slice (some a') (skipWs l).length k') ∧ Pos b cap D (skipWs l) a' k' ∧ w = w'
theorem skip_pos {b cap k : Nat} {D l : List UInt8} {a : Addr} {w : World} (hi : Inp w b cap D) (hp : Pos b cap D l a k) : Calls Try.prog 34 #[.slice (some a) l.length k] w (SkipIs b cap D l w) := by
 have h1 := hp.room
 have h2 := hp.le
 have h3 := hi.fits
 have h4 := hi.bound
 refine (skipWs_any l b (D.length - l.length) k a w (hi.doc.suffix hp.suf) (by omega) (by omega) hp.addr).mono ?_
 rintro e w' ⟨v, rfl, hr, rfl⟩
 obtain ⟨a', k', rfl, hp'⟩ := hp.rest rfl h3 hr
 exact ⟨a', k', rfl, hp', rfl⟩
end Go.Proofs.Ytnlkbbpmpgdmiaa
namespace Go.Proofs.Ytnlkbbpmpgdmiaa
open Go.RowKit
set_option linter.unusedVariables false
set_option linter.unusedSimpArgs false
def Digit (c : UInt8) : Prop := 48 ≤ c.toNat ∧ c.toNat ≤ 57
instance (c : UInt8) : Decidable (Digit c) := by unfold Digit; infer_instance
theorem isDigit_yes (c : UInt8) (h : Digit c) (w : World) : Calls Try.prog 89 #[.int .u8 c.toNat] w fun e w' => e = .returned (.bool true) ∧ w = w' := by
 obtain ⟨h1, h2⟩ := h
 go_enter Try.func89, Try.ntmps89
 go_wp2_with fail
 go_ret
 first | exact ⟨rfl, rfl⟩ | (refine ⟨ret_bool ?_, rfl⟩; simp; omega)
theorem isDigit_no (c : UInt8) (h : ¬ Digit c) (w : World) : Calls Try.prog 89 #[.int .u8 c.toNat] w fun e w' => e = .returned (.bool false) ∧ w = w' := by
 have h0 := c.toNat_lt
 have h1 : c.toNat < 48 ∨ 57 < c.toNat := by unfold Digit at h; omega
 clear h
 rcases h1 with h1 | h1
 all_goals
   go_enter Try.func89, Try.ntmps89
   go_wp2_with fail
   go_ret
   first | exact ⟨rfl, rfl⟩ | (refine ⟨ret_bool ?_, rfl⟩; simp; omega)
end Go.Proofs.Ytnlkbbpmpgdmiaa
namespace Go.Proofs.Ytnlkbbpmpgdmiaa
open Go.RowKit
set_option linter.unusedVariables false
set_option linter.unusedSimpArgs false
def ValRead (kd : Nat) (B g b cap : Nat) (kc : Bool) (D : List UInt8) (left : Value) (ns : List Nd) (err : Value) (nest : Nat) (s rest : List UInt8) (w : World) (e : Ending) (w' : World) : Prop :=
 ∃ ro rl dv a' k', e = .returned (.tuple #[.int .i32 ((ns.length : Int) + 1), .slice (some a') rest.length k', .nilIface]) ∧ Pos b cap D rest a' k' ∧
   PS B w' g b cap kc D left (ns ++ [⟨kd, ro, rl, dv, 0, 0⟩]) err nest ∧ DataIs w' dv s ∧ Fr B w w'
end Go.Proofs.Ytnlkbbpmpgdmiaa
namespace Go.Proofs.Ytnlkbbpmpgdmiaa
open Go.RowKit
set_option linter.unusedVariables false
set_option linter.unusedSimpArgs false
abbrev aIs5 (r : List UInt8) : List UInt8 := 97 :: 32 :: 61 :: 32 :: 53 :: 32 :: r
theorem Pos.tail {b cap k : Nat} {D r : List UInt8} {c : UInt8} {a a' : Addr} {k' : Nat} (h : Pos b cap D (c :: r) a k) (hf : D.length ≤ cap) (ha : 0 < r.length → a' = ⟨b, D.length - (c :: r).length + 1, none⟩) (hk : k' = k - 1) : Pos b cap D r a' k' := by
 have h1 := h.room
 have h2 := h.le
 simp only [List.length_cons] at h1 h2 ha
 refine ⟨(List.suffix_cons c r).trans h.suf, by omega, fun h0 => ?_⟩
 rw [ha h0]
 congr 1
 omega
theorem skip_at (m : Nat) {b cap k : Nat} {D l : List UInt8} {a : Addr} {w : World} (hi : Inp w b cap D) (hp : Pos b cap D l a k) (hm : m = l.length) : Calls Try.prog 34 #[.slice (some a) m k] w (SkipIs b cap D l w) := by
 subst hm
 exact skip_pos hi hp
theorem at_at {w : World} {g gn : Nat} {ns : List Nd} (i : Int) (hpn : PN w g gn ns) (h : Nat) (h1 : h < ns.length) (hb : ns.length ≤ 1000000) (hi : i = (h : Int) + 1) :
   Calls Try.prog 67 #[.pointer (some ⟨g, 0, none⟩), .int .i32 i] w fun e w' => e = .returned (.pointer (some ⟨gn, 7 * h, none⟩)) ∧ w = w' := by
 subst hi
 exact at_any hpn h h1 hb
theorem PN.cellAt {w : World} {g gn : Nat} {ns : List Nd} (hpn : PN w g gn ns) {i : Nat} {x : Nd} (hi : ns[i]? = some x) (j : Nat) (hj : j < 7) {u : Value} (hu : (x.cells g)[j]? = some u) : w.cell? ⟨gn, 7 * i + j, none⟩ = some u := by
 obtain ⟨c, _, _, _, _, h⟩ := hpn
 rw [h i x hi j hj, hu]
theorem PS.set' {B g b cap : Nat} {kc : Bool} {D : List UInt8} {left err : Value} {nest : Nat} {ns ns' : List Nd} {w w' : World} (h : PS B w g b cap kc D left ns err nest) {gn : Nat} (hpn : PN w g gn ns) {i : Nat} {x : Nd} (x' : Nd) (hi : ns[i]? = some x)
   (j : Nat) (hj : j < 7) (u : Value) (hx : (x.cells g).set j u = x'.cells g) (ho : x'.data.oneCell' = true) (hn : ns.set i x' = ns') (hw : w.setCell ⟨gn, 7 * i + j, none⟩ u = w') :
   PS B w' g b cap kc D left ns' err nest ∧ Fr B w w' ∧ PN w' g gn ns' := by
 have hcopy := h
 obtain ⟨h1, h2, _⟩ := h.set hpn hi j hj u hx ho
 rw [hn, hw] at h1
 rw [hw] at h2
 refine ⟨h1, h2, ?_⟩
 have hne : ns' ≠ [] := by
   rw [← hn]
   intro h0
   rw [List.set_eq_nil_iff] at h0
   rw [h0] at hi
   simp at hi
 obtain ⟨gn', hp'⟩ := h1.pn hne
 have : gn' = gn := by
   obtain ⟨c', d1, _⟩ := hp'
   obtain ⟨c, d2, _, _, _, _⟩ := hpn
   obtain ⟨A, V, hg, _⟩ := h
   obtain ⟨A', V', hg', _⟩ := h1
   have hgne : g ≠ gn := by
     intro h0
     subst h0
     have hc := hg.cell 0
     have hc' := hg'.cell 0
     obtain ⟨A2, V2, hg2, hB2, harn, _⟩ := hcopy
     have h3 := hg2.cell 3
     rw [d2] at h3
     simp at h3
     rcases harn with ⟨_, rfl⟩ | ⟨gn2, nc, cur, junk, rfl, hgn2, _⟩
     · cases h3
     · injection h3 with h3 _ _
       injection h3 with h3
       injection h3 with h3
       subst h3
       exact hg2.ne_ hgn2 (by decide) rfl
   rw [← hw, World.cell?_setCell_other _ _ _ _ (fun e => hgne (by injection e with e; exact e.symm)), d2] at d1
   injection d1 with d1
   injection d1 with d1
   injection d1 with d1
   injection d1 with d1
   exact d1.symm
 subst this
 exact hp'
theorem PS.nf {B g b cap : Nat} {kc : Bool} {D : List UInt8} {left err : Value} {nest : Nat} {ns : List Nd} {w : World} (h : PS B w g b cap kc D left ns err nest) {gn : Nat} (hpn : PN w g gn ns) (i : Nat) : w.frozen? ⟨gn, i, none⟩ = false := by
 obtain ⟨A, V, hg, hBg, harn, hBw⟩ := h
 obtain ⟨c, h1, _⟩ := hpn
 have h2 := hg.cell 3
 rw [h1] at h2
 simp at h2
 rcases harn with ⟨rfl, rfl⟩ | ⟨gn', ncap, cur, junk, rfl, hgn, _⟩
 · cases h2
 · injection h2 with h2 h3 h4
   injection h2 with h2
   injection h2 with h2
   subst h2
   exact hgn.frozen _
end Go.Proofs.Ytnlkbbpmpgdmiaa
namespace Go.Proofs.Ytnlkbbpmpgdmiaa
open Go.RowKit
set_option linter.unusedVariables false
set_option linter.unusedSimpArgs false
def ComIs (b cap : Nat) (D p rest : List UInt8) (w : World) (e : Ending) (w' : World) : Prop :=
 ∃ a k n a' k', e = .returned (.tuple #[.slice (some a) (p.length + 1) k, .slice (some a') rest.length k', .nilIface]) ∧ Pos b cap D rest a' k' ∧ Pos b cap D (35 :: (p ++ rest)) a k ∧ DataIs w (.slice (some a) (p.length + 1) k) (35 :: p) ∧ w' = w.drewN n
theorem scan_at (m : Nat) {b cap k : Nat} {D p rest : List UInt8} {a : Addr} {w : World} (hi : Inp w b cap D) (hp : Pos b cap D (35 :: (p ++ rest)) a k) (hpl : ∀ c ∈ p, Plain c) (hr : LineEnd rest) (hm : m = p.length + rest.length + 1) :
   Calls Try.prog 36 #[.slice (some a) m k] w (ComIs b cap D p rest w) := by
 subst hm
 have h1 := hp.room
 have h2 := hp.le
 have h3 := hi.fits
 have h4 := hi.bound
 have h5 := hp.addr (by simp)
 simp only [List.length_cons, List.length_append] at h1 h2
 subst h5
 refine (scanComment_any 35 p rest hpl hr b _ k w (hi.doc.suffix hp.suf) (by omega) (by omega)).mono ?_
 rintro e w' ⟨v, rfl, hv, n, rfl⟩
 obtain ⟨a', k', rfl, hp2⟩ := hp.rest rfl h3 hv
 have hd := hi.doc.data (p := []) (s := 35 :: p) (q := rest) hp rfl h3 (a' := ⟨b, D.length - (35 :: (p ++ rest)).length, none⟩) (c := k) (fun _ => rfl) (by simp; omega)
 exact ⟨_, k, n, a', k', rfl, hp2, hp, hd, rfl⟩
def EolIs (b cap : Nat) (D rest : List UInt8) (w : World) (e : Ending) (w' : World) : Prop :=
 ∃ a' k', e = .returned (.tuple #[.slice (some a') rest.length k', .nilIface]) ∧ Pos b cap D rest a' k' ∧ w = w'
theorem eol_at (m : Nat) {b cap k : Nat} {D l rest : List UInt8} {a : Addr} {w : World} (hi : Inp w b cap D) (hp : Pos b cap D l a k) (hl : eol l = some rest) (hm : m = l.length) :
   Calls Try.prog 37 #[.slice (some a) m k] w (EolIs b cap D rest w) := by
 subst hm
 have h1 := hp.room
 have h2 := hp.le
 have h3 := hi.fits
 have h4 := hi.bound
 refine (eol_any l b (D.length - l.length) k a w (hi.doc.suffix hp.suf) (by omega) (by omega) hp.addr).mono ?_
 intro e w' h
 rw [hl] at h
 obtain ⟨v, rfl, hv, rfl⟩ := h
 obtain ⟨a', k', rfl, hp'⟩ := hp.rest rfl h3 hv
 exact ⟨a', k', rfl, hp', rfl⟩
theorem range_at {B g b cap : Nat} {kc : Bool} {D l : List UInt8} {left err : Value} {nest : Nat} {ns : List Nd} {w : World} (hps : PS B w g b cap kc D left ns err nest) (hf : D.length ≤ cap) (hb : D.length ≤ 140737488351232 ∧ cap ≤ 9223372036854775807) {a : Addr} {k : Nat} (hp : Pos b cap D l a k) (m : Nat) (hm : m ≤ l.length) :
   Calls Try.prog 39 #[.pointer (some ⟨g, 0, none⟩), .slice (some a) m k] w (RangeIs w) := by
 obtain ⟨A, V, hg, -, -, -⟩ := hps
 have h1 := hp.room
 have h2 := hp.le
 exact Range_any hg a m k (by omega) (by omega) hb.2 hf
theorem PS.le {B g b cap : Nat} {kc : Bool} {D : List UInt8} {left err : Value} {nest : Nat} {ns : List Nd} {w : World} (hps : PS B w g b cap kc D left ns err nest) : B ≤ w.heap.size := by
 obtain ⟨_, _, _, _, _, h⟩ := hps
 exact h
theorem PS.kcell {B g b cap : Nat} {kc : Bool} {D : List UInt8} {left err : Value} {nest : Nat} {ns : List Nd} {w : World} (hps : PS B w g b cap kc D left ns err nest) : w.cell? ⟨g, 0, none⟩ = some (.bool kc) ∧ g < w.heap.size := by
 obtain ⟨_, _, hg, _⟩ := hps
 exact ⟨by have := hg.cell 0; simpa using this, hg.lt⟩
end Go.Proofs.Ytnlkbbpmpgdmiaa
namespace Go.Proofs.Ytnlkbbpmpgdmiaa
open Go.RowKit
set_option linter.unusedVariables false
set_option linter.unusedSimpArgs false
theorem PS.left {B g b cap : Nat} {kc : Bool} {D : List UInt8} {left err : Value} {nest : Nat} {ns : List Nd} {w w' : World} (h : PS B w g b cap kc D left ns err nest) (v : Value) (hw : w.setCell ⟨g, 2, none⟩ v = w') :
   PS B w' g b cap kc D v ns err nest ∧ Fr B w w' := by
 subst hw
 obtain ⟨A, V, hg, hBg, harn, hBw⟩ := h
 refine ⟨⟨A, V, hg.set_ 2 v, hBg, ?_, by simpa using hBw⟩, (Below.refl B w).setCell hBg _, Kp.set52 hg 2 v⟩
 rcases harn with h | ⟨gn, ncap, cur, junk, h1, hgn, h2⟩
 · exact .inl h
 · exact .inr ⟨gn, ncap, cur, junk, h1, hgn.far (Ne.symm (hg.ne_ hgn (by decide))) v, h2⟩
theorem PS.cells {B g b cap : Nat} {kc : Bool} {D : List UInt8} {left err : Value} {nest : Nat} {ns : List Nd} {w : World} (h : PS B w g b cap kc D left ns err nest) :
   w.cell? ⟨g, 2, none⟩ = some left ∧ w.cell? ⟨g, 4, none⟩ = some err ∧ (∀ i, w.frozen? ⟨g, i, none⟩ = false) ∧ g < w.heap.size := by
 obtain ⟨A, V, hg, hBg, harn, hBw⟩ := h
 exact ⟨by have := hg.cell 2; simpa using this, by have := hg.cell 4; simpa using this, fun i => hg.frozen i, hg.lt⟩
theorem PS.trunc {B g b cap : Nat} {kc : Bool} {D : List UInt8} {left err : Value} {nest : Nat} {ns : List Nd} {w : World} (h : PS B w g b cap kc D left ns err nest) :
   ∃ (V V0 : Value), w.cell? ⟨g, 3, none⟩ = some V ∧ ((V = .slice none 0 0 ∧ V0 = .slice none 0 0) ∨ ∃ gn n c, V = .slice (some ⟨gn, 0, none⟩) n c ∧ n ≤ c ∧ V0 = .slice (some ⟨gn, 0, none⟩) 0 c ∧ c ≤ 1000000) ∧
     ∀ w', w.setCell ⟨g, 3, none⟩ V0 = w' → PS B w' g b cap kc D left [] err nest ∧ Fr B w w' := by
 obtain ⟨A, V, hg, hBg, harn, hBw⟩ := h
 have c3 : w.cell? ⟨g, 3, none⟩ = some V := by have := hg.cell 3; simpa using this
 rcases harn with ⟨rfl, rfl⟩ | ⟨gn, ncap, cur, junk, rfl, hgn, hcl, hcs, hBn, h64, hbig, hone⟩
 · refine ⟨_, _, c3, .inl ⟨rfl, rfl⟩, ?_⟩
   rintro w' rfl
   exact ⟨⟨A, _, hg.set_ 3 _, hBg, .inl ⟨rfl, rfl⟩, by simpa using hBw⟩, (Below.refl B w).setCell hBg _, Kp.set52 hg 3 _⟩
 · have hle : ns.length ≤ ncap := by
     have h1 : cur.toList.length = 7 * ncap := by rw [Array.length_toList]; exact hcs
     have hfl := flat_length g ns
     rw [hcl, List.length_append] at h1
     omega
   refine ⟨_, _, c3, .inr ⟨gn, ns.length, ncap, rfl, hle, rfl, hbig⟩, ?_⟩
   rintro w' rfl
   exact ⟨⟨A, _, hg.set_ 3 _, hBg, .inr ⟨gn, ncap, cur, cur.toList, rfl, hgn.far (Ne.symm (hg.ne_ hgn (by decide))) _, rfl, hcs, hBn, h64, hbig, fun x hx => by cases hx⟩, by simpa using hBw⟩, (Below.refl B w).setCell hBg _, Kp.set52 hg 3 _⟩
end Go.Proofs.Ytnlkbbpmpgdmiaa
namespace Go.Proofs.Ytnlkbbpmpgdmiaa
open Go.RowKit
set_option linter.unusedVariables false
set_option linter.unusedSimpArgs false
set_option maxRecDepth 100000 in
theorem reset_new {w : World} {g : Nat} {kc : Bool} (hg : Blk w g 52 #[.bool kc, .slice none 0 0, .slice none 0 0, .slice none 0 0, .nilIface, .int .i64 0]) (A : Option Addr) (n c : Nat) :
   Calls Try.prog 16 #[.pointer (some ⟨g, 0, none⟩), .slice A n c] w fun e w' => e = .returned (.tuple #[]) ∧ Blk w' g 52 #[.bool kc, .slice A n c, .slice A n c, .slice none 0 0, .nilIface, .int .i64 0] ∧ (∀ B, B ≤ g → Below B w w') ∧ Kp w w' := by
 have c1 : w.cell? ⟨g, 1, none⟩ = some (.slice none 0 0) := by have := hg.cell 1; simpa using this
 have c2 : w.cell? ⟨g, 2, none⟩ = some (.slice none 0 0) := by have := hg.cell 2; simpa using this
 have c3 : w.cell? ⟨g, 3, none⟩ = some (.slice none 0 0) := by have := hg.cell 3; simpa using this
 have c4 : w.cell? ⟨g, 4, none⟩ = some .nilIface := by have := hg.cell 4; simpa using this
 have c5 : w.cell? ⟨g, 5, none⟩ = some (.int .i64 0) := by have := hg.cell 5; simpa using this
 have f1 := hg.frozen 1
 have f2 := hg.frozen 2
 have f3 := hg.frozen 3
 have f4 := hg.frozen 4
 have f5 := hg.frozen 5
 have hlt := hg.lt
 go_enter Try.func16, Try.ntmps16
 go_wp2_with fail
 go_end0
 have B1 := hg.set_ 1 (.slice A n c)
 have B2 := B1.set_ 2 (.slice A n c)
 have B3 := B2.set_ 3 (.slice none 0 0)
 have B4 := B3.set_ 4 .nilIface
 have B5 := B4.set_ 5 (.int .i64 0)
 exact ⟨rfl, B5, fun B hB => (((((Below.refl B w).setCell hB _).setCell hB _).setCell hB _).setCell hB _).setCell hB _, ((((Kp.set52 hg _ _).trans (Kp.set52 B1 _ _)).trans (Kp.set52 B2 _ _)).trans (Kp.set52 B3 _ _)).trans (Kp.set52 B4 _ _)⟩
theorem eql_nil (a : Addr) (n c : Nat) (w : World) : (binOp .eql 25 (.slice (some a) n c) (.slice none 0 0)).run Try.prog w = .ok (.bool false) w := by kernel_rfl
def CloneIs (D : List UInt8) (w : World) (e : Ending) (w' : World) : Prop :=
 ∃ b cap A, e = .returned (.slice (some A) D.length cap) ∧ Inp w' b cap D ∧ Pos b cap D D A cap ∧ Below w.heap.size w w'
theorem info5 : (Try.prog.info? 5).map (fun i => (i.zero, i.size, i.bytes)) = some (some (.int .u8 0), 1, 1) := by kernel_rfl
theorem clone_end {w w' : World} {v' : Value} {D : List UInt8} {row : Option Nat} (hb : D.length ≤ 1000000) (hown : w'.ownsRow w.heap.size 5 1 v' (0 + D.length) ([] ++ D.map fun b => Value.int .u8 b.toNat)) (hgrow : (w.alloc (.cells #[] 5)).grownBy w' (some w.heap.size)) (hnil : v' ≠ .slice none 0 0) : CloneIs D w (.returned v') w' := by
 obtain ⟨_, h2⟩ := hown
 rcases h2 with ⟨h, _⟩ | ⟨g, cap, cur, rfl, hg, hc, hn, hm, hs, ht⟩
 · exact absurd h hnil
 · rw [Nat.zero_add] at hn ht
   simp only [maxLen] at hm
   refine ⟨g, cap, ⟨g, 0, none⟩, by rw [Nat.zero_add], ⟨.inr ⟨cur, hc, ?_⟩, hn, by omega, by omega⟩, ⟨List.suffix_refl _, by omega, fun _ => by rw [Nat.sub_self]⟩, ?_⟩
   · intro k hk
     have h1 : (cur.toList.take (D.length * 1))[k]? = (D.map fun b => Value.int .u8 b.toNat)[k]? := by rw [ht]; rfl
     rw [List.getElem?_take_of_lt (by omega)] at h1
     rw [← Array.getElem?_toList, h1]
     simp [List.getD, hk]
   · exact ((Below.refl _ w).alloc (Nat.le_refl _) _).grown hgrow (by simp) (fun k hk => by injection hk with hk; omega)
end Go.Proofs.Ytnlkbbpmpgdmiaa
namespace Go.Proofs.Ytnlkbbpmpgdmiaa
open Go.RowKit
set_option linter.unusedVariables false
set_option linter.unusedSimpArgs false
def RdIs (w : World) (v : Value) (s : List UInt8) : Prop := ∃ (blk off c : Nat) (a : Addr), v = .slice (some a) s.length c ∧ s.length ≤ c ∧ (0 < s.length → a = ⟨blk, off, none⟩ ∧ ∀ k, k < s.length → w.cell? ⟨blk, off + k, none⟩ = some (.int .u8 (s.getD k 0).toNat))
theorem RdIs.alloc {w : World} {v : Value} {s : List UInt8} (h : RdIs w v s) (o : Obj) : RdIs (w.alloc o) v s := by
 obtain ⟨blk, off, c, a, h1, h2, h3⟩ := h
 refine ⟨blk, off, c, a, h1, h2, fun h0 => ⟨(h3 h0).1, fun k hk => ?_⟩⟩
 have hc := (h3 h0).2 k hk
 exact (World.cell?_alloc_lt w o ⟨blk, off + k, none⟩ (World.block_lt_of_cell? w ⟨blk, off + k, none⟩ hc)).trans hc
set_option maxRecDepth 100000 in
theorem clone_rd {w : World} {v : Value} {D : List UInt8} (hd : RdIs w v D) (hb : D.length ≤ 1000000) : Calls Try.prog 17 #[v] w (CloneIs D w) := by
 obtain ⟨blk, off, c, a, rfl, h2, h3⟩ := hd
 have H3 := Lib.hid h3
 have HO : Hid ((w.alloc (.cells #[] 5)).ownsRow w.heap.size 5 1 (.slice (some ⟨w.heap.size, 0, none⟩) 0 0) 0 []) := ⟨rfl, .inr ⟨w.heap.size, 0, #[], rfl, Nat.le_refl _, Blk.new w 5 #[], Nat.le_refl _, by simp [maxLen], rfl, rfl⟩⟩
 have HN : Hid (∀ j u, (D.map fun b => Value.int .u8 b.toNat)[j]? = some u → (w.alloc (.cells #[] 5)).cell? (a.add j) = some u) := by
   intro j u hj
   have hjl : j < D.length := by
     have := (List.getElem?_eq_some_iff.1 hj).1
     simpa using this
   obtain ⟨rfl, hC⟩ := H3.out (by omega)
   rw [Addr.add_lit, show (w.alloc (.cells #[] 5)).cell? ⟨blk, off + j, none⟩ = _ from (World.cell?_alloc_lt w _ ⟨blk, off + j, none⟩ (World.block_lt_of_cell? w ⟨blk, off + j, none⟩ (hC j hjl))).trans (hC j hjl)]
   simp [hjl] at hj
   rw [← hj]
   simp [List.getD, hjl]
 clear h3
 have hq := eql_nil a D.length c w
 obtain ⟨i0, hi0, hz0, hz1, hz2⟩ := info_parts info5
 have HI0 := Lib.hid hi0
 clear hi0
 go_enter Try.func17, Try.ntmps17
 go_wp2_with (first
   | (at_builtin; refine wpList_append_own _ rfl (.tmp 5) (.tmp 6) 25 rfl w.heap.size 5 i0 _ 1 1 Try.underlying25 HI0.out hz0 hz1 hz2 rfl (by decide) _ 0 [] rfl HO.out a D.length c (D.map fun b => Value.int .u8 b.toNat) rfl ?c0 HN.out ?c2 ?mx ?by_ ?bs ?_
      case c0 => simp
      case c2 => intro u hu; simp at hu; obtain ⟨_, _, rfl⟩ := hu; rfl
      case mx => simp only [maxLen]; omega
      case by_ => omega
      case bs => simp
      intro v' w' hown hgrow hnil
      have HOWN := Lib.hid hown
      have HGROW := Lib.hid hgrow
      have HNIL := Lib.hid hnil
      clear hown hgrow hnil))
 go_ret
 exact clone_end (row := none) hb HOWN.out HGROW.out (fun h => by have := (HNIL.out.1 h).1; cases this)
end Go.Proofs.Ytnlkbbpmpgdmiaa
namespace Go.Proofs.Ytnlkbbpmpgdmiaa
set_option linter.unusedVariables false
set_option linter.unusedSimpArgs false
inductive N where
 | mk (kind : Nat) (text : List UInt8) (items : List N) (keys : List (List UInt8))
def N.kind : N → Nat | .mk k _ _ _ => k
def N.text : N → List UInt8 | .mk _ t _ _ => t
def N.items : N → List N | .mk _ _ l _ => l
def N.keys : N → List (List UInt8) | .mk _ _ _ k => k
structure Ex where
 kind : Nat
 keys : List (List UInt8)
 value : N
def Wide (e : List UInt8) : Prop := e = [0xC3, 0xA4] ∨ e = [0xE4, 0xB8, 0xAD] ∨ e = [0xF0, 0x9F, 0x98, 0x80]
def LitC (c : UInt8) : Prop := (32 ≤ c.toNat ∧ c.toNat ≤ 126 ∧ c.toNat ≠ 39) ∨ c.toNat = 9
def MLitC (c : UInt8) : Prop := (32 ≤ c.toNat ∧ c.toNat ≤ 126 ∧ c.toNat ≠ 39) ∨ c.toNat = 9 ∨ c.toNat = 10
def BasC (c : UInt8) : Prop := (32 ≤ c.toNat ∧ c.toNat ≤ 126 ∧ c.toNat ≠ 34 ∧ c.toNat ≠ 92) ∨ c.toNat = 9
def MBasC (c : UInt8) : Prop := (32 ≤ c.toNat ∧ c.toNat ≤ 126 ∧ c.toNat ≠ 34 ∧ c.toNat ≠ 92) ∨ c.toNat = 9 ∨ c.toNat = 10
def Chunk (C : UInt8 → Prop) (e : List UInt8) : Prop := Wide e ∨ ∃ c, C c ∧ e = [c]
def hexV (c : UInt8) : Nat := if c.toNat ≤ 57 then c.toNat - 48 else c.toNat - 87
def HexC (c : UInt8) : Prop := (48 ≤ c.toNat ∧ c.toNat ≤ 57) ∨ (97 ≤ c.toNat ∧ c.toNat ≤ 102)
def hexN (h : List UInt8) : Nat := h.foldl (fun r c => 16 * r + hexV c) 0
def Alpha (r : Nat) : Prop := r < 128 ∨ r = 0xE4 ∨ r = 0x4E2D ∨ r = 0x1F600
def encN (r : Nat) : List UInt8 := if r < 128 then [UInt8.ofNat r] else if r = 0xE4 then [0xC3, 0xA4] else if r = 0x4E2D then [0xE4, 0xB8, 0xAD] else [0xF0, 0x9F, 0x98, 0x80]
def Esc (s o : List UInt8) : Prop :=
 (s = [34] ∧ o = [34]) ∨ (s = [92] ∧ o = [92]) ∨ (s = [98] ∧ o = [8]) ∨ (s = [102] ∧ o = [12]) ∨ (s = [110] ∧ o = [10]) ∨ (s = [114] ∧ o = [13]) ∨ (s = [116] ∧ o = [9]) ∨
 (∃ h, s = 117 :: h ∧ h.length = 4 ∧ (∀ c ∈ h, HexC c) ∧ Alpha (hexN h) ∧ o = encN (hexN h)) ∨
 (∃ h, s = 85 :: h ∧ h.length = 8 ∧ (∀ c ∈ h, HexC c) ∧ Alpha (hexN h) ∧ o = encN (hexN h))
structure Pc where
 src : List UInt8
 out : List UInt8
def PlainP (C : UInt8 → Prop) (p : Pc) : Prop := Chunk C p.src ∧ p.out = p.src
def EscP (p : Pc) : Prop := ∃ s, Esc s p.out ∧ p.src = 92 :: s
def BasP (p : Pc) : Prop := PlainP BasC p ∨ EscP p
def Blk1 (l : List UInt8) : Prop := ∀ c ∈ l, c.toNat = 32 ∨ c.toNat = 9
def MBasP0 (p : Pc) : Prop := PlainP MBasC p ∨ EscP p
def ContP (p : Pc) : Prop := ∃ (b1 b2 : List UInt8) (q : Pc), Blk1 b1 ∧ Blk1 b2 ∧ MBasP0 q ∧ (∀ c r, q.src = c :: r → c.toNat ≠ 32 ∧ c.toNat ≠ 9 ∧ c.toNat ≠ 10 ∧ c.toNat ≠ 13) ∧ p.src = 92 :: (b1 ++ 10 :: (b2 ++ q.src)) ∧ p.out = q.out
def MBasP (p : Pc) : Prop := MBasP0 p ∨ ContP p
def srcs (ps : List Pc) : List UInt8 := ps.flatMap Pc.src
def outs (ps : List Pc) : List UInt8 := ps.flatMap Pc.out
def MLitE (e : List UInt8) : Prop := Chunk MLitC e ∨ ∃ e', Chunk MLitC e' ∧ e = 39 :: e'
def LitTxt (t s : List UInt8) : Prop := ∃ es : List (List UInt8), (∀ e ∈ es, Chunk LitC e) ∧ t = es.flatten ∧ s = 39 :: (es.flatten ++ [39])
def BasTxt (t s : List UInt8) : Prop := ∃ ps : List Pc, (∀ p ∈ ps, BasP p) ∧ t = outs ps ∧ s = 34 :: (srcs ps ++ [34])
def MLitTxt (t s : List UInt8) : Prop := ∃ es : List (List UInt8), (∀ e ∈ es, MLitE e) ∧ t = es.flatten ∧ s = 39 :: 39 :: 39 :: 10 :: (es.flatten ++ [39, 39, 39])
def MBasTxt (t s : List UInt8) : Prop := ∃ ps : List Pc, (∀ p ∈ ps, MBasP p) ∧ t = outs ps ∧ s = 34 :: 34 :: 34 :: 10 :: (srcs ps ++ [34, 34, 34])
def PartTxt (t s : List UInt8) : Prop := (s = t ∧ t ≠ [] ∧ ∀ c ∈ t, Bare c) ∨ LitTxt t s ∨ BasTxt t s
def KeyTxt : List (List UInt8) → List UInt8 → Prop
 | [], _ => False
 | [k], s => PartTxt k s
 | k :: k' :: ks, s => ∃ s1 b1 b2 s2, PartTxt k s1 ∧ Blk1 b1 ∧ Blk1 b2 ∧ KeyTxt (k' :: ks) s2 ∧ s = s1 ++ (b1 ++ 46 :: (b2 ++ s2))
end Go.Proofs.Ytnlkbbpmpgdmiaa
namespace Go.Proofs.Ytnlkbbpmpgdmiaa
open Go.RowKit
set_option linter.unusedVariables false
set_option linter.unusedSimpArgs false
theorem low128 {x : Nat} {c0 c1 c2 c3 c4 c5 c6 c7 : Nat} (hx : x = num8 c0 c1 c2 c3 c4 c5 c6 c7) (k0 : c0 ≤ 255) (k1 : c1 ≤ 255) (k2 : c2 ≤ 255) (k3 : c3 ≤ 255) (k4 : c4 ≤ 255) (k5 : c5 ≤ 255) (k6 : c6 ≤ 255) (k7 : c7 ≤ 255)
   (h1 : x &&& 9259542123273814144 = 0) : c0 < 128 ∧ c1 < 128 ∧ c2 < 128 ∧ c3 < 128 ∧ c4 < 128 ∧ c5 < 128 ∧ c6 < 128 ∧ c7 < 128 := by
 have hxl : x < 18446744073709551616 := by rw [hx]; unfold num8; omega
 obtain ⟨d0, d1, d2, d3, d4, d5, d6, d7, hp, e0, e1, e2, e3, e4, e5, e6, e7⟩ := bytes_of x hxl (fun i hi => and_msb h1 i hi)
 rw [hx] at hp
 clear h1 hxl hx
 unfold num8 at hp
 have g0 : c0 = d0 := by omega
 subst g0
 have g1 : c1 = d1 := by omega
 subst g1
 have g2 : c2 = d2 := by omega
 subst g2
 have g3 : c3 = d3 := by omega
 subst g3
 have g4 : c4 = d4 := by omega
 subst g4
 have g5 : c5 = d5 := by omega
 subst g5
 have g6 : c6 = d6 := by omega
 subst g6
 omega
theorem xorByte (a b p q : Nat) (ha : a < 256) (hb : b < 256) : (a + 256 * p) ^^^ (b + 256 * q) = (a ^^^ b) + 256 * (p ^^^ q) := by
 have h1 : ((a + 256 * p) ^^^ (b + 256 * q)) % 2 ^ 8 = a ^^^ b := by
   rw [Nat.xor_mod_two_pow]
   congr 1 <;> omega
 have h2 : ((a + 256 * p) ^^^ (b + 256 * q)) / 2 ^ 8 = p ^^^ q := by
   rw [Nat.xor_div_two_pow]
   congr 1 <;> omega
 omega
theorem xorNum8 {c0 c1 c2 c3 c4 c5 c6 c7 c : Nat} (k0 : c0 ≤ 255) (k1 : c1 ≤ 255) (k2 : c2 ≤ 255) (k3 : c3 ≤ 255) (k4 : c4 ≤ 255) (k5 : c5 ≤ 255) (k6 : c6 ≤ 255) (k7 : c7 ≤ 255) (hc : c ≤ 255) :
   num8 c0 c1 c2 c3 c4 c5 c6 c7 ^^^ (c * 72340172838076673) = num8 (c0 ^^^ c) (c1 ^^^ c) (c2 ^^^ c) (c3 ^^^ c) (c4 ^^^ c) (c5 ^^^ c) (c6 ^^^ c) (c7 ^^^ c) := by
 have e : c * 72340172838076673 = num8 c c c c c c c c := by unfold num8; omega
 rw [e]
 unfold num8
 rw [xorByte _ _ _ _ (by omega) (by omega), xorByte _ _ _ _ (by omega) (by omega), xorByte _ _ _ _ (by omega) (by omega), xorByte _ _ _ _ (by omega) (by omega), xorByte _ _ _ _ (by omega) (by omega), xorByte _ _ _ _ (by omega) (by omega), xorByte _ _ _ _ (by omega) (by omega)]
theorem noByte (c x : Nat) (hc : c ≤ 127) (hcm : (c * 72340172838076673) &&& 9259542123273814144 = 0) {c0 c1 c2 c3 c4 c5 c6 c7 : Nat} (hx : x = num8 c0 c1 c2 c3 c4 c5 c6 c7) (k0 : c0 ≤ 255) (k1 : c1 ≤ 255) (k2 : c2 ≤ 255) (k3 : c3 ≤ 255) (k4 : c4 ≤ 255) (k5 : c5 ≤ 255) (k6 : c6 ≤ 255) (k7 : c7 ≤ 255)
   (h1 : x &&& 9259542123273814144 = 0) (h2 : hbe x c = 0) : c0 ≠ c ∧ c1 ≠ c ∧ c2 ≠ c ∧ c3 ≠ c ∧ c4 ≠ c ∧ c5 ≠ c ∧ c6 ≠ c ∧ c7 ≠ c := by
 have hb : ∀ a : Nat, a ≤ 255 → a ^^^ c ≤ 255 := fun a ha => by
   have := Nat.xor_lt_two_pow (n := 8) (x := a) (y := c) (by omega) (by omega)
   omega
 have hz : ∀ a : Nat, 1 ≤ a ^^^ c → a ≠ c := fun a ha e => by
   subst e
   rw [Nat.xor_self] at ha
   omega
 have hm : (x ^^^ (c * 72340172838076673)) &&& 9259542123273814144 = 0 := by
   rw [Nat.and_xor_distrib_right, h1, hcm]
   rfl
 have hy : x ^^^ (c * 72340172838076673) = num8 (c0 ^^^ c) (c1 ^^^ c) (c2 ^^^ c) (c3 ^^^ c) (c4 ^^^ c) (c5 ^^^ c) (c6 ^^^ c) (c7 ^^^ c) := by
   rw [hx, xorNum8 k0 k1 k2 k3 k4 k5 k6 k7 (by omega)]
 obtain ⟨g0, g1, g2, g3, g4, g5, g6, g7⟩ := lower 1 _ (by omega) hy (hb _ k0) (hb _ k1) (hb _ k2) (hb _ k3) (hb _ k4) (hb _ k5) (hb _ k6) (hb _ k7) hm h2
 exact ⟨hz _ g0, hz _ g1, hz _ g2, hz _ g3, hz _ g4, hz _ g5, hz _ g6, hz _ g7⟩
theorem Wide.head {e : List UInt8} (h : Wide e) : ∃ c r, e = c :: r ∧ 128 ≤ c.toNat := by
 rcases h with rfl | rfl | rfl
 · exact ⟨_, _, rfl, by decide⟩
 · exact ⟨_, _, rfl, by decide⟩
 · exact ⟨_, _, rfl, by decide⟩
theorem Chunk.ne {C : UInt8 → Prop} {e : List UInt8} (h : Chunk C e) : e ≠ [] := by
 rcases h with h | ⟨c, _, rfl⟩
 · obtain ⟨c, r, rfl, _⟩ := h.head
   simp
 · simp
theorem chunk_head {C : UInt8 → Prop} {q : List (List UInt8)} (hq : ∀ e ∈ q, Chunk C e) {z : UInt8} {s r : List UInt8} {c : UInt8} (h : q.flatten ++ z :: s = c :: r) (hc : c.toNat < 128) (hz : c ≠ z) : ∃ q', q = [c] :: q' ∧ q'.flatten ++ z :: s = r ∧ ∀ e ∈ q', Chunk C e := by
 cases q with
 | nil =>
   simp at h
   exact absurd h.1.symm hz
 | cons e q' =>
   rcases hq e (by simp) with hw | ⟨d, hd, rfl⟩
   · obtain ⟨d, t, rfl, hd⟩ := hw.head
     simp at h
     rw [← h.1] at hc
     omega
   · simp at h
     obtain ⟨rfl, h⟩ := h
     exact ⟨q', rfl, h, fun e he => hq e (by simp [he])⟩
theorem chunks8 {C : UInt8 → Prop} {q : List (List UInt8)} (hq : ∀ e ∈ q, Chunk C e) {z : UInt8} {s : List UInt8} {c0 c1 c2 c3 c4 c5 c6 c7 : UInt8} {r : List UInt8} (h : q.flatten ++ z :: s = c0 :: c1 :: c2 :: c3 :: c4 :: c5 :: c6 :: c7 :: r)
   (k0 : c0.toNat < 128) (k1 : c1.toNat < 128) (k2 : c2.toNat < 128) (k3 : c3.toNat < 128) (k4 : c4.toNat < 128) (k5 : c5.toNat < 128) (k6 : c6.toNat < 128) (k7 : c7.toNat < 128)
   (z0 : c0 ≠ z) (z1 : c1 ≠ z) (z2 : c2 ≠ z) (z3 : c3 ≠ z) (z4 : c4 ≠ z) (z5 : c5 ≠ z) (z6 : c6 ≠ z) (z7 : c7 ≠ z) :
   ∃ q', q = [c0] :: [c1] :: [c2] :: [c3] :: [c4] :: [c5] :: [c6] :: [c7] :: q' := by
 obtain ⟨q0, e0, h0, a0⟩ := chunk_head hq h k0 z0
 obtain ⟨q1, e1, h1, a1⟩ := chunk_head a0 h0 k1 z1
 obtain ⟨q2, e2, h2, a2⟩ := chunk_head a1 h1 k2 z2
 obtain ⟨q3, e3, h3, a3⟩ := chunk_head a2 h2 k3 z3
 obtain ⟨q4, e4, h4, a4⟩ := chunk_head a3 h3 k4 z4
 obtain ⟨q5, e5, h5, a5⟩ := chunk_head a4 h4 k5 z5
 obtain ⟨q6, e6, h6, a6⟩ := chunk_head a5 h5 k6 z6
 obtain ⟨q7, e7, h7, a7⟩ := chunk_head a6 h6 k7 z7
 exact ⟨q7, by rw [e0, e1, e2, e3, e4, e5, e6, e7]⟩
theorem wide_run {C : UInt8 → Prop} (hC : ∀ c, C c → c.toNat < 128) : ∀ {q : List (List UInt8)}, (∀ e ∈ q, Chunk C e) → ∃ a b, q = a ++ b ∧ (∀ e ∈ a, Wide e) ∧ (∀ e r, b = e :: r → ∃ c, C c ∧ e = [c])
 | [], _ => ⟨[], [], rfl, by simp, by simp⟩
 | e :: q, h => by
   rcases h e (by simp) with hw | hc
   · obtain ⟨a, b, rfl, h1, h2⟩ := wide_run hC (q := q) (fun e he => h e (by simp [he]))
     exact ⟨e :: a, b, rfl, by intro x hx; simp at hx; rcases hx with rfl | hx; exact hw; exact h1 x hx, h2⟩
   · exact ⟨[], e :: q, rfl, by simp, fun x r hx => by injection hx with hx _; subst hx; exact hc⟩
theorem LitC.lt {c : UInt8} (h : LitC c) : c.toNat < 128 := by unfold LitC at h; omega
theorem BasC.lt {c : UInt8} (h : BasC c) : c.toNat < 128 := by unfold BasC at h; omega
theorem MLitC.lt {c : UInt8} (h : MLitC c) : c.toNat < 128 := by unfold MLitC at h; omega
theorem MBasC.lt {c : UInt8} (h : MBasC c) : c.toNat < 128 := by unfold MBasC at h; omega
end Go.Proofs.Ytnlkbbpmpgdmiaa
namespace Go.Proofs.Ytnlkbbpmpgdmiaa
open Go.RowKit Go.ChangeShapes Go.WideShapes Go.ChangeAt Go.Deep
set_option linter.unusedVariables false
set_option linter.unusedSimpArgs false
def ArgCells (w : World) (v : Value) (xs : List Value) : Prop :=
 ∃ A c, v = .slice A xs.length c ∧ xs.length ≤ c ∧ c ≤ 9223372036854775807 ∧ (0 < xs.length → ∃ b off, A = some ⟨b, off, none⟩ ∧ b < w.heap.size ∧ ∀ i u, xs[i]? = some u → w.cell? ⟨b, off + i, none⟩ = some u)
theorem ArgCells.below {w w' : World} {v : Value} {xs : List Value} (h : ArgCells w v xs) (hb : Below w.heap.size w w') : ArgCells w' v xs := by
 obtain ⟨A, c, h1, h2, h3, h4⟩ := h
 refine ⟨A, c, h1, h2, h3, fun h0 => ?_⟩
 obtain ⟨b, off, h5, h6, h7⟩ := h4 h0
 exact ⟨b, off, h5, Nat.lt_of_lt_of_le h6 hb.size, fun i u hu => (hb.cell (p := ⟨b, off + i, none⟩) h6).trans (h7 i u hu)⟩
def ArgBytes (w : World) (v : Value) (z : List UInt8) : Prop := ArgCells w v (z.map fun c => .int .u8 c.toNat)
def ArgNums (w : World) (v : Value) (z : List Nat) : Prop := ArgCells w v (z.map fun (c : Nat) => .int .u32 (c : Int)) ∧ ∀ n ∈ z, n < 4294967296
def ArgRows (w : World) (v : Value) (R : List (List UInt8)) : Prop := ∃ vs : List Value, vs.length = R.length ∧ ArgCells w v vs ∧ ∀ (i : Nat) (u : Value) (z : List UInt8), vs[i]? = some u → R[i]? = some z → ArgBytes w u z
theorem ArgBytes.below {w w' : World} {v : Value} {z : List UInt8} (h : ArgBytes w v z) (hb : Below w.heap.size w w') : ArgBytes w' v z := ArgCells.below h hb
theorem ArgRows.below {w w' : World} {v : Value} {R : List (List UInt8)} (h : ArgRows w v R) (hb : Below w.heap.size w w') : ArgRows w' v R := by
 obtain ⟨vs, h1, h2, h3⟩ := h
 exact ⟨vs, h1, h2.below hb, fun i u z a b => (h3 i u z a b).below hb⟩
theorem spot_of {w : World} {a : Addr} {u : Value} (h : w.cell? a = some u) : ∃ b off, a = ⟨b, off, none⟩ := by
 obtain ⟨b, off, spot⟩ := a
 have hspot : spot = none := World.cell?_spot h
 subst hspot
 exact ⟨b, off, rfl⟩
theorem lt_of_cell {w : World} {b off : Nat} {u : Value} (h : w.cell? ⟨b, off, none⟩ = some u) : b < w.heap.size := World.block_lt_of_cell? w ⟨b, off, none⟩ h
theorem argCells_mk {w : World} {a : Addr} {xs : List Value} {c : Nat} (h1 : xs.length ≤ c) (h2 : c ≤ maxLen) (h : ∀ i u, xs[i]? = some u → w.cell? (a.add i) = some u) : ArgCells w (.slice (some a) xs.length c) xs := by
 refine ⟨_, c, rfl, h1, by simpa [maxLen] using h2, fun h0 => ?_⟩
 have hx : xs[0]? = some xs[0] := List.getElem?_eq_getElem h0
 have hc0 := h 0 _ hx
 have e0 : a.add 0 = a := by simp [Addr.add]
 rw [e0] at hc0
 obtain ⟨b, off, rfl⟩ := spot_of hc0
 refine ⟨b, off, rfl, lt_of_cell hc0, fun i u hu => ?_⟩
 have := h i u hu
 rwa [Go.WideShapes.add_plain] at this
theorem argCells_nil (w : World) : ArgCells w (.slice none 0 0) [] := ⟨none, 0, rfl, Nat.le_refl _, by omega, fun h => by simp at h⟩
theorem u8_of {z : Int} (h : (Lit.int .u8 z).wf = true) : z = ((UInt8.ofNat z.toNat).toNat : Int) := by
 obtain ⟨h1, h2⟩ := bounds_u8 h
 simp
 omega
theorem u32_of {z : Int} (h : (Lit.int .u32 z).wf = true) : z = (z.toNat : Int) ∧ z.toNat < 4294967296 := by
 obtain ⟨h1, h2⟩ := bounds_u32 h
 omega
section
variable {H : Type} {enc : TypeId × Value → H} {w : World} {base : Nat} {spare : Nat → Bool} {held : Bool}
theorem args_of_ints {t e : TypeId} {k : IntKind} {fuel : Nat} {v : Value} {x : DataW H × List MemPlace} (ht : Try.prog.underlying t = some (.slice e)) (he : Try.prog.underlying e = some (.int k)) (hc : Try.prog.cellsOf e = 1)
   (hf : DataW.trod enc Try.prog w base spare held fuel t v.cells.toList = some x) (hv : ∃ A n c, v = .slice A n c) : ∃ zs : List Int, ArgCells w v (zs.map fun z => .int k z) ∧ ∀ z ∈ zs, (Lit.int k z).wf = true := by
 obtain ⟨A, n, c, rfl⟩ := hv
 rcases open_ints ht he hc hf with ⟨hcs, _⟩ | ⟨x, l, c, zs, hcs, _, hl, hm, hz, _, hcell, hwz⟩
 · simp [Value.cells] at hcs
   obtain ⟨rfl, rfl, rfl⟩ := hcs
   exact ⟨[], argCells_nil w, fun z hz => by simp at hz⟩
 · simp [Value.cells] at hcs
   obtain ⟨rfl, rfl, rfl⟩ := hcs
   have hzl : n ≤ zs.length := by rw [hz]; split <;> omega
   have hlen : ((zs.take n).map fun z => Value.int k z).length = n := by simp; omega
   refine ⟨zs.take n, ?_, fun z hz => hwz z (List.mem_of_mem_take hz)⟩
   have hmk := argCells_mk (w := w) (a := x) (xs := (zs.take n).map fun z => Value.int k z) (c := c) (by omega) hm (fun i u hu => by
     rw [List.getElem?_map] at hu
     obtain ⟨z, hz1, rfl⟩ := Option.map_eq_some_iff.1 hu
     obtain ⟨hi, hz2⟩ := List.getElem?_eq_some_iff.1 hz1
     have hi' : i < n := by simp at hi; omega
     rw [hcell i (by omega)]
     rw [List.getElem_take] at hz2
     rw [List.getD_eq_getElem?_getD, List.getElem?_eq_getElem (by omega), hz2]
     rfl)
   rw [hlen] at hmk
   exact hmk
theorem args_bytes {fuel : Nat} {v : Value} {x : DataW H × List MemPlace} (hf : DataW.trod enc Try.prog w base spare held fuel 25 v.cells.toList = some x) (hv : ∃ A n c, v = .slice A n c) : ∃ z, ArgBytes w v z := by
 obtain ⟨zs, h1, h2⟩ := args_of_ints Try.underlying25 Try.underlying5 (by kernel_rfl) hf hv
 refine ⟨zs.map fun z => UInt8.ofNat z.toNat, ?_⟩
 unfold ArgBytes
 have e : ((zs.map fun z => UInt8.ofNat z.toNat).map fun c => Value.int .u8 c.toNat) = zs.map fun z => .int .u8 z := by
   rw [List.map_map]
   refine List.map_congr_left fun z hz => ?_
   show Value.int .u8 _ = Value.int .u8 z
   rw [← u8_of (h2 z hz)]
 rw [e]
 exact h1
theorem args_nums {fuel : Nat} {v : Value} {x : DataW H × List MemPlace} (hf : DataW.trod enc Try.prog w base spare held fuel 31 v.cells.toList = some x) (hv : ∃ A n c, v = .slice A n c) : ∃ z, ArgNums w v z := by
 obtain ⟨zs, h1, h2⟩ := args_of_ints Try.underlying31 Try.underlying60 (by kernel_rfl) hf hv
 refine ⟨zs.map fun z => z.toNat, ?_, ?_⟩
 · have e : ((zs.map fun z => z.toNat).map fun (c : Nat) => Value.int .u32 (c : Int)) = zs.map fun z => .int .u32 z := by
     rw [List.map_map]
     refine List.map_congr_left fun z hz => ?_
     show Value.int .u32 _ = Value.int .u32 z
     rw [← (u32_of (h2 z hz)).1]
   rw [e]
   exact h1
 · intro n hn
   obtain ⟨z, hz, rfl⟩ := List.mem_map.1 hn
   exact (u32_of (h2 z hz)).2
end
end Go.Proofs.Ytnlkbbpmpgdmiaa
namespace Go.Proofs.Ytnlkbbpmpgdmiaa
open Go.RowKit
set_option linter.unusedVariables false
set_option linter.unusedSimpArgs false
theorem PS.leftOk {B g b cap : Nat} {kc : Bool} {D : List UInt8} {left err : Value} {nest : Nat} {ns : List Nd} {w : World} (h : PS B w g b cap kc D left ns err nest) (v : Value) :
   PS B (w.setCell ⟨g, 2, none⟩ v) g b cap kc D v ns err nest ∧ Fr B w (w.setCell ⟨g, 2, none⟩ v) := h.left v rfl
end Go.Proofs.Ytnlkbbpmpgdmiaa
namespace Go.Proofs.Ytnlkbbpmpgdmiaa
open Go.RowKit
set_option linter.unusedVariables false
set_option linter.unusedSimpArgs false
end Go.Proofs.Ytnlkbbpmpgdmiaa
namespace Go.Proofs.Ytnlkbbpmpgdmiaa
open Go.RowKit
set_option linter.unusedVariables false
set_option linter.unusedSimpArgs false
abbrev ndPtr (gn i : Nat) : Value := .pointer (some ⟨gn, 7 * i, none⟩)
theorem PN.kind {w : World} {g gn : Nat} {ns : List Nd} (h : PN w g gn ns) {i : Nat} {x : Nd} (hi : ns[i]? = some x) : w.cell? ⟨gn, 7 * i, none⟩ = some (.int .i64 x.kind) :=
 h.cellAt hi 0 (by omega) rfl
theorem next_nil {w : World} {g gn : Nat} {ns : List Nd} (h : PN w g gn ns) {i : Nat} {x : Nd} (hi : ns[i]? = some x) (h0 : x.next = 0) :
   Calls Try.prog 21 #[ndPtr gn i] w fun e w' => e = .returned (.pointer none) ∧ w = w' := by
 have c5 := h.cellAt hi 5 (by omega) (u := .int .i32 x.next) rfl
 rw [h0] at c5
 clear h0 hi h
 go_enter Try.func21, Try.ntmps21
 go_wp2_with fail
 go_ret
 exact ⟨rfl, rfl⟩
theorem next_some {w : World} {g gn : Nat} {ns : List Nd} (h : PN w g gn ns) {i : Nat} {x : Nd} (hi : ns[i]? = some x) (j : Nat) (h0 : x.next = j + 1) (hj : j < ns.length) (hb : ns.length ≤ 1000000) :
   Calls Try.prog 21 #[ndPtr gn i] w fun e w' => e = .returned (ndPtr gn j) ∧ ∃ n, w' = w.drewN n := by
 have c5 := h.cellAt hi 5 (by omega) (u := .int .i32 x.next) rfl
 have c4 := h.cellAt hi 4 (by omega) (u := .pointer (some ⟨g, 0, none⟩)) rfl
 obtain ⟨c, c3, hc, hlt, hltn, _⟩ := h
 rw [h0] at c5
 generalize ns.length = N at *
 have hnz : ¬ ((j : Int) + 1 = 0) := by omega
 clear h0 hi
 go_enter Try.func21, Try.ntmps21
 go_wp2_with fail
 go_quiet (fail)
 go_wp2_with fail
 go_ret
 rw [show ndPtr gn j = .pointer (some ⟨gn, j * 7, none⟩) from by rw [Nat.mul_comm j 7]]
 exact ⟨rfl, nq, rfl⟩
theorem child_nil {w : World} {g gn : Nat} {ns : List Nd} (h : PN w g gn ns) {i : Nat} {x : Nd} (hi : ns[i]? = some x) (h0 : x.child = 0) :
   Calls Try.prog 50 #[ndPtr gn i] w fun e w' => e = .returned (.pointer none) ∧ w = w' := by
 have c5 := h.cellAt hi 6 (by omega) (u := .int .i32 x.child) rfl
 rw [h0] at c5
 clear h0 hi h
 go_enter Try.func50, Try.ntmps50
 go_wp2_with fail
 go_ret
 exact ⟨rfl, rfl⟩
theorem child_some {w : World} {g gn : Nat} {ns : List Nd} (h : PN w g gn ns) {i : Nat} {x : Nd} (hi : ns[i]? = some x) (j : Nat) (h0 : x.child = j + 1) (hj : j < ns.length) (hb : ns.length ≤ 1000000) :
   Calls Try.prog 50 #[ndPtr gn i] w fun e w' => e = .returned (ndPtr gn j) ∧ ∃ n, w' = w.drewN n := by
 have c5 := h.cellAt hi 6 (by omega) (u := .int .i32 x.child) rfl
 have c4 := h.cellAt hi 4 (by omega) (u := .pointer (some ⟨g, 0, none⟩)) rfl
 obtain ⟨c, c3, hc, hlt, hltn, _⟩ := h
 rw [h0] at c5
 generalize ns.length = N at *
 have hnz : ¬ ((j : Int) + 1 = 0) := by omega
 clear h0 hi
 go_enter Try.func50, Try.ntmps50
 go_wp2_with fail
 go_quiet (fail)
 go_wp2_with fail
 go_ret
 rw [show ndPtr gn j = .pointer (some ⟨gn, j * 7, none⟩) from by rw [Nat.mul_comm j 7]]
 exact ⟨rfl, nq, rfl⟩
theorem valid_nil (w : World) : Calls Try.prog 64 #[.pointer none] w fun e w' => e = .returned (.bool false) ∧ w = w' := by
 go_enter Try.func64, Try.ntmps64
 go_wp2_with fail
 go_ret
 exact ⟨rfl, rfl⟩
theorem valid_some {w : World} {g gn : Nat} {ns : List Nd} (h : PN w g gn ns) {i : Nat} {x : Nd} (hi : ns[i]? = some x) (hk : x.kind ≠ 0) :
   Calls Try.prog 64 #[ndPtr gn i] w fun e w' => e = .returned (.bool true) ∧ w = w' := by
 have c0 := h.kind hi
 have hb : ((x.kind : Int) != 0) = true := by simp; exact hk
 clear hi h
 go_enter Try.func64, Try.ntmps64
 go_wp2_with fail
 go_ret
 first | exact ⟨rfl, rfl⟩ | (refine ⟨ret_bool ?_, rfl⟩; simp [hk])
theorem expr_any {w : World} {g gn : Nat} {ns : List Nd} (h : PN w g gn ns) (hn : 0 < ns.length) :
   Calls Try.prog 19 #[.pointer (some ⟨g, 0, none⟩)] w fun e w' => e = .returned (ndPtr gn 0) ∧ w = w' := by
 obtain ⟨c, c3, hc, hlt, hltn, _⟩ := h
 generalize ns.length = N at *
 go_enter Try.func19, Try.ntmps19
 go_wp2_with fail
 go_ret
 exact ⟨rfl, rfl⟩
theorem error_any {B g b cap : Nat} {kc : Bool} {D : List UInt8} {left err : Value} {nest : Nat} {ns : List Nd} {w : World} (h : PS B w g b cap kc D left ns err nest) :
   Calls Try.prog 22 #[.pointer (some ⟨g, 0, none⟩)] w fun e w' => e = .returned err ∧ w = w' := by
 obtain ⟨c2, c4, hfr, hgl⟩ := h.cells
 clear c2 hfr h
 go_enter Try.func22, Try.ntmps22
 go_wp2_with fail
 go_ret
 exact ⟨rfl, rfl⟩
theorem itNode_any {w : World} {it : Nat} {s : Bool} {v : Value} (h : Blk w it 99 #[.bool s, v]) : Calls Try.prog 45 #[.pointer (some ⟨it, 0, none⟩)] w fun e w' => e = .returned v ∧ w = w' := by
 have c1 : w.cell? ⟨it, 1, none⟩ = some v := by have := h.cell 1; simpa using this
 have hl := h.lt
 clear h
 go_enter Try.func45, Try.ntmps45
 go_wp2_with fail
 go_ret
 exact ⟨rfl, rfl⟩
end Go.Proofs.Ytnlkbbpmpgdmiaa
