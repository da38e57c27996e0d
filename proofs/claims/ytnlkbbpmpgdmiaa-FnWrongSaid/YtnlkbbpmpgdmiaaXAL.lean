/- The closures that hang an item behind the last one (86, 87); parseKeyval: a key with any value; What lists and tables have in common; parseVal: values without parts. -/
import Derived.Test.YtnlkbbpmpgdmiaaXAK
import Derived.Test.YtnlkbbpmpgdmiaaXAI
import Derived.Test.YtnlkbbpmpgdmiaaXAH
namespace Go.Proofs.Ytnlkbbpmpgdmiaa
open Go.RowKit
set_option linter.unusedVariables false
set_option linter.unusedSimpArgs false
theorem PS.far {B g b cap : Nat} {kc : Bool} {D : List UInt8} {left err : Value} {nest : Nat} {ns : List Nd} {w : World} (h : PS B w g b cap kc D left ns err nest) {q : Nat} {t : TypeId} {cs : Array Value} (hq : Blk w q t cs) (h1 : t ≠ 52) (h2 : t ≠ 65) (i : Nat) (u : Value) :
   PS B (w.setCell ⟨q, i, none⟩ u) g b cap kc D left ns err nest := by
 obtain ⟨A, V, hg, hBg, harn, hBw⟩ := h
 refine ⟨A, V, hg.far (p := ⟨q, i, none⟩) (hg.ne_ hq (Ne.symm h1)) u, hBg, ?_, by simpa using hBw⟩
 rcases harn with h | ⟨gn, ncap, cur, junk, h3, hgn, h4⟩
 · exact .inl h
 · exact .inr ⟨gn, ncap, cur, junk, h3, hgn.far (p := ⟨q, i, none⟩) (hgn.ne_ hq (Ne.symm h2)) u, h4⟩
theorem K5.far {w w' : World} (h : K5 w w') {q : Nat} {t : TypeId} {cs : Array Value} (hq : Blk w' q t cs) (h1 : t ≠ 5) (i : Nat) (u : Value) : K5 w (w'.setCell ⟨q, i, none⟩ u) :=
 ⟨by simpa using h.1, fun g cs hb => (h.2 g cs hb).far (p := ⟨q, i, none⟩) ((h.2 g cs hb).ne_ hq (Ne.symm h1)) u⟩
def AppIs (B g b cap : Nat) (kc : Bool) (D : List UInt8) (left err : Value) (nest : Nat) (ns' : List Nd) (lcb pb arb h : Nat) (A : Int) (w : World) (e : Ending) (w' : World) : Prop :=
 e = .returned (.tuple #[]) ∧ PS B w' g b cap kc D left ns' err nest ∧ Blk w' lcb 21 #[.int .i32 h] ∧ Blk w' pb 63 #[.pointer (some ⟨g, 0, none⟩)] ∧ Blk w' arb 21 #[.int .i32 A] ∧ K5 w w' ∧ ∀ w0, w0.heap.size ≤ lcb → B ≤ lcb → Fr B w0 w → Fr B w0 w'
theorem app_end {B g b cap : Nat} {kc : Bool} {D : List UInt8} {left err : Value} {nest : Nat} {ns ns' : List Nd} {w w3 : World} {lcb pb arb h : Nat} {A : Int} {v0 : Value}
   (hps3 : PS B w3 g b cap kc D left ns' err nest) (hf3 : Fr B w w3) (hlc : Blk w lcb 21 #[v0]) (hpb : Blk w pb 63 #[.pointer (some ⟨g, 0, none⟩)]) (har : Blk w arb 21 #[.int .i32 A]) (hne : arb ≠ lcb) :
   AppIs B g b cap kc D left err nest ns' lcb pb arb h A w (.returned (.tuple #[])) (w3.setCell ⟨lcb, 0, none⟩ (.int .i32 h)) := by
 have l3 := hf3.2.2 _ _ _ (by decide) (by decide) hlc
 have p3 := hf3.2.2 _ _ _ (by decide) (by decide) hpb
 have a3 := hf3.2.2 _ _ _ (by decide) (by decide) har
 refine ⟨rfl, hps3.far l3 (by decide) (by decide) 0 _, l3.set_ 0 _, p3.far (p := ⟨lcb, 0, none⟩) (p3.ne_ l3 (by decide)) _, a3.far (p := ⟨lcb, 0, none⟩) hne _, (hf3.2.k5).far l3 (by decide) 0 _, fun w0 h0 hB hf => ?_⟩
 have h1 := hf.trans hf3
 exact ⟨h1.1.setCell hB _, h1.2.newcell h0⟩
set_option maxRecDepth 100000 in
theorem app_first86 {B g b cap : Nat} {kc : Bool} {D : List UInt8} {left err : Value} {nest : Nat} {ns ns' : List Nd} {w : World} {lcb pb arb h A : Nat} {x : Nd} (hps : PS B w g b cap kc D left ns err nest) (hx : ns[A]? = some x) (hxd : x.data.oneCell' = true) (hn : ns.length ≤ 1000000)
   (hlc : Blk w lcb 21 #[.int .i32 0]) (hpb : Blk w pb 63 #[.pointer (some ⟨g, 0, none⟩)]) (har : Blk w arb 21 #[.int .i32 ((A : Int) + 1)]) (hne : arb ≠ lcb) (hns : ns.set A { x with child := h } = ns') :
   Calls Try.prog 86 #[.int .i32 h, .pointer (some ⟨lcb, 0, none⟩), .pointer (some ⟨pb, 0, none⟩), .pointer (some ⟨arb, 0, none⟩)] w (AppIs B g b cap kc D left err nest ns' lcb pb arb h ((A : Int) + 1) w) := by
 have hA : A < ns.length := by
   rcases Nat.lt_or_ge A ns.length with h | h
   · exact h
   · rw [List.getElem?_eq_none h] at hx; cases hx
 obtain ⟨gn, hpn⟩ := hps.pn (fun h => by rw [h] at hA; simp at hA)
 have c1 : w.cell? ⟨lcb, 0, none⟩ = some (.int .i32 0) := by have := hlc.cell 0; simpa using this
 have c2 : w.cell? ⟨pb, 0, none⟩ = some (.pointer (some ⟨g, 0, none⟩)) := by have := hpb.cell 0; simpa using this
 have c3 : w.cell? ⟨arb, 0, none⟩ = some (.int .i32 ((A : Int) + 1)) := by have := har.cell 0; simpa using this
 have f1 := hlc.frozen 0
 have cA := hpn.cellAt hx 6 (by omega) (u := .int .i32 x.child) rfl
 have fA := hps.nf hpn (7 * A + 6)
 have l1 := hlc.lt
 have l2 := hpb.lt
 have l3 := har.lt
 have l4 : gn < w.heap.size := by obtain ⟨_, _, _, _, h, _⟩ := hpn; exact h
 have hng : gn ≠ lcb := by
   rintro rfl
   have := hpn.cellAt hx 3 (by omega) (u := x.data) rfl
   rw [hlc.cell] at this
   simp at this
 have HPS := Lib.hid hps
 have HPN := Lib.hid hpn
 have HX := Lib.hid hx
 have HLC := Lib.hid hlc
 have HPB := Lib.hid hpb
 have HAR := Lib.hid har
 have HNS := Lib.hid hns
 have hA2 : A < 1000000 := by omega
 clear hps hpn hx hlc hpb har hns
 go_enter Try.func86, Try.ntmps86
 go_wp2_with fail
 refine (at_at _ HPN.out A hA hn rfl).mono ?_
 rintro e w2 ⟨rfl, rfl⟩
 go_wp2_with fail
 go_end0
 obtain ⟨hps3, hf3, hpn3⟩ := PS.set' (ns' := ns') HPS.out HPN.out { x with child := h } HX.out 6 (by omega) (.int .i32 h) (by simp [Nd.cells]) hxd HNS.out rfl
 exact app_end (ns := ns) hps3 hf3 HLC.out HPB.out HAR.out hne
set_option maxRecDepth 100000 in
theorem app_next86 {B g b cap : Nat} {kc : Bool} {D : List UInt8} {left err : Value} {nest : Nat} {ns ns' : List Nd} {w : World} {lcb pb arb h L : Nat} {A : Int} {x : Nd} (hps : PS B w g b cap kc D left ns err nest) (hx : ns[L]? = some x) (hxd : x.data.oneCell' = true) (hn : ns.length ≤ 1000000)
   (hlc : Blk w lcb 21 #[.int .i32 ((L : Int) + 1)]) (hpb : Blk w pb 63 #[.pointer (some ⟨g, 0, none⟩)]) (har : Blk w arb 21 #[.int .i32 A]) (hne : arb ≠ lcb) (hns : ns.set L { x with next := h } = ns') :
   Calls Try.prog 86 #[.int .i32 h, .pointer (some ⟨lcb, 0, none⟩), .pointer (some ⟨pb, 0, none⟩), .pointer (some ⟨arb, 0, none⟩)] w (AppIs B g b cap kc D left err nest ns' lcb pb arb h A w) := by
 have hA : L < ns.length := by
   rcases Nat.lt_or_ge L ns.length with h | h
   · exact h
   · rw [List.getElem?_eq_none h] at hx; cases hx
 obtain ⟨gn, hpn⟩ := hps.pn (fun h => by rw [h] at hA; simp at hA)
 have c1 : w.cell? ⟨lcb, 0, none⟩ = some (.int .i32 ((L : Int) + 1)) := by have := hlc.cell 0; simpa using this
 have c2 : w.cell? ⟨pb, 0, none⟩ = some (.pointer (some ⟨g, 0, none⟩)) := by have := hpb.cell 0; simpa using this
 have f1 := hlc.frozen 0
 have cA := hpn.cellAt hx 5 (by omega) (u := .int .i32 x.next) rfl
 have fA := hps.nf hpn (7 * L + 5)
 have l1 := hlc.lt
 have l2 := hpb.lt
 have l4 : gn < w.heap.size := by obtain ⟨_, _, _, _, h, _⟩ := hpn; exact h
 have hng : gn ≠ lcb := by
   rintro rfl
   have := hpn.cellAt hx 3 (by omega) (u := x.data) rfl
   rw [hlc.cell] at this
   simp at this
 have hz : ¬ ((L : Int) + 1 = 0) := by omega
 have HPS := Lib.hid hps
 have HPN := Lib.hid hpn
 have HX := Lib.hid hx
 have HLC := Lib.hid hlc
 have HPB := Lib.hid hpb
 have HAR := Lib.hid har
 have HNS := Lib.hid hns
 have hA2 : L < 1000000 := by omega
 clear hps hpn hx hlc hpb har hns
 go_enter Try.func86, Try.ntmps86
 go_wp2_with fail
 refine (at_at _ HPN.out L hA hn rfl).mono ?_
 rintro e w2 ⟨rfl, rfl⟩
 go_wp2_with fail
 go_end0
 obtain ⟨hps3, hf3, hpn3⟩ := PS.set' (ns' := ns') HPS.out HPN.out { x with next := h } HX.out 5 (by omega) (.int .i32 h) (by simp [Nd.cells]) hxd HNS.out rfl
 exact app_end (ns := ns) hps3 hf3 HLC.out HPB.out HAR.out hne
set_option maxRecDepth 100000 in
theorem app_first87 {B g b cap : Nat} {kc : Bool} {D : List UInt8} {left err : Value} {nest : Nat} {ns ns' : List Nd} {w : World} {lcb pb arb h A : Nat} {x : Nd} (hps : PS B w g b cap kc D left ns err nest) (hx : ns[A]? = some x) (hxd : x.data.oneCell' = true) (hn : ns.length ≤ 1000000)
   (hlc : Blk w lcb 21 #[.int .i32 0]) (hpb : Blk w pb 63 #[.pointer (some ⟨g, 0, none⟩)]) (har : Blk w arb 21 #[.int .i32 ((A : Int) + 1)]) (hne : arb ≠ lcb) (hns : ns.set A { x with child := h } = ns') :
   Calls Try.prog 87 #[.int .i32 h, .pointer (some ⟨lcb, 0, none⟩), .pointer (some ⟨pb, 0, none⟩), .pointer (some ⟨arb, 0, none⟩)] w (AppIs B g b cap kc D left err nest ns' lcb pb arb h ((A : Int) + 1) w) := by
 have hA : A < ns.length := by
   rcases Nat.lt_or_ge A ns.length with h | h
   · exact h
   · rw [List.getElem?_eq_none h] at hx; cases hx
 obtain ⟨gn, hpn⟩ := hps.pn (fun h => by rw [h] at hA; simp at hA)
 have c1 : w.cell? ⟨lcb, 0, none⟩ = some (.int .i32 0) := by have := hlc.cell 0; simpa using this
 have c2 : w.cell? ⟨pb, 0, none⟩ = some (.pointer (some ⟨g, 0, none⟩)) := by have := hpb.cell 0; simpa using this
 have c3 : w.cell? ⟨arb, 0, none⟩ = some (.int .i32 ((A : Int) + 1)) := by have := har.cell 0; simpa using this
 have f1 := hlc.frozen 0
 have cA := hpn.cellAt hx 6 (by omega) (u := .int .i32 x.child) rfl
 have fA := hps.nf hpn (7 * A + 6)
 have l1 := hlc.lt
 have l2 := hpb.lt
 have l3 := har.lt
 have l4 : gn < w.heap.size := by obtain ⟨_, _, _, _, h, _⟩ := hpn; exact h
 have hng : gn ≠ lcb := by
   rintro rfl
   have := hpn.cellAt hx 3 (by omega) (u := x.data) rfl
   rw [hlc.cell] at this
   simp at this
 have HPS := Lib.hid hps
 have HPN := Lib.hid hpn
 have HX := Lib.hid hx
 have HLC := Lib.hid hlc
 have HPB := Lib.hid hpb
 have HAR := Lib.hid har
 have HNS := Lib.hid hns
 have hA2 : A < 1000000 := by omega
 clear hps hpn hx hlc hpb har hns
 go_enter Try.func87, Try.ntmps87
 go_wp2_with fail
 refine (at_at _ HPN.out A hA hn rfl).mono ?_
 rintro e w2 ⟨rfl, rfl⟩
 go_wp2_with fail
 go_end0
 obtain ⟨hps3, hf3, hpn3⟩ := PS.set' (ns' := ns') HPS.out HPN.out { x with child := h } HX.out 6 (by omega) (.int .i32 h) (by simp [Nd.cells]) hxd HNS.out rfl
 exact app_end (ns := ns) hps3 hf3 HLC.out HPB.out HAR.out hne
set_option maxRecDepth 100000 in
theorem app_next87 {B g b cap : Nat} {kc : Bool} {D : List UInt8} {left err : Value} {nest : Nat} {ns ns' : List Nd} {w : World} {lcb pb arb h L : Nat} {A : Int} {x : Nd} (hps : PS B w g b cap kc D left ns err nest) (hx : ns[L]? = some x) (hxd : x.data.oneCell' = true) (hn : ns.length ≤ 1000000)
   (hlc : Blk w lcb 21 #[.int .i32 ((L : Int) + 1)]) (hpb : Blk w pb 63 #[.pointer (some ⟨g, 0, none⟩)]) (har : Blk w arb 21 #[.int .i32 A]) (hne : arb ≠ lcb) (hns : ns.set L { x with next := h } = ns') :
   Calls Try.prog 87 #[.int .i32 h, .pointer (some ⟨lcb, 0, none⟩), .pointer (some ⟨pb, 0, none⟩), .pointer (some ⟨arb, 0, none⟩)] w (AppIs B g b cap kc D left err nest ns' lcb pb arb h A w) := by
 have hA : L < ns.length := by
   rcases Nat.lt_or_ge L ns.length with h | h
   · exact h
   · rw [List.getElem?_eq_none h] at hx; cases hx
 obtain ⟨gn, hpn⟩ := hps.pn (fun h => by rw [h] at hA; simp at hA)
 have c1 : w.cell? ⟨lcb, 0, none⟩ = some (.int .i32 ((L : Int) + 1)) := by have := hlc.cell 0; simpa using this
 have c2 : w.cell? ⟨pb, 0, none⟩ = some (.pointer (some ⟨g, 0, none⟩)) := by have := hpb.cell 0; simpa using this
 have f1 := hlc.frozen 0
 have cA := hpn.cellAt hx 5 (by omega) (u := .int .i32 x.next) rfl
 have fA := hps.nf hpn (7 * L + 5)
 have l1 := hlc.lt
 have l2 := hpb.lt
 have l4 : gn < w.heap.size := by obtain ⟨_, _, _, _, h, _⟩ := hpn; exact h
 have hng : gn ≠ lcb := by
   rintro rfl
   have := hpn.cellAt hx 3 (by omega) (u := x.data) rfl
   rw [hlc.cell] at this
   simp at this
 have hz : ¬ ((L : Int) + 1 = 0) := by omega
 have HPS := Lib.hid hps
 have HPN := Lib.hid hpn
 have HX := Lib.hid hx
 have HLC := Lib.hid hlc
 have HPB := Lib.hid hpb
 have HAR := Lib.hid har
 have HNS := Lib.hid hns
 have hA2 : L < 1000000 := by omega
 clear hps hpn hx hlc hpb har hns
 go_enter Try.func87, Try.ntmps87
 go_wp2_with fail
 refine (at_at _ HPN.out L hA hn rfl).mono ?_
 rintro e w2 ⟨rfl, rfl⟩
 go_wp2_with fail
 go_end0
 obtain ⟨hps3, hf3, hpn3⟩ := PS.set' (ns' := ns') HPS.out HPN.out { x with next := h } HX.out 5 (by omega) (.int .i32 h) (by simp [Nd.cells]) hxd HNS.out rfl
 exact app_end (ns := ns) hps3 hf3 HLC.out HPB.out HAR.out hne
end Go.Proofs.Ytnlkbbpmpgdmiaa
namespace Go.Proofs.Ytnlkbbpmpgdmiaa
open Go.RowKit
set_option linter.unusedVariables false
set_option linter.unusedSimpArgs false
def VRead (v : N) (sl : Nat) (B g b cap : Nat) (kc : Bool) (D : List UInt8) (left : Value) (ns : List Nd) (err : Value) (nest : Nat) (rest : List UInt8) (w : World) (e : Ending) (w' : World) : Prop :=
 ∃ xs a' k', e = .returned (.tuple #[.int .i32 ((ns.length : Int) + 1), .slice (some a') rest.length k', .nilIface]) ∧ Pos b cap D rest a' k' ∧ PS B w' g b cap kc D left (ns ++ xs) err nest ∧ VNds w' v ns.length 0 xs ∧ Fr B w w' ∧ xs.length ≤ sl
def KRead (v : N) (sl : Nat) (B g b cap : Nat) (kc : Bool) (D : List UInt8) (left : Value) (ns : List Nd) (err : Value) (nest : Nat) (rest : List UInt8) (w : World) (e : Ending) (w' : World) : Prop :=
 ∃ xs a' k', e = .returned (.tuple #[.int .i32 ((ns.length : Int) + 1), .slice (some a') rest.length k', .nilIface]) ∧ Pos b cap D rest a' k' ∧ PS B w' g b cap kc D left (ns ++ xs) err nest ∧ KvNds w' v ns.length 0 xs ∧ Fr B w w' ∧ xs.length ≤ sl
def ValOkF (F : List UInt8 → Prop) (P : N → List UInt8 → Prop) (lim : Nat) : Prop :=
 ∀ (v : N) (s : List UInt8) (B g b cap k : Nat) (D rest : List UInt8) (left err : Value) (nest : Nat) (ns : List Nd) (w : World) (a : Addr), P v s → PS B w g b cap false D left ns err nest → nest ≤ lim → Inp w b cap D → F rest → Pos b cap D (s ++ rest) a k →
   ns.length + s.length ≤ 300000 → ∀ m, m = (s ++ rest).length → Calls Try.prog 69 #[.pointer (some ⟨g, 0, none⟩), .slice (some a) m k] w (VRead v s.length B g b cap false D left ns err nest rest w)
def ValOk (P : N → List UInt8 → Prop) (lim : Nat) : Prop := ValOkF Follow P lim
theorem PartTxt.pos {t s : List UInt8} (h : PartTxt t s) : 0 < s.length := by
 obtain ⟨c, r, rfl, _⟩ := h.head
 simp
theorem KeyTxt.length : ∀ {ks : List (List UInt8)} {s : List UInt8}, KeyTxt ks s → ks.length ≤ s.length
 | [], _, h => h.elim
 | [k], s, h => by
   have h1 : PartTxt k s := h
   have := h1.pos
   simp; omega
 | k :: k' :: ks, _, ⟨s1, b1, b2, s2, h1, _, _, h2, rfl⟩ => by
   have g1 := h1.pos
   have g2 := KeyTxt.length h2
   simp only [List.length_cons, List.length_append] at g2 ⊢
   omega
theorem KeyTxt.ne {ks : List (List UInt8)} {s : List UInt8} (h : KeyTxt ks s) : ks ≠ [] := by
 rintro rfl
 exact h.elim
theorem mid_get (xs : List Nd) (x : Nd) (ys : List Nd) : (xs ++ x :: ys)[xs.length]? = some x := by simp
theorem mid_set (xs : List Nd) (x x' : Nd) (ys : List Nd) : (xs ++ x :: ys).set xs.length x' = xs ++ x' :: ys := by simp
theorem PS.one {B g b cap : Nat} {kc : Bool} {D : List UInt8} {left err : Value} {nest : Nat} {ns : List Nd} {w : World} (h : PS B w g b cap kc D left ns err nest) {x : Nd} (hx : x ∈ ns) : x.data.oneCell' = true := by
 obtain ⟨A1, V1, hg1, _, harn, _⟩ := h
 rcases harn with ⟨rfl, _⟩ | ⟨_, _, _, _, _, _, _, _, _, _, _, hone⟩
 · cases hx
 · exact hone x hx
set_option maxRecDepth 100000 in
set_option maxHeartbeats 1000000 in
theorem parseKv_gen {F : List UInt8 → Prop} {P : N → List UInt8 → Prop} {lim : Nat} (hP : ValOkF F P lim) {v : N} {B g b cap k : Nat} {D s rest : List UInt8} {left err : Value} {nest : Nat} {ns : List Nd} {w : World} {a : Addr} (hps : PS B w g b cap false D left ns err nest) (hnest : nest ≤ lim) (hi : Inp w b cap D) (hs : KvTxt P v s) (hf : F rest) (hp : Pos b cap D (s ++ rest) a k)
   (hn : ns.length + s.length ≤ 300000) (m : Nat) (hm : m = (s ++ rest).length) (hhead : ∀ {v t}, P v t → ∃ c r, t = c :: r ∧ Hd c) :
   Calls Try.prog 63 #[.pointer (some ⟨g, 0, none⟩), .slice (some a) m k] w (KRead v s.length B g b cap false D left ns err nest rest w) := by
 obtain ⟨ks, b1, b2, t, hk, hb1, hb2, ht, hse⟩ := hs
 have hkl := hk.length
 have hsl : s.length = ks.length + b1.length + b2.length + t.length + 1 := by rw [hse]; simp; omega
 have hrest : s ++ rest = ks ++ (b1 ++ 61 :: (b2 ++ (t ++ rest))) := by rw [hse]; simp
 rw [hrest] at hp hm
 have hroom := hp.room
 have hle := hp.le
 have hfits := hi.fits
 have hbound := hi.bound
 have HSK1 : Hid (skipWs (b1 ++ 61 :: (b2 ++ (t ++ rest))) = 61 :: (b2 ++ (t ++ rest))) := by
   show _ = _
   rw [skipWs_blk hb1, skipWs_no (by decide)]
 have HSK2 : Hid (skipWs (b2 ++ (t ++ rest)) = t ++ rest) := by
   show _ = _
   obtain ⟨c2, r2, h2, hc2⟩ := hhead ht
   have hc2' := hc2.facts
   rw [skipWs_blk hb2, h2, List.cons_append, skipWs_no (by
     intro h
     rcases h with h | h
     · exact hc2'.1 (UInt8.toNat_inj.1 h)
     · exact hc2'.2.1 (UInt8.toNat_inj.1 h))]
 have HNB : Hid (∀ c r, b1 ++ 61 :: (b2 ++ (t ++ rest)) = c :: r → ¬ Bare c) := notBare_blk hb1 (fun c r h => by injection h with h _; subst h; decide)
 have HP := Lib.hid hp
 have HI := Lib.hid hi
 have HPS := Lib.hid hps
 have HK := Lib.hid hk
 have HT := Lib.hid ht
 have HM := Lib.hid hm
 have HFO := Lib.hid hf
 rw [← hm] at hroom hle
 clear hp hi hps hk ht hm hse hrest hb1 hb2 hf
 go_enter Try.func63, Try.ntmps63
 go_wp2_with fail
 refine (push_any HPS.out 5 0 0 (.slice none 0 0) rfl (by omega)).mono ?_
 rintro e w1 ⟨rfl, hps1, hf1⟩
 have HPS1 := Lib.hid hps1
 have HF1 := Lib.hid hf1
 clear hps1 hf1
 go_wp2_with fail
 refine (parseKey_any HPS1.out (HI.out.kp HF1.out.2) HK.out HNB.out HP.out (by simp; omega) 61 (b2 ++ (t ++ rest)) HSK1.out (by decide) m HM.out).mono ?_
 rintro e w2 ⟨kn, a2, k2, he, hp2, hps2, hkn, hf2⟩
 have hknl := hkn.length
 have he' : e = .returned (.tuple #[.int .i32 ((ns.length : Int) + 2), .slice (some a2) (61 :: (b2 ++ (t ++ rest))).length k2, .nilIface]) := by
   rw [he]
   simp only [List.length_append, List.length_cons, List.length_nil]
   congr 4
 clear he
 simp only [List.length_cons] at he'
 subst he'
 have HP2 := Lib.hid hp2
 have HPS2 := Lib.hid hps2
 have HKN : Hid (KeyNds w2 (ns.length + 1) v.keys kn) := Lib.hid (by simpa using hkn)
 have HF2 := Lib.hid hf2
 have HI2 : Hid (Inp w2 b cap D) := (HI.out.kp HF1.out.2).kp hf2.2
 have x2 : w2.cell? a2 = some (.int .u8 61) := by rw [hp2.addr (by simp)]; exact (HI2.out.doc.suffix hp2.suf).head.1
 have room2 := hp2.room
 have le2 := hp2.le
 simp only [List.length_cons] at room2 le2
 have ha2 := hp2.addr (by simp)
 generalize ho : D.length - (61 :: (b2 ++ (t ++ rest)) : List UInt8).length = o at *
 subst ha2
 have HO := Lib.hid ho
 have hnonempty : 0 < (b2 ++ (t ++ rest)).length := by
   obtain ⟨c, r, hc, _⟩ := hhead HT.out
   rw [hc]; simp; omega
 generalize hL2 : (b2 ++ (t ++ rest)).length = L2 at *
 have HL2 := Lib.hid hL2
 have hk2 : ¬ k2 = 1 := by omega
 have hk2' : 1 ≤ k2 := by omega
 clear hp2 hps2 hf2 ho hkn hL2
 have hp3 : Pos b cap D (b2 ++ (t ++ rest)) ⟨b, o + 1, none⟩ (k2 - 1) := HP2.out.tail hfits (fun _ => by rw [HO.out]) rfl
 have HP3 := Lib.hid hp3
 clear hp3
 go_wp2_with fail
 refine (skip_at L2 HI2.out HP3.out HL2.out.symm).mono ?_
 rintro e w3 ⟨a4, k4, he, hp4, rfl⟩
 rw [HSK2.out] at he hp4
 have HP4 := Lib.hid hp4
 generalize hL3 : (t ++ rest).length = L3 at *
 have HL3 := Lib.hid hL3
 subst he
 clear hp4 hL3
 go_wp2_with fail
 refine (hP v t B g b cap k4 D rest left err nest _ _ a4 HT.out HPS2.out hnest HI2.out HFO.out HP4.out (by simp; omega) L3 HL3.out.symm).mono ?_
 rintro e w3 ⟨vn, a5, k5, he, hp5, hps3, hvn, hf3, hvl⟩
 obtain ⟨r, ra, rfl, hr0, _, _, hrf⟩ := hvn.root
 have hbase : ((ns ++ [(⟨5, 0, 0, .slice none 0 0, 0, 0⟩ : Nd)]) ++ kn).length = ns.length + 1 + kn.length := by simp; omega
 have he' : e = .returned (.tuple #[.int .i32 ((ns.length : Int) + 1 + kn.length + 1), .slice (some a5) rest.length k5, .nilIface]) := by
   rw [he, hbase]
   congr 4
 clear he
 subst he'
 have hl1 : ((ns ++ [(⟨5, 0, 0, .slice none 0 0, 0, 0⟩ : Nd)]) ++ kn) ++ r :: ra = ns ++ (⟨5, 0, 0, .slice none 0 0, 0, 0⟩ : Nd) :: (kn ++ r :: ra) := by simp
 rw [hl1] at hps3
 rw [hbase] at hrf
 have HRF := Lib.hid hrf
 have HP5 := Lib.hid hp5
 have room5 := hp5.room
 have le5 := hp5.le
 have HF3 := Lib.hid hf3
 have hone : r.data.oneCell' = true := hps3.one (by simp)
 obtain ⟨gn, hpn⟩ := hps3.pn (by simp)
 have HPS3 := Lib.hid hps3
 have HPN := Lib.hid hpn
 have hlen : ∀ X Y : Nd, (ns ++ X :: (kn ++ Y :: ra)).length ≤ 1000000 ∧ ns.length + 1 + kn.length < (ns ++ X :: (kn ++ Y :: ra)).length := by
   intro X Y
   obtain ⟨A1, V1, _, _, harn, _⟩ := hps3
   rcases harn with ⟨h0, _⟩ | ⟨gn', nc, cur, junk, _, _, hcl, hcs, _, _, hbig, _⟩
   · simp at h0
   · have h1 : cur.toList.length = 7 * nc := by rw [Array.length_toList]; exact hcs
     rw [hcl, List.length_append, flat_length] at h1
     simp only [List.length_append, List.length_cons] at h1 ⊢
     omega
 have HLEN := Lib.hid hlen
 have HG2 : Hid (∀ X Y : Nd, (ns ++ X :: (kn ++ Y :: ra))[ns.length + 1 + kn.length]? = some Y) := by
   intro X Y
   have h := mid_get (ns ++ X :: kn) Y ra
   simp only [List.length_append, List.length_cons, List.append_assoc, List.cons_append] at h
   rw [show ns.length + 1 + kn.length = ns.length + (kn.length + 1) from by omega]
   exact h
 have HS2 : Hid (∀ X Y Y' : Nd, (ns ++ X :: (kn ++ Y :: ra)).set (ns.length + 1 + kn.length) Y' = ns ++ X :: (kn ++ Y' :: ra)) := by
   intro X Y Y'
   have h := mid_set (ns ++ X :: kn) Y Y' ra
   simp only [List.length_append, List.length_cons, List.append_assoc, List.cons_append] at h
   rw [show ns.length + 1 + kn.length = ns.length + (kn.length + 1) from by omega]
   exact h
 have HG1 : Hid (∀ (X : Nd) (t : List Nd), (ns ++ X :: t)[ns.length]? = some X) := fun X t => mid_get ns X t
 have HS1 : Hid (∀ (X X' : Nd) (t : List Nd), (ns ++ X :: t).set ns.length X' = ns ++ X' :: t) := fun X X' t => mid_set ns X X' t
 have HKNL := Lib.hid hknl
 clear hlen hl1 hbase
 generalize hN : ns.length = N at *
 have HN := Lib.hid hN
 generalize hKL : kn.length = K at *
 have HKL := Lib.hid hKL
 have cA := hpn.cellAt (i := N) (HG1.out _ _) 6 (by omega) (u := .int .i32 0) rfl
 have fA := hps3.nf hpn (7 * N + 6)
 clear hps3 hpn hN hKL hp5 hvn hf3 hrf hknl
 have hb1 : N + 1 + K < 1000000 := by have := HLEN.out ⟨5, 0, 0, .slice none 0 0, 0, 0⟩ r; omega
 go_wp2_with fail
 refine (at_at _ HPN.out N (by have := HLEN.out ⟨5, 0, 0, .slice none 0 0, 0, 0⟩ r; omega) (HLEN.out _ _).1 rfl).mono ?_
 rintro e w4 ⟨rfl, rfl⟩
 go_wp2_with fail
 generalize hw4 : w3.setCell ⟨gn, 7 * N + 6, none⟩ (.int .i32 ((N : Int) + 1 + K + 1)) = w4
 obtain ⟨hps4, hf4, hpn4⟩ := PS.set' (ns' := ns ++ (⟨5, 0, 0, .slice none 0 0, 0, N + 1 + K + 1⟩ : Nd) :: (kn ++ r :: ra)) HPS3.out HPN.out (i := N) (x := ⟨5, 0, 0, .slice none 0 0, 0, 0⟩) ⟨5, 0, 0, .slice none 0 0, 0, N + 1 + K + 1⟩ (HG1.out _ _) 6 (by omega) (.int .i32 ((N : Int) + 1 + K + 1)) (by simp [Nd.cells]) rfl (HS1.out _ _ _) hw4
 have cB := hpn4.cellAt (i := N + 1 + K) (HG2.out _ _) 5 (by omega) (u := .int .i32 r.next) rfl
 have fB := hps4.nf hpn4 (7 * (N + 1 + K) + 5)
 have HPS4 := Lib.hid hps4
 have HPN4 := Lib.hid hpn4
 have HF4 := Lib.hid hf4
 clear hps4 hpn4 hf4 hw4 cA fA
 refine (at_at _ HPN4.out (N + 1 + K) (HLEN.out _ _).2 (HLEN.out _ _).1 (by omega)).mono ?_
 rintro e w5 ⟨rfl, rfl⟩
 go_wp2_with fail
 generalize hw5 : w4.setCell ⟨gn, 7 * (N + 1 + K) + 5, none⟩ (.int .i32 ((N : Int) + 2)) = w5
 obtain ⟨hps5, hf5, hpn5⟩ := PS.set' (ns' := ns ++ (⟨5, 0, 0, .slice none 0 0, 0, N + 1 + K + 1⟩ : Nd) :: (kn ++ { r with next := N + 2 } :: ra)) HPS4.out HPN4.out (i := N + 1 + K) (x := r) { r with next := N + 2 } (HG2.out _ _) 5 (by omega) (.int .i32 ((N : Int) + 2)) (by simp [Nd.cells]) hone (HS2.out _ _ _) hw5
 have HPS5 := Lib.hid hps5
 have HPN5 := Lib.hid hpn5
 have HF5 := Lib.hid hf5
 clear hps5 hpn5 hf5 hw5 cB fB
 refine (at_at _ HPN5.out N (by have := HLEN.out ⟨5, 0, 0, .slice none 0 0, 0, N + 1 + K + 1⟩ { r with next := N + 2 }; omega) (HLEN.out _ _).1 rfl).mono ?_
 rintro e w6 ⟨rfl, rfl⟩
 go_wp2_with fail
 obtain ⟨A, V, hg, hBg, -, hBw⟩ := HPS5.out
 refine (rangeFrom_any hg (some a) (some a5) m k rest.length k5 (by omega) (by omega) hbound.2).mono ?_
 rintro e w6 ⟨ro, rl, rfl, hb6⟩
 have hps6 := HPS5.out.kp hb6
 have hpn6 := HPN5.out.below hb6
 have hf6 : Fr B w5 w6 := Fr.of_below hb6 hBw
 have c1 := hpn6.cellAt (i := N) (HG1.out _ _) 1 (by omega) (u := .int .u32 0) rfl
 have c2 := hpn6.cellAt (i := N) (HG1.out _ _) 2 (by omega) (u := .int .u32 0) rfl
 have f1 := hps6.nf hpn6 (7 * N + 1)
 have f2 := hps6.nf hpn6 (7 * N + 2)
 have HPS6 := Lib.hid hps6
 have HPN6 := Lib.hid hpn6
 have HF6 := Lib.hid hf6
 clear hg hBg hBw hb6 hps6 hpn6 hf6
 go_wp2_with fail
 generalize hw7 : w6.setCell ⟨gn, 7 * N + 1, none⟩ (.int .u32 ro) = w7
 obtain ⟨hps7, hf7, hpn7⟩ := PS.set' (ns' := ns ++ (⟨5, ro, 0, .slice none 0 0, 0, N + 1 + K + 1⟩ : Nd) :: (kn ++ { r with next := N + 2 } :: ra)) HPS6.out HPN6.out (i := N) (x := ⟨5, 0, 0, .slice none 0 0, 0, N + 1 + K + 1⟩) ⟨5, ro, 0, .slice none 0 0, 0, N + 1 + K + 1⟩ (HG1.out _ _) 1 (by omega) (.int .u32 ro) (by simp [Nd.cells]) rfl (HS1.out _ _ _) hw7
 generalize hw8 : w7.setCell ⟨gn, 7 * N + 2, none⟩ (.int .u32 rl) = w8
 obtain ⟨hps8, hf8, hpn8⟩ := PS.set' (ns' := ns ++ (⟨5, ro, rl, .slice none 0 0, 0, N + 1 + K + 1⟩ : Nd) :: (kn ++ { r with next := N + 2 } :: ra)) hps7 hpn7 (i := N) (x := ⟨5, ro, 0, .slice none 0 0, 0, N + 1 + K + 1⟩) ⟨5, ro, rl, .slice none 0 0, 0, N + 1 + K + 1⟩ (HG1.out _ _) 2 (by omega) (.int .u32 rl) (by simp [Nd.cells]) rfl (HS1.out _ _ _) hw8
 go_ret3
 have hlate : Fr B w3 w8 := (((HF4.out.trans HF5.out).trans HF6.out).trans hf7).trans hf8
 refine ⟨_, a5, k5, by rw [HN.out]; rfl, HP5.out, hps8, ?_, ((HF1.out.trans HF2.out).trans HF3.out).trans hlate, ?_⟩
 rotate_left
 · have := HKL.out; have := HKNL.out; simp only [List.length_cons, List.length_append] at hvl ⊢; omega
 rw [HN.out]
 exact ⟨_, kn, _, rfl, rfl, rfl, by rw [HKL.out]; show N + 1 + K + 1 = N + K + 2; omega, ⟨HK.out.ne, HKN.out.k5 (HF3.out.trans hlate).2.k5⟩, by rw [HKL.out]; exact VNds.k5 hlate.2.k5 v (HRF.out (N + 2))⟩
theorem parseKv_any {P : N → List UInt8 → Prop} {lim : Nat} (hP : ValOk P lim) {v : N} {B g b cap k : Nat} {D s rest : List UInt8} {left err : Value} {nest : Nat} {ns : List Nd} {w : World} {a : Addr} (hps : PS B w g b cap false D left ns err nest) (hnest : nest ≤ lim) (hi : Inp w b cap D) (hs : KvTxt P v s) (hf : Follow rest) (hp : Pos b cap D (s ++ rest) a k)
   (hn : ns.length + s.length ≤ 300000) (m : Nat) (hm : m = (s ++ rest).length) (hhead : ∀ {v t}, P v t → ∃ c r, t = c :: r ∧ Hd c) :
   Calls Try.prog 63 #[.pointer (some ⟨g, 0, none⟩), .slice (some a) m k] w (KRead v s.length B g b cap false D left ns err nest rest w) :=
 parseKv_gen hP hps hnest hi hs hf hp hn m hm hhead
end Go.Proofs.Ytnlkbbpmpgdmiaa
namespace Go.Proofs.Ytnlkbbpmpgdmiaa
open Go.RowKit
set_option linter.unusedVariables false
set_option linter.unusedSimpArgs false
def ItRead (tb : Prop) (v : N) (sl : Nat) (B g b cap : Nat) (kc : Bool) (D : List UInt8) (left : Value) (ns : List Nd) (err : Value) (nest : Nat) (rest : List UInt8) (w : World) (e : Ending) (w' : World) : Prop :=
 ∃ xs a' k', e = .returned (.tuple #[.int .i32 ((ns.length : Int) + 1), .slice (some a') rest.length k', .nilIface]) ∧ Pos b cap D rest a' k' ∧ PS B w' g b cap kc D left (ns ++ xs) err nest ∧ ItNds w' tb v ns.length 0 xs ∧ Fr B w w' ∧ xs.length ≤ sl
def ItOk (F : Nat) (I : N → List UInt8 → Prop) (tb : Prop) (lim : Nat) : Prop :=
 ∀ (v : N) (s : List UInt8) (B g b cap k : Nat) (D rest : List UInt8) (left err : Value) (nest : Nat) (ns : List Nd) (w : World) (a : Addr), I v s → PS B w g b cap false D left ns err nest → nest ≤ lim → Inp w b cap D → Follow rest → Pos b cap D (s ++ rest) a k →
   ns.length + s.length ≤ 300000 → ∀ m, m = (s ++ rest).length → Calls Try.prog F #[.pointer (some ⟨g, 0, none⟩), .slice (some a) m k] w (ItRead tb v s.length B g b cap false D left ns err nest rest w)
theorem ItOk.el {P : N → List UInt8 → Prop} {lim : Nat} (hP : ValOk P lim) : ItOk 69 (ElTxt P) ((8 : Nat) = 9) lim := by
 intro v s B g b cap k D rest left err nest ns w a hv h1 h2 h3 h4 h5 h6 m hm
 refine (hP v s B g b cap k D rest left err nest ns w a hv.2 h1 h2 h3 h4 h5 h6 m hm).mono ?_
 rintro e w' ⟨xs, a', k', e1, e2, e3, e4, e5, e6⟩
 exact ⟨xs, a', k', e1, e2, e3, .inl ⟨by decide, hv.1, e4⟩, e5, e6⟩
theorem ItOk.kv {P : N → List UInt8 → Prop} {lim : Nat} (hP : ValOk P lim) (hh : ∀ {v t}, P v t → ∃ c r, t = c :: r ∧ Hd c) : ItOk 63 (KvTxt P) ((9 : Nat) = 9) lim := by
 intro v s B g b cap k D rest left err nest ns w a hv h1 h2 h3 h4 h5 h6 m hm
 refine (parseKv_any hP h1 h2 h3 hv h4 h5 h6 m hm hh).mono ?_
 rintro e w' ⟨xs, a', k', e1, e2, e3, e4, e5, e6⟩
 exact ⟨xs, a', k', e1, e2, e3, .inr ⟨rfl, e4⟩, e5, e6⟩
theorem Hd.ifacts {c : UInt8} (h : Hd c) : ((c.toNat : Int) == 10) = false ∧ ((c.toNat : Int) == 13) = false ∧ ((c.toNat : Int) == 35) = false ∧ ((c.toNat : Int) == 44) = false ∧ ((c.toNat : Int) == 93) = false ∧ ((c.toNat : Int) == 125) = false := by
 obtain ⟨_, _, h10, h13, h35, h44, h93, h125, _, _⟩ := h.facts
 have F : ∀ n : UInt8, c ≠ n → ((c.toNat : Int) == (n.toNat : Int)) = false := by
   intro n hn
   simp
   intro h
   exact hn (UInt8.toNat_inj.1 (by omega))
 exact ⟨F 10 h10, F 13 h13, F 35 h35, F 44 h44, F 93 h93, F 125 h125⟩
theorem Hd.noWs {c : UInt8} (h : Hd c) : ¬ (c.toNat = 32 ∨ c.toNat = 9) := by
 obtain ⟨h1, h2, _⟩ := h.facts
 rintro (h | h)
 · exact h1 (UInt8.toNat_inj.1 h)
 · exact h2 (UInt8.toNat_inj.1 h)
theorem Tail.strip {I : N → List UInt8 → Prop} (hI : ∀ {v t}, I v t → ∃ c r, t = c :: r ∧ Hd c) {close : UInt8} {av : Bool} {l : List N} {s : List UInt8} (h : Tail I close av l s) (rest : List UInt8) (hc : close = 93 ∨ close = 125 := by decide) :
   ∃ s', Tail I close av l s' ∧ skipWs (s ++ rest) = s' ++ rest ∧ s'.length ≤ s.length ∧ ∀ c r, s' = c :: r → ¬ (c = 32 ∨ c = 9) := by
 induction h with
 | close av => 
   refine ⟨_, .close av, ?_, Nat.le_refl _, ?_⟩
   · rw [List.cons_append, skipWs_no (by rcases hc with rfl | rfl <;> decide)]
   · intro c r h; injection h with h _; subst h; rcases hc with rfl | rfl <;> decide
 | ws av l s c h1 h2 ih =>
   obtain ⟨s', g1, g2, g3, g4⟩ := ih
   refine ⟨s', g1, ?_, by simp only [List.length_cons]; omega, g4⟩
   rw [List.cons_append, skipWs_yes (by rcases h1 with rfl | rfl <;> decide)]
   exact g2
 | nl av l s h ih =>
   refine ⟨_, .nl av l s h, ?_, Nat.le_refl _, ?_⟩
   · rw [List.cons_append, skipWs_no (by decide)]
   · intro c r h; injection h with h _; subst h; decide
 | crnl av l s h ih =>
   refine ⟨_, .crnl av l s h, ?_, Nat.le_refl _, ?_⟩
   · rw [List.cons_append, skipWs_no (by decide)]
   · intro c r h; injection h with h _; subst h; decide
 | com av l p s h1 h2 h ih =>
   refine ⟨_, .com av l p s h1 h2 h, ?_, Nat.le_refl _, ?_⟩
   · rw [List.cons_append, skipWs_no (by decide)]
   · intro c r h; injection h with h _; subst h; decide
 | comma l s h ih =>
   refine ⟨_, .comma l s h, ?_, Nat.le_refl _, ?_⟩
   · rw [List.cons_append, skipWs_no (by decide)]
   · intro c r h; injection h with h _; subst h; decide
 | item x l t s h1 h ih =>
   refine ⟨_, .item x l t s h1 h, ?_, Nat.le_refl _, ?_⟩
   · obtain ⟨c, r, rfl, hcc⟩ := hI h1
     rw [List.append_assoc, List.cons_append, skipWs_no hcc.noWs]
   · obtain ⟨c0, r0, rfl, hcc⟩ := hI h1
     intro c r h
     rw [List.cons_append] at h
     injection h with h _
     subst h
     rintro (rfl | rfl) <;> exact absurd hcc.facts (by decide)
theorem PS.count {B g b cap : Nat} {kc : Bool} {D : List UInt8} {left err : Value} {nest : Nat} {ns : List Nd} {w : World} (h : PS B w g b cap kc D left ns err nest) : ns.length ≤ 1000000 := by
 obtain ⟨A1, V1, _, _, harn, _⟩ := h
 rcases harn with ⟨rfl, _⟩ | ⟨gn', nc, cur, junk, _, _, hcl, hcs, _, _, hbig, _⟩
 · simp
 · have h1 : cur.toList.length = 7 * nc := by rw [Array.length_toList]; exact hcs
   rw [hcl, List.length_append, flat_length] at h1
   omega
theorem alloc_le {w : World} {o : Obj} {n : Nat} (h : n ≤ w.heap.size) : n ≤ (w.alloc o).heap.size := by simp; omega
theorem Fr.alloc {B : Nat} {w : World} (h : B ≤ w.heap.size) (o : Obj) : Fr B w (w.alloc o) := ⟨(Below.refl B w).alloc h _, Kp.alloc w o⟩
def TRel (I : N → List UInt8 → Prop) (close : UInt8) (tb : Prop) (items : List N) (kd : Nat) (ro rl : Int) (B g b cap : Nat) (D : List UInt8) (left : Value) (ns : List Nd) (err : Value) (nest : Nat) (rest : List UInt8) (S0 pb arb lcb : Nat) (w : World) (gg : Nat) (s1 s12 : Value) (wx : World) : Prop :=
 ∃ (dn more : List N) (av : Bool) (s : List UInt8) (a : Addr) (k : Nat) (xs : List Nd) (lc : Nat), items = dn ++ more ∧ gg = s.length ∧ Tail I close av more s ∧ s1 = .slice (some a) (s ++ rest).length k ∧ s12 = .bool av ∧ Pos b cap D (s ++ rest) a k ∧
   PS B wx g b cap false D left (ns ++ (⟨kd, ro, rl, .slice none 0 0, 0, if dn = [] then 0 else ns.length + 2⟩ : Nd) :: xs) err nest ∧ CLast wx tb dn (ns.length + 1) xs lc ∧ Inp wx b cap D ∧ Fr B w wx ∧
   Blk wx lcb 21 #[.int .i32 lc] ∧ Blk wx pb 63 #[.pointer (some ⟨g, 0, none⟩)] ∧ Blk wx arb 21 #[.int .i32 ((ns.length : Int) + 1)] ∧ xs.length + s.length ≤ S0
end Go.Proofs.Ytnlkbbpmpgdmiaa
namespace Go.Proofs.Ytnlkbbpmpgdmiaa
open Go.RowKit
set_option linter.unusedVariables false
set_option linter.unusedSimpArgs false
theorem ValRead.v {kd : Nat} {B g b cap : Nat} {kc : Bool} {D : List UInt8} {left : Value} {ns : List Nd} {err : Value} {nest : Nat} {s rest : List UInt8} {w : World} {e : Ending} {w' : World} (hk : kd < 8) {sl : Nat} (hs : 1 ≤ sl) {ks : List (List UInt8)} (h : ValRead (pk kd) B g b cap kc D left ns err nest s rest w e w') : VRead (.mk kd s [] ks) sl B g b cap kc D left ns err nest rest w e w' := by
 obtain ⟨ro, rl, dv, a', k', h1, h2, h3, h4, h5⟩ := h
 refine ⟨_, a', k', h1, h2, h3, ?_, h5, hs⟩
 unfold VNds
 exact ⟨_, [], rfl, rfl, rfl, .inl ⟨hk, h4, rfl, rfl, rfl⟩⟩
theorem valRead_ret {kd : Nat} {B g b cap : Nat} {kc : Bool} {D : List UInt8} {left : Value} {ns : List Nd} {err : Value} {nest : Nat} {s rest : List UInt8} {w w' : World} {ro rl : Int} {dv : Value} {a' : Addr} {k' : Nat} (h2 : Pos b cap D rest a' k') (h3 : PS B w' g b cap kc D left (ns ++ [⟨kd, ro, rl, dv, 0, 0⟩]) err nest) (h4 : DataIs w' dv s) (h5 : Fr B w w') :
   ValRead kd B g b cap kc D left ns err nest s rest w (.returned (.tuple #[.int .i32 ((ns.length : Int) + 1), .slice (some a') rest.length k', .nilIface])) w' := ⟨ro, rl, dv, a', k', rfl, h2, h3, h4, h5⟩
set_option maxRecDepth 100000 in
set_option maxHeartbeats 1000000 in
theorem pv_bas {B g b cap k : Nat} {D s t rest : List UInt8} {left err : Value} {nest : Nat} {ns : List Nd} {w : World} {a : Addr} (hps : PS B w g b cap false D left ns err nest) (hi : Inp w b cap D) (ht : BasTxt t s) (hf : Follow rest) (hp : Pos b cap D (s ++ rest) a k)
   (hn : ns.length ≤ 400000) (m : Nat) (hm : m = (s ++ rest).length) :
   Calls Try.prog 69 #[.pointer (some ⟨g, 0, none⟩), .slice (some a) m k] w (ValRead 8 B g b cap false D left ns err nest t rest w) := by
 have HC := Lib.hid (basTxt_at hi ht hp m hm (.pointer (some ⟨g, 0, none⟩)))
 have hs : 2 ≤ s.length := by obtain ⟨ps, _, _, rfl⟩ := ht; simp
 obtain ⟨cr, rr, hcr, hstop, -⟩ := hf
 have hml : 3 ≤ m := by rw [hm, List.length_append, hcr]; simp; omega
 have hheads : (∃ x y, s ++ rest = 34 :: x :: y ∧ ((x.toNat : Int) == 34) = false) ∨ ∃ y, s ++ rest = 34 :: 34 :: cr :: y ∧ ((cr.toNat : Int) == 34) = false := by
   obtain ⟨ps, hps', _, rfl⟩ := ht
   cases ps with
   | nil =>
     refine .inr ⟨rr, by rw [hcr]; rfl, ?_⟩
     rcases hstop with rfl | rfl | rfl | rfl | rfl | rfl | rfl | rfl <;> decide
   | cons p ps =>
     left
     have hsrc : ∃ x z, p.src = x :: z ∧ ((x.toNat : Int) == 34) = false := by
       rcases hps' p (by simp) with ⟨h, _⟩ | ⟨s', _, h⟩
       · rcases h with h | ⟨c, hc, h⟩
         · rcases h with h | h | h
           · exact ⟨_, _, h, by decide⟩
           · exact ⟨_, _, h, by decide⟩
           · exact ⟨_, _, h, by decide⟩
         · refine ⟨c, [], h, ?_⟩
           simp
           rcases hc with hc | hc <;> omega
       · exact ⟨_, _, h, by decide⟩
     obtain ⟨x, z, hx, h34⟩ := hsrc
     refine ⟨x, z ++ (srcs ps ++ 34 :: rest), ?_, h34⟩
     simp [srcs, hx]
 have ha := hp.addr (by rw [List.length_append]; omega)
 have h1 := hp.room
 have h2 := hp.le
 have h3 := hi.fits
 have h4 := hi.bound
 have hb0 : Bts w b (D.length - (s ++ rest).length) (s ++ rest) := hi.doc.suffix hp.suf
 have HP := Lib.hid hp
 have HI := Lib.hid hi
 have HPS := Lib.hid hps
 rw [← hm] at h1 h2
 clear ht
 rcases hheads with ⟨x, y, hl, hx34⟩ | ⟨y, hl, hx34⟩
 · rw [hl] at hb0
   have c0 : w.cell? a = some (.int .u8 34) := by rw [ha, hl]; exact hb0.head.1
   have c1 : w.cell? ⟨b, D.length - (s ++ rest).length + 1, none⟩ = some (.int .u8 x.toNat) := by rw [hl]; exact hb0.head.2.head.1
   generalize ho : D.length - (s ++ rest).length = o at *
   subst ha
   clear hp hi hps hm hl hb0 ho hcr hstop
   go_enter Try.func69, Try.ntmps69
   go_wp2_with fail
   refine HC.out.mono ?_
   rintro e w1 ⟨m1, dv, a1, k1, hm1, rfl, hp1, hd0, hb1⟩
   obtain ⟨dvb, dvo, dvc, dvs, dva, rfl, hdc1, hdc2⟩ := hd0
   have hd1 : DataIs w1 (.slice (some dva) t.length dvc) t := ⟨dvb, dvo, dvc, dvs, dva, rfl, hdc1, hdc2⟩
   have HP1 := Lib.hid hp1
   have HPS1 := Lib.hid (HPS.out.kp hb1)
   have HD1 := Lib.hid hd1
   have HF1 : Hid (Fr B w w1) := Fr.of_below hb1 HPS.out.le
   have HM1 := Lib.hid hm1
   clear hp1 hd1 hb1 hm1 hdc1 hdc2
   go_wp2_with fail
   refine (range_at HPS1.out HI.out.fits HI.out.bound HP.out m1 HM1.out).mono ?_
   rintro e w2 ⟨ro, rl, rfl, hb2⟩
   have HPS2 := Lib.hid (HPS1.out.kp hb2)
   have HD2 := Lib.hid (HD1.out.below hb2)
   have HF2 := Lib.hid (HF1.out.trans (Fr.of_below hb2 HPS1.out.le))
   clear hb2
   go_wp2_with fail
   refine (push_any HPS2.out 8 ro rl _ HD2.out.one hn).mono ?_
   rintro e w3 ⟨rfl, hps3, hf3⟩
   have HPS3 := Lib.hid hps3
   have HF3 := Lib.hid hf3
   clear hps3 hf3
   go_wp2_with fail
   go_ret3
   exact valRead_ret HP1.out HPS3.out (HD2.out.kp HF3.out.2) (HF2.out.trans HF3.out)
 · rw [hl] at hb0
   have c0 : w.cell? a = some (.int .u8 34) := by rw [ha, hl]; exact hb0.head.1
   have c1 : w.cell? ⟨b, D.length - (s ++ rest).length + 1, none⟩ = some (.int .u8 34) := by rw [hl]; exact hb0.head.2.head.1
   have c2 : w.cell? ⟨b, D.length - (s ++ rest).length + 2, none⟩ = some (.int .u8 cr.toNat) := by rw [hl]; exact hb0.head.2.head.2.head.1
   generalize ho : D.length - (s ++ rest).length = o at *
   subst ha
   clear hp hi hps hm hl hb0 ho hcr hstop
   go_enter Try.func69, Try.ntmps69
   go_wp2_with fail
   refine HC.out.mono ?_
   rintro e w1 ⟨m1, dv, a1, k1, hm1, rfl, hp1, hd0, hb1⟩
   obtain ⟨dvb, dvo, dvc, dvs, dva, rfl, hdc1, hdc2⟩ := hd0
   have hd1 : DataIs w1 (.slice (some dva) t.length dvc) t := ⟨dvb, dvo, dvc, dvs, dva, rfl, hdc1, hdc2⟩
   have HP1 := Lib.hid hp1
   have HPS1 := Lib.hid (HPS.out.kp hb1)
   have HD1 := Lib.hid hd1
   have HF1 : Hid (Fr B w w1) := Fr.of_below hb1 HPS.out.le
   have HM1 := Lib.hid hm1
   clear hp1 hd1 hb1 hm1 hdc1 hdc2
   go_wp2_with fail
   refine (range_at HPS1.out HI.out.fits HI.out.bound HP.out m1 HM1.out).mono ?_
   rintro e w2 ⟨ro, rl, rfl, hb2⟩
   have HPS2 := Lib.hid (HPS1.out.kp hb2)
   have HD2 := Lib.hid (HD1.out.below hb2)
   have HF2 := Lib.hid (HF1.out.trans (Fr.of_below hb2 HPS1.out.le))
   clear hb2
   go_wp2_with fail
   refine (push_any HPS2.out 8 ro rl _ HD2.out.one hn).mono ?_
   rintro e w3 ⟨rfl, hps3, hf3⟩
   have HPS3 := Lib.hid hps3
   have HF3 := Lib.hid hf3
   clear hps3 hf3
   go_wp2_with fail
   go_ret3
   exact valRead_ret HP1.out HPS3.out (HD2.out.kp HF3.out.2) (HF2.out.trans HF3.out)
set_option maxRecDepth 100000 in
set_option maxHeartbeats 1000000 in
theorem pv_lit {B g b cap k : Nat} {D s t rest : List UInt8} {left err : Value} {nest : Nat} {ns : List Nd} {w : World} {a : Addr} (hps : PS B w g b cap false D left ns err nest) (hi : Inp w b cap D) (ht : LitTxt t s) (hf : Follow rest) (hp : Pos b cap D (s ++ rest) a k)
   (hn : ns.length ≤ 400000) (m : Nat) (hm : m = (s ++ rest).length) :
   Calls Try.prog 69 #[.pointer (some ⟨g, 0, none⟩), .slice (some a) m k] w (ValRead 8 B g b cap false D left ns err nest t rest w) := by
 have HC := Lib.hid (litTxt_at hi ht hp m hm (.pointer (some ⟨g, 0, none⟩)))
 have hs : 2 ≤ s.length := by obtain ⟨ps, _, _, rfl⟩ := ht; simp
 obtain ⟨cr, rr, hcr, hstop, -⟩ := hf
 have hml : 3 ≤ m := by rw [hm, List.length_append, hcr]; simp; omega
 have hheads : (∃ x y, s ++ rest = 39 :: x :: y ∧ ((x.toNat : Int) == 39) = false) ∨ ∃ y, s ++ rest = 39 :: 39 :: cr :: y ∧ ((cr.toNat : Int) == 39) = false := by
   obtain ⟨es, hes, _, rfl⟩ := ht
   cases es with
   | nil =>
     refine .inr ⟨rr, by rw [hcr]; rfl, ?_⟩
     rcases hstop with rfl | rfl | rfl | rfl | rfl | rfl | rfl | rfl <;> decide
   | cons p es =>
     left
     have hsrc : ∃ x z, p = x :: z ∧ ((x.toNat : Int) == 39) = false := by
       rcases hes p (by simp) with h | ⟨c, hc, h⟩
       · rcases h with h | h | h
         · exact ⟨_, _, h, by decide⟩
         · exact ⟨_, _, h, by decide⟩
         · exact ⟨_, _, h, by decide⟩
       · refine ⟨c, [], h, ?_⟩
         simp
         rcases hc with hc | hc <;> omega
     obtain ⟨x, z, hx, h34⟩ := hsrc
     refine ⟨x, z ++ (es.flatten ++ 39 :: rest), ?_, h34⟩
     simp [hx]
 have ha := hp.addr (by rw [List.length_append]; omega)
 have h1 := hp.room
 have h2 := hp.le
 have h3 := hi.fits
 have h4 := hi.bound
 have hb0 : Bts w b (D.length - (s ++ rest).length) (s ++ rest) := hi.doc.suffix hp.suf
 have HP := Lib.hid hp
 have HI := Lib.hid hi
 have HPS := Lib.hid hps
 rw [← hm] at h1 h2
 clear ht
 rcases hheads with ⟨x, y, hl, hx34⟩ | ⟨y, hl, hx34⟩
 · rw [hl] at hb0
   have c0 : w.cell? a = some (.int .u8 39) := by rw [ha, hl]; exact hb0.head.1
   have c1 : w.cell? ⟨b, D.length - (s ++ rest).length + 1, none⟩ = some (.int .u8 x.toNat) := by rw [hl]; exact hb0.head.2.head.1
   generalize ho : D.length - (s ++ rest).length = o at *
   subst ha
   clear hp hi hps hm hl hb0 ho hcr hstop
   go_enter Try.func69, Try.ntmps69
   go_wp2_with fail
   refine HC.out.mono ?_
   rintro e w1 ⟨m1, dv, a1, k1, hm1, rfl, hp1, hd0, hb1⟩
   obtain ⟨dvb, dvo, dvc, dvs, dva, rfl, hdc1, hdc2⟩ := hd0
   have hd1 : DataIs w1 (.slice (some dva) t.length dvc) t := ⟨dvb, dvo, dvc, dvs, dva, rfl, hdc1, hdc2⟩
   have HP1 := Lib.hid hp1
   have HPS1 := Lib.hid (HPS.out.kp hb1)
   have HD1 := Lib.hid hd1
   have HF1 : Hid (Fr B w w1) := Fr.of_below hb1 HPS.out.le
   have HM1 := Lib.hid hm1
   clear hp1 hd1 hb1 hm1 hdc1 hdc2
   go_wp2_with fail
   refine (range_at HPS1.out HI.out.fits HI.out.bound HP.out m1 HM1.out).mono ?_
   rintro e w2 ⟨ro, rl, rfl, hb2⟩
   have HPS2 := Lib.hid (HPS1.out.kp hb2)
   have HD2 := Lib.hid (HD1.out.below hb2)
   have HF2 := Lib.hid (HF1.out.trans (Fr.of_below hb2 HPS1.out.le))
   clear hb2
   go_wp2_with fail
   refine (push_any HPS2.out 8 ro rl _ HD2.out.one hn).mono ?_
   rintro e w3 ⟨rfl, hps3, hf3⟩
   have HPS3 := Lib.hid hps3
   have HF3 := Lib.hid hf3
   clear hps3 hf3
   go_wp2_with fail
   go_ret3
   exact valRead_ret HP1.out HPS3.out (HD2.out.kp HF3.out.2) (HF2.out.trans HF3.out)
 · rw [hl] at hb0
   have c0 : w.cell? a = some (.int .u8 39) := by rw [ha, hl]; exact hb0.head.1
   have c1 : w.cell? ⟨b, D.length - (s ++ rest).length + 1, none⟩ = some (.int .u8 39) := by rw [hl]; exact hb0.head.2.head.1
   have c2 : w.cell? ⟨b, D.length - (s ++ rest).length + 2, none⟩ = some (.int .u8 cr.toNat) := by rw [hl]; exact hb0.head.2.head.2.head.1
   generalize ho : D.length - (s ++ rest).length = o at *
   subst ha
   clear hp hi hps hm hl hb0 ho hcr hstop
   go_enter Try.func69, Try.ntmps69
   go_wp2_with fail
   refine HC.out.mono ?_
   rintro e w1 ⟨m1, dv, a1, k1, hm1, rfl, hp1, hd0, hb1⟩
   obtain ⟨dvb, dvo, dvc, dvs, dva, rfl, hdc1, hdc2⟩ := hd0
   have hd1 : DataIs w1 (.slice (some dva) t.length dvc) t := ⟨dvb, dvo, dvc, dvs, dva, rfl, hdc1, hdc2⟩
   have HP1 := Lib.hid hp1
   have HPS1 := Lib.hid (HPS.out.kp hb1)
   have HD1 := Lib.hid hd1
   have HF1 : Hid (Fr B w w1) := Fr.of_below hb1 HPS.out.le
   have HM1 := Lib.hid hm1
   clear hp1 hd1 hb1 hm1 hdc1 hdc2
   go_wp2_with fail
   refine (range_at HPS1.out HI.out.fits HI.out.bound HP.out m1 HM1.out).mono ?_
   rintro e w2 ⟨ro, rl, rfl, hb2⟩
   have HPS2 := Lib.hid (HPS1.out.kp hb2)
   have HD2 := Lib.hid (HD1.out.below hb2)
   have HF2 := Lib.hid (HF1.out.trans (Fr.of_below hb2 HPS1.out.le))
   clear hb2
   go_wp2_with fail
   refine (push_any HPS2.out 8 ro rl _ HD2.out.one hn).mono ?_
   rintro e w3 ⟨rfl, hps3, hf3⟩
   have HPS3 := Lib.hid hps3
   have HF3 := Lib.hid hf3
   clear hps3 hf3
   go_wp2_with fail
   go_ret3
   exact valRead_ret HP1.out HPS3.out (HD2.out.kp HF3.out.2) (HF2.out.trans HF3.out)
theorem StopC.noQuote {c : UInt8} (h : StopC c) : c.toNat ≠ 34 ∧ c.toNat ≠ 39 ∧ c.toNat < 128 := by
 rcases h with rfl | rfl | rfl | rfl | rfl | rfl | rfl | rfl <;> decide
set_option maxRecDepth 100000 in
set_option maxHeartbeats 1000000 in
theorem pv_mbas {B g b cap k : Nat} {D s t rest : List UInt8} {left err : Value} {nest : Nat} {ns : List Nd} {w : World} {a : Addr} (hps : PS B w g b cap false D left ns err nest) (hi : Inp w b cap D) (ht : MBasTxt t s) (hf : Follow rest) (hp : Pos b cap D (s ++ rest) a k)
   (hn : ns.length ≤ 400000) (m : Nat) (hm : m = (s ++ rest).length) :
   Calls Try.prog 69 #[.pointer (some ⟨g, 0, none⟩), .slice (some a) m k] w (ValRead 8 B g b cap false D left ns err nest t rest w) := by
 have HC := Lib.hid (mbasTxt_at hi ht (by obtain ⟨cr, rr, rfl, h, -⟩ := hf; intro c r e; injection e with e _; subst e; exact h.noQuote.1) hp m hm (.pointer (some ⟨g, 0, none⟩)))
 have hs : 7 ≤ s.length := by obtain ⟨ps, _, _, rfl⟩ := ht; simp
 have hml : 3 ≤ m := by rw [hm, List.length_append]; omega
 obtain ⟨y, hl⟩ : ∃ y, s ++ rest = 34 :: 34 :: 34 :: y := by obtain ⟨ps, _, _, rfl⟩ := ht; exact ⟨_, rfl⟩
 have ha := hp.addr (by rw [List.length_append]; omega)
 have h1 := hp.room
 have h2 := hp.le
 have h3 := hi.fits
 have h4 := hi.bound
 have hb0 : Bts w b (D.length - (s ++ rest).length) (s ++ rest) := hi.doc.suffix hp.suf
 have HP := Lib.hid hp
 have HI := Lib.hid hi
 have HPS := Lib.hid hps
 rw [← hm] at h1 h2
 clear ht
 rw [hl] at hb0
 have c0 : w.cell? a = some (.int .u8 34) := by rw [ha, hl]; exact hb0.head.1
 have c1 : w.cell? ⟨b, D.length - (s ++ rest).length + 1, none⟩ = some (.int .u8 34) := by rw [hl]; exact hb0.head.2.head.1
 have c2 : w.cell? ⟨b, D.length - (s ++ rest).length + 2, none⟩ = some (.int .u8 34) := by rw [hl]; exact hb0.head.2.head.2.head.1
 generalize ho : D.length - (s ++ rest).length = o at *
 subst ha
 clear hp hi hps hm hl hb0 ho
 go_enter Try.func69, Try.ntmps69
 go_wp2_with fail
 refine HC.out.mono ?_
 rintro e w1 ⟨m1, dv, a1, k1, hm1, rfl, hp1, hd0, hb1⟩
 obtain ⟨dvb, dvo, dvc, dvs, dva, rfl, hdc1, hdc2⟩ := hd0
 have hd1 : DataIs w1 (.slice (some dva) t.length dvc) t := ⟨dvb, dvo, dvc, dvs, dva, rfl, hdc1, hdc2⟩
 have HP1 := Lib.hid hp1
 have HPS1 := Lib.hid (HPS.out.kp hb1)
 have HD1 := Lib.hid hd1
 have HF1 : Hid (Fr B w w1) := Fr.of_below hb1 HPS.out.le
 have HM1 := Lib.hid hm1
 clear hp1 hd1 hb1 hm1 hdc1 hdc2
 go_wp2_with fail
 refine (range_at HPS1.out HI.out.fits HI.out.bound HP.out m1 HM1.out).mono ?_
 rintro e w2 ⟨ro, rl, rfl, hb2⟩
 have HPS2 := Lib.hid (HPS1.out.kp hb2)
 have HD2 := Lib.hid (HD1.out.below hb2)
 have HF2 := Lib.hid (HF1.out.trans (Fr.of_below hb2 HPS1.out.le))
 clear hb2
 go_wp2_with fail
 refine (push_any HPS2.out 8 ro rl _ HD2.out.one hn).mono ?_
 rintro e w3 ⟨rfl, hps3, hf3⟩
 have HPS3 := Lib.hid hps3
 have HF3 := Lib.hid hf3
 clear hps3 hf3
 go_wp2_with fail
 go_ret3
 exact valRead_ret HP1.out HPS3.out (HD2.out.kp HF3.out.2) (HF2.out.trans HF3.out)
set_option maxRecDepth 100000 in
set_option maxHeartbeats 1000000 in
theorem pv_mlit {B g b cap k : Nat} {D s t rest : List UInt8} {left err : Value} {nest : Nat} {ns : List Nd} {w : World} {a : Addr} (hps : PS B w g b cap false D left ns err nest) (hi : Inp w b cap D) (ht : MLitTxt t s) (hf : Follow rest) (hp : Pos b cap D (s ++ rest) a k)
   (hn : ns.length ≤ 400000) (m : Nat) (hm : m = (s ++ rest).length) :
   Calls Try.prog 69 #[.pointer (some ⟨g, 0, none⟩), .slice (some a) m k] w (ValRead 8 B g b cap false D left ns err nest t rest w) := by
 have HC := Lib.hid (mlitTxt_at hi ht (by obtain ⟨cr, rr, rfl, h, -⟩ := hf; intro c r e; injection e with e _; subst e; exact h.noQuote.2) hp m hm (.pointer (some ⟨g, 0, none⟩)))
 have hs : 7 ≤ s.length := by obtain ⟨ps, _, _, rfl⟩ := ht; simp
 have hml : 3 ≤ m := by rw [hm, List.length_append]; omega
 obtain ⟨y, hl⟩ : ∃ y, s ++ rest = 39 :: 39 :: 39 :: y := by obtain ⟨ps, _, _, rfl⟩ := ht; exact ⟨_, rfl⟩
 have ha := hp.addr (by rw [List.length_append]; omega)
 have h1 := hp.room
 have h2 := hp.le
 have h3 := hi.fits
 have h4 := hi.bound
 have hb0 : Bts w b (D.length - (s ++ rest).length) (s ++ rest) := hi.doc.suffix hp.suf
 have HP := Lib.hid hp
 have HI := Lib.hid hi
 have HPS := Lib.hid hps
 rw [← hm] at h1 h2
 clear ht
 rw [hl] at hb0
 have c0 : w.cell? a = some (.int .u8 39) := by rw [ha, hl]; exact hb0.head.1
 have c1 : w.cell? ⟨b, D.length - (s ++ rest).length + 1, none⟩ = some (.int .u8 39) := by rw [hl]; exact hb0.head.2.head.1
 have c2 : w.cell? ⟨b, D.length - (s ++ rest).length + 2, none⟩ = some (.int .u8 39) := by rw [hl]; exact hb0.head.2.head.2.head.1
 generalize ho : D.length - (s ++ rest).length = o at *
 subst ha
 clear hp hi hps hm hl hb0 ho
 go_enter Try.func69, Try.ntmps69
 go_wp2_with fail
 refine HC.out.mono ?_
 rintro e w1 ⟨m1, dv, a1, k1, hm1, rfl, hp1, hd0, hb1⟩
 obtain ⟨dvb, dvo, dvc, dvs, dva, rfl, hdc1, hdc2⟩ := hd0
 have hd1 : DataIs w1 (.slice (some dva) t.length dvc) t := ⟨dvb, dvo, dvc, dvs, dva, rfl, hdc1, hdc2⟩
 have HP1 := Lib.hid hp1
 have HPS1 := Lib.hid (HPS.out.kp hb1)
 have HD1 := Lib.hid hd1
 have HF1 : Hid (Fr B w w1) := Fr.of_below hb1 HPS.out.le
 have HM1 := Lib.hid hm1
 clear hp1 hd1 hb1 hm1 hdc1 hdc2
 go_wp2_with fail
 refine (range_at HPS1.out HI.out.fits HI.out.bound HP.out m1 HM1.out).mono ?_
 rintro e w2 ⟨ro, rl, rfl, hb2⟩
 have HPS2 := Lib.hid (HPS1.out.kp hb2)
 have HD2 := Lib.hid (HD1.out.below hb2)
 have HF2 := Lib.hid (HF1.out.trans (Fr.of_below hb2 HPS1.out.le))
 clear hb2
 go_wp2_with fail
 refine (push_any HPS2.out 8 ro rl _ HD2.out.one hn).mono ?_
 rintro e w3 ⟨rfl, hps3, hf3⟩
 have HPS3 := Lib.hid hps3
 have HF3 := Lib.hid hf3
 clear hps3 hf3
 go_wp2_with fail
 go_ret3
 exact valRead_ret HP1.out HPS3.out (HD2.out.kp HF3.out.2) (HF2.out.trans HF3.out)
set_option maxRecDepth 100000 in
set_option maxHeartbeats 1000000 in
theorem pv_true {B g b cap k : Nat} {D rest : List UInt8} {left err : Value} {nest : Nat} {ns : List Nd} {w : World} {a : Addr} (hps : PS B w g b cap false D left ns err nest) (hi : Inp w b cap D) (hrest : 0 < rest.length) (hp : Pos b cap D ([116, 114, 117, 101] ++ rest) a k)
   (hn : ns.length ≤ 400000) (m : Nat) (hm : m = ([116, 114, 117, 101] ++ rest).length) :
   Calls Try.prog 69 #[.pointer (some ⟨g, 0, none⟩), .slice (some a) m k] w (ValRead 9 B g b cap false D left ns err nest [116, 114, 117, 101] rest w) := by
 have HC := Lib.hid (parseKw_any (kind := 9) hps hi (by decide) (by decide) hrest hp hn m hm)
 have ha := hp.addr (by simp)
 have c0 := (hi.doc.suffix hp.suf).head.1
 rw [← ha] at c0
 have hml : 1 ≤ m := by rw [hm]; simp
 clear hp hi hps hm ha
 go_enter Try.func69, Try.ntmps69
 go_wp2_with fail
 refine HC.out.mono ?_
 rintro e w1 ⟨ro, rl, dv, a1, k1, rfl, hp1, hps1, hd1, hf1⟩
 have HP1 := Lib.hid hp1
 have HPS1 := Lib.hid hps1
 have HD1 := Lib.hid hd1
 have HF1 := Lib.hid hf1
 clear hp1 hps1 hd1 hf1
 go_wp2_with fail
 go_ret3
 exact valRead_ret HP1.out HPS1.out HD1.out HF1.out
set_option maxRecDepth 100000 in
set_option maxHeartbeats 1000000 in
theorem pv_false {B g b cap k : Nat} {D rest : List UInt8} {left err : Value} {nest : Nat} {ns : List Nd} {w : World} {a : Addr} (hps : PS B w g b cap false D left ns err nest) (hi : Inp w b cap D) (hrest : 0 < rest.length) (hp : Pos b cap D ([102, 97, 108, 115, 101] ++ rest) a k)
   (hn : ns.length ≤ 400000) (m : Nat) (hm : m = ([102, 97, 108, 115, 101] ++ rest).length) :
   Calls Try.prog 69 #[.pointer (some ⟨g, 0, none⟩), .slice (some a) m k] w (ValRead 9 B g b cap false D left ns err nest [102, 97, 108, 115, 101] rest w) := by
 have HC := Lib.hid (parseKw_any (kind := 9) hps hi (by decide) (by decide) hrest hp hn m hm)
 have ha := hp.addr (by simp)
 have c0 := (hi.doc.suffix hp.suf).head.1
 rw [← ha] at c0
 have hml : 1 ≤ m := by rw [hm]; simp
 clear hp hi hps hm ha
 go_enter Try.func69, Try.ntmps69
 go_wp2_with fail
 refine HC.out.mono ?_
 rintro e w1 ⟨ro, rl, dv, a1, k1, rfl, hp1, hps1, hd1, hf1⟩
 have HP1 := Lib.hid hp1
 have HPS1 := Lib.hid hps1
 have HD1 := Lib.hid hd1
 have HF1 := Lib.hid hf1
 clear hp1 hps1 hd1 hf1
 go_wp2_with fail
 go_ret3
 exact valRead_ret HP1.out HPS1.out HD1.out HF1.out
set_option maxRecDepth 100000 in
set_option maxHeartbeats 1000000 in
theorem pv_inf {B g b cap k : Nat} {D rest : List UInt8} {left err : Value} {nest : Nat} {ns : List Nd} {w : World} {a : Addr} (hps : PS B w g b cap false D left ns err nest) (hi : Inp w b cap D) (hrest : 0 < rest.length) (hp : Pos b cap D ([105, 110, 102] ++ rest) a k)
   (hn : ns.length ≤ 400000) (m : Nat) (hm : m = ([105, 110, 102] ++ rest).length) :
   Calls Try.prog 69 #[.pointer (some ⟨g, 0, none⟩), .slice (some a) m k] w (ValRead 10 B g b cap false D left ns err nest [105, 110, 102] rest w) := by
 have HC := Lib.hid (parseKw_any (kind := 10) hps hi (by decide) (by decide) hrest hp hn m hm)
 have ha := hp.addr (by simp)
 have c0 := (hi.doc.suffix hp.suf).head.1
 rw [← ha] at c0
 have hml : 1 ≤ m := by rw [hm]; simp
 clear hp hi hps hm ha
 go_enter Try.func69, Try.ntmps69
 go_wp2_with fail
 refine HC.out.mono ?_
 rintro e w1 ⟨ro, rl, dv, a1, k1, rfl, hp1, hps1, hd1, hf1⟩
 have HP1 := Lib.hid hp1
 have HPS1 := Lib.hid hps1
 have HD1 := Lib.hid hd1
 have HF1 := Lib.hid hf1
 clear hp1 hps1 hd1 hf1
 go_wp2_with fail
 go_ret3
 exact valRead_ret HP1.out HPS1.out HD1.out HF1.out
set_option maxRecDepth 100000 in
set_option maxHeartbeats 1000000 in
theorem pv_nan {B g b cap k : Nat} {D rest : List UInt8} {left err : Value} {nest : Nat} {ns : List Nd} {w : World} {a : Addr} (hps : PS B w g b cap false D left ns err nest) (hi : Inp w b cap D) (hrest : 0 < rest.length) (hp : Pos b cap D ([110, 97, 110] ++ rest) a k)
   (hn : ns.length ≤ 400000) (m : Nat) (hm : m = ([110, 97, 110] ++ rest).length) :
   Calls Try.prog 69 #[.pointer (some ⟨g, 0, none⟩), .slice (some a) m k] w (ValRead 10 B g b cap false D left ns err nest [110, 97, 110] rest w) := by
 have HC := Lib.hid (parseKw_any (kind := 10) hps hi (by decide) (by decide) hrest hp hn m hm)
 have ha := hp.addr (by simp)
 have c0 := (hi.doc.suffix hp.suf).head.1
 rw [← ha] at c0
 have hml : 1 ≤ m := by rw [hm]; simp
 clear hp hi hps hm ha
 go_enter Try.func69, Try.ntmps69
 go_wp2_with fail
 refine HC.out.mono ?_
 rintro e w1 ⟨ro, rl, dv, a1, k1, rfl, hp1, hps1, hd1, hf1⟩
 have HP1 := Lib.hid hp1
 have HPS1 := Lib.hid hps1
 have HD1 := Lib.hid hd1
 have HF1 := Lib.hid hf1
 clear hp1 hps1 hd1 hf1
 go_wp2_with fail
 go_ret3
 exact valRead_ret HP1.out HPS1.out HD1.out HF1.out
theorem Digit.vfacts {c : UInt8} (h : Digit c) : ((c.toNat : Int) == 34) = false ∧ ((c.toNat : Int) == 39) = false ∧ ((c.toNat : Int) == 116) = false ∧ ((c.toNat : Int) == 102) = false ∧ ((c.toNat : Int) == 105) = false ∧ ((c.toNat : Int) == 110) = false ∧ ((c.toNat : Int) == 91) = false ∧ ((c.toNat : Int) == 123) = false ∧ ((c.toNat : Int) == 43) = false ∧ ((c.toNat : Int) == 45) = false := by
 obtain ⟨h1, h2⟩ := h
 refine ⟨?_, ?_, ?_, ?_, ?_, ?_, ?_, ?_, ?_, ?_⟩ <;> (simp; omega)
set_option maxRecDepth 100000 in
set_option maxHeartbeats 1000000 in
theorem pv_date {B g b cap k kind : Nat} {D s rest : List UInt8} {left err : Value} {nest : Nat} {ns : List Nd} {w : World} {a : Addr} (hps : PS B w g b cap false D left ns err nest) (hi : Inp w b cap D) (hd : DtTxt kind s) (hst : dtStart s) (hh : ∃ c r, s = c :: r ∧ Digit c) (hf : Follow rest) (hp : Pos b cap D (s ++ rest) a k)
   (hn : ns.length ≤ 400000) (m : Nat) (hm : m = (s ++ rest).length) :
   Calls Try.prog 69 #[.pointer (some ⟨g, 0, none⟩), .slice (some a) m k] w (ValRead kind B g b cap false D left ns err nest s rest w) := by
 have HC := Lib.hid (parseDt_any hps hi hd hf hp hn m hm)
 obtain ⟨c, r, hs, hc⟩ := hh
 have ha := hp.addr (by rw [hs]; simp)
 have hb0 := hi.doc.suffix hp.suf
 have hr := hp.room
 have hl := hp.le
 have hbd := hi.bound
 have hft := hi.fits
 have hml : 1 ≤ m := by rw [hm, hs]; simp
 have HD := Lib.hid (dtStart_yes (k := k) (hst.append rest) hb0 hm (by omega) (by omega))
 have c0 : w.cell? a = some (.int .u8 c.toNat) := by rw [ha]; rw [hs] at hb0 ⊢; exact hb0.head.1
 rw [← ha] at HD
 obtain ⟨v34, v39, v116, v102, v105, v110, v91, v123, v43, v45⟩ := hc.vfacts
 have d1 := hc.1
 have d2 := hc.2
 clear hp hi hps hm hb0 hd hst hf hs ha hc hr hl
 go_enter Try.func69, Try.ntmps69
 go_wp2_with fail
 refine HD.out.mono ?_
 rintro e w1 ⟨rfl, rfl⟩
 go_wp2_with fail
 refine HC.out.mono ?_
 rintro e w1 ⟨ro, rl, dv, a1, k1, rfl, hp1, hps1, hd1, hf1⟩
 have HP1 := Lib.hid hp1
 have HPS1 := Lib.hid hps1
 have HD1 := Lib.hid hd1
 have HF1 := Lib.hid hf1
 clear hp1 hps1 hd1 hf1
 go_wp2_with fail
 go_ret3
 exact valRead_ret HP1.out HPS1.out HD1.out HF1.out
set_option maxRecDepth 100000 in
set_option maxHeartbeats 1000000 in
theorem pv_num {B g b cap k kind : Nat} {D s rest : List UInt8} {left err : Value} {nest : Nat} {ns : List Nd} {w : World} {a : Addr} (hps : PS B w g b cap false D left ns err nest) (hi : Inp w b cap D) (hd : NumTxt kind s) (hf : Follow rest) (hp : Pos b cap D (s ++ rest) a k)
   (hn : ns.length ≤ 400000) (m : Nat) (hm : m = (s ++ rest).length) :
   Calls Try.prog 69 #[.pointer (some ⟨g, 0, none⟩), .slice (some a) m k] w (ValRead kind B g b cap false D left ns err nest s rest w) := by
 have hrest : 0 < rest.length := by obtain ⟨c, r, rfl, _⟩ := hf; simp
 obtain ⟨c, r, hs, hh⟩ := hd.head
 have HC := Lib.hid (parseNum_any hps hi (by rw [hs]; simp) hrest hp hn m hm (numTxt_scan hi hd hf hp m hm))
 have ha := hp.addr (by rw [hs]; simp)
 have hb0 := hi.doc.suffix hp.suf
 have hr := hp.room
 have hl := hp.le
 have hbd := hi.bound
 have hft := hi.fits
 have hml : 1 ≤ m := by rw [hm, hs]; simp
 have c0 : w.cell? a = some (.int .u8 c.toNat) := by rw [ha]; rw [hs] at hb0 ⊢; exact hb0.head.1
 have hnd := hd.noDt
 rcases hh with hc | rfl | rfl
 · have HD : Hid (Calls Try.prog 80 #[.slice (some a) m k] w (fun e w' => e = .returned (.bool false) ∧ w' = w)) := by
     rw [ha]
     refine dtStart_no (k := k) (noDt_start ?_ (by rw [hs]; simp) hf) hb0 hm (by omega) (by omega)
     rcases hnd with ⟨q, h⟩ | ⟨q, h⟩ | h
     · rw [hs] at h; injection h with h _; subst h; exact absurd hc (by decide)
     · rw [hs] at h; injection h with h _; subst h; exact absurd hc (by decide)
     · exact h
   obtain ⟨v34, v39, v116, v102, v105, v110, v91, v123, v43, v45⟩ := hc.vfacts
   have d1 := hc.1
   have d2 := hc.2
   clear hp hi hps hm hb0 hd hf hs ha hc hr hl hnd
   go_enter Try.func69, Try.ntmps69
   go_wp2_with fail
   refine HD.out.mono ?_
   rintro e w1 ⟨rfl, rfl⟩
   go_wp2_with fail
   refine HC.out.mono ?_
   rintro e w1 ⟨ro, rl, dv, a1, k1, rfl, hp1, hps1, hd1, hf1⟩
   have HP1 := Lib.hid hp1
   have HPS1 := Lib.hid hps1
   have HD1 := Lib.hid hd1
   have HF1 := Lib.hid hf1
   clear hp1 hps1 hd1 hf1
   go_wp2_with fail
   go_ret3
   exact valRead_ret HP1.out HPS1.out HD1.out HF1.out
 · clear hp hi hps hm hb0 hd hf hs ha hr hl hnd
   go_enter Try.func69, Try.ntmps69
   go_wp2_with fail
   refine HC.out.mono ?_
   rintro e w1 ⟨ro, rl, dv, a1, k1, rfl, hp1, hps1, hd1, hf1⟩
   have HP1 := Lib.hid hp1
   have HPS1 := Lib.hid hps1
   have HD1 := Lib.hid hd1
   have HF1 := Lib.hid hf1
   clear hp1 hps1 hd1 hf1
   go_wp2_with fail
   go_ret3
   exact valRead_ret HP1.out HPS1.out HD1.out HF1.out
 · clear hp hi hps hm hb0 hd hf hs ha hr hl hnd
   go_enter Try.func69, Try.ntmps69
   go_wp2_with fail
   refine HC.out.mono ?_
   rintro e w1 ⟨ro, rl, dv, a1, k1, rfl, hp1, hps1, hd1, hf1⟩
   have HP1 := Lib.hid hp1
   have HPS1 := Lib.hid hps1
   have HD1 := Lib.hid hd1
   have HF1 := Lib.hid hf1
   clear hp1 hps1 hd1 hf1
   go_wp2_with fail
   go_ret3
   exact valRead_ret HP1.out HPS1.out HD1.out HF1.out
theorem pv_scal {B g b cap k : Nat} {D s t rest : List UInt8} {kd : Nat} {ks : List (List UInt8)} {left err : Value} {nest : Nat} {ns : List Nd} {w : World} {a : Addr} (hps : PS B w g b cap false D left ns err nest) (hi : Inp w b cap D) (hs : Scal kd t s) (hf : Follow rest) (hp : Pos b cap D (s ++ rest) a k)
   (hn : ns.length ≤ 400000) (m : Nat) (hm : m = (s ++ rest).length) :
   Calls Try.prog 69 #[.pointer (some ⟨g, 0, none⟩), .slice (some a) m k] w (VRead (.mk kd t [] ks) s.length B g b cap false D left ns err nest rest w) := by
 have hrest : 0 < rest.length := by obtain ⟨c, r, rfl, _⟩ := hf; simp
 have hsl : 1 ≤ s.length := by obtain ⟨c, r, rfl, _⟩ := hs.head; simp
 rcases hs with ⟨rfl, h | h | h | h⟩ | ⟨rfl, ⟨rfl, rfl | rfl⟩ | ⟨rfl, rfl | rfl⟩ | ⟨h4, h7, h1, h2, h3⟩ | ⟨hk, h⟩⟩
 · exact (pv_lit hps hi h hf hp hn m hm).mono fun e w' h => h.v (kd := 0) (by decide) hsl
 · exact (pv_bas hps hi h hf hp hn m hm).mono fun e w' h => h.v (kd := 0) (by decide) hsl
 · exact (pv_mlit hps hi h hf hp hn m hm).mono fun e w' h => h.v (kd := 0) (by decide) hsl
 · exact (pv_mbas hps hi h hf hp hn m hm).mono fun e w' h => h.v (kd := 0) (by decide) hsl
 · exact (pv_true hps hi hrest hp hn m hm).mono fun e w' h => h.v (kd := 3) (by decide) hsl
 · exact (pv_false hps hi hrest hp hn m hm).mono fun e w' h => h.v (kd := 3) (by decide) hsl
 · exact (pv_inf hps hi hrest hp hn m hm).mono fun e w' h => h.v (kd := 2) (by decide) hsl
 · exact (pv_nan hps hi hrest hp hn m hm).mono fun e w' h => h.v (kd := 2) (by decide) hsl
 · exact (pv_date hps hi h1 h2 h3 hf hp hn m hm).mono fun e w' h => h.v (kd := kd) (by omega) hsl
 · exact (pv_num hps hi h hf hp hn m hm).mono fun e w' h => h.v (kd := kd) (by omega) hsl
end Go.Proofs.Ytnlkbbpmpgdmiaa
