/- Words on memory that the walks of this seat use: bytes in a block, a block known whole, slices of the document, errors; The parser as plain functions on lists of bytes (its text, told in Lean; no program in sight); Walks of the parser's smallest functions; Eight bytes at a time: what the words' tests tell (plain facts); Eight bytes at a time: the walks; scanComment; The parser's memory: its struct, its nodes; push. -/
import Derived.Test.YtnlkbbpmpgdmiaaRows
import Derived.WalkKit
import Derived.WalkSpells
import Derived.WalkLawsBesides
import Derived.Outline
import Derived.Lib.Hide
import Derived.RegionTactic
import Derived.Deep.QuietTactic
import Derived.BigQuiet
import Derived.Deep.LoopGhost
import Derived.ArgAppend
import Derived.Laws.AppendOwn
namespace Go.Proofs.Ytnlkbbpmpgdmiaa
open Go.RowKit
set_option linter.unusedVariables false
set_option linter.unusedSimpArgs false
theorem ret_int {k : IntKind} {a b : Int} (h : a = b) : Ending.returned (.int k a) = .returned (.int k b) := by rw [h]
def Bts (w : World) (b off : Nat) (l : List UInt8) : Prop := ∀ k, k < l.length → w.cell? ⟨b, off + k, none⟩ = some (.int .u8 (l.getD k 0).toNat)
theorem Bts.alloc {w : World} {b off : Nat} {l : List UInt8} (h : Bts w b off l) (hb : b < w.heap.size) (o : Obj) : Bts (w.alloc o) b off l :=
 fun k hk => (World.cell?_alloc_lt w o ⟨b, off + k, none⟩ hb).trans (h k hk)
theorem Bts.setCell {w : World} {b off : Nat} {l : List UInt8} (h : Bts w b off l) {p : Addr} (hb : b ≠ p.block) (u : Value) : Bts (w.setCell p u) b off l :=
 fun k hk => (World.cell?_setCell_other w p ⟨b, off + k, none⟩ u (fun e => by subst e; exact hb rfl)).trans (h k hk)
theorem Bts.below {w w' : World} {B b off : Nat} {l : List UInt8} (h : Bts w b off l) (hb : Below B w w') (hB : b < B) : Bts w' b off l :=
 fun k hk => (hb.cell (p := ⟨b, off + k, none⟩) hB).trans (h k hk)
theorem Bts.drew {w : World} {b off : Nat} {l : List UInt8} (h : Bts w b off l) : Bts w.drew b off l := h
theorem Bts.pre {w : World} {b off : Nat} {p r : List UInt8} (h : Bts w b off (p ++ r)) : Bts w b off p := by
 intro k hk
 rw [h k (by simp; omega)]
 congr 3
 simp [List.getD, List.getElem?_append, hk]
theorem Bts.post {w : World} {b off : Nat} {p r : List UInt8} (h : Bts w b off (p ++ r)) : Bts w b (off + p.length) r := by
 intro k hk
 have h1 := h (p.length + k) (by simp; omega)
 rw [← Nat.add_assoc] at h1
 rw [h1]
 congr 3
 rw [List.getD_eq_getElem?_getD, List.getD_eq_getElem?_getD, List.getElem?_append_right (by omega), Nat.add_sub_cancel_left]
theorem Bts.head {w : World} {b off : Nat} {c : UInt8} {r : List UInt8} (h : Bts w b off (c :: r)) : w.cell? ⟨b, off, none⟩ = some (.int .u8 c.toNat) ∧ Bts w b (off + 1) r := by
 refine ⟨by simpa using h 0 (by simp), fun k hk => ?_⟩
 have h1 := h (k + 1) (by simp; omega)
 rw [show off + (k + 1) = off + 1 + k from by omega] at h1
 rw [h1]
 rfl
theorem Bts.drop {w : World} {b off : Nat} {l : List UInt8} (h : Bts w b off l) (k : Nat) (hk : k ≤ l.length) : Bts w b (off + k) (l.drop k) := by
 have h1 := h
 rw [← List.take_append_drop k l] at h1
 have h2 := h1.post
 rw [List.length_take, Nat.min_eq_left hk] at h2
 exact h2
theorem Bts.take {w : World} {b off : Nat} {l : List UInt8} (h : Bts w b off l) (k : Nat) : Bts w b off (l.take k) := by
 have h1 := h
 rw [← List.take_append_drop k l] at h1
 exact h1.pre
def Blk (w : World) (g : Nat) (t : TypeId) (cs : Array Value) : Prop := w.heap[g]? = some (.cells cs t (0, 0))
section
variable {w w' : World} {g : Nat} {t : TypeId} {cs : Array Value}
theorem Blk.lt (h : Blk w g t cs) : g < w.heap.size := by
 rcases Nat.lt_or_ge g w.heap.size with hlt | hge
 · exact hlt
 · unfold Blk at h
   rw [Array.getElem?_eq_none hge] at h
   cases h
theorem Blk.cell (h : Blk w g t cs) (i : Nat) : w.cell? ⟨g, i, none⟩ = cs[i]? := by
 unfold Blk at h
 simp [World.cell?, h]
theorem Blk.frozen (h : Blk w g t cs) (i : Nat) : w.frozen? ⟨g, i, none⟩ = false := by
 unfold Blk at h
 simp [World.frozen?, h]
theorem Blk.new (w : World) (t : TypeId) (cs : Array Value) : Blk (w.alloc (.cells cs t)) w.heap.size t cs := (MapKept.heap_alloc w _).1
theorem Blk.drew (h : Blk w g t cs) : Blk w.drew g t cs := h
theorem Blk.alloc (h : Blk w g t cs) (o : Obj) : Blk (w.alloc o) g t cs := (Below.heap_alloc w o g h.lt).trans h
theorem Blk.set_ (h : Blk w g t cs) (i : Nat) (u : Value) : Blk (w.setCell ⟨g, i, none⟩ u) g t (cs.setIfInBounds i u) := by
 unfold Blk at h ⊢
 simp [World.setCell, Array.getElem?_modify, h]
theorem Blk.far (h : Blk w g t cs) {p : Addr} (hp : g ≠ p.block) (u : Value) : Blk (w.setCell p u) g t cs := (Below.heap_setCell w p u g hp).trans h
theorem Blk.below {B : Nat} (h : Blk w g t cs) (hb : Below B w w') (hg : g < B) : Blk w' g t cs := (hb.block g hg).trans h
theorem Blk.ne_ {g' : Nat} {t' : TypeId} {cs' : Array Value} (h : Blk w g t cs) (h' : Blk w g' t' cs') (hne : t ≠ t') : g ≠ g' := by
 rintro rfl
 unfold Blk at h h'
 rw [h] at h'
 injection h' with h'
 injection h' with _ ht
 exact hne ht
end
def SV (b off cap : Nat) (l : List UInt8) (v : Value) : Prop := ∃ a : Addr, v = .slice (some a) l.length cap ∧ (0 < l.length → a = ⟨b, off, none⟩)
def IsErr (w : World) (v : Value) : Prop := ∃ (pe : Nat) (A : Option Addr) (hl hc : Nat) (msg : ByteArray), v = .iface 93 (.pointer (some ⟨pe, 0, none⟩)) ∧ Blk w pe 96 #[.slice A hl hc, .string msg, .slice none 0 0]
theorem IsErr.below {w w' : World} {v : Value} (h : IsErr w v) (hb : Below w.heap.size w w') : IsErr w' v := by
 obtain ⟨pe, A, hl, hc, msg, e, hk⟩ := h
 exact ⟨pe, A, hl, hc, msg, e, hk.below hb hk.lt⟩
theorem newErr_any (A : Option Addr) (hl hc : Nat) (msg : ByteArray) (w : World) :
   Calls Try.prog 35 #[.slice A hl hc, .string msg] w fun e w' => ∃ v, e = .returned v ∧ IsErr w' v ∧ Below w.heap.size w w' := by
 go_enter Try.func35, Try.ntmps35
 go_wp2
 go_ret
 exact ⟨_, rfl, ⟨w.heap.size, A, hl, hc, msg, rfl, Blk.new _ _ _⟩, (Below.refl _ _).alloc (Nat.le_refl _) _⟩
end Go.Proofs.Ytnlkbbpmpgdmiaa
namespace Go.Proofs.Ytnlkbbpmpgdmiaa
open Go.RowKit
set_option linter.unusedVariables false
set_option linter.unusedSimpArgs false
def skipWs : List UInt8 → List UInt8
 | [] => []
 | c :: r => if c.toNat = 32 ∨ c.toNat = 9 then skipWs r else c :: r
def eol : List UInt8 → Option (List UInt8)
 | [] => some []
 | c :: r => if c.toNat = 10 then some r else if c.toNat = 13 then (match r with | d :: q => if d.toNat = 10 then some q else none | [] => none) else none
def Rest (b off cap : Nat) (l r : List UInt8) (v : Value) : Prop := r <:+ l ∧ SV b (off + (l.length - r.length)) (cap - (l.length - r.length)) r v
theorem Bts.suffix {w : World} {b off : Nat} {l q : List UInt8} (h : Bts w b off l) (hq : q <:+ l) : Bts w b (off + (l.length - q.length)) q := by
 obtain ⟨p, rfl⟩ := hq
 have h1 := h.post
 rw [List.length_append, Nat.add_sub_cancel]
 exact h1
theorem Rest.self {b off cap : Nat} {l : List UInt8} {a : Addr} (ha : 0 < l.length → a = ⟨b, off, none⟩) : Rest b off cap l l (.slice (some a) l.length cap) :=
 ⟨List.suffix_refl _, a, by simp, fun h => by rw [ha h]; simp⟩
theorem Rest.mk' {b off cap : Nat} {l r : List UInt8} (hs : r <:+ l) {a : Addr} {n k : Nat} (h1 : n = r.length) (h2 : k = cap - (l.length - r.length)) (h3 : 0 < r.length → a = ⟨b, off + (l.length - r.length), none⟩) :
   Rest b off cap l r (.slice (some a) n k) := by
 subst h1 h2
 exact ⟨hs, a, rfl, h3⟩
theorem Rest.drop {b off cap : Nat} {l r : List UInt8} (m : Nat) (hr : r = l.drop m) {a : Addr} {n k : Nat} (h1 : n = l.length - m) (h2 : k = cap - m) (hm : m ≤ l.length) (h3 : m < l.length → a = ⟨b, off + m, none⟩) :
   Rest b off cap l r (.slice (some a) n k) := by
 subst hr
 have e : l.length - (l.drop m).length = m := by rw [List.length_drop]; omega
 refine Rest.mk' (List.drop_suffix _ _) (by rw [List.length_drop]; exact h1) (by rw [e]; exact h2) (fun h => ?_)
 rw [e]
 rw [List.length_drop] at h
 exact h3 (by omega)
theorem eol_lf {c : UInt8} {r : List UInt8} (e : c.toNat = 10) : eol (c :: r) = some r := by simp [eol, e]
theorem eol_crlf {c d : UInt8} {r : List UInt8} (e : c.toNat = 13) (e2 : d.toNat = 10) : eol (c :: d :: r) = some r := by
 have h : c.toNat ≠ 10 := by omega
 simp [eol, e, e2]
theorem eol_cr {c : UInt8} {r : List UInt8} (e : c.toNat = 13) (h : ∀ d q, r = d :: q → d.toNat ≠ 10) : eol (c :: r) = none := by
 cases r with
 | nil => simp [eol, e]
 | cons d q => simp [eol, e, h d q rfl]
theorem eol_other {c : UInt8} {r : List UInt8} (e : c.toNat ≠ 10) (e2 : c.toNat ≠ 13) : eol (c :: r) = none := by simp [eol, e, e2]
def slen : Value → Nat | .slice _ n _ => n | _ => 0
theorem skipWs_yes {x : UInt8} {r : List UInt8} (e : x.toNat = 32 ∨ x.toNat = 9) : skipWs (x :: r) = skipWs r := by
 rw [skipWs, if_pos e]
theorem skipWs_no {x : UInt8} {r : List UInt8} (e : ¬ (x.toNat = 32 ∨ x.toNat = 9)) : skipWs (x :: r) = x :: r := by
 rw [skipWs, if_neg e]
end Go.Proofs.Ytnlkbbpmpgdmiaa
namespace Go.Proofs.Ytnlkbbpmpgdmiaa
open Go.RowKit
set_option linter.unusedVariables false
set_option linter.unusedSimpArgs false
theorem skipWs_any (l : List UInt8) (b off cap : Nat) (a : Addr) (w : World) (hm : Bts w b off l) (hc : l.length ≤ cap) (hcb : l.length ≤ 140737488351232 ∧ cap ≤ 9223372036854775807) (ha : 0 < l.length → a = ⟨b, off, none⟩) :
   Calls Try.prog 34 #[.slice (some a) l.length cap] w fun e w' => ∃ v, e = .returned v ∧ Rest b off cap l (skipWs l) v ∧ w = w' := by
 have HM := Lib.hid hm
 have HA := Lib.hid ha
 clear hm ha
 go_enter Try.func34, Try.ntmps34
 go_wp2
 go_loop [0] (fun s => ∃ (q : List UInt8) (a' : Addr) (m k : Nat), s = .slice (some a') m k ∧ m = q.length ∧ q.length ≤ l.length ∧ k + l.length = cap + q.length ∧ Hid (q <:+ l ∧ skipWs l = skipWs q ∧ (0 < q.length → a' = ⟨b, off + (l.length - q.length), none⟩))) (fun s => slen s)
 case atStart => exact ⟨l, a, l.length, cap, rfl, rfl, by omega, by omega, List.suffix_refl _, rfl, fun h => by rw [HA.out h]; simp⟩
 case round =>
   obtain ⟨q, a', m, k, rfl, rfl, hq, hk, H⟩ := hrel
   cases q with
   | nil =>
     have HR : Hid (Rest b off cap l (skipWs l) (.slice (some a') 0 k)) := by
       obtain ⟨h1, h2, h3⟩ := H.out
       rw [h2]
       refine ⟨h1, a', ?_, fun h => by simp [skipWs] at h⟩
       simp [skipWs] at hk ⊢
       omega
     clear H
     go_wp2
     go_ret
     exact ⟨_, rfl, HR.out, rfl⟩
   | cons x r =>
     obtain ⟨h1, h2, h3⟩ := H.out
     have hx := (HM.out.suffix h1).head.1
     have ha' := h3 (by simp)
     have h4 := (List.suffix_cons x r).trans h1
     generalize hO : off + (l.length - (x :: r).length) = o at *
     subst ha'
     have hO1 : o + (r.length + 1) = off + l.length := by simp at hq hO; omega
     have hq' : r.length + 1 ≤ l.length := by simpa using hq
     have hk' : k + l.length = cap + (r.length + 1) := by simpa using hk
     have HO := Lib.hid hO
     have hk1 : 1 ≤ k := by omega
     have H1 := Lib.hid h1
     have H4 := Lib.hid h4
     have H2 := Lib.hid h2
     clear hO h1 h2 h3 h4 H hq hk
     by_cases e : x.toNat = 32 ∨ x.toNat = 9
     · have HS : Hid (skipWs l = skipWs r) := H2.out.trans (skipWs_yes e)
       have e2 : ((x.toNat : Int) == 32) = true ∨ ((x.toNat : Int) == 32) = false ∧ ((x.toNat : Int) == 9) = true := by
         rcases e with e | e
         · left; simp [e]
         · right; simp [e]
       clear e H2
       by_cases hk2 : k = 1
       · have hk3 := Lib.hid hk2
         rcases e2 with e2 | ⟨e2, e3⟩
         all_goals
           go_wp2
           go_round
           case rel => exact ⟨r, _, _, _, rfl, rfl, by omega, by have := hk3.out; omega, H4.out, HS.out, fun h => by have := hk3.out; omega⟩
           case measure => simp [slen]
       · rcases e2 with e2 | ⟨e2, e3⟩
         all_goals
           go_wp2
           go_round
           case rel => exact ⟨r, _, _, _, rfl, rfl, by omega, by omega, H4.out, HS.out, fun h => by rw [show o + 1 = off + (l.length - r.length) from by omega]⟩
           case measure => simp [slen]
     · have HR : Hid (Rest b off cap l (skipWs l) (.slice (some ⟨b, o, none⟩) (r.length + 1) k)) := by
         rw [H2.out, skipWs_no e]
         refine ⟨H1.out, ⟨b, o, none⟩, ?_, fun h => by rw [show off + (l.length - (x :: r).length) = o from HO.out]⟩
         rw [show cap - (l.length - (x :: r).length) = k from by simp; omega]
         rfl
       have e1 : ((x.toNat : Int) == 32) = false := by simp; omega
       have e2 : ((x.toNat : Int) == 9) = false := by simp; omega
       clear e H2
       go_wp2
       go_ret
       exact ⟨_, rfl, HR.out, rfl⟩
def RestOr (b off cap : Nat) (l : List UInt8) (o : Option (List UInt8)) (w : World) (e : Ending) (w' : World) : Prop :=
 match o with
 | some r => ∃ v, e = .returned (.tuple #[v, .nilIface]) ∧ Rest b off cap l r v ∧ w = w'
 | none => ∃ x, e = .returned (.tuple #[.slice none 0 0, x]) ∧ IsErr w' x ∧ Below w.heap.size w w'
theorem eol_any (l : List UInt8) (b off cap : Nat) (a : Addr) (w : World) (hm : Bts w b off l) (hc : l.length ≤ cap) (hcb : l.length ≤ 140737488351232 ∧ cap ≤ 9223372036854775807) (ha : 0 < l.length → a = ⟨b, off, none⟩) :
   Calls Try.prog 37 #[.slice (some a) l.length cap] w (RestOr b off cap l (eol l) w) := by
 cases l with
 | nil =>
   go_enter Try.func37, Try.ntmps37
   go_wp2
   go_ret2
   exact ⟨_, rfl, ⟨List.suffix_refl _, a, by simp, fun h => by simp at h⟩, rfl⟩
 | cons c r =>
   have ha1 := ha (by simp)
   subst ha1
   have h0 := hm.head.1
   have h1 := hm.head.2
   have hr : r.length + 1 ≤ cap := by simpa using hc
   clear hm hc ha
   by_cases e10 : c.toNat = 10
   · have t : ((c.toNat : Int) == 10) = true := by simp [e10]
     have HE := Lib.hid (eol_lf (r := r) e10)
     clear e10
     by_cases hk : cap = 1
     · go_enter Try.func37, Try.ntmps37
       go_wp2
       go_ret2
       rw [HE.out]
       exact ⟨_, rfl, Rest.drop 1 rfl (by simp) (by omega) (by simp) (fun h => by simp at h; omega), rfl⟩
     · go_enter Try.func37, Try.ntmps37
       go_wp2
       go_ret2
       rw [HE.out]
       exact ⟨_, rfl, Rest.drop 1 rfl (by simp) (by omega) (by simp) (fun h => rfl), rfl⟩
   · have t10 : ((c.toNat : Int) == 10) = false := by simp; omega
     by_cases e13 : c.toNat = 13
     · have t13 : ((c.toNat : Int) == 13) = true := by simp [e13]
       cases r with
       | nil =>
         have HE := Lib.hid (eol_cr (r := []) e13 (fun d q h => by cases h))
         clear e10 e13
         go_enter Try.func37, Try.ntmps37
         go_wp2_with fail
         refine (newErr_any _ _ _ _ _).mono ?_
         rintro e w1 ⟨v, rfl, hv, hb⟩
         go_wp2_with fail
         go_ret2
         rw [HE.out]
         exact ⟨_, rfl, hv, hb⟩
       | cons d q =>
         have h2 := h1.head.1
         by_cases d10 : d.toNat = 10
         · have HE := Lib.hid (eol_crlf (r := q) e13 d10)
           have u10 : ((d.toNat : Int) == 10) = true := by simp [d10]
           have hr2 : 2 ≤ cap := by simp at hr; omega
           have hr3 : q.length + 2 ≤ cap := by simp at hr; omega
           clear e10 e13 d10 h1 hr
           by_cases hk : cap = 2
           · go_enter Try.func37, Try.ntmps37
             go_wp2
             go_ret2
             rw [HE.out]
             exact ⟨_, rfl, Rest.drop 2 rfl (by simp) (by omega) (by simp) (fun h => by simp at h; omega), rfl⟩
           · go_enter Try.func37, Try.ntmps37
             go_wp2
             go_ret2
             rw [HE.out]
             exact ⟨_, rfl, Rest.drop 2 rfl (by simp) (by omega) (by simp) (fun h => rfl), rfl⟩
         · have HE := Lib.hid (eol_cr (r := d :: q) e13 (fun x y h => by injection h with h1 _; rw [← h1]; exact d10))
           have u10 : ((d.toNat : Int) == 10) = false := by simp; omega
           have hr2 : 2 ≤ cap := by simp at hr; omega
           clear e10 e13 d10 h1
           go_enter Try.func37, Try.ntmps37
           go_wp2_with fail
           refine (newErr_any _ _ _ _ _).mono ?_
           rintro e w1 ⟨v, rfl, hv, hb⟩
           go_wp2_with fail
           go_ret2
           rw [HE.out]
           exact ⟨_, rfl, hv, hb⟩
     · have t13 : ((c.toNat : Int) == 13) = false := by simp; omega
       have HE := Lib.hid (eol_other (r := r) e10 e13)
       clear e10 e13
       go_enter Try.func37, Try.ntmps37
       go_wp2_with fail
       refine (newErr_any _ _ _ _ _).mono ?_
       rintro e w1 ⟨v, rfl, hv, hb⟩
       go_wp2_with fail
       go_ret2
       rw [HE.out]
       exact ⟨_, rfl, hv, hb⟩
end Go.Proofs.Ytnlkbbpmpgdmiaa
namespace Go.Proofs.Ytnlkbbpmpgdmiaa
open Go.RowKit
set_option linter.unusedVariables false
set_option linter.unusedSimpArgs false
theorem ofInt_nat (a : Nat) (h : a < 18446744073709551616) : (BitVec.ofInt 64 (a : Int)).toNat = a := by
 rw [BitVec.ofInt_natCast, BitVec.toNat_ofNat]
 exact Nat.mod_eq_of_lt h
theorem wrap_nat (n : Nat) (h : n < 18446744073709551616) : IntKind.u64.wrap (n : Int) = n := by
 simp only [IntKind.wrap]
 simp [IntKind.bits, IntKind.signed]
 omega
theorem u64_and (a b : Nat) (ha : a < 18446744073709551616) (hb : b < 18446744073709551616) : bits .and .u64 (a : Int) (b : Int) = ((a &&& b : Nat) : Int) := by
 show IntKind.u64.wrap ((BitVec.ofInt 64 (a : Int) &&& BitVec.ofInt 64 (b : Int)).toNat : Int) = _
 rw [BitVec.toNat_and, ofInt_nat _ ha, ofInt_nat _ hb]
 exact wrap_nat _ (Nat.lt_of_le_of_lt Nat.and_le_left ha)
theorem u64_or (a b : Nat) (ha : a < 18446744073709551616) (hb : b < 18446744073709551616) : bits .or .u64 (a : Int) (b : Int) = ((a ||| b : Nat) : Int) := by
 show IntKind.u64.wrap ((BitVec.ofInt 64 (a : Int) ||| BitVec.ofInt 64 (b : Int)).toNat : Int) = _
 rw [BitVec.toNat_or, ofInt_nat _ ha, ofInt_nat _ hb]
 exact wrap_nat _ (Nat.or_lt_two_pow (n := 64) ha hb)
theorem u64_xor (a b : Nat) (ha : a < 18446744073709551616) (hb : b < 18446744073709551616) : bits .xor .u64 (a : Int) (b : Int) = ((a ^^^ b : Nat) : Int) := by
 show IntKind.u64.wrap ((BitVec.ofInt 64 (a : Int) ^^^ BitVec.ofInt 64 (b : Int)).toNat : Int) = _
 rw [BitVec.toNat_xor, ofInt_nat _ ha, ofInt_nat _ hb]
 exact wrap_nat _ (Nat.xor_lt_two_pow (n := 64) ha hb)
theorem u64_sub (a b : Nat) (ha : a < 18446744073709551616) (hb : b < 18446744073709551616) : IntKind.u64.wrap ((a : Int) - b) = (((a + 18446744073709551616 - b) % 18446744073709551616 : Nat) : Int) := by
 simp only [IntKind.wrap]
 simp [IntKind.bits, IntKind.signed]
 omega
def num8 (c0 c1 c2 c3 c4 c5 c6 c7 : Nat) : Nat := c0 + 256 * (c1 + 256 * (c2 + 256 * (c3 + 256 * (c4 + 256 * (c5 + 256 * (c6 + 256 * c7))))))
def hbb (x n : Nat) : Nat := (((x + 18446744073709551616 - n * 72340172838076673) % 18446744073709551616) &&& (18446744073709551615 ^^^ x)) &&& 9259542123273814144
def hbe (x c : Nat) : Nat := hbb (x ^^^ (c * 72340172838076673)) 1
theorem msb_bit (i : Nat) (h : i < 8) : Nat.testBit 9259542123273814144 (8 * i + 7) = true := by
 have hi : i = 0 ∨ i = 1 ∨ i = 2 ∨ i = 3 ∨ i = 4 ∨ i = 5 ∨ i = 6 ∨ i = 7 := by omega
 rcases hi with h | h | h | h | h | h | h | h <;> subst h <;> decide
theorem max_bit (i : Nat) (h : i < 64) : Nat.testBit 18446744073709551615 i = true := by
 rw [show (18446744073709551615 : Nat) = 2 ^ 64 - 1 from rfl, Nat.testBit_two_pow_sub_one]
 simpa using h
theorem and_msb {p : Nat} (h : p &&& 9259542123273814144 = 0) (i : Nat) (hi : i < 8) : Nat.testBit p (8 * i + 7) = false := by
 have h1 := congrArg (fun z => Nat.testBit z (8 * i + 7)) h
 simp only [Nat.testBit_and, Nat.zero_testBit, msb_bit i hi, Bool.and_true] at h1
 exact h1
theorem hbb_bit {x n : Nat} (hx : x &&& 9259542123273814144 = 0) (h : hbb x n = 0) (i : Nat) (hi : i < 8) : Nat.testBit ((x + 18446744073709551616 - n * 72340172838076673) % 18446744073709551616) (8 * i + 7) = false := by
 have h1 := and_msb h i hi
 rw [Nat.testBit_and, Nat.testBit_xor, max_bit _ (by omega), and_msb hx i hi] at h1
 simpa using h1
theorem byte_lt {p : Nat} (i : Nat) (h : Nat.testBit p (8 * i + 7) = false) : p / 256 ^ i % 256 < 128 := by
 have h1 : p / 2 ^ (8 * i + 7) % 2 = 0 := by
   rw [Nat.testBit_eq_decide_div_mod_eq] at h
   have := of_decide_eq_false h
   omega
 have h2 : 2 ^ (8 * i + 7) = 256 ^ i * 128 := by
   rw [Nat.pow_add, Nat.pow_mul]
 rw [h2, ← Nat.div_div_eq_div_mul] at h1
 generalize p / 256 ^ i = q at *
 omega
theorem bytes_of (p : Nat) (hp : p < 18446744073709551616) (h : ∀ i, i < 8 → Nat.testBit p (8 * i + 7) = false) :
   ∃ d0 d1 d2 d3 d4 d5 d6 d7 : Nat, p = num8 d0 d1 d2 d3 d4 d5 d6 d7 ∧ d0 < 128 ∧ d1 < 128 ∧ d2 < 128 ∧ d3 < 128 ∧ d4 < 128 ∧ d5 < 128 ∧ d6 < 128 ∧ d7 < 128 := by
 have b0 := byte_lt 0 (h 0 (by omega))
 have b1 := byte_lt 1 (h 1 (by omega))
 have b2 := byte_lt 2 (h 2 (by omega))
 have b3 := byte_lt 3 (h 3 (by omega))
 have b4 := byte_lt 4 (h 4 (by omega))
 have b5 := byte_lt 5 (h 5 (by omega))
 have b6 := byte_lt 6 (h 6 (by omega))
 have b7 := byte_lt 7 (h 7 (by omega))
 refine ⟨_, _, _, _, _, _, _, _, ?_, b0, b1, b2, b3, b4, b5, b6, b7⟩
 clear b0 b1 b2 b3 b4 b5 b6 b7 h
 unfold num8
 omega
theorem lower (n x : Nat) (hn : n ≤ 128) {c0 c1 c2 c3 c4 c5 c6 c7 : Nat} (hx : x = num8 c0 c1 c2 c3 c4 c5 c6 c7) (k0 : c0 ≤ 255) (k1 : c1 ≤ 255) (k2 : c2 ≤ 255) (k3 : c3 ≤ 255) (k4 : c4 ≤ 255) (k5 : c5 ≤ 255) (k6 : c6 ≤ 255) (k7 : c7 ≤ 255)
   (h1 : x &&& 9259542123273814144 = 0) (h2 : hbb x n = 0) : n ≤ c0 ∧ n ≤ c1 ∧ n ≤ c2 ∧ n ≤ c3 ∧ n ≤ c4 ∧ n ≤ c5 ∧ n ≤ c6 ∧ n ≤ c7 := by
 obtain ⟨d0, d1, d2, d3, d4, d5, d6, d7, hp, e0, e1, e2, e3, e4, e5, e6, e7⟩ := bytes_of _ (Nat.mod_lt _ (by omega)) (fun i hi => hbb_bit h1 h2 i hi)
 have hxl : x < 18446744073709551616 := by rw [hx]; unfold num8; omega
 have hpl : num8 d0 d1 d2 d3 d4 d5 d6 d7 + n * 72340172838076673 = x := by
   have h3 : num8 d0 d1 d2 d3 d4 d5 d6 d7 + n * 72340172838076673 < 18446744073709551616 := by unfold num8; omega
   omega
 rw [hx] at hpl
 clear hp h1 h2 hxl hx
 unfold num8 at hpl
 have g0 : c0 = d0 + n := by omega
 subst g0
 have g1 : c1 = d1 + n := by omega
 subst g1
 have g2 : c2 = d2 + n := by omega
 subst g2
 have g3 : c3 = d3 + n := by omega
 subst g3
 have g4 : c4 = d4 + n := by omega
 subst g4
 have g5 : c5 = d5 + n := by omega
 subst g5
 have g6 : c6 = d6 + n := by omega
 subst g6
 omega
end Go.Proofs.Ytnlkbbpmpgdmiaa
namespace Go.Proofs.Ytnlkbbpmpgdmiaa
open Go.RowKit
set_option linter.unusedVariables false
set_option linter.unusedSimpArgs false
theorem or_step (a b : Nat) (i : Nat) (ha : a < 2 ^ i) : a ||| (b * 2 ^ i) = a + b * 2 ^ i := by
 rw [Nat.or_comm, Nat.mul_comm b, ← Nat.two_pow_add_eq_or_of_lt ha, Nat.add_comm]
theorem and_le_l (a b : Nat) : a &&& b ≤ a := Nat.and_le_left
theorem hbb_bits (x n : Nat) (hx : x < 18446744073709551616) (hn : n < 128) :
   bits .and .u64 (bits .and .u64 (IntKind.u64.wrap ((x : Int) - (n : Int) * 72340172838076673)) (bits .xor .u64 IntKind.u64.max (x : Int))) 9259542123273814144 = ((hbb x n : Nat) : Int) := by
 rw [show (n : Int) * 72340172838076673 = ((n * 72340172838076673 : Nat) : Int) from by omega, u64_sub _ _ hx (by omega),
   show IntKind.u64.max = ((18446744073709551615 : Nat) : Int) from by decide, u64_xor _ _ (by omega) hx,
   u64_and _ _ (Nat.mod_lt _ (by omega)) (Nat.xor_lt_two_pow (n := 64) (by omega) hx),
   show (9259542123273814144 : Int) = ((9259542123273814144 : Nat) : Int) from rfl, u64_and _ _ (Nat.lt_of_le_of_lt (and_le_l _ _) (Nat.mod_lt _ (by omega))) (by omega)]
 rfl
theorem hbb_any (x n : Nat) (hx : x < 18446744073709551616) (hn : n < 128) (w : World) :
   Calls Try.prog 57 #[.int .u64 x, .int .u64 n] w fun e w' => e = .returned (.int .u64 (hbb x n : Nat)) ∧ w = w' := by
 go_enter Try.func57, Try.ntmps57
 go_wp2
 go_ret
 exact ⟨ret_int (hbb_bits x n hx hn), rfl⟩
theorem hbe_any (x n : Nat) (hx : x < 18446744073709551616) (hn : n < 128) (w : World) :
   Calls Try.prog 58 #[.int .u64 x, .int .u64 n] w fun e w' => e = .returned (.int .u64 (hbe x n : Nat)) ∧ w = w' := by
 go_enter Try.func58, Try.ntmps58
 go_wp2
 go_ret
 refine ⟨ret_int ?_, rfl⟩
 rw [show (n : Int) * 72340172838076673 = ((n * 72340172838076673 : Nat) : Int) from by omega, u64_xor _ _ hx (by omega)]
 have h1 := hbb_bits (x ^^^ (n * 72340172838076673)) 1 (Nat.xor_lt_two_pow (n := 64) hx (by omega)) (by omega)
 simpa [hbe] using h1
theorem num8_bits (c0 c1 c2 c3 c4 c5 c6 c7 : UInt8) :
   bits .or .u64 (bits .or .u64 (bits .or .u64 (bits .or .u64 (bits .or .u64 (bits .or .u64 (bits .or .u64 (IntKind.u64.wrap c0.toNat) (IntKind.u64.wrap (IntKind.u64.wrap c1.toNat * 256)))
     (IntKind.u64.wrap (IntKind.u64.wrap c2.toNat * 65536))) (IntKind.u64.wrap (IntKind.u64.wrap c3.toNat * 16777216))) (IntKind.u64.wrap (IntKind.u64.wrap c4.toNat * 4294967296)))
     (IntKind.u64.wrap (IntKind.u64.wrap c5.toNat * 1099511627776))) (IntKind.u64.wrap (IntKind.u64.wrap c6.toNat * 281474976710656))) (IntKind.u64.wrap (IntKind.u64.wrap c7.toNat * 72057594037927936))
     = ((num8 c0.toNat c1.toNat c2.toNat c3.toNat c4.toNat c5.toNat c6.toNat c7.toNat : Nat) : Int) := by
 have k0 := c0.toNat_lt; have k1 := c1.toNat_lt; have k2 := c2.toNat_lt; have k3 := c3.toNat_lt
 have k4 := c4.toNat_lt; have k5 := c5.toNat_lt; have k6 := c6.toNat_lt; have k7 := c7.toNat_lt
 generalize c0.toNat = d0 at *; generalize c1.toNat = d1 at *; generalize c2.toNat = d2 at *; generalize c3.toNat = d3 at *
 generalize c4.toNat = d4 at *; generalize c5.toNat = d5 at *; generalize c6.toNat = d6 at *; generalize c7.toNat = d7 at *
 rw [wrap_nat d0 (by omega), wrap_nat d1 (by omega), wrap_nat d2 (by omega), wrap_nat d3 (by omega), wrap_nat d4 (by omega), wrap_nat d5 (by omega), wrap_nat d6 (by omega), wrap_nat d7 (by omega)]
 rw [show (d1 : Int) * 256 = ((d1 * 2 ^ 8 : Nat) : Int) from by omega, show (d2 : Int) * 65536 = ((d2 * 2 ^ 16 : Nat) : Int) from by omega, show (d3 : Int) * 16777216 = ((d3 * 2 ^ 24 : Nat) : Int) from by omega,
   show (d4 : Int) * 4294967296 = ((d4 * 2 ^ 32 : Nat) : Int) from by omega, show (d5 : Int) * 1099511627776 = ((d5 * 2 ^ 40 : Nat) : Int) from by omega,
   show (d6 : Int) * 281474976710656 = ((d6 * 2 ^ 48 : Nat) : Int) from by omega, show (d7 : Int) * 72057594037927936 = ((d7 * 2 ^ 56 : Nat) : Int) from by omega]
 rw [wrap_nat (d1 * 2 ^ 8) (by omega), wrap_nat (d2 * 2 ^ 16) (by omega), wrap_nat (d3 * 2 ^ 24) (by omega), wrap_nat (d4 * 2 ^ 32) (by omega), wrap_nat (d5 * 2 ^ 40) (by omega), wrap_nat (d6 * 2 ^ 48) (by omega), wrap_nat (d7 * 2 ^ 56) (by omega)]
 rw [u64_or d0 (d1 * 2 ^ 8) (by omega) (by omega), or_step d0 d1 8 (by omega)]
 rw [u64_or _ (d2 * 2 ^ 16) (by omega) (by omega), or_step _ d2 16 (by omega)]
 rw [u64_or _ (d3 * 2 ^ 24) (by omega) (by omega), or_step _ d3 24 (by omega)]
 rw [u64_or _ (d4 * 2 ^ 32) (by omega) (by omega), or_step _ d4 32 (by omega)]
 rw [u64_or _ (d5 * 2 ^ 40) (by omega) (by omega), or_step _ d5 40 (by omega)]
 rw [u64_or _ (d6 * 2 ^ 48) (by omega) (by omega), or_step _ d6 48 (by omega)]
 rw [u64_or _ (d7 * 2 ^ 56) (by omega) (by omega), or_step _ d7 56 (by omega)]
 unfold num8
 omega
theorem leU_any (c0 c1 c2 c3 c4 c5 c6 c7 : UInt8) (r : List UInt8) (b off cap : Nat) (w : World) (hm : Bts w b off (c0 :: c1 :: c2 :: c3 :: c4 :: c5 :: c6 :: c7 :: r)) (hc : r.length + 8 ≤ cap) (hcb : r.length + 8 ≤ 140737488351232 ∧ cap ≤ 9223372036854775807) :
   Calls Try.prog 56 #[.slice (some ⟨b, off, none⟩) (r.length + 8) cap] w fun e w' => e = .returned (.int .u64 (num8 c0.toNat c1.toNat c2.toNat c3.toNat c4.toNat c5.toNat c6.toNat c7.toNat : Nat)) ∧ ∃ n, w' = w.drewN n := by
 obtain ⟨h0, hm⟩ := hm.head
 obtain ⟨h1, hm⟩ := hm.head
 obtain ⟨h2, hm⟩ := hm.head
 obtain ⟨h3, hm⟩ := hm.head
 obtain ⟨h4, hm⟩ := hm.head
 obtain ⟨h5, hm⟩ := hm.head
 obtain ⟨h6, hm⟩ := hm.head
 obtain ⟨h7, hm⟩ := hm.head
 clear hm
 go_enter Try.func56, Try.ntmps56
 go_wp2
 go_quiet (fail)
 go_wp2
 go_ret
 exact ⟨ret_int (num8_bits c0 c1 c2 c3 c4 c5 c6 c7), nq, rfl⟩
end Go.Proofs.Ytnlkbbpmpgdmiaa
namespace Go.Proofs.Ytnlkbbpmpgdmiaa
open Go.RowKit
set_option linter.unusedVariables false
set_option linter.unusedSimpArgs false
def Plain (c : UInt8) : Prop := 32 ≤ c.toNat ∧ c.toNat ≤ 126
def LineEnd (l : List UInt8) : Prop := l = [] ∨ (∃ r, l = 10 :: r) ∨ (∃ r, l = 13 :: 10 :: r)
theorem Bts.drewN {w : World} {b off : Nat} {l : List UInt8} (h : Bts w b off l) (n : Nat) : Bts (w.drewN n) b off l := h
theorem LineEnd.low {l : List UInt8} (h : LineEnd l) (c : UInt8) (r : List UInt8) (e : l = c :: r) : c.toNat < 32 := by
 rcases h with h | ⟨q, h⟩ | ⟨q, h⟩
 · rw [h] at e; cases e
 · rw [h] at e; injection e with e _; subst e; decide
 · rw [h] at e; injection e with e _; subst e; decide
theorem eight {q s : List UInt8} (h : 8 ≤ q.length + s.length) : ∃ c0 c1 c2 c3 c4 c5 c6 c7 r, q ++ s = c0 :: c1 :: c2 :: c3 :: c4 :: c5 :: c6 :: c7 :: r := by
 rw [← List.length_append] at h
 generalize q ++ s = l at h
 match l, h with
 | c0 :: c1 :: c2 :: c3 :: c4 :: c5 :: c6 :: c7 :: r, _ => exact ⟨c0, c1, c2, c3, c4, c5, c6, c7, r, rfl⟩
theorem in_line {q s : List UInt8} (hs : ∀ c r, s = c :: r → c.toNat < 32) {c0 c1 c2 c3 c4 c5 c6 c7 : UInt8} {r : List UInt8} (h : q ++ s = c0 :: c1 :: c2 :: c3 :: c4 :: c5 :: c6 :: c7 :: r)
   (k0 : 32 ≤ c0.toNat) (k1 : 32 ≤ c1.toNat) (k2 : 32 ≤ c2.toNat) (k3 : 32 ≤ c3.toNat) (k4 : 32 ≤ c4.toNat) (k5 : 32 ≤ c5.toNat) (k6 : 32 ≤ c6.toNat) (k7 : 32 ≤ c7.toNat) :
   ∃ q', q = c0 :: c1 :: c2 :: c3 :: c4 :: c5 :: c6 :: c7 :: q' := by
 have one : ∀ (q : List UInt8) {c : UInt8} {r : List UInt8}, q ++ s = c :: r → 32 ≤ c.toNat → ∃ q', q = c :: q' ∧ q' ++ s = r := by
   intro q c r h hc
   cases q with
   | nil => exact absurd (hs c r h) (by omega)
   | cons d q' => injection h with h1 h2; subst h1; exact ⟨q', rfl, h2⟩
 obtain ⟨q0, e0, h0⟩ := one q h k0
 obtain ⟨q1, e1, h1⟩ := one q0 h0 k1
 obtain ⟨q2, e2, h2⟩ := one q1 h1 k2
 obtain ⟨q3, e3, h3⟩ := one q2 h2 k3
 obtain ⟨q4, e4, h4⟩ := one q3 h3 k4
 obtain ⟨q5, e5, h5⟩ := one q4 h4 k5
 obtain ⟨q6, e6, h6⟩ := one q5 h5 k6
 obtain ⟨q7, e7, h7⟩ := one q6 h6 k7
 exact ⟨q7, by rw [e0, e1, e2, e3, e4, e5, e6, e7]⟩
def ScanOk (b off cap m : Nat) (l r : List UInt8) (w : World) (e : Ending) (w' : World) : Prop :=
 ∃ v, e = .returned (.tuple #[.slice (some ⟨b, off, none⟩) m cap, v, .nilIface]) ∧ Rest b off cap l r v ∧ ∃ n, w' = w.drewN n
theorem leU_at (m : Nat) (c0 c1 c2 c3 c4 c5 c6 c7 : UInt8) (r : List UInt8) (b off cap : Nat) (w : World) (hm : Bts w b off (c0 :: c1 :: c2 :: c3 :: c4 :: c5 :: c6 :: c7 :: r)) (hl : m = r.length + 8) (hc : r.length + 8 ≤ cap) (hcb : r.length + 8 ≤ 140737488351232 ∧ cap ≤ 9223372036854775807) :
   Calls Try.prog 56 #[.slice (some ⟨b, off, none⟩) m cap] w fun e w' => e = .returned (.int .u64 (num8 c0.toNat c1.toNat c2.toNat c3.toNat c4.toNat c5.toNat c6.toNat c7.toNat : Nat)) ∧ ∃ n, w' = w.drewN n := by
 subst hl
 exact leU_any c0 c1 c2 c3 c4 c5 c6 c7 r b off cap w hm hc hcb
theorem num8_lt (c0 c1 c2 c3 c4 c5 c6 c7 : UInt8) : num8 c0.toNat c1.toNat c2.toNat c3.toNat c4.toNat c5.toNat c6.toNat c7.toNat < 18446744073709551616 := by
 have k0 := c0.toNat_lt; have k1 := c1.toNat_lt; have k2 := c2.toNat_lt; have k3 := c3.toNat_lt
 have k4 := c4.toNat_lt; have k5 := c5.toNat_lt; have k6 := c6.toNat_lt; have k7 := c7.toNat_lt
 unfold num8
 omega
theorem hbb_lt (x n : Nat) : hbb x n < 18446744073709551616 := Nat.lt_of_le_of_lt Nat.and_le_right (by omega)
theorem hbe_lt (x n : Nat) : hbe x n < 18446744073709551616 := hbb_lt _ _
theorem at_suffix {w : World} {b off : Nat} {c0 : UInt8} {p rest q : List UInt8} (h : Bts w b off (c0 :: (p ++ rest))) (hq : q <:+ p) {k : Nat} (hk : k + q.length = p.length + 1) : Bts w b (off + k) (q ++ rest) := by
 have h1 : q ++ rest <:+ c0 :: (p ++ rest) := by
   obtain ⟨t, rfl⟩ := hq
   exact ⟨c0 :: t, by simp⟩
 have h2 := h.suffix h1
 have e : (c0 :: (p ++ rest)).length - (q ++ rest).length = k := by simp; omega
 rw [e] at h2
 exact h2
theorem scan_fin {w w' : World} {b off cap k R k2 c2 m c3 : Nat} {c0 : UInt8} {p rest : List UInt8} (hR : rest.length = R) (hk : k = p.length + 1) (hc : p.length + R + 1 ≤ cap) {A : Addr} (hA : 0 < R → A = ⟨b, off + k, none⟩)
   (e1 : k2 = k) (e2 : c2 = cap) (e3 : m = R) (e4 : c3 = cap - k) (hw : ∃ n, w' = w.drewN n) :
   ScanOk b off cap (p.length + 1) (c0 :: (p ++ rest)) rest w (.returned (.tuple #[.slice (some ⟨b, off, none⟩) k2 c2, .slice (some A) m c3, .nilIface])) w' := by
 subst hk hR e1 e2 e3 e4
 refine ⟨_, rfl, Rest.drop (p.length + 1) (by simp) (by simp) rfl (by simp) (fun h => hA (by simp at h; omega)), hw⟩
def wordBad (X : Nat) : Bool := bits .or .u64 (bits .or .u64 (bits .and .u64 X 9259542123273814144) (hbb X 32 : Nat)) (hbe X 127 : Nat) != 0
theorem or_zero {a b : Nat} (h : a ||| b = 0) : a = 0 ∧ b = 0 := by
 constructor
 · exact Nat.eq_zero_of_le_zero (h ▸ Nat.left_le_or)
 · exact Nat.eq_zero_of_le_zero (h ▸ Nat.right_le_or)
theorem wordBad_low {X : Nat} (hX : X < 18446744073709551616) (h : wordBad X = false) : X &&& 9259542123273814144 = 0 ∧ hbb X 32 = 0 ∧ hbe X 127 = 0 := by
 unfold wordBad at h
 have hand : X &&& 9259542123273814144 < 18446744073709551616 := Nat.lt_of_le_of_lt Nat.and_le_left hX
 rw [show (9259542123273814144 : Int) = ((9259542123273814144 : Nat) : Int) from rfl, u64_and _ _ hX (by omega), u64_or _ _ hand (hbb_lt _ _), u64_or _ _ (Nat.or_lt_two_pow (n := 64) hand (hbb_lt _ _)) (hbe_lt _ _)] at h
 have h2 : ((X &&& 9259542123273814144) ||| hbb X 32) ||| hbe X 127 = 0 := by
   simpa using h
 obtain ⟨h3, h4⟩ := or_zero h2
 obtain ⟨h5, h6⟩ := or_zero h3
 exact ⟨h5, h6, h4⟩
set_option maxRecDepth 100000 in
set_option maxHeartbeats 4000000 in
theorem scanComment_any (c0 : UInt8) (p rest : List UInt8) (hp : ∀ c ∈ p, Plain c) (hr : LineEnd rest) (b off cap : Nat) (w : World) (hm : Bts w b off (c0 :: (p ++ rest))) (hc : p.length + rest.length + 1 ≤ cap) (hcb : p.length + rest.length + 1 ≤ 140737488351232 ∧ cap ≤ 9223372036854775807) :
   Calls Try.prog 36 #[.slice (some ⟨b, off, none⟩) (p.length + rest.length + 1) cap] w (ScanOk b off cap (p.length + 1) (c0 :: (p ++ rest)) rest w) := by
 have HM := Lib.hid hm
 have HP := Lib.hid hp
 have HR := Lib.hid hr
 clear hm hp hr
 generalize hR : rest.length = R at *
 have HRR := Lib.hid hR
 clear hR
 go_enter Try.func36, Try.ntmps36
 go_wp2_with fail
 go_loopg [5, 6, 7] (p.length + R) (fun g i x c wr => ∃ (q : List UInt8) (k : Nat), i = .int .i64 k ∧ k + q.length = p.length + 1 ∧ g = q.length + R ∧ Hid (q <:+ p) ∧ Hid (∃ n, wr = w.drewN n))
 case atStart => exact ⟨p, 1, rfl, by omega, rfl, List.suffix_refl _, 0, rfl⟩
 case round =>
   obtain ⟨q, k, rfl, hk, rfl, HQ, HW⟩ := hrel
   by_cases he : p.length + R + 1 ≤ k
   · obtain ⟨n, rfl⟩ := HW.out
     by_cases hcap : cap = k
     · go_wp2_with fail
       go_quiet (fail)
       go_wp2
       go_ret3
       exact scan_fin (k := k) HRR.out (by omega) (by omega) (fun h => by omega) rfl hcap.symm (by omega) (by omega) ⟨_, World.drewN_drewN ..⟩
     · go_wp2_with fail
       go_quiet (fail)
       go_wp2
       go_ret3
       exact scan_fin (k := k) HRR.out (by omega) (by omega) (fun h => rfl) rfl rfl (by omega) (by omega) ⟨_, World.drewN_drewN ..⟩
   · have he2 : k < p.length + R + 1 := by omega
     clear he
     have tb : decide ((k : Int) < (p.length : Int) + (R : Int) + 1) = true := by simp; omega
     go_wp2_with fail
     go_loopg [5, 6] (q.length + R) (fun g i x wi => ∃ (q' : List UInt8) (k' : Nat), i = .int .i64 k' ∧ k' + q'.length = p.length + 1 ∧ q'.length ≤ q.length ∧ g = q'.length + R ∧ Hid (q' <:+ p) ∧ Hid (∃ n, wi = w.drewN n))
     case atStart => exact ⟨q, k, rfl, hk, Nat.le_refl _, rfl, HQ.out, HW.out⟩
     case round =>
       clear HW HQ
       obtain ⟨q', k', rfl, hk', hq', rfl, HQ, HW⟩ := hrel
       obtain ⟨n, rfl⟩ := HW.out
       clear HW
       by_cases h8 : k' + 8 ≤ p.length + R + 1
       · obtain ⟨d0, d1, d2, d3, d4, d5, d6, d7, r, hq8⟩ := eight (q := q') (s := rest) (by rw [HRR.out]; omega)
         have HL : Hid (p.length + R + 1 - k' = r.length + 8) := by
           have := congrArg List.length hq8
           simp at this
           have h2 := HRR.out
           show _ = _
           omega
         have HB : Hid (Bts w b (off + k') (d0 :: d1 :: d2 :: d3 :: d4 :: d5 :: d6 :: d7 :: r)) := by
           have := at_suffix HM.out HQ.out hk'
           rw [hq8] at this
           exact this
         have H8 := Lib.hid hq8
         clear hq8
         have hck : k' < cap := by omega
         go_wp2_with fail
         refine (leU_at _ d0 d1 d2 d3 d4 d5 d6 d7 r b (off + k') _ _ (HB.out.drewN _) HL.out (by have := HL.out; omega) (by have := HL.out; omega)).mono ?_
         rintro e w1 ⟨rfl, n2, rfl⟩
         have hx := num8_lt d0 d1 d2 d3 d4 d5 d6 d7
         generalize hX : num8 d0.toNat d1.toNat d2.toNat d3.toNat d4.toNat d5.toNat d6.toNat d7.toNat = X at *
         have HX := Lib.hid hX
         clear hX
         go_wp2_with fail
         refine (hbb_any X 32 hx (by omega) _).mono ?_
         rintro e w1 ⟨rfl, rfl⟩
         go_wp2_with fail
         refine (hbe_any X 127 hx (by omega) _).mono ?_
         rintro e w1 ⟨rfl, rfl⟩
         cases hwb : wordBad X with
         | false =>
           have hq3 : Hid (∃ q3, q' = d0 :: d1 :: d2 :: d3 :: d4 :: d5 :: d6 :: d7 :: q3) := by
             obtain ⟨h1, h2, h3⟩ := wordBad_low hx hwb
             obtain ⟨g0, g1, g2, g3, g4, g5, g6, g7⟩ := lower 32 X (by omega) HX.out.symm (by have := d0.toNat_lt; omega) (by have := d1.toNat_lt; omega) (by have := d2.toNat_lt; omega) (by have := d3.toNat_lt; omega) (by have := d4.toNat_lt; omega) (by have := d5.toNat_lt; omega) (by have := d6.toNat_lt; omega) (by have := d7.toNat_lt; omega) h1 h2
             exact in_line HR.out.low H8.out g0 g1 g2 g3 g4 g5 g6 g7
           obtain ⟨q3, rfl⟩ := hq3.out
           simp only [wordBad] at hwb
           simp only [List.length_cons] at hk' hq'
           go_wp2_with fail
           go_roundg (q3.length + R)
           case measure => simp; omega
           case rel => exact ⟨q3, k' + 8, by go_num, by omega, by omega, rfl, (((((((((List.suffix_cons _ _).trans (List.suffix_cons _ _)).trans (List.suffix_cons _ _)).trans (List.suffix_cons _ _)).trans (List.suffix_cons _ _)).trans (List.suffix_cons _ _)).trans (List.suffix_cons _ _)).trans (List.suffix_cons _ _)).trans HQ.out), _, rfl⟩
         | true =>
           simp only [wordBad] at hwb
           clear H8 HB HL HX
           by_cases he3 : p.length + R + 1 ≤ k'
           · first | (exfalso; omega) | (
                                          by_cases hcap : cap = k'
                                          · go_wp2_with fail
                                            go_quiet (fail)
                                            go_wp2
                                            go_ret3
                                            exact scan_fin (k := k') HRR.out (by omega) (by omega) (fun h => by omega) rfl hcap.symm (by omega) (by omega) ⟨_, World.drewN_drewN ..⟩
                                          · go_wp2_with fail
                                            go_quiet (fail)
                                            go_wp2
                                            go_ret3
                                            exact scan_fin (k := k') HRR.out (by omega) (by omega) (fun h => rfl) rfl rfl (by omega) (by omega) ⟨_, World.drewN_drewN ..⟩)
           · have he4 : k' < p.length + R + 1 := by omega
             clear he3
             cases q' with
             | cons c q3 =>
               have hc0 := (at_suffix HM.out HQ.out hk').head.1
               obtain ⟨hc1, hc2⟩ := HP.out c (HQ.out.subset (by simp))
               have t1 : ((c.toNat : Int) < 128) := by omega
               simp only [List.length_cons] at hk' hq'
               go_wp2_with fail
               go_roundg (q3.length + R)
               case measure => simp; omega
               case rel => exact ⟨q3, k' + 1, by go_num, by omega, rfl, (List.suffix_cons _ _).trans HQ.out, _, rfl⟩
             | nil =>
               have hat := at_suffix HM.out HQ.out hk'
               simp only [List.length_nil] at hk' hq'
               rcases HR.out with h | ⟨r, h⟩ | ⟨r, h⟩
               · rw [h] at HRR; have := HRR.out; simp at this; omega
               · rw [h] at hat
                 have hc0 := hat.head.1
                 clear hat h
                 have hcap : ¬ cap = k' := by omega
                 go_wp2_with fail
                 go_quiet (fail)
                 go_wp2
                 go_ret3
                 exact scan_fin (k := k') HRR.out (by omega) (by omega) (fun h => rfl) rfl rfl (by omega) (by omega) ⟨_, World.drewN_drewN ..⟩
               · rw [h] at hat
                 have hc0 := hat.head.1
                 have hc1 := hat.head.2.head.1
                 have hR2 : 2 ≤ R := by have := HRR.out; rw [h] at this; simp at this; omega
                 have hc1' := hc1
                 rw [Nat.add_assoc] at hc1'
                 clear hat h
                 have hcap : ¬ cap = k' := by omega
                 go_wp2_with fail
                 go_quiet (fail)
                 go_wp2
                 go_ret3
                 exact scan_fin (k := k') HRR.out (by omega) (by omega) (fun h => rfl) rfl rfl (by omega) (by omega) ⟨_, World.drewN_drewN ..⟩
       · by_cases he3 : p.length + R + 1 ≤ k'
         · first | (exfalso; omega) | (
                                        by_cases hcap : cap = k'
                                        · go_wp2_with fail
                                          go_quiet (fail)
                                          go_wp2
                                          go_ret3
                                          exact scan_fin (k := k') HRR.out (by omega) (by omega) (fun h => by omega) rfl hcap.symm (by omega) (by omega) ⟨_, World.drewN_drewN ..⟩
                                        · go_wp2_with fail
                                          go_quiet (fail)
                                          go_wp2
                                          go_ret3
                                          exact scan_fin (k := k') HRR.out (by omega) (by omega) (fun h => rfl) rfl rfl (by omega) (by omega) ⟨_, World.drewN_drewN ..⟩)
         · have he4 : k' < p.length + R + 1 := by omega
           clear he3
           cases q' with
           | cons c q3 =>
             have hc0 := (at_suffix HM.out HQ.out hk').head.1
             obtain ⟨hc1, hc2⟩ := HP.out c (HQ.out.subset (by simp))
             have t1 : ((c.toNat : Int) < 128) := by omega
             simp only [List.length_cons] at hk' hq'
             go_wp2_with fail
             go_roundg (q3.length + R)
             case measure => simp; omega
             case rel => exact ⟨q3, k' + 1, by go_num, by omega, rfl, (List.suffix_cons _ _).trans HQ.out, _, rfl⟩
           | nil =>
             have hat := at_suffix HM.out HQ.out hk'
             simp only [List.length_nil] at hk' hq'
             rcases HR.out with h | ⟨r, h⟩ | ⟨r, h⟩
             · rw [h] at HRR; have := HRR.out; simp at this; omega
             · rw [h] at hat
               have hc0 := hat.head.1
               clear hat h
               have hcap : ¬ cap = k' := by omega
               go_wp2_with fail
               go_quiet (fail)
               go_wp2
               go_ret3
               exact scan_fin (k := k') HRR.out (by omega) (by omega) (fun h => rfl) rfl rfl (by omega) (by omega) ⟨_, World.drewN_drewN ..⟩
             · rw [h] at hat
               have hc0 := hat.head.1
               have hc1 := hat.head.2.head.1
               have hR2 : 2 ≤ R := by have := HRR.out; rw [h] at this; simp at this; omega
               have hc1' := hc1
               rw [Nat.add_assoc] at hc1'
               clear hat h
               have hcap : ¬ cap = k' := by omega
               go_wp2_with fail
               go_quiet (fail)
               go_wp2
               go_ret3
               exact scan_fin (k := k') HRR.out (by omega) (by omega) (fun h => rfl) rfl rfl (by omega) (by omega) ⟨_, World.drewN_drewN ..⟩
end Go.Proofs.Ytnlkbbpmpgdmiaa
namespace Go.Proofs.Ytnlkbbpmpgdmiaa
open Go.RowKit
set_option linter.unusedVariables false
set_option linter.unusedSimpArgs false
structure Nd where
 kind : Nat
 ro : Int
 rl : Int
 data : Value
 next : Nat
 child : Nat
def Nd.cells (g : Nat) (x : Nd) : List Value := [.int .i64 x.kind, .int .u32 x.ro, .int .u32 x.rl, x.data, .pointer (some ⟨g, 0, none⟩), .int .i32 x.next, .int .i32 x.child]
def flat (g : Nat) (ns : List Nd) : List Value := ns.flatMap (Nd.cells g)
theorem flat_length (g : Nat) (ns : List Nd) : (flat g ns).length = 7 * ns.length := by
 induction ns with
 | nil => rfl
 | cons x r ih =>
   have : flat g (x :: r) = x.cells g ++ flat g r := rfl
   rw [this, List.length_append, ih]
   simp [Nd.cells]
   omega
theorem flat_cons (g : Nat) (x : Nd) (r : List Nd) : flat g (x :: r) = x.cells g ++ flat g r := rfl
theorem flat_append (g : Nat) (a b : List Nd) : flat g (a ++ b) = flat g a ++ flat g b := by simp [flat]
theorem flat_get {g : Nat} {ns : List Nd} {i : Nat} {x : Nd} (h : ns[i]? = some x) (j : Nat) (hj : j < 7) (t : List Value) : (flat g ns ++ t)[7 * i + j]? = (x.cells g)[j]? := by
 induction ns generalizing i with
 | nil => simp at h
 | cons y r ih =>
   rw [flat_cons]
   cases i with
   | zero =>
     simp at h
     subst h
     rw [List.append_assoc, List.getElem?_append_left (by simp [Nd.cells]; omega)]
     simp
   | succ i =>
     have h1 : (y.cells g).length = 7 := rfl
     rw [List.append_assoc, List.getElem?_append_right (by omega), h1, show 7 * (i + 1) + j - 7 = 7 * i + j from by omega]
     exact ih (by simpa using h)
theorem flat_set {g : Nat} {ns : List Nd} {i : Nat} {x x' : Nd} (h : ns[i]? = some x) (j : Nat) (hj : j < 7) (u : Value) (hx : (x.cells g).set j u = x'.cells g) (t : List Value) :
   (flat g ns ++ t).set (7 * i + j) u = flat g (ns.set i x') ++ t := by
 induction ns generalizing i with
 | nil => simp at h
 | cons y r ih =>
   rw [flat_cons]
   cases i with
   | zero =>
     simp at h
     subst h
     rw [List.append_assoc, List.set_append_left _ _ (by simp [Nd.cells]; omega)]
     simp [hx, flat_cons]
   | succ i =>
     have h1 : (y.cells g).length = 7 := rfl
     rw [List.append_assoc, List.set_append_right _ _ (by omega), h1, show 7 * (i + 1) + j - 7 = 7 * i + j from by omega, ih (by simpa using h)]
     simp [flat_cons]
def Arn (B : Nat) (w : World) (g : Nat) (V : Value) (ns : List Nd) : Prop :=
 (ns = [] ∧ V = .slice none 0 0) ∨ ∃ (gn cap : Nat) (cur : Array Value) (junk : List Value), V = .slice (some ⟨gn, 0, none⟩) ns.length cap ∧ Blk w gn 65 cur ∧ cur.toList = flat g ns ++ junk ∧ cur.size = 7 * cap ∧ B ≤ gn ∧ 64 ≤ cap ∧ cap ≤ 1000000 ∧ ∀ x ∈ ns, x.data.oneCell' = true
def Kp (w w' : World) : Prop := w.heap.size ≤ w'.heap.size ∧ ∀ g t cs, t ≠ 52 → t ≠ 65 → Blk w g t cs → Blk w' g t cs
theorem Kp.refl (w : World) : Kp w w := ⟨Nat.le_refl _, fun _ _ _ _ _ h => h⟩
theorem Kp.trans {w w1 w2 : World} (h : Kp w w1) (h2 : Kp w1 w2) : Kp w w2 := ⟨Nat.le_trans h.1 h2.1, fun g t cs a b c => h2.2 g t cs a b (h.2 g t cs a b c)⟩
theorem Kp.alloc (w : World) (o : Obj) : Kp w (w.alloc o) := ⟨by simp, fun g t cs a b c => c.alloc o⟩
theorem Kp.drewN (w : World) (n : Nat) : Kp w (w.drewN n) := ⟨Nat.le_refl _, fun _ _ _ _ _ h => h⟩
theorem Kp.drew (w : World) : Kp w w.drew := ⟨Nat.le_refl _, fun _ _ _ _ _ h => h⟩
theorem Kp.set52 {w : World} {g : Nat} {cs : Array Value} (h : Blk w g 52 cs) (i : Nat) (u : Value) : Kp w (w.setCell ⟨g, i, none⟩ u) :=
 ⟨by simp, fun k t c a b hk => hk.far (fun e => by subst e; exact (hk.ne_ h a) rfl) u⟩
theorem Kp.set65 {w : World} {g : Nat} {cs : Array Value} (h : Blk w g 65 cs) (i : Nat) (u : Value) : Kp w (w.setCell ⟨g, i, none⟩ u) :=
 ⟨by simp, fun k t c a b hk => hk.far (fun e => by subst e; exact (hk.ne_ h b) rfl) u⟩
theorem Kp.row65 {w : World} {g : Nat} {cs : Array Value} (h : Blk w g 65 cs) (cs' : Array Value) : Kp w (w.setRow g cs') :=
 ⟨by simp, fun k t c a b hk => (setRow_other w g k cs' (fun e => by subst e; exact (hk.ne_ h b) rfl)).trans hk⟩
theorem Kp.newcell {w w' : World} (h : Kp w w') {i : Nat} {u : Value} {g : Nat} (hg : w.heap.size ≤ g) : Kp w (w'.setCell ⟨g, i, none⟩ u) :=
 ⟨by simpa using h.1, fun k t c a b hk => (h.2 k t c a b hk).far (fun e => by have := hk.lt; simp at e; omega) u⟩
theorem Kp.of_below {w w' : World} (h : Below w.heap.size w w') : Kp w w' := ⟨h.size, fun g t cs a b c => c.below h c.lt⟩
def Fr (B : Nat) (w w' : World) : Prop := Below B w w' ∧ Kp w w'
theorem Fr.refl (B : Nat) (w : World) : Fr B w w := ⟨Below.refl _ _, Kp.refl _⟩
theorem Fr.trans {B : Nat} {w w1 w2 : World} (h : Fr B w w1) (h2 : Fr B w1 w2) : Fr B w w2 := ⟨h.1.trans h2.1, h.2.trans h2.2⟩
theorem Fr.drewN {B : Nat} (w : World) (n : Nat) : Fr B w (w.drewN n) := ⟨⟨rfl, rfl, rfl, Nat.le_refl _, fun _ _ => rfl⟩, Kp.drewN w n⟩
theorem Fr.of_below {B : Nat} {w w' : World} (h : Below w.heap.size w w') (hB : B ≤ w.heap.size) : Fr B w w' := ⟨h.mono hB, Kp.of_below h⟩
def PS (B : Nat) (w : World) (g b cap : Nat) (kc : Bool) (D : List UInt8) (left : Value) (ns : List Nd) (err : Value) (nest : Nat) : Prop :=
 ∃ (A : Addr) (V : Value), Blk w g 52 #[.bool kc, .slice (some A) D.length cap, left, V, err, .int .i64 nest] ∧ B ≤ g ∧ Arn B w g V ns ∧ B ≤ w.heap.size
end Go.Proofs.Ytnlkbbpmpgdmiaa
