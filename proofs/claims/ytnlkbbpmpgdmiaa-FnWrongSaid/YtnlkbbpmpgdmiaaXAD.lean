/- The iterator over a node's children, and remarks of nodes without remarks; remarks of a line's root, and of a remark; remarks of a remark; impl; keysAre of equal strings; FnComments: its walk; Bytes in a row of the call's own: append, as one law; AppendRune; findBasicStringEnd; unescapeUnicode; scanUtf8Run; AppendRune, unescapeUnicode, the searches for a string's end; parseLiteralString. -/
import Derived.Test.YtnlkbbpmpgdmiaaXAC
import Derived.Laws.IdiomStrings
import Derived.OwnWalk
import Derived.Lib.AppendStr
import Derived.Test.YtnlkbbpmpgdmiaaXAA
namespace Go.Proofs.Ytnlkbbpmpgdmiaa
open Go.RowKit
set_option linter.unusedVariables false
set_option linter.unusedSimpArgs false
def ndAt (gn : Nat) : Nat → Option Addr
 | 0 => none
 | j + 1 => some ⟨gn, 7 * j, none⟩
abbrev ndOpt (gn k : Nat) : Value := .pointer (ndAt gn k)
def PtrIs (v : Value) (w : World) (e : Ending) (w' : World) : Prop := e = .returned v ∧ ∃ n, w' = w.drewN n
theorem next_any {w : World} {g gn : Nat} {ns : List Nd} (h : PN w g gn ns) {i : Nat} {x : Nd} (hi : ns[i]? = some x) (hx : x.next ≤ ns.length) (hb : ns.length ≤ 1000000) :
   Calls Try.prog 21 #[ndPtr gn i] w (PtrIs (ndOpt gn x.next) w) := by
 cases hn : x.next with
 | zero => exact (next_nil h hi hn).mono (fun e w' h => ⟨h.1, 0, h.2.symm⟩)
 | succ j => exact (next_some h hi j hn (by omega) hb).mono (fun e w' h => h)
theorem child_any {w : World} {g gn : Nat} {ns : List Nd} (h : PN w g gn ns) {i : Nat} {x : Nd} (hi : ns[i]? = some x) (hx : x.child ≤ ns.length) (hb : ns.length ≤ 1000000) :
   Calls Try.prog 50 #[ndPtr gn i] w (PtrIs (ndOpt gn x.child) w) := by
 cases hn : x.child with
 | zero => exact (child_nil h hi hn).mono (fun e w' h => ⟨h.1, 0, h.2.symm⟩)
 | succ j => exact (child_some h hi j hn (by omega) hb).mono (fun e w' h => h)
def ItIs (v : Value) (w : World) (e : Ending) (w' : World) : Prop := e = .returned (.agg #[.bool false, v]) ∧ Below w.heap.size w w'
theorem PN.alloc {w : World} {g gn : Nat} {ns : List Nd} (h : PN w g gn ns) (o : Obj) : PN (w.alloc o) g gn ns := h.below ((Below.refl _ _).alloc (Nat.le_refl _) o)
theorem children_any {w : World} {g gn : Nat} {ns : List Nd} (h : PN w g gn ns) {i : Nat} {x : Nd} (hi : ns[i]? = some x) (hx : x.child ≤ ns.length) (hb : ns.length ≤ 1000000) :
   Calls Try.prog 43 #[ndPtr gn i] w (ItIs (ndOpt gn x.child) w) := by
 have H := Lib.hid h
 have HI := Lib.hid hi
 clear h hi
 go_enter Try.func43, Try.ntmps43
 go_wp2_with fail
 refine (child_any (H.out.alloc _) HI.out hx hb).mono ?_
 rintro e w1 ⟨rfl, n, rfl⟩
 generalize hv : ndAt gn x.child = v
 go_wp2_with fail
 refine bodyPost_ret (v := .agg #[.bool false, .pointer v]) (by simp [results, Try.results43, go_sem]) rfl ⟨by rw [← hv], ?_⟩
 exact ((((Below.refl _ _).alloc (Nat.le_refl _) _).trans (Fr.drewN _ n).1).setCell (Nat.le_refl _) _).setCell (Nat.le_refl _) _
theorem valid_any {w : World} {g gn : Nat} {ns : List Nd} (h : PN w g gn ns) (hk : ∀ x ∈ ns, x.kind ≠ 0) (k : Nat) (hkn : k ≤ ns.length) :
   Calls Try.prog 64 #[ndOpt gn k] w fun e w' => e = .returned (.bool (k != 0)) ∧ w = w' := by
 cases k with
 | zero => exact valid_nil w
 | succ j =>
   have hj : j < ns.length := by omega
   have hx : ns[j]? = some ns[j] := List.getElem?_eq_getElem hj
   exact (valid_some h hx (hk _ (List.getElem_mem hj))).mono (fun e w' h => by obtain ⟨h1, h2⟩ := h; exact ⟨by rw [h1]; simp, h2⟩)
theorem PN.set {w : World} {g gn : Nat} {ns : List Nd} (h : PN w g gn ns) {p : Addr} (h1 : g ≠ p.block) (h2 : gn ≠ p.block) (u : Value) : PN (w.setCell p u) g gn ns := by
 obtain ⟨c, d1, d2, d3, d4, d5⟩ := h
 refine ⟨c, (World.cell?_setCell_other w p ⟨g, 3, none⟩ u (fun e => h1 (by subst e; rfl))).trans d1, d2, by simpa using d3, by simpa using d4, fun i x hi j hj => (World.cell?_setCell_other w p ⟨gn, 7 * i + j, none⟩ u (fun e => h2 (by subst e; rfl))).trans (d5 i x hi j hj)⟩
set_option maxRecDepth 100000 in
theorem it_first {w : World} {g gn it : Nat} {ns : List Nd} (h : PN w g gn ns) (hk : ∀ x ∈ ns, x.kind ≠ 0) (k : Nat) (hkn : k ≤ ns.length) (hit : Blk w it 99 #[.bool false, ndOpt gn k]) (h1 : g ≠ it) (h2 : gn ≠ it) :
   Calls Try.prog 44 #[.pointer (some ⟨it, 0, none⟩)] w fun e w' => e = .returned (.bool (k != 0)) ∧ w.setCell ⟨it, 0, none⟩ (.bool true) = w' := by
 have c0 : w.cell? ⟨it, 0, none⟩ = some (.bool false) := by have := hit.cell 0; simpa using this
 have c1 : w.cell? ⟨it, 1, none⟩ = some (ndOpt gn k) := by have := hit.cell 1; simpa using this
 have f0 := hit.frozen 0
 have hl := hit.lt
 have H : Hid (PN (w.setCell ⟨it, 0, none⟩ (.bool true)) g gn ns) := h.set h1 h2 _
 have HK := Lib.hid hk
 clear h hk hit
 go_enter Try.func44, Try.ntmps44
 go_wp2_with fail
 refine (valid_any H.out HK.out k hkn).mono ?_
 rintro e w1 ⟨rfl, rfl⟩
 go_wp2_with fail
 go_ret
 exact ⟨rfl, rfl⟩
def ItNext (gn it k : Nat) (w : World) (e : Ending) (w' : World) : Prop := e = .returned (.bool (k != 0)) ∧ ∃ n, w' = (w.drewN n).setCell ⟨it, 1, none⟩ (ndOpt gn k)
set_option maxRecDepth 100000 in
theorem it_next {w : World} {g gn it : Nat} {ns : List Nd} (h : PN w g gn ns) (hk : ∀ x ∈ ns, x.kind ≠ 0) (j : Nat) (x : Nd) (hx : ns[j]? = some x) (hn : x.next ≤ ns.length) (hb : ns.length ≤ 1000000) (hit : Blk w it 99 #[.bool true, ndPtr gn j]) (h1 : g ≠ it) (h2 : gn ≠ it) :
   Calls Try.prog 44 #[.pointer (some ⟨it, 0, none⟩)] w (ItNext gn it x.next w) := by
 have c0 : w.cell? ⟨it, 0, none⟩ = some (.bool true) := by have := hit.cell 0; simpa using this
 have c1 : w.cell? ⟨it, 1, none⟩ = some (ndPtr gn j) := by have := hit.cell 1; simpa using this
 have f1 := hit.frozen 1
 have hl := hit.lt
 have H := Lib.hid h
 have HK := Lib.hid hk
 have HX := Lib.hid hx
 clear h hk hit hx
 go_enter Try.func44, Try.ntmps44
 go_wp2_with fail
 refine (valid_some H.out HX.out (HK.out x (List.mem_of_getElem? HX.out))).mono ?_
 rintro e w1 ⟨rfl, rfl⟩
 go_wp2_with fail
 refine (next_any H.out HX.out hn hb).mono ?_
 rintro e w1 ⟨rfl, n, rfl⟩
 have HP2 : Hid (PN ((w.drewN n).setCell ⟨it, 1, none⟩ (ndOpt gn x.next)) g gn ns) := PN.set (w := w.drewN n) H.out h1 h2 _
 go_wp2_with fail
 refine (valid_any HP2.out HK.out x.next hn).mono ?_
 rintro e w1 ⟨rfl, rfl⟩
 go_wp2_with fail
 go_ret
 exact ⟨rfl, n, rfl⟩
end Go.Proofs.Ytnlkbbpmpgdmiaa
namespace Go.Proofs.Ytnlkbbpmpgdmiaa
open Go.RowKit
set_option linter.unusedVariables false
set_option linter.unusedSimpArgs false
end Go.Proofs.Ytnlkbbpmpgdmiaa
namespace Go.Proofs.Ytnlkbbpmpgdmiaa
open Go.RowKit
set_option linter.unusedVariables false
set_option linter.unusedSimpArgs false
def OutIs (B : Nat) (w : World) (v : Value) (ss : List ByteArray) : Prop := w.ownsRow B 9 1 v ss.length (ss.map Value.string)
def Kq (B : Nat) (w w' : World) : Prop := Below B w w' ∧ ∀ g t cs, t ≠ 9 → Blk w g t cs → Blk w' g t cs
theorem OutIs.keep {B : Nat} {w w' : World} {v : Value} {ss : List ByteArray} (h : OutIs B w v ss) (hk : ∀ g cs, Blk w g 9 cs → Blk w' g 9 cs) : OutIs B w' v ss := by
 obtain ⟨h1, h2⟩ := h
 refine ⟨h1, ?_⟩
 rcases h2 with h2 | ⟨g, cap, cur, a, b, c, d, e, f, k⟩
 · exact .inl h2
 · exact .inr ⟨g, cap, cur, a, b, hk g cur c, d, e, f, k⟩
theorem OutIs.kp {B : Nat} {w w' : World} {v : Value} {ss : List ByteArray} (h : OutIs B w v ss) (hk : Kp w w') : OutIs B w' v ss := h.keep fun g cs hb => hk.2 g 9 cs (by decide) (by decide) hb
theorem OutIs.below {B : Nat} {w w' : World} {v : Value} {ss : List ByteArray} (h : OutIs B w v ss) (hk : Below w.heap.size w w') : OutIs B w' v ss := h.keep fun g cs hb => hb.below hk hb.lt
theorem info9 : (Try.prog.info? 9).map (fun i => (i.zero, i.size, i.bytes)) = some (some (.string ByteArray.empty), 1, 16) := by kernel_rfl
theorem DataIs.conv {w : World} {v : Value} {s : List UInt8} (h : DataIs w v s) : (convert 25 9 v).run Try.prog w = .ok (.string ⟨s.toArray⟩) w := by
 obtain ⟨blk, off, c, cs, a, rfl, h2, h3⟩ := h
 refine run_convert_bytes_back w 25 9 5 a c s Try.underlying25 Try.underlying5 Try.underlying9 ?_
 intro j hj
 obtain ⟨rfl, hb, hc⟩ := h3 (by omega)
 rw [Addr.add_lit, hb.cell, hc j hj]
 congr 3
 simp [List.getD, hj]
theorem kq_of {B : Nat} {w w' : World} {v : Value} {ss : List ByteArray} {o : Obj} (ho : OutIs B w v ss) (hB : B ≤ w.heap.size) (hgrow : (w.alloc o).grownBy w' v.ownBlock) : Kq B w w' := by
 obtain ⟨_, h2⟩ := ho
 refine ⟨((Below.refl B w).alloc hB o).grown hgrow (by simp; omega) ?_, ?_⟩
 · intro k hk
   rcases h2 with ⟨rfl, _⟩ | ⟨g, cap, cur, rfl, b, c, _⟩
   · cases hk
   · simp only [Value.ownBlock] at hk
     injection hk with hk
     omega
 · intro g t cs ht hb
   refine (hgrow.block g (by have := hb.lt; simp; omega) ?_).trans (hb.alloc o)
   intro he
   rcases h2 with ⟨rfl, _⟩ | ⟨g', cap, cur, rfl, b, c, _⟩
   · cases he
   · simp only [Value.ownBlock] at he
     injection he with he
     subst he
     exact hb.ne_ (g' := g) (t' := 9) c ht rfl
end Go.Proofs.Ytnlkbbpmpgdmiaa
namespace Go.Proofs.Ytnlkbbpmpgdmiaa
open Go.RowKit
set_option linter.unusedVariables false
set_option linter.unusedSimpArgs false
structure Ln where
 behind : Bool
 p : List UInt8
def Ln.text (x : Ln) (r : List UInt8) : List UInt8 := if x.behind then aIs5 (35 :: (x.p ++ 10 :: r)) else 35 :: (x.p ++ 10 :: r)
end Go.Proofs.Ytnlkbbpmpgdmiaa
namespace Go.Proofs.Ytnlkbbpmpgdmiaa
open Go.RowKit
set_option linter.unusedVariables false
set_option linter.unusedSimpArgs false
def StrsAt (w : World) (v : Value) (ss : List ByteArray) : Prop := ∃ (o : Option Addr) (c g : Nat), v = .slice o ss.length c ∧ ss.length ≤ c ∧ c ≤ 9223372036854775807 ∧ ∀ i s, ss[i]? = some s → o = some ⟨g, 0, none⟩ ∧ w.cell? ⟨g, i, none⟩ = some (.string s)
end Go.Proofs.Ytnlkbbpmpgdmiaa
namespace Go.Proofs.Ytnlkbbpmpgdmiaa
open Go.RowKit
set_option linter.unusedVariables false
set_option linter.unusedSimpArgs false
def Ke (e : TypeId) (B : Nat) (w w' : World) : Prop := Below B w w' ∧ ∀ g t cs, t ≠ e → Blk w g t cs → Blk w' g t cs
theorem Ke.refl (e : TypeId) (B : Nat) (w : World) : Ke e B w w := ⟨Below.refl _ _, fun _ _ _ _ h => h⟩
theorem Ke.trans {e : TypeId} {B : Nat} {w w1 w2 : World} (h : Ke e B w w1) (h2 : Ke e B w1 w2) : Ke e B w w2 := ⟨h.1.trans h2.1, fun g t cs a b => h2.2 g t cs a (h.2 g t cs a b)⟩
theorem Ke.alloc {e : TypeId} {B : Nat} {w : World} (hB : B ≤ w.heap.size) (o : Obj) : Ke e B w (w.alloc o) := ⟨(Below.refl B w).alloc hB o, fun g t cs _ h => h.alloc o⟩
theorem Ke.of_below {e : TypeId} {B : Nat} {w w' : World} (h : Below w.heap.size w w') (hB : B ≤ w.heap.size) : Ke e B w w' := ⟨h.mono hB, fun g t cs _ hb => hb.below h hb.lt⟩
theorem ke_grown {B : Nat} {e : TypeId} {size n : Nat} {w w' : World} {v : Value} {xs : List Value} (ho : w.ownsRow B e size v n xs) (hg : w.grownBy w' v.ownBlock) (hB : B ≤ w.heap.size) : Ke e B w w' := by
 obtain ⟨_, h2⟩ := ho
 refine ⟨(Below.refl B w).grown hg hB ?_, ?_⟩
 · intro k hk
   rcases h2 with ⟨rfl, _⟩ | ⟨g, cap, cur, rfl, b, c, _⟩
   · cases hk
   · simp only [Value.ownBlock] at hk
     injection hk with hk
     omega
 · intro g t cs ht hb
   refine (hg.block g hb.lt ?_).trans hb
   intro he
   rcases h2 with ⟨rfl, _⟩ | ⟨g', cap, cur, rfl, b, c, _⟩
   · cases he
   · simp only [Value.ownBlock] at he
     injection he with he
     subst he
     exact hb.ne_ (g' := g) (t' := e) c ht rfl
theorem own_keep {B : Nat} {e : TypeId} {size n : Nat} {w w' : World} {v : Value} {xs : List Value} (h : w.ownsRow B e size v n xs) (hk : ∀ g cs, Blk w g e cs → Blk w' g e cs) : w'.ownsRow B e size v n xs := by
 obtain ⟨h1, h2⟩ := h
 refine ⟨h1, ?_⟩
 rcases h2 with h2 | ⟨g, cap, cur, a, b, c, d, e, f, k⟩
 · exact .inl h2
 · exact .inr ⟨g, cap, cur, a, b, hk g cur c, d, e, f, k⟩
def Own8 (B : Nat) (w : World) (v : Value) (l : List UInt8) : Prop := w.ownsRow B 5 1 v l.length (l.map fun c => Value.int .u8 c.toNat)
theorem Own8.data {B : Nat} {w : World} {v : Value} {l : List UInt8} (h : Own8 B w v l) (hv : v ≠ .slice none 0 0) : DataIs w v l := by
 obtain ⟨h1, h2⟩ := h
 rcases h2 with ⟨rfl, _⟩ | ⟨g, cap, cur, rfl, b, c, hn, hm, hs, ht⟩
 · exact absurd rfl hv
 · refine ⟨g, 0, cap, cur, _, rfl, hn, fun h0 => ⟨rfl, c, fun k hk => ?_⟩⟩
   have h3 : (cur.toList.take (l.length * 1))[k]? = (l.map fun c => Value.int .u8 c.toNat)[k]? := by rw [ht]
   rw [List.getElem?_take_of_lt (by omega)] at h3
   rw [Nat.zero_add, ← Array.getElem?_toList, h3, List.getElem?_map, List.getElem?_eq_getElem hk]
   simp [List.getD, hk]
end Go.Proofs.Ytnlkbbpmpgdmiaa
namespace Go.Proofs.Ytnlkbbpmpgdmiaa
open Go.RowKit
set_option linter.unusedVariables false
set_option linter.unusedSimpArgs false
def Buf (B : Nat) (w : World) (v : Value) (l : List UInt8) : Prop := Own8 B w v l ∧ v ≠ .slice none 0 0
theorem Buf.keep {B : Nat} {w w' : World} {v : Value} {l : List UInt8} (h : Buf B w v l) (hk : ∀ g cs, Blk w g 5 cs → Blk w' g 5 cs) : Buf B w' v l := ⟨own_keep h.1 hk, h.2⟩
theorem Buf.alloc {B : Nat} {w : World} {v : Value} {l : List UInt8} (h : Buf B w v l) (o : Obj) : Buf B (w.alloc o) v l := h.keep fun g cs hb => hb.alloc o
theorem Buf.drewN {B : Nat} {w : World} {v : Value} {l : List UInt8} (h : Buf B w v l) (n : Nat) : Buf B (w.drewN n) v l := h
theorem Buf.below {B : Nat} {w w' : World} {v : Value} {l : List UInt8} (h : Buf B w v l) (hb : Below w.heap.size w w') : Buf B w' v l := h.keep fun g cs hk => hk.below hb hk.lt
theorem Bts.news {w : World} {b off : Nat} {m : List UInt8} (h : Bts w b off m) : ∀ j u, (m.map fun c => Value.int .u8 c.toNat)[j]? = some u → w.cell? ((⟨b, off, none⟩ : Addr).add j) = some u := by
 intro j u hu
 rw [Go.WideShapes.add_plain]
 rw [List.getElem?_map] at hu
 obtain ⟨c, hc, rfl⟩ := Option.map_eq_some_iff.1 hu
 obtain ⟨hj, hc⟩ := List.getElem?_eq_some_iff.1 hc
 rw [h j hj]
 rw [List.getD_eq_getElem?_getD, List.getElem?_eq_getElem hj, hc]
 rfl
theorem Own8.lt {B : Nat} {w : World} {v : Value} {l : List UInt8} (h : Own8 B w v l) : ∀ k, v.ownBlock = some k → B ≤ k := fun k hk => (World.ownsRow.lt h k hk).1
theorem own8_app {B : Nat} {w : World} {v : Value} {l m : List UInt8} (h : w.ownsRow B 5 1 v (l.length + m.length) (l.map (fun c => Value.int .u8 c.toNat) ++ m.map fun c => Value.int .u8 c.toNat)) : Own8 B w v (l ++ m) := by
 unfold Own8
 rw [List.length_append, List.map_append]
 exact h
theorem wpList_app8 {w : World} {ops : Array Oper} {rest : List Oper} {o : Oper} {a : Act} {Q : Exit → Act → World → Prop} (hgd : o.guard = none) (s x : Operand)
   (ho : o.op = .call { callee := .builtin .append, args := #[s, x], argTypes := #[25, 25] }) {B : Nat} (v : Value) (l : List UInt8) (hs : a.eval s = v) (hown : Buf B w v l)
   (ad : Addr) (k c : Nat) (m : List UInt8) (hx : a.eval x = .slice (some ad) k c) (hk : k = m.length) (hnews : ∀ j u, (m.map fun c => Value.int .u8 c.toNat)[j]? = some u → w.cell? (ad.add j) = some u)
   (hl : l.length + m.length ≤ 140737488355328) (hB : B ≤ w.heap.size)
   (h : ∀ v' w', Buf B w' v' (l ++ m) → Below B w w' → wpList Try.prog ops Q rest (a.put o.dst v') w') : wpList Try.prog ops Q (o :: rest) a w := by
 obtain ⟨i5, hi5, hz5, hs5, hb5⟩ := info_parts info5
 refine wpList_append_own _ hgd s x 25 ho B 5 i5 _ 1 1 Try.underlying25 hi5 hz5 hs5 hb5 rfl (by decide) v _ _ hs hown.1 ad k c (m.map fun c => Value.int .u8 c.toNat) hx (by simp [hk]) hnews ?_ (by simp [maxLen]; omega) (by omega) hB ?_
 · intro u hu
   obtain ⟨c, _, rfl⟩ := List.mem_map.1 hu
   rfl
 intro v' w' hown' hgrow hnil
 subst hk
 exact h v' w' ⟨own8_app hown', fun e => hown.2 (hnil.1 e).1⟩ (ke_grown hown.1 hgrow hB).1
def BufOut (B : Nat) (l : List UInt8) (w : World) (e : Ending) (w' : World) : Prop := ∃ v', e = .returned v' ∧ Buf B w' v' l ∧ Below B w w'
theorem Below.alloc' {B : Nat} {w : World} (h : B ≤ w.heap.size) (o : Obj) : Below B w (w.alloc o) := (Below.refl B w).alloc h o
set_option maxRecDepth 100000 in
theorem nonAscii_any {B : Nat} {w : World} {v : Value} {l : List UInt8} (h : Buf B w v l) {r : Nat} (hr : r = 0xE4 ∨ r = 0x4E2D ∨ r = 0x1F600) (hl : l.length ≤ 140737488351232) (hB : B ≤ w.heap.size) :
   Calls Try.prog 103 #[v, .int .i32 r] w (BufOut B (l ++ encN r) w) := by
 have H := Lib.hid h
 clear h
 have HA : Hid (∀ cs, Buf B (w.alloc (.cells cs 5)) v l) := fun cs => H.out.alloc _
 rcases hr with rfl | rfl | rfl
 · have b1 : bits .or .u8 (192 : Int) 3 = 195 := by decide +kernel
   have b2 : bits .and .u8 (228 : Int) 63 = 36 := by decide +kernel
   have b3 : bits .or .u8 (128 : Int) 36 = 164 := by decide +kernel
   go_enter Try.func103, Try.ntmps103
   go_wp2_with (at_builtin; refine wpList_app8 rfl (.tmp 14) (.tmp 23) rfl v l rfl (HA.out _) ⟨w.heap.size, 0, none⟩ 2 2 [195, 164] rfl rfl (Blk.add (l := [.int .u8 195, .int .u8 164]) (Blk.new w 5 _)) (by simp; omega) (by simp; omega) ?_; intro v1 w1 hb1 hw1)
   go_ret
   exact ⟨_, rfl, hb1, (Below.alloc' hB _).trans hw1⟩
 · have b1 : bits .or .u8 (224 : Int) 4 = 228 := by decide +kernel
   have b2 : bits .and .u8 (184 : Int) 63 = 56 := by decide +kernel
   have b3 : bits .or .u8 (128 : Int) 56 = 184 := by decide +kernel
   have b4 : bits .and .u8 (45 : Int) 63 = 45 := by decide +kernel
   have b5 : bits .or .u8 (128 : Int) 45 = 173 := by decide +kernel
   go_enter Try.func103, Try.ntmps103
   go_wp2_with (at_builtin; refine wpList_app8 rfl (.tmp 34) (.tmp 48) rfl v l rfl (HA.out _) ⟨w.heap.size, 0, none⟩ 3 3 [228, 184, 173] rfl rfl (Blk.add (l := [.int .u8 228, .int .u8 184, .int .u8 173]) (Blk.new w 5 _)) (by simp; omega) (by simp; omega) ?_; intro v1 w1 hb1 hw1)
   go_ret
   exact ⟨_, rfl, hb1, (Below.alloc' hB _).trans hw1⟩
 · have b1 : bits .or .u8 (240 : Int) 0 = 240 := by decide +kernel
   have b2 : bits .and .u8 (31 : Int) 63 = 31 := by decide +kernel
   have b3 : bits .or .u8 (128 : Int) 31 = 159 := by decide +kernel
   have b4 : bits .and .u8 (216 : Int) 63 = 24 := by decide +kernel
   have b5 : bits .or .u8 (128 : Int) 24 = 152 := by decide +kernel
   have b6 : bits .and .u8 (0 : Int) 63 = 0 := by decide +kernel
   have b7 : bits .or .u8 (128 : Int) 0 = 128 := by decide +kernel
   go_enter Try.func103, Try.ntmps103
   go_wp2_with (at_builtin; refine wpList_app8 rfl (.tmp 57) (.tmp 76) rfl v l rfl (HA.out _) ⟨w.heap.size, 0, none⟩ 4 4 [240, 159, 152, 128] rfl rfl (Blk.add (l := [.int .u8 240, .int .u8 159, .int .u8 152, .int .u8 128]) (Blk.new w 5 _)) (by simp; omega) (by simp; omega) ?_; intro v1 w1 hb1 hw1)
   go_ret
   exact ⟨_, rfl, hb1, (Below.alloc' hB _).trans hw1⟩
end Go.Proofs.Ytnlkbbpmpgdmiaa
namespace Go.Proofs.Ytnlkbbpmpgdmiaa
open Go.RowKit
set_option linter.unusedVariables false
set_option linter.unusedSimpArgs false
theorem results_tmp4 {fn : Func} {t u v x : Tmp} (h : fn.results = #[.tmp t, .tmp u, .tmp v, .tmp x]) (tmps : Array Value) (P : Program) (w : World) :
   (results fn tmps).run P w = .ok (.tuple #[tmps.getD t undef, tmps.getD u undef, tmps.getD v undef, tmps.getD x undef]) w := by simp [results, h]
theorem results_tmp5 {fn : Func} {t u v x y : Tmp} (h : fn.results = #[.tmp t, .tmp u, .tmp v, .tmp x, .tmp y]) (tmps : Array Value) (P : Program) (w : World) :
   (results fn tmps).run P w = .ok (.tuple #[tmps.getD t undef, tmps.getD u undef, tmps.getD v undef, tmps.getD x undef, tmps.getD y undef]) w := by simp [results, h]
set_option maxRecDepth 100000 in
set_option maxHeartbeats 2000000 in
theorem utf8_run (es : List (List UInt8)) (rest : List UInt8) (hw : ∀ e ∈ es, Wide e) (hr : ∀ c r, rest = c :: r → c.toNat < 128) (b off n i cap : Nat) (w : World) (hm : Bts w b (off + i) (es.flatten ++ rest)) (hn : n = i + es.flatten.length + rest.length)
   (hc : n ≤ cap) (hcb : n ≤ 140737488351232 ∧ cap ≤ 9223372036854775807) :
   Calls Try.prog 59 #[.slice (some ⟨b, off, none⟩) n cap, .int .i64 i] w fun e w' => e = .returned (.tuple #[.int .i64 ((i : Int) + (es.flatten.length : Nat)), .bool true]) ∧ w = w' := by
 have HM := Lib.hid hm
 have HW := Lib.hid hw
 have HR := Lib.hid hr
 clear hm hw hr
 generalize hR : rest.length = R at *
 have HRR := Lib.hid hR
 generalize hL : es.flatten.length = L at *
 have HL := Lib.hid hL
 have HN := Lib.hid hn
 have hnn : i + L + R = n := hn.symm
 have HNN := Lib.hid hnn
 have hle : i + L ≤ n := by omega
 clear hR hL hn hnn
 go_enter Try.func59, Try.ntmps59
 go_wp2_with fail
 go_loopg [1] es.length (fun g s1 wx => ∃ (q : List (List UInt8)) (k : Nat), s1 = .int .i64 k ∧ k + q.flatten.length = i + L ∧ g = q.length ∧ Hid (q <:+ es) ∧ wx = w)
 case atStart => exact ⟨es, i, rfl, by rw [HL.out], rfl, List.suffix_refl _, rfl⟩
 case round =>
   obtain ⟨q, k, rfl, hk, rfl, HQ, rfl⟩ := hrel
   have HB : Hid (Bts wr b (off + k) (q.flatten ++ rest)) := by
     obtain ⟨t, ht⟩ := HQ.out
     have h1 := HM.out
     rw [← ht, List.flatten_append, List.append_assoc] at h1
     have h2 := h1.post
     have h3 : i + t.flatten.length = k := by
       have := HL.out
       rw [← ht, List.flatten_append, List.length_append] at this
       omega
     rw [Nat.add_assoc, h3] at h2
     exact h2
   cases q with
   | nil =>
     have hkL : k = i + L := by simpa using hk
     subst hkL
     clear hk
     by_cases hR0 : R = 0
     · have hni : ¬ ((i : Int) + L < n) := by have := HNN.out; omega
       have HE : Hid (((i + L : Nat) : Int) = (i : Int) + L) := by show _ = _; omega
       go_wp2_with fail
       go_ret2
       exact ⟨by first | rfl | rw [HE.out], rfl⟩
     · have hlt : i + L < n := by have := HNN.out; omega
       obtain ⟨c, r, hcr⟩ : ∃ c r, rest = c :: r := by
         cases rest with
         | nil => have := HRR.out; simp at this; omega
         | cons c r => exact ⟨c, r, rfl⟩
       have hB := HB.out
       rw [hcr] at hB
       have hcc := hB.head.1
       have hlow : (c.toNat : Int) < 128 := by have := HR.out c r hcr; omega
       have hlow0 : (0 : Int) ≤ (c.toNat : Int) := by omega
       clear hB hcr
       generalize (c.toNat : Int) = x at *
       have HE : Hid (((i + L : Nat) : Int) = (i : Int) + L) := by show _ = _; omega
       go_wp2_with fail
       go_ret2
       exact ⟨by first | rfl | rw [HE.out], rfl⟩
   | cons e q' =>
     have hwe := HW.out e (HQ.out.subset (by simp))
     have HQ' : Hid (q' <:+ es) := (List.suffix_cons e q').trans HQ.out
     have hB := HB.out
     clear HB
     have b1 : bits .and .u8 (164 : Int) 192 = 128 := by decide +kernel
     have b2 : bits .and .u8 (173 : Int) 192 = 128 := by decide +kernel
     have b3 : bits .and .u8 (184 : Int) 192 = 128 := by decide +kernel
     have b4 : bits .and .u8 (152 : Int) 192 = 128 := by decide +kernel
     have b5 : bits .and .u8 (128 : Int) 192 = 128 := by decide +kernel
     have b6 : bits .and .u8 (159 : Int) 192 = 128 := by decide +kernel
     rcases hwe with rfl | rfl | rfl
     · simp only [List.flatten_cons, List.cons_append, List.nil_append, List.length_cons] at hk hB
       have c0 : wr.cell? ⟨b, off + k, none⟩ = some (.int .u8 195) := hB.head.1
       have c1 : wr.cell? ⟨b, off + (k + 1), none⟩ = some (.int .u8 164) := hB.head.2.head.1
       clear hB
       go_wp2_with fail
       go_roundg q'.length
       case measure => simp
       case rel => exact ⟨q', k + 2, by go_num, by omega, rfl, HQ'.out, rfl⟩
     · simp only [List.flatten_cons, List.cons_append, List.nil_append, List.length_cons] at hk hB
       have c0 : wr.cell? ⟨b, off + k, none⟩ = some (.int .u8 228) := hB.head.1
       have c1 : wr.cell? ⟨b, off + (k + 1), none⟩ = some (.int .u8 184) := hB.head.2.head.1
       have c2 : wr.cell? ⟨b, off + (k + 2), none⟩ = some (.int .u8 173) := hB.head.2.head.2.head.1
       clear hB
       go_wp2_with fail
       go_roundg q'.length
       case measure => simp
       case rel => exact ⟨q', k + 3, by go_num, by omega, rfl, HQ'.out, rfl⟩
     · simp only [List.flatten_cons, List.cons_append, List.nil_append, List.length_cons] at hk hB
       have c0 : wr.cell? ⟨b, off + k, none⟩ = some (.int .u8 240) := hB.head.1
       have c1 : wr.cell? ⟨b, off + (k + 1), none⟩ = some (.int .u8 159) := hB.head.2.head.1
       have c2 : wr.cell? ⟨b, off + (k + 2), none⟩ = some (.int .u8 152) := hB.head.2.head.2.head.1
       have c3 : wr.cell? ⟨b, off + (k + 3), none⟩ = some (.int .u8 128) := hB.head.2.head.2.head.2.head.1
       clear hB
       go_wp2_with fail
       go_roundg q'.length
       case measure => simp
       case rel => exact ⟨q', k + 4, by go_num, by omega, rfl, HQ'.out, rfl⟩
end Go.Proofs.Ytnlkbbpmpgdmiaa
namespace Go.Proofs.Ytnlkbbpmpgdmiaa
open Go.RowKit
set_option linter.unusedVariables false
set_option linter.unusedSimpArgs false
set_option maxRecDepth 100000 in
theorem appendRune_any {B : Nat} {w : World} {v : Value} {l : List UInt8} (h : Buf B w v l) {r : Nat} (hr : Alpha r) (hl : l.length ≤ 140737488351232) (hB : B ≤ w.heap.size) :
   Calls Try.prog 102 #[v, .int .i32 r] w (BufOut B (l ++ encN r) w) := by
 have H := Lib.hid h
 clear h
 by_cases hlow : r < 128
 · have he : encN r = [UInt8.ofNat r] := by simp [encN, hlow]
   have hu : (UInt8.ofNat r).toNat = r := by simp; omega
   have HA : Hid (∀ cs, Buf B (w.alloc (.cells cs 5)) v l) := fun cs => H.out.alloc _
   have HU : Hid (Value.int .u8 (UInt8.ofNat r).toNat = .int .u8 (r : Int)) := by show _ = _; rw [hu]
   rw [he]
   clear he hu hr
   go_enter Try.func102, Try.ntmps102
   go_wp2_with (at_builtin; refine wpList_app8 rfl (.tmp 8) (.tmp 11) rfl v l rfl (HA.out _) ⟨w.heap.size, 0, none⟩ 1 1 [UInt8.ofNat r] rfl rfl (by rw [List.map_cons, List.map_nil, HU.out]; exact Blk.add (l := [.int .u8 (r : Int)]) (Blk.new w 5 _)) (by simp; omega) (by simp; omega) ?_; intro v1 w1 hb1 hw1)
   go_ret
   exact ⟨_, rfl, hb1, (Below.alloc' hB _).trans hw1⟩
 · have hr2 : r = 0xE4 ∨ r = 0x4E2D ∨ r = 0x1F600 := by rcases hr with h | h; omega; exact h
   have hbig : r ≤ 0x1F600 := by omega
   go_enter Try.func102, Try.ntmps102
   go_wp2_with fail
   refine (nonAscii_any H.out hr2 hl hB).mono ?_
   rintro e w1 ⟨v1, rfl, hb1, hw1⟩
   go_wp2_with fail
   go_ret
   exact ⟨_, rfl, hb1, hw1⟩
theorem hexN_snoc (a : List UInt8) (c : UInt8) : hexN (a ++ [c]) = 16 * hexN a + hexV c := by simp [hexN]
theorem hexV_lt {c : UInt8} (h : HexC c) : hexV c < 16 := by unfold HexC at h; unfold hexV; split <;> omega
theorem hexN_mono (a b : List UInt8) : hexN a ≤ hexN (a ++ b) := by
 induction b generalizing a with
 | nil => simp
 | cons c b ih =>
   have h1 := ih (a ++ [c])
   rw [hexN_snoc] at h1
   rw [show a ++ c :: b = (a ++ [c]) ++ b from by simp]
   omega
theorem u32_or (a b : Nat) (ha : a < 4294967296) (hb : b < 4294967296) : bits .or .u32 (a : Int) (b : Int) = ((a ||| b : Nat) : Int) := by
 have e : ∀ n : Nat, n < 4294967296 → (BitVec.ofInt 32 (n : Int)).toNat = n := fun n hn => by
   rw [BitVec.ofInt_natCast, BitVec.toNat_ofNat]
   exact Nat.mod_eq_of_lt hn
 show IntKind.u32.wrap ((BitVec.ofInt 32 (a : Int) ||| BitVec.ofInt 32 (b : Int)).toNat : Int) = _
 rw [BitVec.toNat_or, e _ ha, e _ hb]
 have h1 : a ||| b < 4294967296 := Nat.or_lt_two_pow (n := 32) ha hb
 simp only [IntKind.wrap]
 simp [IntKind.bits, IntKind.signed]
 omega
theorem or16 (r d : Nat) (hd : d < 16) : (16 * r) ||| d = 16 * r + d := by
 have := Nat.two_pow_add_eq_or_of_lt (i := 4) (b := d) (by omega) r
 rw [show (2 : Nat) ^ 4 = 16 from rfl] at this
 exact this.symm
def BufAt (B : Nat) (l : List UInt8) (i : Nat) (w : World) (e : Ending) (w' : World) : Prop := ∃ v', e = .returned (.tuple #[v', .int .i64 (i : Int), .nilIface]) ∧ Buf B w' v' l ∧ Below B w w'
set_option maxRecDepth 100000 in
set_option maxHeartbeats 1000000 in
theorem unicode_any {B : Nat} {w : World} {v : Value} {l : List UInt8} (hbuf : Buf B w v l) (h rest : List UInt8) (hh : ∀ c ∈ h, HexC c) (hA : Alpha (hexN h)) (b off cap n i m : Nat) (hm : Bts w b (off + i) (h ++ rest)) (hmm : h.length = m) (hm8 : m ≤ 8) (hn : n = i + m + rest.length)
   (hc : n ≤ cap) (hcb : n ≤ 140737488351232 ∧ cap ≤ 9223372036854775807) (hl : l.length ≤ 140737488351232) (hB : B ≤ w.heap.size) :
   Calls Try.prog 101 #[v, .slice (some ⟨b, off, none⟩) n cap, .int .i64 i, .int .i64 m] w (BufAt B (l ++ encN (hexN h)) (i + m) w) := by
 have HBUF := Lib.hid hbuf
 have HM := Lib.hid hm
 have HH := Lib.hid hh
 have HA := Lib.hid hA
 have HMM := Lib.hid hmm
 have hbig : hexN h ≤ 0x1F600 := by unfold Alpha at hA; omega
 have hsur : hexN h < 55296 ∨ 57343 < hexN h := by unfold Alpha at hA; omega
 have hin : i + m ≤ n := by omega
 clear hbuf hm hh hA hmm hn
 go_enter Try.func101, Try.ntmps101
 go_wp2_with fail
 go_loopg [11, 12] m (fun g s11 s12 wx => ∃ k : Nat, s12 = .int .i64 k ∧ k + g = m ∧ s11 = .int .u32 (hexN (h.take k)) ∧ wx = w)
 case atStart => exact ⟨0, rfl, by omega, rfl, rfl⟩
 case round =>
   obtain ⟨k, rfl, hk, rfl, rfl⟩ := hrel
   cases gk with
   | zero =>
     have HE : Hid (h.take k = h) := by
       have := HMM.out
       exact List.take_of_length_le (by omega)
     rw [HE.out]
     have hkm : ¬ ((k : Int) < m) := by omega
     have hA := HA.out
     generalize hexN h = r at *
     have HA2 := Lib.hid hA
     clear hA HA HE
     rcases hsur with hs | hs
     all_goals
       go_wp2_with fail
       refine (appendRune_any HBUF.out HA2.out hl hB).mono ?_
       rintro e w1 ⟨v1, rfl, hb1, hw1⟩
       go_wp2_with fail
       go_ret3
       exact ⟨v1, rfl, hb1, hw1⟩
   | succ g =>
     have hkl : k < h.length := by have := HMM.out; omega
     obtain ⟨c, hc⟩ : ∃ c, h[k]? = some c := ⟨_, List.getElem?_eq_getElem hkl⟩
     have hcm : c ∈ h := List.mem_of_getElem? hc
     have hcell : wr.cell? ⟨b, off + (i + k), none⟩ = some (.int .u8 c.toNat) := by
       have h1 := HM.out.pre k hkl
       rw [Nat.add_assoc, List.getD_eq_getElem?_getD, hc] at h1
       exact h1
     have HS : Hid (hexN (h.take (k + 1)) = 16 * hexN (h.take k) + hexV c) := by
       rw [List.take_add_one, hc]
       exact hexN_snoc _ _
     have hle : hexN (h.take k) ≤ 0x1F600 := by
       have := hexN_mono (h.take k) (h.drop k)
       rw [List.take_append_drop] at this
       omega
     have hv := hexV_lt (HH.out c hcm)
     have hC := HH.out c hcm
     generalize hexN (h.take k) = r at *
     have HO : Hid (∀ d : Nat, d < 16 → bits .or .u32 ((16 * r : Nat) : Int) (d : Int) = ((16 * r + d : Nat) : Int)) := fun d hd => by rw [u32_or _ _ (by omega) (by omega), or16 _ _ hd]
     clear hc hcm
     unfold HexC at hC
     unfold hexV at HS hv
     rcases hC with ⟨h1, h2⟩ | ⟨h1, h2⟩
     · rw [if_pos (by omega)] at HS
       clear hv
       have h1' : (48 : Int) ≤ (c.toNat : Int) := by omega
       have h2' : (c.toNat : Int) ≤ 57 := by omega
       have HN : Hid (bits .or .u32 ((r : Int) * 16) ((c.toNat : Int) - 48) = ((16 * r + (c.toNat - 48) : Nat) : Int)) := by
         have h3 := HO.out (c.toNat - 48) (by omega)
         rw [show (((16 * r : Nat)) : Int) = (r : Int) * 16 from by omega, show ((c.toNat - 48 : Nat) : Int) = (c.toNat : Int) - 48 from by omega] at h3
         exact h3
       clear h1 h2
       go_wp2_with fail
       go_roundg g
       case measure => omega
       case rel => exact ⟨k + 1, by go_num, by omega, by rw [HN.out, HS.out], rfl⟩
     · rw [if_neg (by omega)] at HS
       clear hv
       have h1' : (97 : Int) ≤ (c.toNat : Int) := by omega
       have h2' : (c.toNat : Int) ≤ 102 := by omega
       have HN : Hid (bits .or .u32 ((r : Int) * 16) ((c.toNat : Int) - 97 + 10) = ((16 * r + (c.toNat - 87) : Nat) : Int)) := by
         have h3 := HO.out (c.toNat - 87) (by omega)
         rw [show (((16 * r : Nat)) : Int) = (r : Int) * 16 from by omega, show ((c.toNat - 87 : Nat) : Int) = (c.toNat : Int) - 97 + 10 from by omega] at h3
         exact h3
       clear h1 h2
       go_wp2_with fail
       go_roundg g
       case measure => omega
       case rel => exact ⟨k + 1, by go_num, by omega, by rw [HN.out, HS.out], rfl⟩
def FoundIs (i n : Nat) (w : World) (e : Ending) (w' : World) : Prop := ∃ r : Int, (r = -1 ∨ ((i : Int) ≤ r ∧ r < n)) ∧ e = .returned (.int .i64 r) ∧ w = w'
set_option maxRecDepth 100000 in
theorem findBas_any (l : List UInt8) (b off cap i : Nat) (w : World) (hm : Bts w b off l) (hc : l.length ≤ cap) (hcb : l.length ≤ 140737488351232 ∧ cap ≤ 9223372036854775807) (hi : i ≤ l.length) :
   Calls Try.prog 94 #[.slice (some ⟨b, off, none⟩) l.length cap, .int .i64 i] w (FoundIs i l.length w) := by
 have HM := Lib.hid hm
 clear hm
 generalize hn : l.length = n at *
 have HN := Lib.hid hn
 clear hn
 go_enter Try.func94, Try.ntmps94
 go_wp2_with fail
 go_loopg [1] (n + 2 - i) (fun g s1 wx => ∃ k : Nat, s1 = .int .i64 k ∧ k + g = n + 2 ∧ i ≤ k ∧ wx = w)
 case atStart => exact ⟨i, rfl, by omega, Nat.le_refl _, rfl⟩
 case round =>
   obtain ⟨k, rfl, hk, hik, rfl⟩ := hrel
   by_cases hkn : k < n
   · have hcell := HM.out k (by rw [HN.out]; exact hkn)
     generalize ((l.getD k 0).toNat : Int) = x at *
     by_cases h34 : x = 34
     · subst h34
       go_wp2_with fail
       go_ret
       exact ⟨k, .inr ⟨by omega, by omega⟩, rfl, rfl⟩
     · have e34 : (x == 34) = false := by simp; exact h34
       by_cases h92 : x = 92
       · subst h92
         go_wp2_with fail
         go_roundg (n - k)
         case measure => omega
         case rel => exact ⟨k + 2, by go_num, by omega, by omega, rfl⟩
       · have e92 : (x == 92) = false := by simp; exact h92
         clear h34 h92
         go_wp2_with fail
         go_roundg (n + 1 - k)
         case measure => omega
         case rel => exact ⟨k + 1, by go_num, by omega, by omega, rfl⟩
   · go_wp2_with fail
     go_ret
     exact ⟨-1, .inl rfl, rfl, rfl⟩
end Go.Proofs.Ytnlkbbpmpgdmiaa
namespace Go.Proofs.Ytnlkbbpmpgdmiaa
open Go.RowKit
set_option linter.unusedVariables false
set_option linter.unusedSimpArgs false
def wordBadL (X c : Nat) : Bool := bits .or .u64 (bits .or .u64 (bits .or .u64 (bits .and .u64 X 9259542123273814144) (hbb X 32 : Nat)) (hbe X c : Nat)) (hbe X 127 : Nat) != 0
theorem wordBadL_low {X c : Nat} (hX : X < 18446744073709551616) (h : wordBadL X c = false) : X &&& 9259542123273814144 = 0 ∧ hbe X c = 0 := by
 unfold wordBadL at h
 have hand : X &&& 9259542123273814144 < 18446744073709551616 := Nat.lt_of_le_of_lt Nat.and_le_left hX
 have h1 := Nat.or_lt_two_pow (n := 64) hand (hbb_lt X 32)
 have h2 := Nat.or_lt_two_pow (n := 64) h1 (hbe_lt X c)
 rw [show (9259542123273814144 : Int) = ((9259542123273814144 : Nat) : Int) from rfl, u64_and _ _ hX (by omega), u64_or _ _ hand (hbb_lt _ _), u64_or _ _ h1 (hbe_lt _ _), u64_or _ _ h2 (hbe_lt _ _)] at h
 have h2 : (((X &&& 9259542123273814144) ||| hbb X 32) ||| hbe X c) ||| hbe X 127 = 0 := by
   simpa using h
 obtain ⟨h3, h4⟩ := or_zero h2
 obtain ⟨h5, h6⟩ := or_zero h3
 obtain ⟨h7, h8⟩ := or_zero h5
 exact ⟨h7, h6⟩
def LitIs (b off cap m : Nat) (l r : List UInt8) (w : World) (e : Ending) (w' : World) : Prop :=
 ∃ v, e = .returned (.tuple #[.slice (some ⟨b, off, none⟩) (m + 2) cap, .slice (some ⟨b, off + 1, none⟩) m (cap - 1), v, .nilIface]) ∧ Rest b off cap l r v ∧ ∃ n, w' = w.drewN n
theorem lit_fin {w w' : World} {b off cap m R k2 c2 k3 c3 c4 n : Nat} {z0 : UInt8} {p rest : List UInt8} {A B : Addr} (hp : p.length = m) (hR : rest.length = R) (hc : m + R + 2 ≤ cap)
   (e1 : k2 = m + 2) (e2 : c2 = cap) (e3 : k3 = m) (e4 : c3 = cap - 1) (eA : A = ⟨b, off + 1, none⟩) (e5 : n = R) (e6 : c4 = cap - (m + 2)) (hB : 0 < R → B = ⟨b, off + (m + 2), none⟩) (hw : ∃ n, w' = w.drewN n) :
   LitIs b off cap m (z0 :: (p ++ z0 :: rest)) rest w (.returned (.tuple #[.slice (some ⟨b, off, none⟩) k2 c2, .slice (some A) k3 c3, .slice (some B) n c4, .nilIface])) w' := by
 subst e1 e2 e3 e4 e5 e6 eA hp hR
 exact ⟨_, rfl, Rest.drop (p.length + 2) (by simp) (by simp; omega) rfl (by simp) (fun h => hB (by simp at h; omega)), hw⟩
theorem at_chunks {w : World} {b off : Nat} {z0 z1 : UInt8} {es q : List (List UInt8)} {rest : List UInt8} (h : Bts w b off (z0 :: (es.flatten ++ z1 :: rest))) (hq : q <:+ es) {k : Nat} (hk : k + q.flatten.length = es.flatten.length + 1) : Bts w b (off + k) (q.flatten ++ z1 :: rest) := by
 obtain ⟨t, rfl⟩ := hq
 rw [List.flatten_append] at h hk
 have h2 := at_suffix (rest := z1 :: rest) (p := t.flatten ++ q.flatten) (q := q.flatten) (c0 := z0) h ⟨t.flatten, rfl⟩ (k := k) (by simpa using hk)
 exact h2
theorem flat_suffix {q es : List (List UInt8)} (h : q <:+ es) : q.flatten.length ≤ es.flatten.length := by
 obtain ⟨t, rfl⟩ := h
 simp
set_option maxRecDepth 100000 in
set_option maxHeartbeats 4000000 in
theorem litStr_any (es : List (List UInt8)) (rest : List UInt8) (he : ∀ e ∈ es, Chunk LitC e) (pv : Value) (b off cap M R : Nat) (w : World) (hm : Bts w b off (39 :: (es.flatten ++ 39 :: rest))) (hM : es.flatten.length = M) (hR : rest.length = R)
   (hc : M + R + 2 ≤ cap) (hcb : M + R + 2 ≤ 140737488351232 ∧ cap ≤ 9223372036854775807) :
   Calls Try.prog 75 #[pv, .slice (some ⟨b, off, none⟩) (M + R + 2) cap] w (LitIs b off cap M (39 :: (es.flatten ++ 39 :: rest)) rest w) := by
 have HM := Lib.hid hm
 have HE := Lib.hid he
 have HMM := Lib.hid hM
 have HRR := Lib.hid hR
 clear hm he hM hR
 go_enter Try.func75, Try.ntmps75
 go_wp2_with fail
 go_loopg [8, 9, 10, 11] es.length (fun g s8 s9 s10 s11 wx => ∃ (q : List (List UInt8)) (k : Nat), s8 = .int .i64 k ∧ k + q.flatten.length = M + 1 ∧ g = q.length ∧ Hid (q <:+ es) ∧ Hid (∃ n, wx = w.drewN n))
 case atStart => exact ⟨es, 1, rfl, by rw [HMM.out]; omega, rfl, List.suffix_refl _, 0, rfl⟩
 case round =>
   obtain ⟨q, k, rfl, hk, rfl, HQ0, HW⟩ := hrel
   go_wp2_with fail
   go_loopg [8, 9] q.length (fun g s8 s9 wx => ∃ (q' : List (List UInt8)) (k' : Nat), s8 = .int .i64 k' ∧ k' + q'.flatten.length = M + 1 ∧ q'.length ≤ q.length ∧ g = q'.length ∧ Hid (q' <:+ es) ∧ Hid (∃ n, wx = w.drewN n))
   case atStart => exact ⟨q, k, rfl, hk, Nat.le_refl _, rfl, HQ0.out, HW.out⟩
   case round =>
     clear HW HQ0 hk
     obtain ⟨q', k', rfl, hk', hq', rfl, HQ, HW⟩ := hrel
     obtain ⟨n, rfl⟩ := HW.out
     clear HW
     have hk1 : 1 ≤ k' := by have := flat_suffix HQ.out; have := HMM.out; omega
     by_cases h8 : k' + 8 ≤ M + R + 2
     · obtain ⟨d0, d1, d2, d3, d4, d5, d6, d7, r, hq8⟩ := eight (q := q'.flatten) (s := 39 :: rest) (by rw [List.length_cons, HRR.out]; omega)
       have HL : Hid (M + R + 2 - k' = r.length + 8) := by
         have := congrArg List.length hq8
         simp only [List.length_append, List.length_cons] at this
         have h2 := HRR.out
         show _ = _
         omega
       have HB : Hid (Bts w b (off + k') (d0 :: d1 :: d2 :: d3 :: d4 :: d5 :: d6 :: d7 :: r)) := by
         have := at_chunks HM.out HQ.out (k := k') (by rw [HMM.out]; exact hk')
         rw [hq8] at this
         exact this
       have H8 := Lib.hid hq8
       clear hq8
       have hck : k' < cap := by omega
       go_wp2_with fail
       refine (leU_at _ d0 d1 d2 d3 d4 d5 d6 d7 r b (off + k') _ _ (HB.out.drewN _) HL.out (by have := HL.out; omega) (by have := HL.out; omega)).mono ?_
       rintro e w1 ⟨rfl, n2, rfl⟩
       have hx := num8_lt d0 d1 d2 d3 d4 d5 d6 d7
       generalize hX : num8 d0.toNat d1.toNat d2.toNat d3.toNat d4.toNat d5.toNat d6.toNat d7.toNat = X at *
       have HX := Lib.hid hX
       clear hX
       go_wp2_with fail
       refine (hbb_any X 32 hx (by omega) _).mono ?_
       rintro e w1 ⟨rfl, rfl⟩
       go_wp2_with fail
       refine (hbe_any X 39 hx (by omega) _).mono ?_
       rintro e w1 ⟨rfl, rfl⟩
       go_wp2_with fail
       refine (hbe_any X 127 hx (by omega) _).mono ?_
       rintro e w1 ⟨rfl, rfl⟩
       cases hwb : wordBadL X 39 with
       | false =>
         have hq3 : Hid (∃ q3, q' = [d0] :: [d1] :: [d2] :: [d3] :: [d4] :: [d5] :: [d6] :: [d7] :: q3) := by
           obtain ⟨h1, h2⟩ := wordBadL_low hx hwb
           have l0 := d0.toNat_lt; have l1 := d1.toNat_lt; have l2 := d2.toNat_lt; have l3 := d3.toNat_lt; have l4 := d4.toNat_lt; have l5 := d5.toNat_lt; have l6 := d6.toNat_lt; have l7 := d7.toNat_lt
           obtain ⟨g0, g1, g2, g3, g4, g5, g6, g7⟩ := low128 HX.out.symm (by omega) (by omega) (by omega) (by omega) (by omega) (by omega) (by omega) (by omega) h1
           obtain ⟨z0, z1, z2, z3, z4, z5, z6, z7⟩ := noByte 39 X (by omega) (by decide) HX.out.symm (by omega) (by omega) (by omega) (by omega) (by omega) (by omega) (by omega) (by omega) h1 h2
           exact chunks8 (fun e h => HE.out e (HQ.out.subset h)) H8.out g0 g1 g2 g3 g4 g5 g6 g7 (fun e => z0 (by rw [e]; rfl)) (fun e => z1 (by rw [e]; rfl)) (fun e => z2 (by rw [e]; rfl)) (fun e => z3 (by rw [e]; rfl)) (fun e => z4 (by rw [e]; rfl)) (fun e => z5 (by rw [e]; rfl)) (fun e => z6 (by rw [e]; rfl)) (fun e => z7 (by rw [e]; rfl))
         obtain ⟨q3, rfl⟩ := hq3.out
         simp only [wordBadL] at hwb
         simp only [List.length_cons, List.flatten_cons, List.length_append, List.length_nil] at hk' hq'
         go_wp2_with fail
         go_roundg q3.length
         case measure => simp; omega
         case rel => exact ⟨q3, k' + 8, by go_num, by omega, by omega, rfl, (((((((((List.suffix_cons _ _).trans (List.suffix_cons _ _)).trans (List.suffix_cons _ _)).trans (List.suffix_cons _ _)).trans (List.suffix_cons _ _)).trans (List.suffix_cons _ _)).trans (List.suffix_cons _ _)).trans (List.suffix_cons _ _)).trans HQ.out), _, rfl⟩
       | true =>
         simp only [wordBadL] at hwb
         clear H8 HB HL HX
         have hat := at_chunks HM.out HQ.out (by rw [HMM.out]; exact hk')
         cases q' with
         | nil =>
           simp only [List.flatten_nil, List.nil_append, List.length_nil] at hk' hq' hat
           have hc0 : w.cell? ⟨b, off + k', none⟩ = some (.int .u8 39) := hat.head.1
           clear hat
           by_cases hcap : cap = k' + 1
           · first
               | (exfalso; omega)
               | (go_wp2_with fail
                  go_quiet (fail)
                  go_wp2
                  ((try simp only [Exit.inBlock, Exit.then]); refine bodyPost_ret (results_tmp4 rfl _ _ _) rfl ?_)
                  exact lit_fin HMM.out HRR.out (by omega) (by omega) (by omega) (by omega) (by omega) rfl (by omega) (by omega) (fun h => by omega) ⟨_, World.drewN_drewN ..⟩)
           · go_wp2_with fail
             go_quiet (fail)
             go_wp2
             ((try simp only [Exit.inBlock, Exit.then]); refine bodyPost_ret (results_tmp4 rfl _ _ _) rfl ?_)
             exact lit_fin HMM.out HRR.out (by omega) (by omega) rfl (by omega) rfl rfl (by omega) (by omega) (fun h => by rw [show k' + 1 = M + 2 from by omega]) ⟨_, World.drewN_drewN ..⟩
         | cons e q3 =>
           rcases HE.out e (HQ.out.subset (by simp)) with hwide | ⟨c, hC, rfl⟩
           · obtain ⟨qa, qb, hab, hwa, hwb⟩ := wide_run (fun c h => LitC.lt h) (q := e :: q3) (fun x hx => HE.out x (HQ.out.subset hx))
             have hqa : 0 < qa.length := by
               cases qa with
               | nil =>
                 obtain ⟨c, _, hc⟩ := hwb e q3 hab.symm
                 obtain ⟨d, t, hd, hd2⟩ := hwide.head
                 rw [hc] at hd
                 injection hd with hd _
                 have := (hwb e q3 hab.symm)
                 obtain ⟨c', hc', he'⟩ := this
                 rw [hc] at he'
                 injection he' with he' _
                 subst he' hd
                 have := hc'.lt
                 omega
               | cons => simp
             obtain ⟨c, t, hce, hc128⟩ := hwide.head
             have hat0 := hat
             rw [List.flatten_cons, hce] at hat0
             have hc0 := hat0.head.1
             have h128 : 128 ≤ (c.toNat : Int) := by omega
             have h255 : (c.toNat : Int) ≤ 255 := by have := c.toNat_lt; omega
             generalize (c.toNat : Int) = x at *
             have e39 : (x == 39) = false := by simp; omega
             have e9 : (x == 9) = false := by simp; omega
             have e10 : (x == 10) = false := by simp; omega
             have e13 : (x == 13) = false := by simp; omega
             rw [hab, List.flatten_append, List.append_assoc] at hat
             have hab2 := congrArg List.length hab
             have hab3 := congrArg (fun l => (List.flatten l).length) hab
             simp only [List.length_append, List.flatten_append] at hab2 hab3
             rw [hab3] at hk'
             rw [hab2] at hq'
             have HAT := Lib.hid hat
             have HWA := Lib.hid hwa
             have HWB := Lib.hid hwb
             have HQB : Hid (qb <:+ es) := by
               have := HQ.out
               rw [hab] at this
               exact (List.suffix_append qa qb).trans this
             clear hat hat0 hwa hwb hab hab2 hab3 hce hwide HQ hc128
             generalize hla : qa.flatten.length = la at *
             have HLA := Lib.hid hla
             generalize hlb : qb.flatten.length = lb at *
             have HLB := Lib.hid hlb
             clear hla hlb
             go_wp2_with fail
             refine (utf8_run qa (qb.flatten ++ 39 :: rest) HWA.out ?_ b off (M + R + 2) k' cap _ (HAT.out.drewN _) ?_ (by omega) (by omega)).mono ?_
             · intro c r h
               cases qb with
               | nil => simp at h; rw [← h.1]; decide
               | cons e2 r2 =>
                 obtain ⟨d, hd, rfl⟩ := HWB.out e2 r2 rfl
                 simp at h
                 rw [← h.1]
                 exact hd.lt
             · rw [HLA.out, List.length_append, HLB.out, List.length_cons, HRR.out]; omega
             rintro e w1 ⟨rfl, rfl⟩
             rw [HLA.out]
             go_wp2_with fail
             go_roundg qb.length
             case measure => omega
             case rel => exact ⟨qb, k' + la, by go_num, by rw [HLB.out]; omega, rfl, HQB.out, _, rfl⟩
           · simp only [List.flatten_cons, List.cons_append, List.nil_append, List.length_cons, List.length_append, List.length_nil] at hk' hq' hat
             have hc0 := hat.head.1
             have hC2 : (32 ≤ (c.toNat : Int) ∧ (c.toNat : Int) < 127 ∧ (c.toNat : Int) ≠ 39) ∨ (c.toNat : Int) = 9 := by unfold LitC at hC; omega
             have HQ3 : Hid (q3 <:+ es) := (List.suffix_cons _ _).trans HQ.out
             clear hat hC HQ
             generalize (c.toNat : Int) = x at *
             rcases hC2 with ⟨h1, h2, h3⟩ | rfl
             · go_wp2_with fail
               go_roundg q3.length
               case measure => omega
               case rel => exact ⟨q3, k' + 1, by go_num, by omega, rfl, HQ3.out, _, rfl⟩
             · go_wp2_with fail
               go_roundg q3.length
               case measure => omega
               case rel => exact ⟨q3, k' + 1, by go_num, by omega, rfl, HQ3.out, _, rfl⟩
     · have hat := at_chunks HM.out HQ.out (by rw [HMM.out]; exact hk')
       cases q' with
       | nil =>
         simp only [List.flatten_nil, List.nil_append, List.length_nil] at hk' hq' hat
         have hc0 : w.cell? ⟨b, off + k', none⟩ = some (.int .u8 39) := hat.head.1
         clear hat
         by_cases hcap : cap = k' + 1
         · first
             | (exfalso; omega)
             | (go_wp2_with fail
                go_quiet (fail)
                go_wp2
                ((try simp only [Exit.inBlock, Exit.then]); refine bodyPost_ret (results_tmp4 rfl _ _ _) rfl ?_)
                exact lit_fin HMM.out HRR.out (by omega) (by omega) (by omega) (by omega) (by omega) rfl (by omega) (by omega) (fun h => by omega) ⟨_, World.drewN_drewN ..⟩)
         · go_wp2_with fail
           go_quiet (fail)
           go_wp2
           ((try simp only [Exit.inBlock, Exit.then]); refine bodyPost_ret (results_tmp4 rfl _ _ _) rfl ?_)
           exact lit_fin HMM.out HRR.out (by omega) (by omega) rfl (by omega) rfl rfl (by omega) (by omega) (fun h => by rw [show k' + 1 = M + 2 from by omega]) ⟨_, World.drewN_drewN ..⟩
       | cons e q3 =>
         rcases HE.out e (HQ.out.subset (by simp)) with hwide | ⟨c, hC, rfl⟩
         · obtain ⟨qa, qb, hab, hwa, hwb⟩ := wide_run (fun c h => LitC.lt h) (q := e :: q3) (fun x hx => HE.out x (HQ.out.subset hx))
           have hqa : 0 < qa.length := by
             cases qa with
             | nil =>
               obtain ⟨c, _, hc⟩ := hwb e q3 hab.symm
               obtain ⟨d, t, hd, hd2⟩ := hwide.head
               rw [hc] at hd
               injection hd with hd _
               have := (hwb e q3 hab.symm)
               obtain ⟨c', hc', he'⟩ := this
               rw [hc] at he'
               injection he' with he' _
               subst he' hd
               have := hc'.lt
               omega
             | cons => simp
           obtain ⟨c, t, hce, hc128⟩ := hwide.head
           have hat0 := hat
           rw [List.flatten_cons, hce] at hat0
           have hc0 := hat0.head.1
           have h128 : 128 ≤ (c.toNat : Int) := by omega
           have h255 : (c.toNat : Int) ≤ 255 := by have := c.toNat_lt; omega
           generalize (c.toNat : Int) = x at *
           have e39 : (x == 39) = false := by simp; omega
           have e9 : (x == 9) = false := by simp; omega
           have e10 : (x == 10) = false := by simp; omega
           have e13 : (x == 13) = false := by simp; omega
           rw [hab, List.flatten_append, List.append_assoc] at hat
           have hab2 := congrArg List.length hab
           have hab3 := congrArg (fun l => (List.flatten l).length) hab
           simp only [List.length_append, List.flatten_append] at hab2 hab3
           rw [hab3] at hk'
           rw [hab2] at hq'
           have HAT := Lib.hid hat
           have HWA := Lib.hid hwa
           have HWB := Lib.hid hwb
           have HQB : Hid (qb <:+ es) := by
             have := HQ.out
             rw [hab] at this
             exact (List.suffix_append qa qb).trans this
           clear hat hat0 hwa hwb hab hab2 hab3 hce hwide HQ hc128
           generalize hla : qa.flatten.length = la at *
           have HLA := Lib.hid hla
           generalize hlb : qb.flatten.length = lb at *
           have HLB := Lib.hid hlb
           clear hla hlb
           go_wp2_with fail
           refine (utf8_run qa (qb.flatten ++ 39 :: rest) HWA.out ?_ b off (M + R + 2) k' cap _ (HAT.out.drewN _) ?_ (by omega) (by omega)).mono ?_
           · intro c r h
             cases qb with
             | nil => simp at h; rw [← h.1]; decide
             | cons e2 r2 =>
               obtain ⟨d, hd, rfl⟩ := HWB.out e2 r2 rfl
               simp at h
               rw [← h.1]
               exact hd.lt
           · rw [HLA.out, List.length_append, HLB.out, List.length_cons, HRR.out]; omega
           rintro e w1 ⟨rfl, rfl⟩
           rw [HLA.out]
           go_wp2_with fail
           go_roundg qb.length
           case measure => omega
           case rel => exact ⟨qb, k' + la, by go_num, by rw [HLB.out]; omega, rfl, HQB.out, _, rfl⟩
         · simp only [List.flatten_cons, List.cons_append, List.nil_append, List.length_cons, List.length_append, List.length_nil] at hk' hq' hat
           have hc0 := hat.head.1
           have hC2 : (32 ≤ (c.toNat : Int) ∧ (c.toNat : Int) < 127 ∧ (c.toNat : Int) ≠ 39) ∨ (c.toNat : Int) = 9 := by unfold LitC at hC; omega
           have HQ3 : Hid (q3 <:+ es) := (List.suffix_cons _ _).trans HQ.out
           clear hat hC HQ
           generalize (c.toNat : Int) = x at *
           rcases hC2 with ⟨h1, h2, h3⟩ | rfl
           · go_wp2_with fail
             go_roundg q3.length
             case measure => omega
             case rel => exact ⟨q3, k' + 1, by go_num, by omega, rfl, HQ3.out, _, rfl⟩
           · go_wp2_with fail
             go_roundg q3.length
             case measure => omega
             case rel => exact ⟨q3, k' + 1, by go_num, by omega, rfl, HQ3.out, _, rfl⟩
end Go.Proofs.Ytnlkbbpmpgdmiaa
