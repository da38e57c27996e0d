/- impl; Values as they lie in memory; impl. -/
import Derived.Test.YtnlkbbpmpgdmiaaXAN
import Derived.Test.YtnlkbbpmpgdmiaaXAD
import Derived.Maps.AppendAt
import Derived.Deep.RegionHeld3
import Derived.Deep.AppendLies
namespace Go.Proofs.Ytnlkbbpmpgdmiaa
open Go.RowKit
set_option linter.unusedVariables false
set_option linter.unusedSimpArgs false
def Row (P : Nat → Prop) (w : World) (e : TypeId) (sz : Nat) (v : Value) (n : Nat) (xs : List Value) : Prop :=
 xs.length = n * sz ∧ ((v = .slice none 0 0 ∧ n = 0) ∨ ∃ g cap cur, v = .slice (some ⟨g, 0, none⟩) n cap ∧ P g ∧ Blk w g e cur ∧ n ≤ cap ∧ cap ≤ maxLen ∧ cur.size = cap * sz ∧ cur.toList.take (n * sz) = xs)
theorem Row.move {P P' : Nat → Prop} {w w' : World} {e : TypeId} {sz n : Nat} {v : Value} {xs : List Value} (h : Row P w e sz v n xs) (hm : ∀ g t cs, P g → Blk w g t cs → P' g ∧ Blk w' g t cs) : Row P' w' e sz v n xs := by
 obtain ⟨h1, h2⟩ := h
 refine ⟨h1, ?_⟩
 rcases h2 with h2 | ⟨g, cap, cur, a, b, c, d⟩
 · exact .inl h2
 · exact .inr ⟨g, cap, cur, a, (hm g e cur b c).1, (hm g e cur b c).2, d⟩
theorem Row.of_own {P : Nat → Prop} {w : World} {B : Nat} {e : TypeId} {sz n : Nat} {v : Value} {xs : List Value} (h : w.ownsRow B e sz v n xs) (hP : ∀ g, B ≤ g → v.ownBlock = some g → P g) : Row P w e sz v n xs := by
 obtain ⟨h1, h2⟩ := h
 refine ⟨h1, ?_⟩
 rcases h2 with h2 | ⟨g, cap, cur, rfl, b, c, d⟩
 · exact .inl h2
 · exact .inr ⟨g, cap, cur, rfl, hP g b rfl, c, d⟩
theorem Row.slice {P : Nat → Prop} {w : World} {e : TypeId} {sz n : Nat} {v : Value} {xs : List Value} (h : Row P w e sz v n xs) : ∃ a cap, v = .slice a n cap ∧ n ≤ cap ∧ cap ≤ maxLen := by
 rcases h.2 with ⟨rfl, rfl⟩ | ⟨g, cap, cur, rfl, _, _, h1, h2, _⟩
 · exact ⟨_, _, rfl, Nat.le_refl _, by simp [maxLen]⟩
 · exact ⟨_, _, rfl, h1, h2⟩
theorem Row.cells {P : Nat → Prop} {w : World} {e : TypeId} {sz n : Nat} {v : Value} {xs : List Value} (h : Row P w e sz v n xs) (hn : 0 < n) : ∃ g cap, v = .slice (some ⟨g, 0, none⟩) n cap ∧ n ≤ cap ∧ cap ≤ maxLen ∧ P g ∧ g < w.heap.size ∧ ∀ k, k < n * sz → w.cell? ⟨g, k, none⟩ = xs[k]? := by
 obtain ⟨h1, h2⟩ := h
 rcases h2 with ⟨_, h2⟩ | ⟨g, cap, cur, rfl, b, c, d, e1, f, k⟩
 · omega
 · refine ⟨g, cap, rfl, d, e1, b, c.lt, fun j hj => ?_⟩
   rw [c.cell, ← Array.getElem?_toList, ← k, List.getElem?_take_of_lt hj]
def StrRow (P : Nat → Prop) (w : World) (v : Value) (ks : List (List UInt8)) : Prop := Row P w 9 1 v ks.length (ks.map fun k => Value.string ⟨k.toArray⟩)
theorem StrRow.of_out {P : Nat → Prop} {w : World} {B : Nat} {v : Value} {ks : List (List UInt8)} (h : OutIs B w v (ks.map fun k => ⟨k.toArray⟩)) (hP : ∀ g, B ≤ g → P g) : StrRow P w v ks := by
 unfold OutIs at h
 rw [List.length_map, List.map_map] at h
 exact Row.of_own h fun g hg _ => hP g hg
def Seg (ns : List Nd) (base : Nat) (xs : List Nd) : Prop := ∃ pre post, ns = pre ++ (xs ++ post) ∧ pre.length = base
theorem Seg.get {ns xs : List Nd} {base j : Nat} {x : Nd} (h : Seg ns base xs) (hx : xs[j]? = some x) : ns[base + j]? = some x := by
 obtain ⟨pre, post, rfl, rfl⟩ := h
 have hj : j < xs.length := (List.getElem?_eq_some_iff.1 hx).1
 rw [List.getElem?_append_right (by omega), Nat.add_sub_cancel_left, List.getElem?_append_left hj, hx]
theorem Seg.left {ns a b : List Nd} {base : Nat} (h : Seg ns base (a ++ b)) : Seg ns base a := by
 obtain ⟨pre, post, rfl, rfl⟩ := h
 exact ⟨pre, b ++ post, by simp, rfl⟩
theorem Seg.right {ns a b : List Nd} {base : Nat} (h : Seg ns base (a ++ b)) : Seg ns (base + a.length) b := by
 obtain ⟨pre, post, rfl, rfl⟩ := h
 exact ⟨pre ++ a, post, by simp, by simp⟩
theorem Seg.head {ns r : List Nd} {base : Nat} {x : Nd} (h : Seg ns base (x :: r)) : ns[base]? = some x := by
 have := h.get (j := 0) (x := x) rfl
 simpa using this
theorem Seg.tail {ns r : List Nd} {base : Nat} {x : Nd} (h : Seg ns base (x :: r)) : Seg ns (base + 1) r := by
 have h' : Seg ns base ([x] ++ r) := h
 exact h'.right
theorem Seg.lt {ns r : List Nd} {base : Nat} (h : Seg ns base r) : base + r.length ≤ ns.length := by
 obtain ⟨pre, post, rfl, rfl⟩ := h
 simp
def nxt {α : Type} (more : List α) (p : Nat) : Nat := if more = [] then 0 else p + 1
theorem nxt_nil {α : Type} (p : Nat) : nxt ([] : List α) p = 0 := rfl
theorem nxt_cons {α : Type} (x : α) (l : List α) (p : Nat) : nxt (x :: l) p = p + 1 := rfl
def ItAt (w : World) (gn it : Nat) (ns : List Nd) (K : Nat) : Prop := Blk w it 99 #[.bool false, ndOpt gn K] ∨ ∃ j x, Blk w it 99 #[.bool true, ndPtr gn j] ∧ ns[j]? = some x ∧ x.next = K
def ItStep (gn it : Nat) (ns : List Nd) (K : Nat) (w : World) (e : Ending) (w' : World) : Prop :=
 e = .returned (.bool (K != 0)) ∧ (∀ j, K = j + 1 → Blk w' it 99 #[.bool true, ndPtr gn j]) ∧ it < w'.heap.size ∧ Below it w w' ∧ (∀ g t cs, t ≠ 99 → Blk w g t cs → Blk w' g t cs) ∧ w'.heap.size = w.heap.size ∧ (∀ g t cs, g ≠ it → Blk w g t cs → Blk w' g t cs)
theorem it_step {w : World} {g gn it : Nat} {ns : List Nd} (h : PN w g gn ns) (hk : ∀ x ∈ ns, x.kind ≠ 0) (K : Nat) (hK : K ≤ ns.length) (hb : ns.length ≤ 1000000) (hit : ItAt w gn it ns K) (h1 : g < it) (h2 : gn < it) :
   Calls Try.prog 44 #[.pointer (some ⟨it, 0, none⟩)] w (ItStep gn it ns K w) := by
 rcases hit with hit | ⟨j, x, hit, hx, rfl⟩
 · refine (it_first h hk K hK hit (by omega) (by omega)).mono ?_
   rintro e w' ⟨rfl, rfl⟩
   have hb2 := hit.set_ 0 (.bool true)
   refine ⟨rfl, ?_, by simpa using hit.lt, (Below.refl it w).setCell (p := ⟨it, 0, none⟩) (Nat.le_refl it) _, ?_, by simp, fun g' t cs hne hg => hg.far (p := ⟨it, 0, none⟩) hne _⟩
   · rintro j rfl
     exact hb2
   · intro g' t cs ht hg
     exact hg.far (p := ⟨it, 0, none⟩) (hg.ne_ hit ht) _
 · refine (it_next h hk j x hx hK hb hit (by omega) (by omega)).mono ?_
   rintro e w' ⟨rfl, n, rfl⟩
   have hit' : Blk (w.drewN n) it 99 #[.bool true, ndPtr gn j] := hit
   have hb2 := hit'.set_ 1 (ndOpt gn x.next)
   refine ⟨rfl, ?_, by simpa using hit'.lt, (Fr.drewN w n).1.trans ((Below.refl it (w.drewN n)).setCell (p := ⟨it, 1, none⟩) (Nat.le_refl it) _), ?_, by simp, fun g' t cs hne hg => Blk.far (w := w.drewN n) hg (p := ⟨it, 1, none⟩) hne _⟩
   · intro j' hj
     rw [hj] at hb2 ⊢
     exact hb2
   · intro g' t cs ht hg
     exact Blk.far (w := w.drewN n) hg (p := ⟨it, 1, none⟩) (hg.ne_ hit ht) _
theorem PN.keep {w w' : World} {g gn : Nat} {ns : List Nd} (h : PN w g gn ns) {B : Nat} (hb : Below B w w') (h1 : g < B) (h2 : gn < B) : PN w' g gn ns := by
 obtain ⟨c, d1, d2, d3, d4, d5⟩ := h
 exact ⟨c, (hb.cell (p := ⟨g, 3, none⟩) h1).trans d1, d2, Nat.lt_of_lt_of_le d3 hb.size, Nat.lt_of_lt_of_le d4 hb.size, fun i x hi j hj => (hb.cell (p := ⟨gn, 7 * i + j, none⟩) h2).trans (d5 i x hi j hj)⟩
theorem key_kv {w : World} {g gn : Nat} {ns : List Nd} (h : PN w g gn ns) (hk : ∀ x ∈ ns, x.kind ≠ 0) {i c : Nat} {x y : Nd} (hi : ns[i]? = some x) (hx : x.kind = 5) (hc : x.child = c + 1) (hy : ns[c]? = some y) (hyn : y.next ≤ ns.length) (hb : ns.length ≤ 1000000) :
   Calls Try.prog 48 #[ndPtr gn i] w (ItIs (ndOpt gn y.next) w) := by
 have H := Lib.hid h
 have HK := Lib.hid hk
 have HI := Lib.hid hi
 have HY := Lib.hid hy
 have hcl : c < ns.length := (List.getElem?_eq_some_iff.1 hy).1
 have hyk : y.kind ≠ 0 := hk y (List.mem_of_getElem? hy)
 have H1 : Hid (PN (w.alloc (.cells #[.bool false, .pointer none] 99)) g gn ns) := h.alloc _
 have c0 := H1.out.kind hi
 rw [hx] at c0
 clear h hk hi hy
 go_enter Try.func48, Try.ntmps48
 go_wp2_with fail
 refine (child_some H1.out HI.out c hc hcl hb).mono ?_
 rintro e w1 ⟨rfl, n, hw1⟩
 have H2 : Hid (PN w1 g gn ns) := by rw [hw1]; exact H1.out
 have hb1 : Hid (Below w.heap.size w w1) := by rw [hw1]; exact ((Below.refl _ w).alloc (Nat.le_refl _) _).trans (Fr.drewN _ n).1
 have hbl : Blk w1 w.heap.size 99 #[.bool false, .pointer none] := by rw [hw1]; exact Blk.new w 99 _
 clear hw1 c0
 go_wp2_with fail
 refine (valid_some H2.out HY.out hyk).mono ?_
 rintro e w2 ⟨rfl, rfl⟩
 go_wp2_with fail
 refine (next_any H2.out HY.out hyn hb).mono ?_
 rintro e w2 ⟨rfl, n2, hw2⟩
 have hb2 : Hid (Below w.heap.size w w2) := by rw [hw2]; exact hb1.out.trans (Fr.drewN _ n2).1
 have hbl2 : Blk w2 w.heap.size 99 #[.bool false, .pointer none] := by rw [hw2]; exact hbl
 have f0 := hbl2.frozen 0
 have f1 := hbl2.frozen 1
 have d0 := hbl2.cell 0
 have d1 := hbl2.cell 1
 have hl2 := hbl2.lt
 simp at d0 d1
 generalize hv : ndAt gn y.next = v at *
 have hbl3 : Blk ((w2.setCell ⟨w.heap.size, 0, none⟩ (.bool false)).setCell ⟨w.heap.size, 1, none⟩ (.pointer v)) w.heap.size 99 #[.bool false, .pointer v] := (hbl2.set_ 0 _).set_ 1 _
 have HB3 : Hid (Below w.heap.size w ((w2.setCell ⟨w.heap.size, 0, none⟩ (.bool false)).setCell ⟨w.heap.size, 1, none⟩ (.pointer v))) := (hb2.out.setCell (Nat.le_refl _) _).setCell (Nat.le_refl _) _
 have e0 := hbl3.cell 0
 have e1 := hbl3.cell 1
 have hl3 := hbl3.lt
 rw [show (#[Value.bool false, Value.pointer v] : Array Value)[0]? = some (.bool false) from rfl] at e0
 rw [show (#[Value.bool false, Value.pointer v] : Array Value)[1]? = some (.pointer v) from rfl] at e1
 clear hw2 hbl2 hbl3
 go_wp2_with fail
 generalize ((w2.setCell ⟨w.heap.size, 0, none⟩ (.bool false)).setCell ⟨w.heap.size, 1, none⟩ (.pointer v)) = w3 at *
 refine bodyPost_ret (v := .agg #[.bool false, .pointer v]) (by simp [results, Try.results48, go_sem, e0, e1]) rfl ⟨by rw [← hv], HB3.out⟩
theorem key_head {w : World} {g gn : Nat} {ns : List Nd} (h : PN w g gn ns) {i : Nat} {x : Nd} (hi : ns[i]? = some x) (hx : x.kind = 3 ∨ x.kind = 4) (hc : x.child ≤ ns.length) (hb : ns.length ≤ 1000000) :
   Calls Try.prog 48 #[ndPtr gn i] w (ItIs (ndOpt gn x.child) w) := by
 have H1 : Hid (PN (w.alloc (.cells #[.bool false, .pointer none] 99)) g gn ns) := h.alloc _
 have C0 := Lib.hid (H1.out.kind hi)
 have HI := Lib.hid hi
 clear h hi
 have one : ∀ kk : Int, (w.alloc (.cells #[.bool false, .pointer none] 99)).cell? ⟨gn, 7 * i, none⟩ = some (.int .i64 kk) → kk = 3 ∨ kk = 4 → Calls Try.prog 48 #[ndPtr gn i] w (ItIs (ndOpt gn x.child) w) := by
   intro kk c0 hkk
   rcases hkk with rfl | rfl
   all_goals
     go_enter Try.func48, Try.ntmps48
     go_wp2_with fail
     refine (child_any H1.out HI.out hc hb).mono ?_
     rintro e w2 ⟨rfl, n2, hw2⟩
     have hb2 : Hid (Below w.heap.size w w2) := by rw [hw2]; exact ((Below.refl _ w).alloc (Nat.le_refl _) _).trans (Fr.drewN _ n2).1
     have hbl2 : Blk w2 w.heap.size 99 #[.bool false, .pointer none] := by rw [hw2]; exact Blk.new w 99 _
     have f0 := hbl2.frozen 0
     have f1 := hbl2.frozen 1
     have d0 := hbl2.cell 0
     have d1 := hbl2.cell 1
     have hl2 := hbl2.lt
     simp at d0 d1
     generalize hv : ndAt gn x.child = v at *
     have hbl3 : Blk ((w2.setCell ⟨w.heap.size, 0, none⟩ (.bool false)).setCell ⟨w.heap.size, 1, none⟩ (.pointer v)) w.heap.size 99 #[.bool false, .pointer v] := (hbl2.set_ 0 _).set_ 1 _
     have HB3 : Hid (Below w.heap.size w ((w2.setCell ⟨w.heap.size, 0, none⟩ (.bool false)).setCell ⟨w.heap.size, 1, none⟩ (.pointer v))) := (hb2.out.setCell (Nat.le_refl _) _).setCell (Nat.le_refl _) _
     have e0 := hbl3.cell 0
     have e1 := hbl3.cell 1
     have hl3 := hbl3.lt
     rw [show (#[Value.bool false, Value.pointer v] : Array Value)[0]? = some (.bool false) from rfl] at e0
     rw [show (#[Value.bool false, Value.pointer v] : Array Value)[1]? = some (.pointer v) from rfl] at e1
     clear hw2 hbl2 hbl3
     go_wp2_with fail
     generalize ((w2.setCell ⟨w.heap.size, 0, none⟩ (.bool false)).setCell ⟨w.heap.size, 1, none⟩ (.pointer v)) = w3 at *
     refine bodyPost_ret (v := .agg #[.bool false, .pointer v]) (by simp [results, Try.results48, go_sem, e0, e1]) rfl ⟨by rw [← hv], HB3.out⟩
 rcases hx with hx | hx
 · have c0 := C0.out; rw [hx] at c0; exact one 3 c0 (.inl rfl)
 · have c0 := C0.out; rw [hx] at c0; exact one 4 c0 (.inr rfl)
theorem ItIs.at_ {w : World} {gn it : Nat} {ns : List Nd} {K : Nat} (h : Blk w it 99 #[.bool false, ndOpt gn K]) : ItAt w gn it ns K := .inl h
def KeysTold (ks : List (List UInt8)) (w : World) (e : Ending) (w' : World) : Prop := ∃ v, e = .returned v ∧ StrRow (fun g => w.heap.size ≤ g) w' v ks ∧ Below w.heap.size w w'
def KORel (W : World) (g gn it : Nat) (ns : List Nd) (ks : List (List UInt8)) (gg : Nat) (s3 : Value) (wx : World) : Prop :=
 ∃ (dn more : List (List UInt8)) (kn : List Nd) (p : Nat), ks = dn ++ more ∧ gg = more.length ∧ KeyNds W p more kn ∧ Seg ns p kn ∧ OutIs W.heap.size wx s3 (dn.map fun k => ⟨k.toArray⟩) ∧ Below W.heap.size W wx ∧ PN wx g gn ns ∧ ItAt wx gn it ns (nxt more p) ∧ W.heap.size ≤ it ∧ it < wx.heap.size
set_option maxRecDepth 100000 in
set_option maxHeartbeats 2000000 in
theorem keysOf_any {W : World} {g gn : Nat} {ns kn : List Nd} {ks : List (List UInt8)} {i p : Nat} (h : PN W g gn ns) (hk : ∀ x ∈ ns, x.kind ≠ 0) (hb : ns.length ≤ 1000000) (hkn : KeyNds W p ks kn) (hseg : Seg ns p kn) (hks : ks.length ≤ 1000000)
   (hkey : Calls Try.prog 48 #[ndPtr gn i] W (ItIs (ndOpt gn (nxt ks p)) W)) :
   Calls Try.prog 25 #[ndPtr gn i] W (KeysTold ks W) := by
 obtain ⟨i0, hi0, hz0, hz1, hz2⟩ := info_parts info9
 have HI0 := Lib.hid hi0
 have H := Lib.hid h
 have HK := Lib.hid hk
 have HKN := Lib.hid hkn
 have HSEG := Lib.hid hseg
 have HKEY := Lib.hid hkey
 have hgl : g < W.heap.size ∧ gn < W.heap.size := by obtain ⟨_, _, _, h3, h4, _⟩ := h; exact ⟨h3, h4⟩
 obtain ⟨hgl, hgnl⟩ := hgl
 clear h hk hkn hseg hkey hi0
 go_enter Try.func25, Try.ntmps25
 go_wp2_with fail
 refine HKEY.out.mono ?_
 rintro e w1 ⟨rfl, hb1⟩
 have hsz := hb1.size
 generalize hv : ndAt gn (nxt ks p) = v
 go_wp2_with fail
 have HRel : Hid (KORel W g gn w1.heap.size ns ks ks.length (.slice none 0 0) (w1.alloc (.cells #[.bool false, .pointer v] 99))) := by
   refine ⟨[], ks, kn, p, rfl, rfl, HKN.out, HSEG.out, ⟨by simp, .inl ⟨rfl, rfl⟩⟩, hb1.alloc hsz _, (H.out.below hb1).alloc _, .inl ?_, hsz, by simp⟩
   rw [show ndOpt gn (nxt ks p) = .pointer v from by rw [← hv]]
   exact Blk.new _ _ _
 generalize w1.heap.size = it at *
 generalize (w1.alloc (.cells #[.bool false, .pointer v] 99)) = w2 at *
 clear hb1 hv
 go_loopg [3] ks.length (fun gg s3 wx => KORel W g gn it ns ks gg s3 wx)
 case atStart => exact HRel.out
 case round =>
   obtain ⟨dn, more, kn', p', hks', rfl, hkn', hseg', hout, hbw, hpn, hit, hWi, hil⟩ := hrel
   clear HRel HKEY
   have hnl : nxt more p' ≤ ns.length := by
     cases more with
     | nil => exact Nat.zero_le _
     | cons m ms =>
       have h1 := hseg'.lt
       have h2 := hkn'.length
       rw [nxt_cons]
       simp only [List.length_cons] at h2
       omega
   have HST := Lib.hid (it_step hpn HK.out (nxt more p') hnl hb hit (by omega) (by omega))
   have HOUT := Lib.hid hout
   have HBW := Lib.hid hbw
   have HPN := Lib.hid hpn
   have HKN2 := Lib.hid hkn'
   have HSEG2 := Lib.hid hseg'
   have HKS2 := Lib.hid hks'
   clear hout hbw hpn hkn' hseg' hit hks'
   cases more with
   | nil =>
     go_wp2_with fail
     refine HST.out.mono ?_
     rintro e w3 ⟨rfl, hst, hlt, hbl, hoth, hsz3, -⟩
     have hout3 := HOUT.out.keep (fun g' cs hb => hoth g' 9 cs (by decide) hb)
     have hbw3 := HBW.out.trans (hbl.mono hWi)
     rw [nxt_nil]
     have HOUT3 := Lib.hid hout3
     have HBW3 := Lib.hid hbw3
     clear hst hbl hoth hout3 hbw3
     go_wp2_with fail
     go_ret
     refine ⟨u3, rfl, ?_, HBW3.out⟩
     have hks3 := HKS2.out
     rw [List.append_nil] at hks3
     subst hks3
     exact StrRow.of_out HOUT3.out fun g h => h
   | cons m ms =>
     go_wp2_with fail
     refine HST.out.mono ?_
     rintro e w3 ⟨rfl, hst, hlt, hbl, hoth, hsz3, -⟩
     rw [nxt_cons] at hst ⊢
     have hit3 := hst p' rfl
     have hout3 : OutIs W.heap.size w3 u3 (dn.map fun k => ⟨k.toArray⟩) := HOUT.out.keep (fun g' cs hb => hoth g' 9 cs (by decide) hb)
     have hbw3 : Below W.heap.size W w3 := HBW.out.trans (hbl.mono hWi)
     have hpn3 : PN w3 g gn ns := HPN.out.keep hbl (by omega) (by omega)
     obtain ⟨kx, kr, hknc, hx2, hxd, hxc, hxn, hkr⟩ : ∃ kx kr, kn' = kx :: kr ∧ kx.kind = 2 ∧ DataIs W kx.data m ∧ kx.child = 0 ∧ kx.next = (if ms = [] then 0 else p' + 2) ∧ KeyNds W (p' + 1) ms kr := by
       cases kn' with
       | nil => exact HKN2.out.elim
       | cons kx kr => exact ⟨kx, kr, rfl, HKN2.out.1, HKN2.out.2.1, HKN2.out.2.2.1, HKN2.out.2.2.2.1, HKN2.out.2.2.2.2⟩
     subst hknc
     have hgx := HSEG2.out.head
     have cd : w3.cell? ⟨gn, 7 * p' + 3, none⟩ = some kx.data := hpn3.cellAt hgx 3 (by omega) (u := kx.data) rfl
     have hcv := (hxd.below hbw3).conv
     have HX := Lib.hid hgx
     have HOUT3 := Lib.hid hout3
     have HBW3 := Lib.hid hbw3
     have HPN3 := Lib.hid hpn3
     have HKR := Lib.hid hkr
     have HXN := Lib.hid hxn
     have HIT3 := Lib.hid hit3
     have hnb : ((p' + 1 : Nat) != 0) = true := by simp
     have hszW : W.heap.size ≤ w3.heap.size := HBW3.out.size
     have HOW : Hid (OutIs W.heap.size (w3.alloc (.cells #[.string ⟨m.toArray⟩] 9)) u3 (dn.map fun k => ⟨k.toArray⟩)) := hout3.keep (fun g cs hb => hb.alloc _)
     have hdl : (dn.map fun k => (⟨k.toArray⟩ : ByteArray)).length ≤ 1000000 := by have := HKS2.out; have h2 := congrArg List.length this; simp at h2 ⊢; omega
     generalize kx.data = dv at *
     generalize hdn : (dn.map fun k => (⟨k.toArray⟩ : ByteArray)) = dd at *
     have HDN := Lib.hid hdn
     clear hst hbl hoth hout3 hbw3 hpn3 hkr hxn hgx hxd hit3 hdn hsz3
     rw [hnb]
     go_wp2_with fail
     refine (itNode_any HIT3.out).mono ?_
     rintro e w4 ⟨rfl, rfl⟩
     go_wp2_with (first
       | (at_builtin; refine wpList_append_own _ rfl (.tmp 8) (.tmp 14) 26 rfl W.heap.size 9 i0 _ 1 16 Try.underlying26 HI0.out hz0 hz1 hz2 rfl (by decide) u3 dd.length (dd.map Value.string) rfl HOW.out ⟨w3.heap.size, 0, none⟩ 1 1 [.string ⟨m.toArray⟩] rfl rfl ?c1 ?c2 ?mx ?by_ ?bs ?_
          case c1 => exact (Blk.add (l := [.string ⟨m.toArray⟩]) (Blk.new w3 9 _))
          case c2 => intro u hu; simp at hu; subst hu; rfl
          case mx => simp only [maxLen]; omega
          case by_ => omega
          case bs => simp; omega
          intro v' w' hown hgrow hnil
          have hout4 : OutIs W.heap.size w' v' (dd ++ [⟨m.toArray⟩]) := by
            show World.ownsRow w' W.heap.size 9 1 v' (dd ++ [_]).length ((dd ++ [_]).map Value.string)
            rw [List.length_append, List.map_append]
            exact hown
          have hkq : Kq W.heap.size w3 w' := kq_of HOUT3.out hszW hgrow
          have HOUT4 := Lib.hid hout4
          have HKQ := Lib.hid hkq
          clear hown hgrow hnil hout4 hkq))
     go_roundg ms.length
     case measure => simp
     case rel =>
       refine ⟨dn ++ [m], ms, kr, p' + 1, by rw [HKS2.out]; simp, rfl, HKR.out, HSEG2.out.tail, ?_, HBW3.out.trans HKQ.out.1, HPN3.out.keep HKQ.out.1 hgl hgnl, ?_, hWi, Nat.lt_of_lt_of_le hlt HKQ.out.1.size⟩
       · rw [List.map_append, HDN.out]
         exact HOUT4.out
       · refine .inr ⟨p', kx, HKQ.out.2 _ _ _ (by decide) HIT3.out, HX.out, ?_⟩
         rw [HXN.out]
         unfold nxt
         rfl
end Go.Proofs.Ytnlkbbpmpgdmiaa
namespace Go.Proofs.Ytnlkbbpmpgdmiaa
open Go.RowKit
set_option linter.unusedVariables false
set_option linter.unusedSimpArgs false
mutual
def NodeIs (P : Nat → Prop) (w : World) (T : TypeId) : N → List Value → Prop
 | .mk kd t items ks, cs => ∃ iv kv cs', cs = [.int .i64 kd, .string ⟨t.toArray⟩, iv, kv] ∧ StrRow P w kv ks ∧ Row P w T 4 iv items.length cs' ∧ ItemsIs P w T items cs'
def ItemsIs (P : Nat → Prop) (w : World) (T : TypeId) : List N → List Value → Prop
 | [], cs => cs = []
 | v :: vs, cs => ∃ a b, cs = a ++ b ∧ NodeIs P w T v a ∧ ItemsIs P w T vs b
end
mutual
theorem NodeIs.move {P P' : Nat → Prop} {w w' : World} {T : TypeId} (hm : ∀ g t cs, P g → Blk w g t cs → P' g ∧ Blk w' g t cs) : ∀ (v : N) {cs : List Value}, NodeIs P w T v cs → NodeIs P' w' T v cs
 | .mk kd t items ks, cs, h => by
   unfold NodeIs at h ⊢
   obtain ⟨iv, kv, cs', h1, h2, h3, h4⟩ := h
   exact ⟨iv, kv, cs', h1, Row.move h2 hm, h3.move hm, ItemsIs.move hm items h4⟩
theorem ItemsIs.move {P P' : Nat → Prop} {w w' : World} {T : TypeId} (hm : ∀ g t cs, P g → Blk w g t cs → P' g ∧ Blk w' g t cs) : ∀ (l : List N) {cs : List Value}, ItemsIs P w T l cs → ItemsIs P' w' T l cs
 | [], cs, h => by unfold ItemsIs at h ⊢; exact h
 | v :: vs, cs, h => by
   unfold ItemsIs at h ⊢
   obtain ⟨a, b, h1, h2, h3⟩ := h
   exact ⟨a, b, h1, NodeIs.move hm v h2, ItemsIs.move hm vs h3⟩
end
theorem items_nil {P : Nat → Prop} {w : World} {T : TypeId} {cs : List Value} : ItemsIs P w T [] cs ↔ cs = [] := by unfold ItemsIs; exact Iff.rfl
theorem items_cons {P : Nat → Prop} {w : World} {T : TypeId} {v : N} {vs : List N} {cs : List Value} : ItemsIs P w T (v :: vs) cs ↔ ∃ a b, cs = a ++ b ∧ NodeIs P w T v a ∧ ItemsIs P w T vs b := by
 conv => lhs; unfold ItemsIs
theorem ItemsIs.snoc {P : Nat → Prop} {w : World} {T : TypeId} {x : N} {xc : List Value} (hx : NodeIs P w T x xc) : ∀ {l : List N} {cs : List Value}, ItemsIs P w T l cs → ItemsIs P w T (l ++ [x]) (cs ++ xc)
 | [], cs, h => by
   rw [items_nil] at h
   subst h
   rw [List.nil_append, List.nil_append, items_cons]
   exact ⟨xc, [], by simp, hx, items_nil.2 rfl⟩
 | v :: vs, cs, h => by
   rw [items_cons] at h
   obtain ⟨a, b, rfl, h1, h2⟩ := h
   rw [List.cons_append, items_cons]
   exact ⟨a, b ++ xc, by simp, h1, ItemsIs.snoc hx h2⟩
theorem NodeIs.cells {P : Nat → Prop} {w : World} {T : TypeId} {v : N} {cs : List Value} (h : NodeIs P w T v cs) : ∃ iv kv cs', cs = [.int .i64 v.kind, .string ⟨v.text.toArray⟩, iv, kv] ∧ StrRow P w kv v.keys ∧ Row P w T 4 iv v.items.length cs' ∧ ItemsIs P w T v.items cs' := by
 cases v with
 | mk kd t items ks =>
   unfold NodeIs at h
   exact h
theorem NodeIs.mk' {P : Nat → Prop} {w : World} {T : TypeId} {v : N} {iv kv : Value} {cs' : List Value} (h2 : StrRow P w kv v.keys) (h3 : Row P w T 4 iv v.items.length cs') (h4 : ItemsIs P w T v.items cs') : NodeIs P w T v [.int .i64 v.kind, .string ⟨v.text.toArray⟩, iv, kv] := by
 cases v with
 | mk kd t items ks =>
   unfold NodeIs
   exact ⟨iv, kv, cs', rfl, h2, h3, h4⟩
theorem StrRow.nil (P : Nat → Prop) (w : World) : StrRow P w (.slice none 0 0) [] := ⟨rfl, .inl ⟨rfl, rfl⟩⟩
theorem own_lt {w : World} {B : Nat} {e : TypeId} {sz n : Nat} {v : Value} {xs : List Value} (h : w.ownsRow B e sz v n xs) {k : Nat} (hk : v.ownBlock = some k) : B ≤ k ∧ k < w.heap.size := h.lt k hk
theorem items_snoc {S : Nat} {wr w1 w2 : World} {T : TypeId} {iv iv' : Value} {dn : List N} {cs' : List Value} {x : N} {xc : List Value} (hown : wr.ownsRow S T 4 iv dn.length cs') (hit : ItemsIs (fun g => S ≤ g ∧ some g ≠ iv.ownBlock) wr T dn cs') (hx : NodeIs (fun g => wr.heap.size ≤ g) w1 T x xc)
   (hS : S ≤ wr.heap.size) (hsz : wr.heap.size ≤ w1.heap.size) (hb : ∀ g t cs, S ≤ g → Blk wr g t cs → Blk w1 g t cs) (hg : w1.grownBy w2 iv.ownBlock) (hat : iv'.ownBlock = iv.ownBlock ∨ iv'.ownBlock = some w1.heap.size) :
   ItemsIs (fun g => S ≤ g ∧ some g ≠ iv'.ownBlock) w2 T (dn ++ [x]) (cs' ++ xc) := by
 refine ItemsIs.snoc (NodeIs.move ?_ x hx) (ItemsIs.move ?_ dn hit)
 · intro g t cs hg1 hblk
   have hne : some g ≠ iv.ownBlock := by
     intro h
     have := own_lt hown h.symm
     omega
   have hl := hblk.lt
   refine ⟨⟨by omega, ?_⟩, (hg.block g hblk.lt hne).trans hblk⟩
   rcases hat with h | h
   · rw [h]; exact hne
   · rw [h]; intro e; injection e with e; omega
 · intro g t cs hg1 hblk
   have hl := hblk.lt
   have hblk1 := hb g t cs hg1.1 hblk
   refine ⟨⟨hg1.1, ?_⟩, (hg.block g hblk1.lt hg1.2).trans hblk1⟩
   rcases hat with h | h
   · rw [h]; exact hg1.2
   · rw [h]; intro e; injection e with e; omega
mutual
theorem VNds.kinds {w : World} : ∀ (v : N) {base nxt : Nat} {xs : List Nd}, VNds w v base nxt xs → ∀ x ∈ xs, x.kind ≠ 0
 | .mk kd t items _, base, nxt, xs, h => by
   have hr := h.root
   unfold VNds at h
   obtain ⟨x, ys, h1, h2, h3, h4⟩ := h
   obtain ⟨r, ra, e, _, hrk, _⟩ := hr
   intro y hy
   rw [h1] at e
   injection e with e1 e2
   rw [h1] at hy
   rcases List.mem_cons.1 hy with rfl | hy
   · rw [e1]; exact hrk
   · rcases h4 with ⟨_, _, _, g3, _⟩ | ⟨_, _, _, g4⟩
     · rw [g3] at hy; cases hy
     · exact CNds.kinds items g4 y hy
theorem CNds.kinds {w : World} {tb : Prop} : ∀ (l : List N) {base fin : Nat} {xs : List Nd}, CNds w tb l base fin xs → ∀ x ∈ xs, x.kind ≠ 0
 | [], base, fin, xs, h => by unfold CNds at h; subst h; intro x hx; cases hx
 | v :: vs, base, fin, xs, h => by
   unfold CNds at h
   obtain ⟨a, b, h1, h2, h3⟩ := h
   intro y hy
   rw [h1] at hy
   rcases List.mem_append.1 hy with hy | hy
   · rcases h2 with ⟨_, _, g3⟩ | ⟨_, x, kn, vn, g2, g3, _, _, g6, g7⟩
     · exact VNds.kinds v g3 y hy
     · rw [g2] at hy
       rcases List.mem_cons.1 hy with rfl | hy
       · rw [g3]; omega
       · rcases List.mem_append.1 hy with hy | hy
         · exact KeyNds.kinds g6.2 y hy
         · exact VNds.kinds v g7 y hy
   · exact CNds.kinds vs h3 y hy
theorem KeyNds.kinds {w : World} : ∀ {base : Nat} {ks : List (List UInt8)} {xs : List Nd}, KeyNds w base ks xs → ∀ x ∈ xs, x.kind ≠ 0
 | _, [], [], _ => by intro x hx; cases hx
 | base, k :: ks, x :: xs, h => by
   intro y hy
   rcases List.mem_cons.1 hy with rfl | hy
   · rw [h.1]; omega
   · exact KeyNds.kinds h.2.2.2.2 y hy
 | _, [], _ :: _, h => h.elim
 | _, _ :: _, [], h => h.elim
end
theorem CNds.count {w : World} {tb : Prop} : ∀ {l : List N} {base fin : Nat} {xs : List Nd}, CNds w tb l base fin xs → l.length ≤ xs.length
 | [], _, _, _, _ => Nat.zero_le _
 | v :: vs, base, fin, xs, h => by
   rw [cnds_cons] at h
   obtain ⟨a, b, rfl, h1, h2⟩ := h
   obtain ⟨r, ra, rfl, _⟩ := h1.root
   have := CNds.count h2
   simp only [List.length_cons, List.length_append]
   omega
theorem kindOf_any (kd : Nat) (hkd : kd ≤ 9) (w : World) : Calls Try.prog 49 #[.int .i64 (pk kd : Nat)] w fun e w' => e = .returned (.int .i64 kd) ∧ w = w' := by
 have hc : kd = 0 ∨ kd = 1 ∨ kd = 2 ∨ kd = 3 ∨ kd = 4 ∨ kd = 5 ∨ kd = 6 ∨ kd = 7 ∨ kd = 8 ∨ kd = 9 := by omega
 clear hkd
 rcases hc with rfl | rfl | rfl | rfl | rfl | rfl | rfl | rfl | rfl | rfl
 · show Calls Try.prog 49 #[.int .i64 8] w _
   go_enter Try.func49, Try.ntmps49
   go_wp2_with fail
   go_ret
   exact ⟨rfl, rfl⟩
 · show Calls Try.prog 49 #[.int .i64 11] w _
   go_enter Try.func49, Try.ntmps49
   go_wp2_with fail
   go_ret
   exact ⟨rfl, rfl⟩
 · show Calls Try.prog 49 #[.int .i64 10] w _
   go_enter Try.func49, Try.ntmps49
   go_wp2_with fail
   go_ret
   exact ⟨rfl, rfl⟩
 · show Calls Try.prog 49 #[.int .i64 9] w _
   go_enter Try.func49, Try.ntmps49
   go_wp2_with fail
   go_ret
   exact ⟨rfl, rfl⟩
 · show Calls Try.prog 49 #[.int .i64 15] w _
   go_enter Try.func49, Try.ntmps49
   go_wp2_with fail
   go_ret
   exact ⟨rfl, rfl⟩
 · show Calls Try.prog 49 #[.int .i64 14] w _
   go_enter Try.func49, Try.ntmps49
   go_wp2_with fail
   go_ret
   exact ⟨rfl, rfl⟩
 · show Calls Try.prog 49 #[.int .i64 12] w _
   go_enter Try.func49, Try.ntmps49
   go_wp2_with fail
   go_ret
   exact ⟨rfl, rfl⟩
 · show Calls Try.prog 49 #[.int .i64 13] w _
   go_enter Try.func49, Try.ntmps49
   go_wp2_with fail
   go_ret
   exact ⟨rfl, rfl⟩
 · show Calls Try.prog 49 #[.int .i64 6] w _
   go_enter Try.func49, Try.ntmps49
   go_wp2_with fail
   go_ret
   exact ⟨rfl, rfl⟩
 · show Calls Try.prog 49 #[.int .i64 7] w _
   go_enter Try.func49, Try.ntmps49
   go_wp2_with fail
   go_ret
   exact ⟨rfl, rfl⟩
theorem value_any {w : World} {g gn : Nat} {ns : List Nd} (h : PN w g gn ns) {i : Nat} {x : Nd} (hi : ns[i]? = some x) (j : Nat) (h0 : x.child = j + 1) (hj : j < ns.length) (hb : ns.length ≤ 1000000) :
   Calls Try.prog 27 #[ndPtr gn i] w (PtrIs (ndPtr gn j) w) := by
 have HC := Lib.hid (child_some h hi j h0 hj hb)
 clear h hi
 go_enter Try.func27, Try.ntmps27
 go_wp2_with fail
 refine HC.out.mono ?_
 rintro e w1 ⟨rfl, n, rfl⟩
 go_wp2_with fail
 go_ret
 exact ⟨rfl, n, rfl⟩
end Go.Proofs.Ytnlkbbpmpgdmiaa
namespace Go.Proofs.Ytnlkbbpmpgdmiaa
open Go.RowKit
set_option linter.unusedVariables false
set_option linter.unusedSimpArgs false
abbrev z74 : Array Value := #[.int .i64 0, .string ⟨#[]⟩, .slice none 0 0, .slice none 0 0]
abbrev k74 (kd : Nat) : Array Value := #[.int .i64 kd, .string ⟨#[]⟩, .slice none 0 0, .slice none 0 0]
def NodeTold (v : N) (W : World) (e : Ending) (w' : World) : Prop :=
 ∃ iv cs', e = .returned (.agg #[.int .i64 v.kind, .string ⟨v.text.toArray⟩, iv, .slice none 0 0]) ∧ Row (fun g => W.heap.size ≤ g) w' 74 4 iv v.items.length cs' ∧ ItemsIs (fun g => W.heap.size ≤ g) w' 74 v.items cs' ∧ Below W.heap.size W w'
set_option maxRecDepth 100000 in
set_option maxHeartbeats 2000000 in
theorem nodeOf_scal {W : World} {g gn : Nat} {ns : List Nd} {i kd : Nat} {x : Nd} {t : List UInt8} (h : PN W g gn ns) (hi : ns[i]? = some x) (hk : x.kind = pk kd) (hkd : kd < 8) (hd : DataIs W x.data t) :
   Calls Try.prog 26 #[ndPtr gn i] W (fun e w' => e = .returned (.agg #[.int .i64 kd, .string ⟨t.toArray⟩, .slice none 0 0, .slice none 0 0]) ∧ Below W.heap.size W w') := by
 have hpn1 : PN (W.alloc (.cells z74 74)) g gn ns := h.alloc _
 have hbl1 : Blk (W.alloc (.cells z74 74)) W.heap.size 74 z74 := Blk.new W 74 _
 have hd1 : DataIs (W.alloc (.cells z74 74)) x.data t := hd.kp (Kp.alloc W _)
 have hB1 : Below W.heap.size W (W.alloc (.cells z74 74)) := (Below.refl _ W).alloc (Nat.le_refl _) _
 have hs1 : (W.alloc (.cells z74 74)).heap.size = W.heap.size + 1 := by simp
 have c0 : (W.alloc (.cells z74 74)).cell? ⟨gn, 7 * i, none⟩ = some (.int .i64 (pk kd : Nat)) := by have := hpn1.kind hi; rw [hk] at this; exact this
 have HPN1 := Lib.hid hpn1
 have HBL1 := Lib.hid hbl1
 have HD1 := Lib.hid hd1
 have HB1 := Lib.hid hB1
 have HS1 := Lib.hid hs1
 have HI := Lib.hid hi
 have hgn : gn < W.heap.size := by obtain ⟨_, _, _, _, h4, _⟩ := h; exact h4
 clear h hi hk hd hpn1 hbl1 hd1 hB1 hs1
 go_enter Try.func26, Try.ntmps26
 go_wp2_with fail
 refine (kindOf_any kd (by omega) _).mono ?_
 rintro e w1 ⟨rfl, hw1⟩
 rw [hw1] at HPN1 HBL1 HD1 HB1 HS1 c0
 clear hw1 c0
 have c3 : (w1.alloc (.cells (k74 kd) 74)).cell? ⟨gn, 7 * i + 3, none⟩ = some x.data := (HPN1.out.alloc _).cellAt HI.out 3 (by omega) (u := x.data) rfl
 have hcv := (HD1.out.kp (Kp.alloc w1 (.cells (k74 kd) 74))).conv
 have f2 : ∀ j, w1.frozen? ⟨W.heap.size, j, none⟩ = false := fun j => HBL1.out.frozen j
 have d2 : ∀ j, w1.cell? ⟨W.heap.size, j, none⟩ = z74[j]? := fun j => HBL1.out.cell j
 have f20 := f2 0
 have f21 := f2 1
 have f22 := f2 2
 have f23 := f2 3
 have d20 := d2 0
 have d21 := d2 1
 have d22 := d2 2
 have d23 := d2 3
 simp at d20 d21 d22 d23
 generalize x.data = dv at *
 clear f2 d2
 have hs1 := HS1.out
 go_wp2_with fail
 have hblF : Blk ((((w1.setCell ⟨W.heap.size, 0, none⟩ (.int .i64 kd)).setCell ⟨W.heap.size, 1, none⟩ (.string ⟨t.toArray⟩)).setCell ⟨W.heap.size, 2, none⟩ (.slice none 0 0)).setCell ⟨W.heap.size, 3, none⟩ (.slice none 0 0)) W.heap.size 74 #[.int .i64 kd, .string ⟨t.toArray⟩, .slice none 0 0, .slice none 0 0] := (((HBL1.out.set_ 0 _).set_ 1 _).set_ 2 _).set_ 3 _
 have hBF : Below W.heap.size W ((((w1.setCell ⟨W.heap.size, 0, none⟩ (.int .i64 kd)).setCell ⟨W.heap.size, 1, none⟩ (.string ⟨t.toArray⟩)).setCell ⟨W.heap.size, 2, none⟩ (.slice none 0 0)).setCell ⟨W.heap.size, 3, none⟩ (.slice none 0 0)) := (((HB1.out.setCell (Nat.le_refl _) _).setCell (Nat.le_refl _) _).setCell (Nat.le_refl _) _).setCell (Nat.le_refl _) _
 generalize ((((w1.setCell ⟨W.heap.size, 0, none⟩ (.int .i64 kd)).setCell ⟨W.heap.size, 1, none⟩ (.string ⟨t.toArray⟩)).setCell ⟨W.heap.size, 2, none⟩ (.slice none 0 0)).setCell ⟨W.heap.size, 3, none⟩ (.slice none 0 0)) = w4 at *
 have e0 : _ = _ := (hblF).cell 0
 have e1 : _ = _ := (hblF).cell 1
 have e2 : _ = _ := (hblF).cell 2
 have e3 : _ = _ := (hblF).cell 3
 have hl := (hblF).lt
 rw [show (#[Value.int .i64 (kd : Int), .string ⟨(t).toArray⟩, (.slice none 0 0), .slice none 0 0] : Array Value)[0]? = some (.int .i64 kd) from rfl] at e0
 rw [show (#[Value.int .i64 (kd : Int), .string ⟨(t).toArray⟩, (.slice none 0 0), .slice none 0 0] : Array Value)[1]? = some (.string ⟨(t).toArray⟩) from rfl] at e1
 rw [show (#[Value.int .i64 (kd : Int), .string ⟨(t).toArray⟩, (.slice none 0 0), .slice none 0 0] : Array Value)[2]? = some ((.slice none 0 0)) from rfl] at e2
 rw [show (#[Value.int .i64 (kd : Int), .string ⟨(t).toArray⟩, (.slice none 0 0), .slice none 0 0] : Array Value)[3]? = some (.slice none 0 0) from rfl] at e3
 refine bodyPost_ret (v := .agg #[.int .i64 kd, .string ⟨(t).toArray⟩, (.slice none 0 0), .slice none 0 0]) (by simp [results, Try.results26, go_sem, e0, e1, e2, e3, hl]) rfl ⟨rfl, (hBF.alloc hBF.size _)⟩
end Go.Proofs.Ytnlkbbpmpgdmiaa
namespace Go.Proofs.Ytnlkbbpmpgdmiaa
open Go.RowKit
set_option linter.unusedVariables false
set_option linter.unusedSimpArgs false
theorem info74 : (Try.prog.info? 74).map (fun i => (i.zero, i.size, i.bytes)) = some (some (.agg #[.int .i64 0, .string ByteArray.empty, .slice none 0 0, .slice none 0 0]), 4, 72) := by kernel_rfl
def NORel (kd : Nat) (tb : Prop) (items : List N) (W : World) (g gn r2 it S : Nat) (ns : List Nd) (gg : Nat) (wx : World) : Prop :=
 ∃ (dn more : List N) (ys : List Nd) (p : Nat) (iv : Value) (cs' : List Value), items = dn ++ more ∧ gg = more.length ∧ CNds W tb more p 0 ys ∧ Seg ns p ys ∧ Blk wx (r2 + 1) 74 #[.int .i64 kd, .string ⟨#[]⟩, iv, .slice none 0 0] ∧ wx.ownsRow S 74 4 iv dn.length cs' ∧ ItemsIs (fun g => S ≤ g ∧ some g ≠ iv.ownBlock) wx 74 dn cs' ∧
   Below W.heap.size W wx ∧ Blk wx r2 74 z74 ∧ PN wx g gn ns ∧ ItAt wx gn it ns (nxt more p) ∧ S ≤ wx.heap.size
def NodeOk (n : Nat) : Prop := ∀ (v : N), SizeOf.sizeOf v < n → ∀ (W : World) (g gn : Nat) (ns : List Nd) (base nx : Nat) (xs : List Nd), PN W g gn ns → (∀ x ∈ ns, x.kind ≠ 0) → ns.length ≤ 1000000 → VNds W v base nx xs → Seg ns base xs → Calls Try.prog 26 #[ndPtr gn base] W (NodeTold v W)
theorem size_mem {x : N} {items dn more : List N} {kd : Nat} {t : List UInt8} {ks : List (List UInt8)} {n : Nat} (h : SizeOf.sizeOf (N.mk kd t items ks) < n + 1) (hi : items = dn ++ x :: more) : SizeOf.sizeOf x < n := by
 have h1 : SizeOf.sizeOf x < SizeOf.sizeOf items := List.sizeOf_lt_of_mem (by rw [hi]; simp)
 simp only [N.mk.sizeOf_spec] at h
 omega
theorem one4 (k : Int) (t : ByteArray) (a b : Option Addr) (n c n' c' : Nat) : ∀ u ∈ ([.int .i64 k, .string t, .slice a n c, .slice b n' c'] : List Value), u.oneCell' = true := by
 intro u hu
 simp only [List.mem_cons, List.not_mem_nil, or_false] at hu
 rcases hu with rfl | rfl | rfl | rfl <;> rfl
theorem size_alloc' (w : World) (o : Obj) : (w.alloc o).heap.size = w.heap.size + 1 := by simp
theorem own_far {w : World} {S : Nat} {e : TypeId} {sz n : Nat} {v : Value} {xs : List Value} (h : w.ownsRow S e sz v n xs) {p : Addr} (hp : p.block < S) (u : Value) : (w.setCell p u).ownsRow S e sz v n xs := by
 obtain ⟨h1, h2⟩ := h
 refine ⟨h1, ?_⟩
 rcases h2 with h2 | ⟨g, cap, cur, a, b, c, d⟩
 · exact .inl h2
 · exact .inr ⟨g, cap, cur, a, b, Blk.far (t := e) c (by omega) u, d⟩
theorem own_keep2 {S : Nat} {e : TypeId} {size n : Nat} {w w' : World} {v : Value} {xs : List Value} (h : w.ownsRow S e size v n xs) (hk : ∀ g cs, S ≤ g → Blk w g e cs → Blk w' g e cs) : w'.ownsRow S e size v n xs := by
 obtain ⟨h1, h2⟩ := h
 refine ⟨h1, ?_⟩
 rcases h2 with h2 | ⟨g, cap, cur, a, b, c, d⟩
 · exact .inl h2
 · exact .inr ⟨g, cap, cur, a, b, hk g cur b c, d⟩
theorem no_snoc {kd : Nat} {tb : Prop} {items dn ms : List N} {m : N} {W wr w6 w7 : World} {g gn r2 it S p p' g7 c7 : Nat} {ns b : List Nd} {r : Nd} {iv : Value} {cs' xc : List Value} (hit0 : items = dn ++ m :: ms) (hcn : CNds W tb ms p' 0 b) (hseg : Seg ns p' b)
   (hown : wr.ownsRow S 74 4 iv dn.length cs') (hits : ItemsIs (fun g => S ≤ g ∧ some g ≠ iv.ownBlock) wr 74 dn cs') (hx : NodeIs (fun g => wr.heap.size ≤ g) w6 74 m xc) (hSw : S ≤ wr.heap.size) (h1 : W.heap.size = r2) (h2 : r2 + 1 < it) (h3 : it + 1 = S) (hg : g < r2) (hgn : gn < r2)
   (hsz : wr.heap.size ≤ w6.heap.size) (hpres : ∀ g t cs, g ≠ it → Blk wr g t cs → Blk w6 g t cs) (hbw : Below W.heap.size W w6) (hpn : PN w6 g gn ns) (hita : Blk w6 it 99 #[.bool true, ndPtr gn p]) (hr : ns[p]? = some r) (hrn : r.next = nxt ms p')
   (hbo : Blk wr (r2 + 1) 74 #[.int .i64 kd, .string ⟨#[]⟩, iv, .slice none 0 0]) (hbr : Blk wr r2 74 z74)
   (hown7 : w7.ownsRow S 74 4 (.slice (some ⟨g7, 0, none⟩) (dn.length + 1) c7) (dn.length + 1) (cs' ++ xc)) (hgrow : w6.grownBy w7 iv.ownBlock) (hlies : iv.ownBlock = some g7 ∨ g7 = w6.heap.size) :
   NORel kd tb items W g gn r2 it S ns ms.length (w7.setCell ⟨r2 + 1, 2, none⟩ (.slice (some ⟨g7, 0, none⟩) (dn.length + 1) c7)) := by
 have hne : ∀ k, k < S → some k ≠ iv.ownBlock := by
   intro k hk h
   have := own_lt hown h.symm
   omega
 have hk7 : ∀ k t cs, k < S → Blk w6 k t cs → Blk w7 k t cs := fun k t cs hk hb => (hgrow.block k hb.lt (hne k hk)).trans hb
 have hb67 : Below S w6 w7 := (Below.refl S w6).grown hgrow (by omega) (fun k hk => (own_lt hown hk).1)
 have hb7 : Below W.heap.size W w7 := hbw.trans (hb67.mono (by omega))
 have hg7 : S ≤ g7 ∧ g7 < w7.heap.size := own_lt hown7 rfl
 have hpn7 : PN w7 g gn ns := hpn.keep hb67 (by omega) (by omega)
 refine ⟨dn ++ [m], ms, b, p', .slice (some ⟨g7, 0, none⟩) (dn.length + 1) c7, cs' ++ xc, by rw [hit0]; simp, rfl, hcn, hseg, ?_, ?_, ?_, ?_, ?_, ?_, ?_, ?_⟩
 · exact (hk7 _ _ _ (by omega) (hpres _ _ _ (by omega) hbo)).set_ 2 _
 · rw [List.length_append]
   exact own_far hown7 (by show r2 + 1 < S; omega) _
 · refine ItemsIs.move (P := fun g => S ≤ g ∧ some g ≠ (Value.slice (some ⟨g7, 0, none⟩) (dn.length + 1) c7).ownBlock) ?_ _ (items_snoc hown hits hx hSw hsz (fun g t cs hg hb => hpres g t cs (by omega) hb) hgrow ?_)
   · intro k t cs h4 hb
     exact ⟨h4, hb.far (p := ⟨r2 + 1, 2, none⟩) (by show k ≠ r2 + 1; omega) _⟩
   · rcases hlies with h | h
     · exact .inl h.symm
     · exact .inr (by rw [← h]; rfl)
 · exact hb7.setCell (by show W.heap.size ≤ r2 + 1; omega) _
 · exact (hk7 _ _ _ (by omega) (hpres _ _ _ (by omega) hbr)).far (p := ⟨r2 + 1, 2, none⟩) (by show r2 ≠ r2 + 1; omega) _
 · exact hpn7.set (by show g ≠ r2 + 1; omega) (by show gn ≠ r2 + 1; omega) _
 · exact .inr ⟨p, r, (hk7 _ _ _ (by omega) hita).far (p := ⟨r2 + 1, 2, none⟩) (by show it ≠ r2 + 1; omega) _, hr, hrn⟩
 · have := hb67.size
   simp
   omega
set_option maxRecDepth 100000 in
set_option maxHeartbeats 2000000 in
theorem nodeOf_arr {n : Nat} (hih : NodeOk n) {W : World} {g gn : Nat} {ns xs : List Nd} {base nx : Nat} {items : List N} {t : List UInt8} {ks : List (List UInt8)} {tb : Prop} (htb : ¬ tb) (hsz : SizeOf.sizeOf (N.mk 8 t items ks) < n + 1) (h : PN W g gn ns) (hk : ∀ x ∈ ns, x.kind ≠ 0) (hb : ns.length ≤ 1000000)
   (hv : ∃ x ys, xs = x :: ys ∧ x.kind = pk 8 ∧ x.next = nx ∧ x.child = (if items = [] then 0 else base + 2) ∧ CNds W tb items (base + 1) 0 ys) (hseg : Seg ns base xs) :
   Calls Try.prog 26 #[ndPtr gn base] W (NodeTold (.mk 8 [] items ks) W) := by
 obtain ⟨x, ys0, rfl, hxk, hxn, hx⟩ := hv
 have hx' : x.child = (if items = [] then 0 else base + 2) ∧ CNds W tb items (base + 1) 0 ys0 := hx
 obtain ⟨hxc, hcn⟩ := hx'
 have hi := hseg.head
 have hpn1 : PN (W.alloc (.cells z74 74)) g gn ns := h.alloc _
 have hbl1 : Blk (W.alloc (.cells z74 74)) W.heap.size 74 z74 := Blk.new W 74 _
 have hB1 : Below W.heap.size W (W.alloc (.cells z74 74)) := (Below.refl _ W).alloc (Nat.le_refl _) _
 have hs1 : (W.alloc (.cells z74 74)).heap.size = W.heap.size + 1 := by simp
 have c0 : (W.alloc (.cells z74 74)).cell? ⟨gn, 7 * base, none⟩ = some (.int .i64 (pk 8 : Nat)) := by have := hpn1.kind hi; rw [hxk] at this; exact this
 have hcl : x.child ≤ ns.length := by
   rw [hxc]
   have h1 := hcn.count
   have h2 := hseg.lt
   simp only [List.length_cons] at h2
   split
   · exact Nat.zero_le _
   · rename_i hne
     have : items.length ≠ 0 := fun e => hne (List.eq_nil_of_length_eq_zero e)
     omega
 have hitl : items.length ≤ 1000000 := by
   have h1 := hcn.count
   have h2 := hseg.lt
   simp only [List.length_cons] at h2
   omega
 obtain ⟨i0, hi0, hz0, hz1, hz2⟩ := info_parts info74
 obtain ⟨hgl, hgnl⟩ : g < W.heap.size ∧ gn < W.heap.size := by obtain ⟨_, _, _, h3, h4, _⟩ := h; exact ⟨h3, h4⟩
 have HI0 := Lib.hid hi0
 have HPN1 := Lib.hid hpn1
 have HBL1 := Lib.hid hbl1
 have HB1 := Lib.hid hB1
 have HS1 := Lib.hid hs1
 have HI := Lib.hid hi
 have HK := Lib.hid hk
 have HCN := Lib.hid hcn
 have HSEG := Lib.hid hseg.tail
 have HXC : Hid (x.child = nxt items (base + 1)) := hxc
 have HIH := Lib.hid hih
 clear h hi hk hpn1 hbl1 hB1 hs1 hcn hseg hxc hih hx hxk hxn hi0
 go_enter Try.func26, Try.ntmps26
 go_wp2_with fail
 refine (kindOf_any 8 (by omega) _).mono ?_
 rintro e w1 ⟨rfl, hw1⟩
 rw [hw1] at HPN1 HBL1 HB1 HS1 c0
 have hs1 := HS1.out
 clear hw1 c0
 go_wp2_with fail
 refine (children_any (HPN1.out.alloc _) HI.out hcl hb).mono ?_
 rintro e w2 ⟨rfl, hb2⟩
 have hsz2 := hb2.size
 have HBL2 : Hid (Blk w2 W.heap.size 74 z74) := (HBL1.out.alloc _).below hb2 (by simp; omega)
 have HBO2 : Hid (Blk w2 (W.heap.size + 1) 74 (k74 8)) := by
   have h9 := (Blk.new w1 74 (k74 8)).below hb2 (by simp)
   rw [hs1] at h9
   exact h9
 have HPN2 : Hid (PN w2 g gn ns) := (HPN1.out.alloc _).below hb2
 have HB2 : Hid (Below W.heap.size W w2) := (HB1.out.alloc (by omega) _).trans (hb2.mono (by simp; omega))
 have hsz2' : W.heap.size + 2 ≤ w2.heap.size := by simp at hsz2; omega
 generalize hvv : ndAt gn x.child = vv
 clear hb2 hsz2
 go_wp2_with fail
 have HRel : Hid (NORel 8 tb items W g gn W.heap.size w2.heap.size (w2.heap.size + 1) ns items.length (w2.alloc (.cells #[.bool false, .pointer vv] 99))) := by
   refine ⟨[], items, ys0, base + 1, .slice none 0 0, [], rfl, rfl, HCN.out, HSEG.out, HBO2.out.alloc _, ⟨rfl, .inl ⟨rfl, rfl⟩⟩, items_nil.2 rfl, HB2.out.alloc (by omega) _, HBL2.out.alloc _, HPN2.out.alloc _, .inl ?_, by simp⟩
   rw [← HXC.out, show ndOpt gn x.child = .pointer vv from by rw [← hvv]]
   exact Blk.new _ _ _
 generalize w2.heap.size = it at *
 generalize (w2.alloc (.cells #[.bool false, .pointer vv] 99)) = w3 at *
 clear HPN1 HBL1 HB1 HS1 hs1 HBL2 HBO2 HPN2 HB2 hvv HCN HSEG HXC
 have hWit : W.heap.size + 2 ≤ it := hsz2'
 go_loopg [5] items.length (fun gg s5 wx => NORel 8 tb items W g gn W.heap.size it (it + 1) ns gg wx)
 case atStart => exact HRel.out
 case round =>
   obtain ⟨dn, more, ys, p, iv, cs', hit0, rfl, hcn, hseg, hbo, hown, hits, hbw, hbr, hpn, hita, hSw⟩ := hrel
   clear HRel
   have hnl : nxt more p ≤ ns.length := by
     cases more with
     | nil => exact Nat.zero_le _
     | cons m ms =>
       have h1 := hseg.lt
       have h2 := hcn.count
       rw [nxt_cons]
       simp only [List.length_cons] at h2
       omega
   have HST := Lib.hid (it_step hpn HK.out (nxt more p) hnl hb hita (by omega) (by omega))
   have hdl : dn.length ≤ 1000000 := by have h2 := congrArg List.length hit0; simp at h2; omega
   have hivb : ∀ k, iv.ownBlock = some k → it + 1 ≤ k ∧ k < wr.heap.size := fun k hk => own_lt hown hk
   have hive : ∃ a n c, iv = .slice a n c := by
     rcases hown.2 with ⟨rfl, _⟩ | ⟨g', cap, cur, rfl, _⟩
     · exact ⟨_, _, _, rfl⟩
     · exact ⟨_, _, _, rfl⟩
   obtain ⟨ia, inn, ic, rfl⟩ := hive
   have HBO := Lib.hid hbo
   have HOWN := Lib.hid hown
   have HITS := Lib.hid hits
   have HBW := Lib.hid hbw
   have HBR := Lib.hid hbr
   have HPN := Lib.hid hpn
   have HCN := Lib.hid hcn
   have HSEG := Lib.hid hseg
   have HIT0 := Lib.hid hit0
   have HIVB := Lib.hid hivb
   have hl3 := hbo.lt
   have hl2 := hbr.lt
   clear hbo hown hits hbw hbr hpn hcn hseg hit0 hita hivb
   cases more with
   | nil =>
     have e0 := HBO.out.cell 0
     go_wp2_with fail
     refine HST.out.mono ?_
     rintro e w4 ⟨rfl, hst, hlt, hbl, hoth, hsz4, hne⟩
     rw [nxt_nil]
     have hbo4 := hoth _ _ _ (by decide) HBO.out
     have hbr4 := hoth _ _ _ (by decide) HBR.out
     have HM : Hid (∀ g t cs, it + 1 ≤ g → Blk wr g t cs → Blk w4 g t cs) := fun g t cs h1 h2 => hne g t cs (by omega) h2
     have HBO4 := Lib.hid hbo4
     have HBR4 := Lib.hid hbr4
     have HBW4 : Hid (Below W.heap.size W w4) := HBW.out.trans (hbl.mono (by omega))
     have o0 := hbo4.cell 0
     have o1 := hbo4.cell 1
     have o2 := hbo4.cell 2
     have o3 := hbo4.cell 3
     simp at o0 o1 o2 o3
     have ol := hbo4.lt
     have r0 := hbr4.cell 0
     have r1 := hbr4.cell 1
     have r2 := hbr4.cell 2
     have r3 := hbr4.cell 3
     simp at r0 r1 r2 r3
     have rl := hbr4.lt
     have p0 := hbr4.frozen 0
     have p1 := hbr4.frozen 1
     have p2 := hbr4.frozen 2
     have p3 := hbr4.frozen 3
     clear hst hbl hoth hne hbo4 hbr4 e0
     go_wp2_with fail
     have hblF : Blk ((((w4.setCell ⟨W.heap.size, 0, none⟩ (.int .i64 8)).setCell ⟨W.heap.size, 1, none⟩ (.string ⟨#[]⟩)).setCell ⟨W.heap.size, 2, none⟩ (.slice ia inn ic)).setCell ⟨W.heap.size, 3, none⟩ (.slice none 0 0)) W.heap.size 74 #[.int .i64 8, .string ⟨#[]⟩, .slice ia inn ic, .slice none 0 0] := (((HBR4.out.set_ 0 _).set_ 1 _).set_ 2 _).set_ 3 _
     have hBF : Below W.heap.size W ((((w4.setCell ⟨W.heap.size, 0, none⟩ (.int .i64 8)).setCell ⟨W.heap.size, 1, none⟩ (.string ⟨#[]⟩)).setCell ⟨W.heap.size, 2, none⟩ (.slice ia inn ic)).setCell ⟨W.heap.size, 3, none⟩ (.slice none 0 0)) := (((HBW4.out.setCell (Nat.le_refl _) _).setCell (Nat.le_refl _) _).setCell (Nat.le_refl _) _).setCell (Nat.le_refl _) _
     have HMF : Hid (∀ g t cs, it + 1 ≤ g → Blk wr g t cs → Blk ((((w4.setCell ⟨W.heap.size, 0, none⟩ (.int .i64 8)).setCell ⟨W.heap.size, 1, none⟩ (.string ⟨#[]⟩)).setCell ⟨W.heap.size, 2, none⟩ (.slice ia inn ic)).setCell ⟨W.heap.size, 3, none⟩ (.slice none 0 0)) g t cs) := by
       intro g t cs h1 h2
       have hne : g ≠ W.heap.size := by omega
       exact ((((HM.out g t cs h1 h2).far (p := ⟨W.heap.size, 0, none⟩) hne _).far (p := ⟨W.heap.size, 1, none⟩) hne _).far (p := ⟨W.heap.size, 2, none⟩) hne _).far (p := ⟨W.heap.size, 3, none⟩) hne _
     generalize ((((w4.setCell ⟨W.heap.size, 0, none⟩ (.int .i64 8)).setCell ⟨W.heap.size, 1, none⟩ (.string ⟨#[]⟩)).setCell ⟨W.heap.size, 2, none⟩ (.slice ia inn ic)).setCell ⟨W.heap.size, 3, none⟩ (.slice none 0 0)) = w5 at *
     have e0 := hblF.cell 0
     have e1 := hblF.cell 1
     have e2 := hblF.cell 2
     have e3 := hblF.cell 3
     have hl := hblF.lt
     simp at e0 e1 e2 e3
     obtain rfl : items = dn := by have := HIT0.out; simpa using this
     refine bodyPost_ret (v := .agg #[.int .i64 8, .string ⟨#[]⟩, .slice ia inn ic, .slice none 0 0]) (by simp [results, Try.results26, go_sem, e0, e1, e2, e3, hl]) rfl ⟨_, cs', rfl, ?_, ?_, hBF⟩
     · exact (Row.of_own (P := fun g => it + 1 ≤ g) HOWN.out fun g h _ => h).move fun g t cs h1 h2 => ⟨by omega, HMF.out g t cs h1 h2⟩
     · exact ItemsIs.move (fun g t cs h1 h2 => ⟨by omega, HMF.out g t cs h1.1 h2⟩) _ HITS.out
   | cons m ms =>
     obtain ⟨ya, yb, hyab, hitn, hcn2⟩ := cnds_cons.1 HCN.out
     have hsegA : Seg ns p ya := by have h := HSEG.out; rw [hyab] at h; exact h.left
     have HSEGB : Hid (Seg ns (p + ya.length) yb) := by have h := HSEG.out; rw [hyab] at h; exact h.right
     have HCN2 := Lib.hid hcn2
     have hsm := size_mem hsz HIT0.out
     rw [nxt_cons] at HST hnl
     have hnb : ((p + 1 : Nat) != 0) = true := by simp
     clear hcn2 hyab
     go_wp2_with fail
     refine HST.out.mono ?_
     rintro e w4 ⟨rfl, hst, hlt, hbl, hoth, hsz4, hne⟩
     have hit4 := hst p rfl
     have hbo4 := hne _ _ _ (by omega) HBO.out
     have hpn4 : PN w4 g gn ns := HPN.out.keep hbl (by omega) (by omega)
     have HBW4 : Hid (Below W.heap.size W w4) := HBW.out.trans (hbl.mono (by omega))
     have HK54 : Hid (K5 W w4) := (Kp.of_below HBW4.out).k5
     have HNE4 := Lib.hid hne
     have HIT4 := Lib.hid hit4
     have HBO4 := Lib.hid hbo4
     have HPN4 := Lib.hid hpn4
     have o0 := hbo4.cell 0
     have o2 := hbo4.cell 2
     have o2f := hbo4.frozen 2
     simp at o0 o2
     have ol := hbo4.lt
     have HSZ4 := Lib.hid hsz4
     clear hst hbl hoth hne hbo4 hit4 hpn4 hsz4
     rw [hnb]
     rcases hitn with ⟨_, hmk, hvn⟩ | ⟨htb', _⟩
     rotate_left
     · exact absurd htb' htb
     obtain ⟨r, ra, hya, hrn, hrk0, hrk, _⟩ := hvn.root
     have hr : ns[p]? = some r := by rw [hya] at hsegA; exact hsegA.head
     have ck : w4.cell? ⟨gn, 7 * p, none⟩ = some (.int .i64 (pk m.kind : Nat)) := by have := HPN4.out.kind hr; rw [hrk] at this; exact this
     have hk1 : ((pk m.kind : Int) == 1) = false := by unfold pk; repeat' split
                                                       all_goals decide
     have HC : Hid (∀ w, PN w g gn ns → K5 W w → Calls Try.prog 26 #[ndPtr gn p] w (NodeTold m w)) := fun w h1 h2 => HIH.out m hsm w g gn ns p _ ya h1 HK.out hb (VNds.k5 h2 m hvn) hsegA
     have HR := Lib.hid hr
     have HRN : Hid (r.next = nxt ms (p + ya.length)) := hrn
     have HMK := Lib.hid hmk
     clear hvn hsegA hya hr hrk hrn hmk
     generalize pk m.kind = pkm at *
     go_wp2_with fail
     refine (itNode_any HIT4.out).mono ?_
     rintro e w5 ⟨rfl, rfl⟩
     go_wp2_with fail
     have HPN5 : Hid (PN w4.drew g gn ns) := HPN4.out
     have HK55 : Hid (K5 W w4.drew) := HK54.out
     have HOWNB : Hid (∀ w5, Below w4.drew.heap.size w4.drew w5 → w5.ownsRow (it + 1) 74 4 (.slice ia inn ic) dn.length cs') := by
       intro w5 hb5
       have h4 : w4.ownsRow (it + 1) 74 4 (.slice ia inn ic) dn.length cs' := by
         obtain ⟨h1, h2⟩ := HOWN.out
         refine ⟨h1, ?_⟩
         rcases h2 with h2 | ⟨g, cap, cur, a, b, c, d⟩
         · exact .inl h2
         · exact .inr ⟨g, cap, cur, a, b, HNE4.out g 74 cur (by omega) c, d⟩
       exact own_keep h4 (fun k cs hb => Blk.below (w := w4.drew) hb hb5 hb.lt)
     go_region_law (first
       | (go_simp
          go_at_call 26
          refine (HC.out _ HPN5.out HK55.out).mono ?_
          rintro e w5 ⟨iv5, cs5, rfl, hrow5, hits5, hb5⟩
          obtain ⟨a5, c5, rfl, -, -⟩ := hrow5.slice
          have HBO5 : Hid (Blk w5 (W.heap.size + 1) 74 #[.int .i64 8, .string ⟨#[]⟩, .slice ia inn ic, .slice none 0 0]) := Blk.below (w := w4.drew) HBO4.out hb5 ol
          have q2 : w5.cell? ⟨W.heap.size + 1, 2, none⟩ = some (.slice ia inn ic) := by have := HBO5.out.cell 2; simpa using this
          have hl5 := HBO5.out.lt
          have hs5 : it + 1 ≤ w5.heap.size := by have := hb5.size; have := HSZ4.out; simp at *; omega
          have HROW5 := Lib.hid hrow5
          have HITS5 := Lib.hid hits5
          have HB5 := Lib.hid hb5
          have HOWN5 := Lib.hid (HOWNB.out w5 hb5)
          clear hrow5 hits5 hb5)
       | (refine step_append_lies _ rfl (.tmp 48) (.tmp 51) 72 rfl (it + 1) 74 i0 _ 4 72 Try.underlying72 HI0.out hz0 hz1 hz2 rfl (by decide) (.slice ia inn ic) dn.length cs' (by simp [Act.eval, Act.put]) (own_keep HOWN5.out (fun g cs hb => hb.alloc _)) ⟨w5.heap.size, 0, none⟩ 1 1 [.int .i64 m.kind, .string ⟨m.text.toArray⟩, .slice a5 m.items.length c5, .slice none 0 0] (by simp [Act.eval, Act.put]) rfl (Blk.add (l := [.int .i64 m.kind, .string ⟨m.text.toArray⟩, .slice a5 m.items.length c5, .slice none 0 0]) (Blk.new w5 74 _)) (one4 _ _ _ _ _ _ _ _) (by decide) (by simp only [maxLen]; omega) (by omega) (alloc_le hs5) (w5.heap.size + 1) (size_alloc' _ _) ?_
          intro g7 c7 w7 hown7 hgrow7 hlies7 hlt7
          have HOWN7 := Lib.hid hown7
          have HGROW7 := Lib.hid hgrow7
          have HLIES7 := Lib.hid hlies7
          have HBO7 : Hid (Blk w7 (W.heap.size + 1) 74 #[.int .i64 8, .string ⟨#[]⟩, .slice ia inn ic, .slice none 0 0]) := (hgrow7.block _ (HBO5.out.alloc _).lt (fun h => by have := (HIVB.out _ h.symm).1; omega)).trans (HBO5.out.alloc _)
          have q3 : w7.cell? ⟨W.heap.size + 1, 2, none⟩ = some (.slice ia inn ic) := by have := HBO7.out.cell 2; simpa using this
          have q3f := HBO7.out.frozen 2
          have q3l := HBO7.out.lt
          clear hown7 hgrow7 hlies7))
     all_goals
       go_wp2_with fail
       go_roundg ms.length
       case measure => simp
       case rel =>
         have hs4 := HSZ4.out
         have hwr5 : wr.heap.size ≤ w5.heap.size := by have := HB5.out.size; rw [← hs4]; exact this
         refine no_snoc (w6 := w5.alloc (.cells #[.int .i64 m.kind, .string ⟨m.text.toArray⟩, .slice a5 m.items.length c5, .slice none 0 0] 74)) HIT0.out HCN2.out HSEGB.out HOWN.out HITS.out ?_ hSw rfl (by omega) rfl hgl hgnl (by simp; omega) ?_ ?_ ((HPN5.out.below HB5.out).alloc _) ((Blk.below (w := w4.drew) HIT4.out HB5.out hlt).alloc _) HR.out HRN.out HBO.out HBR.out HOWN7.out HGROW7.out (HLIES7.out.imp_right fun h => by rw [size_alloc']; exact h)
         · refine NodeIs.move (P := fun g => w4.drew.heap.size ≤ g) (w := w5) ?_ m (NodeIs.mk' (by rw [HMK.out]; exact StrRow.nil _ _) HROW5.out HITS5.out)
           intro k t cs h1 h2
           refine ⟨?_, h2.alloc _⟩
           rw [← hs4]
           exact h1
         · intro k t cs h1 h2
           have h4 := HNE4.out k t cs h1 h2
           exact (Blk.below (w := w4.drew) h4 HB5.out h4.lt).alloc _
         · exact ((HBW4.out.trans (Fr.drewN w4 1).1).trans (HB5.out.mono (by have := HBW4.out.size; exact this))).alloc (by have := HBW.out.size; omega) _
set_option maxRecDepth 100000 in
set_option maxHeartbeats 2000000 in
theorem nodeOf_tbl {n : Nat} (hih : NodeOk n) {W : World} {g gn : Nat} {ns xs : List Nd} {base nx : Nat} {items : List N} {t : List UInt8} {ks : List (List UInt8)} {tb : Prop} (htb : tb) (hsz : SizeOf.sizeOf (N.mk 9 t items ks) < n + 1) (h : PN W g gn ns) (hk : ∀ x ∈ ns, x.kind ≠ 0) (hb : ns.length ≤ 1000000)
   (hv : ∃ x ys, xs = x :: ys ∧ x.kind = pk 9 ∧ x.next = nx ∧ x.child = (if items = [] then 0 else base + 2) ∧ CNds W tb items (base + 1) 0 ys) (hseg : Seg ns base xs) :
   Calls Try.prog 26 #[ndPtr gn base] W (NodeTold (.mk 9 [] items ks) W) := by
 obtain ⟨x, ys0, rfl, hxk, hxn, hx⟩ := hv
 have hx' : x.child = (if items = [] then 0 else base + 2) ∧ CNds W tb items (base + 1) 0 ys0 := hx
 obtain ⟨hxc, hcn⟩ := hx'
 have hi := hseg.head
 have hpn1 : PN (W.alloc (.cells z74 74)) g gn ns := h.alloc _
 have hbl1 : Blk (W.alloc (.cells z74 74)) W.heap.size 74 z74 := Blk.new W 74 _
 have hB1 : Below W.heap.size W (W.alloc (.cells z74 74)) := (Below.refl _ W).alloc (Nat.le_refl _) _
 have hs1 : (W.alloc (.cells z74 74)).heap.size = W.heap.size + 1 := by simp
 have c0 : (W.alloc (.cells z74 74)).cell? ⟨gn, 7 * base, none⟩ = some (.int .i64 (pk 9 : Nat)) := by have := hpn1.kind hi; rw [hxk] at this; exact this
 have hcl : x.child ≤ ns.length := by
   rw [hxc]
   have h1 := hcn.count
   have h2 := hseg.lt
   simp only [List.length_cons] at h2
   split
   · exact Nat.zero_le _
   · rename_i hne
     have : items.length ≠ 0 := fun e => hne (List.eq_nil_of_length_eq_zero e)
     omega
 have hitl : items.length ≤ 1000000 := by
   have h1 := hcn.count
   have h2 := hseg.lt
   simp only [List.length_cons] at h2
   omega
 obtain ⟨i0, hi0, hz0, hz1, hz2⟩ := info_parts info74
 obtain ⟨hgl, hgnl⟩ : g < W.heap.size ∧ gn < W.heap.size := by obtain ⟨_, _, _, h3, h4, _⟩ := h; exact ⟨h3, h4⟩
 have HI0 := Lib.hid hi0
 have HPN1 := Lib.hid hpn1
 have HBL1 := Lib.hid hbl1
 have HB1 := Lib.hid hB1
 have HS1 := Lib.hid hs1
 have HI := Lib.hid hi
 have HK := Lib.hid hk
 have HCN := Lib.hid hcn
 have HSEG := Lib.hid hseg.tail
 have HXC : Hid (x.child = nxt items (base + 1)) := hxc
 have HIH := Lib.hid hih
 clear h hi hk hpn1 hbl1 hB1 hs1 hcn hseg hxc hih hx hxk hxn hi0
 go_enter Try.func26, Try.ntmps26
 go_wp2_with fail
 refine (kindOf_any 9 (by omega) _).mono ?_
 rintro e w1 ⟨rfl, hw1⟩
 rw [hw1] at HPN1 HBL1 HB1 HS1 c0
 have hs1 := HS1.out
 clear hw1 c0
 go_wp2_with fail
 refine (children_any (HPN1.out.alloc _) HI.out hcl hb).mono ?_
 rintro e w2 ⟨rfl, hb2⟩
 have hsz2 := hb2.size
 have HBL2 : Hid (Blk w2 W.heap.size 74 z74) := (HBL1.out.alloc _).below hb2 (by simp; omega)
 have HBO2 : Hid (Blk w2 (W.heap.size + 1) 74 (k74 9)) := by
   have h9 := (Blk.new w1 74 (k74 9)).below hb2 (by simp)
   rw [hs1] at h9
   exact h9
 have HPN2 : Hid (PN w2 g gn ns) := (HPN1.out.alloc _).below hb2
 have HB2 : Hid (Below W.heap.size W w2) := (HB1.out.alloc (by omega) _).trans (hb2.mono (by simp; omega))
 have hsz2' : W.heap.size + 2 ≤ w2.heap.size := by simp at hsz2; omega
 generalize hvv : ndAt gn x.child = vv
 clear hb2 hsz2
 go_wp2_with fail
 have HRel : Hid (NORel 9 tb items W g gn W.heap.size w2.heap.size (w2.heap.size + 1) ns items.length (w2.alloc (.cells #[.bool false, .pointer vv] 99))) := by
   refine ⟨[], items, ys0, base + 1, .slice none 0 0, [], rfl, rfl, HCN.out, HSEG.out, HBO2.out.alloc _, ⟨rfl, .inl ⟨rfl, rfl⟩⟩, items_nil.2 rfl, HB2.out.alloc (by omega) _, HBL2.out.alloc _, HPN2.out.alloc _, .inl ?_, by simp⟩
   rw [← HXC.out, show ndOpt gn x.child = .pointer vv from by rw [← hvv]]
   exact Blk.new _ _ _
 generalize w2.heap.size = it at *
 generalize (w2.alloc (.cells #[.bool false, .pointer vv] 99)) = w3 at *
 clear HPN1 HBL1 HB1 HS1 hs1 HBL2 HBO2 HPN2 HB2 hvv HCN HSEG HXC
 have hWit : W.heap.size + 2 ≤ it := hsz2'
 go_loopg [5] items.length (fun gg s5 wx => NORel 9 tb items W g gn W.heap.size it (it + 1) ns gg wx)
 case atStart => exact HRel.out
 case round =>
   obtain ⟨dn, more, ys, p, iv, cs', hit0, rfl, hcn, hseg, hbo, hown, hits, hbw, hbr, hpn, hita, hSw⟩ := hrel
   clear HRel
   have hnl : nxt more p ≤ ns.length := by
     cases more with
     | nil => exact Nat.zero_le _
     | cons m ms =>
       have h1 := hseg.lt
       have h2 := hcn.count
       rw [nxt_cons]
       simp only [List.length_cons] at h2
       omega
   have HST := Lib.hid (it_step hpn HK.out (nxt more p) hnl hb hita (by omega) (by omega))
   have hdl : dn.length ≤ 1000000 := by have h2 := congrArg List.length hit0; simp at h2; omega
   have hivb : ∀ k, iv.ownBlock = some k → it + 1 ≤ k ∧ k < wr.heap.size := fun k hk => own_lt hown hk
   have hive : ∃ a n c, iv = .slice a n c := by
     rcases hown.2 with ⟨rfl, _⟩ | ⟨g', cap, cur, rfl, _⟩
     · exact ⟨_, _, _, rfl⟩
     · exact ⟨_, _, _, rfl⟩
   obtain ⟨ia, inn, ic, rfl⟩ := hive
   have HBO := Lib.hid hbo
   have HOWN := Lib.hid hown
   have HITS := Lib.hid hits
   have HBW := Lib.hid hbw
   have HBR := Lib.hid hbr
   have HPN := Lib.hid hpn
   have HCN := Lib.hid hcn
   have HSEG := Lib.hid hseg
   have HIT0 := Lib.hid hit0
   have HIVB := Lib.hid hivb
   have hl3 := hbo.lt
   have hl2 := hbr.lt
   clear hbo hown hits hbw hbr hpn hcn hseg hit0 hita hivb
   cases more with
   | nil =>
     have e0 := HBO.out.cell 0
     go_wp2_with fail
     refine HST.out.mono ?_
     rintro e w4 ⟨rfl, hst, hlt, hbl, hoth, hsz4, hne⟩
     rw [nxt_nil]
     have hbo4 := hoth _ _ _ (by decide) HBO.out
     have hbr4 := hoth _ _ _ (by decide) HBR.out
     have HM : Hid (∀ g t cs, it + 1 ≤ g → Blk wr g t cs → Blk w4 g t cs) := fun g t cs h1 h2 => hne g t cs (by omega) h2
     have HBO4 := Lib.hid hbo4
     have HBR4 := Lib.hid hbr4
     have HBW4 : Hid (Below W.heap.size W w4) := HBW.out.trans (hbl.mono (by omega))
     have o0 := hbo4.cell 0
     have o1 := hbo4.cell 1
     have o2 := hbo4.cell 2
     have o3 := hbo4.cell 3
     simp at o0 o1 o2 o3
     have ol := hbo4.lt
     have r0 := hbr4.cell 0
     have r1 := hbr4.cell 1
     have r2 := hbr4.cell 2
     have r3 := hbr4.cell 3
     simp at r0 r1 r2 r3
     have rl := hbr4.lt
     have p0 := hbr4.frozen 0
     have p1 := hbr4.frozen 1
     have p2 := hbr4.frozen 2
     have p3 := hbr4.frozen 3
     clear hst hbl hoth hne hbo4 hbr4 e0
     go_wp2_with fail
     have hblF : Blk ((((w4.setCell ⟨W.heap.size, 0, none⟩ (.int .i64 9)).setCell ⟨W.heap.size, 1, none⟩ (.string ⟨#[]⟩)).setCell ⟨W.heap.size, 2, none⟩ (.slice ia inn ic)).setCell ⟨W.heap.size, 3, none⟩ (.slice none 0 0)) W.heap.size 74 #[.int .i64 9, .string ⟨#[]⟩, .slice ia inn ic, .slice none 0 0] := (((HBR4.out.set_ 0 _).set_ 1 _).set_ 2 _).set_ 3 _
     have hBF : Below W.heap.size W ((((w4.setCell ⟨W.heap.size, 0, none⟩ (.int .i64 9)).setCell ⟨W.heap.size, 1, none⟩ (.string ⟨#[]⟩)).setCell ⟨W.heap.size, 2, none⟩ (.slice ia inn ic)).setCell ⟨W.heap.size, 3, none⟩ (.slice none 0 0)) := (((HBW4.out.setCell (Nat.le_refl _) _).setCell (Nat.le_refl _) _).setCell (Nat.le_refl _) _).setCell (Nat.le_refl _) _
     have HMF : Hid (∀ g t cs, it + 1 ≤ g → Blk wr g t cs → Blk ((((w4.setCell ⟨W.heap.size, 0, none⟩ (.int .i64 9)).setCell ⟨W.heap.size, 1, none⟩ (.string ⟨#[]⟩)).setCell ⟨W.heap.size, 2, none⟩ (.slice ia inn ic)).setCell ⟨W.heap.size, 3, none⟩ (.slice none 0 0)) g t cs) := by
       intro g t cs h1 h2
       have hne : g ≠ W.heap.size := by omega
       exact ((((HM.out g t cs h1 h2).far (p := ⟨W.heap.size, 0, none⟩) hne _).far (p := ⟨W.heap.size, 1, none⟩) hne _).far (p := ⟨W.heap.size, 2, none⟩) hne _).far (p := ⟨W.heap.size, 3, none⟩) hne _
     generalize ((((w4.setCell ⟨W.heap.size, 0, none⟩ (.int .i64 9)).setCell ⟨W.heap.size, 1, none⟩ (.string ⟨#[]⟩)).setCell ⟨W.heap.size, 2, none⟩ (.slice ia inn ic)).setCell ⟨W.heap.size, 3, none⟩ (.slice none 0 0)) = w5 at *
     have e0 := hblF.cell 0
     have e1 := hblF.cell 1
     have e2 := hblF.cell 2
     have e3 := hblF.cell 3
     have hl := hblF.lt
     simp at e0 e1 e2 e3
     obtain rfl : items = dn := by have := HIT0.out; simpa using this
     refine bodyPost_ret (v := .agg #[.int .i64 9, .string ⟨#[]⟩, .slice ia inn ic, .slice none 0 0]) (by simp [results, Try.results26, go_sem, e0, e1, e2, e3, hl]) rfl ⟨_, cs', rfl, ?_, ?_, hBF⟩
     · exact (Row.of_own (P := fun g => it + 1 ≤ g) HOWN.out fun g h _ => h).move fun g t cs h1 h2 => ⟨by omega, HMF.out g t cs h1 h2⟩
     · exact ItemsIs.move (fun g t cs h1 h2 => ⟨by omega, HMF.out g t cs h1.1 h2⟩) _ HITS.out
   | cons m ms =>
     obtain ⟨ya, yb, hyab, hitn, hcn2⟩ := cnds_cons.1 HCN.out
     have hsegA : Seg ns p ya := by have h := HSEG.out; rw [hyab] at h; exact h.left
     have HSEGB : Hid (Seg ns (p + ya.length) yb) := by have h := HSEG.out; rw [hyab] at h; exact h.right
     have HCN2 := Lib.hid hcn2
     have hsm := size_mem hsz HIT0.out
     rw [nxt_cons] at HST hnl
     have hnb : ((p + 1 : Nat) != 0) = true := by simp
     clear hcn2 hyab
     go_wp2_with fail
     refine HST.out.mono ?_
     rintro e w4 ⟨rfl, hst, hlt, hbl, hoth, hsz4, hne⟩
     have hit4 := hst p rfl
     have hbo4 := hne _ _ _ (by omega) HBO.out
     have hpn4 : PN w4 g gn ns := HPN.out.keep hbl (by omega) (by omega)
     have HBW4 : Hid (Below W.heap.size W w4) := HBW.out.trans (hbl.mono (by omega))
     have HK54 : Hid (K5 W w4) := (Kp.of_below HBW4.out).k5
     have HNE4 := Lib.hid hne
     have HIT4 := Lib.hid hit4
     have HBO4 := Lib.hid hbo4
     have HPN4 := Lib.hid hpn4
     have o0 := hbo4.cell 0
     have o2 := hbo4.cell 2
     have o2f := hbo4.frozen 2
     simp at o0 o2
     have ol := hbo4.lt
     have HSZ4 := Lib.hid hsz4
     clear hst hbl hoth hne hbo4 hit4 hpn4 hsz4
     rw [hnb]
     rcases hitn with ⟨htb', _⟩ | ⟨_, hkv⟩
     · exact absurd htb htb'
     obtain ⟨x5, kn, vn, hya, hx5k, hx5n, hx5c, hkn, hvn⟩ := hkv
     obtain ⟨y, ra, hvr, hyn, hyk0, _, _⟩ := hvn.root
     have hr : ns[p]? = some x5 := by rw [hya] at hsegA; exact hsegA.head
     have hsegK : Seg ns (p + 1) kn := by rw [hya] at hsegA; exact hsegA.tail.left
     have hsegV : Seg ns (p + 1 + kn.length) vn := by rw [hya] at hsegA; exact hsegA.tail.right
     have hy : ns[p + 1 + kn.length]? = some y := by rw [hvr] at hsegV; exact hsegV.head
     have hcl2 : p + 1 + kn.length < ns.length := by have h1 := hsegV.lt; rw [hvr] at h1; simp only [List.length_cons] at h1; omega
     have hknl := hkn.2.length
     have hkml : m.keys.length ≤ 1000000 := by have := hsegK.lt; omega
     have hkp : 0 < m.keys.length := List.length_pos_iff.2 hkn.1
     have hynl : y.next ≤ ns.length := by rw [hyn]; have := hsegK.lt; omega
     have hnk : nxt m.keys (p + 1) = y.next := by rw [hyn]; unfold nxt; rw [if_neg hkn.1]
     have ck : w4.cell? ⟨gn, 7 * p, none⟩ = some (.int .i64 5) := by have := HPN4.out.kind hr; rw [hx5k] at this; exact this
     have HC : Hid (∀ w, PN w g gn ns → K5 W w → Calls Try.prog 26 #[ndPtr gn (p + 1 + kn.length)] w (NodeTold m w)) := fun w h1 h2 => HIH.out m hsm w g gn ns _ _ vn h1 HK.out hb (VNds.k5 h2 m hvn) hsegV
     have HV : Hid (∀ w, PN w g gn ns → Calls Try.prog 27 #[ndPtr gn p] w (PtrIs (ndPtr gn (p + 1 + kn.length)) w)) := fun w h1 => value_any h1 hr _ (by rw [hx5c]; omega) hcl2 hb
     have HKO : Hid (∀ w, PN w g gn ns → K5 W w → Calls Try.prog 25 #[ndPtr gn p] w (KeysTold m.keys w)) := fun w h1 h2 => by
       refine keysOf_any h1 HK.out hb (hkn.2.k5 h2) hsegK hkml ?_
       rw [hnk]
       exact key_kv h1 HK.out hr hx5k (c := p + 1 + kn.length) (by rw [hx5c]; omega) hy hynl hb
     have HR := Lib.hid hr
     have HRN : Hid (x5.next = nxt ms (p + ya.length)) := hx5n
     clear hvn hsegA hya hr hx5n hx5c hkn hy hsegK hsegV hknl hnk hyn hvr hx5k hkp
     generalize p + 1 + kn.length = pv at *
     go_wp2_with fail
     refine (itNode_any HIT4.out).mono ?_
     rintro e w5 ⟨rfl, rfl⟩
     go_wp2_with fail
     refine (HV.out _ HPN4.out).mono ?_
     rintro e w5 ⟨rfl, nv, hw5⟩
     have HPN5 : Hid (PN w5 g gn ns) := by rw [hw5]; exact HPN4.out
     have HK55 : Hid (K5 W w5) := by rw [hw5]; exact HK54.out
     have HBO5 : Hid (Blk w5 (W.heap.size + 1) 74 #[.int .i64 9, .string ⟨#[]⟩, .slice ia inn ic, .slice none 0 0]) := by rw [hw5]; exact HBO4.out
     have HIT5 : Hid (Blk w5 it 99 #[.bool true, ndPtr gn p]) := by rw [hw5]; exact HIT4.out
     have HBW5 : Hid (Below W.heap.size W w5) := by rw [hw5]; exact HBW4.out.trans (Fr.drewN w4 nv).1
     have HNE5 : Hid (∀ g t cs, g ≠ it → Blk wr g t cs → Blk w5 g t cs) := by rw [hw5]; exact HNE4.out
     have hs5 : w5.heap.size = wr.heap.size := by rw [hw5]; exact HSZ4.out
     have HS5 := Lib.hid hs5
     clear hw5 ck o0 o2 o2f ol HPN4 HK54 HBO4 HIT4 HBW4 HNE4 HSZ4 hlt hs5
     go_wp2_with fail
     refine (HC.out _ HPN5.out HK55.out).mono ?_
     rintro e w6 ⟨iv5, cs5, rfl, hrow5, hits5, hb6⟩
     obtain ⟨a5, c5, rfl, -, -⟩ := hrow5.slice
     have HROW5 := Lib.hid hrow5
     have HITS5 := Lib.hid hits5
     have HB6 := Lib.hid hb6
     have HPN6 : Hid (PN (w6.alloc (.cells #[.int .i64 m.kind, .string ⟨m.text.toArray⟩, .slice a5 m.items.length c5, .slice none 0 0] 74)) g gn ns) := (HPN5.out.below hb6).alloc _
     have HK56 : Hid (K5 W (w6.alloc (.cells #[.int .i64 m.kind, .string ⟨m.text.toArray⟩, .slice a5 m.items.length c5, .slice none 0 0] 74))) := (HK55.out.trans (Kp.of_below hb6).k5).trans (Kp.alloc w6 _).k5
     clear hrow5 hits5 hb6
     go_wp2_with fail
     refine (HKO.out _ HPN6.out HK56.out).mono ?_
     rintro e w7 ⟨kv, rfl, hkrow, hb7⟩
     obtain ⟨ak, ck, rfl, -, -⟩ := hkrow.slice
     have HIV7 : Hid (Blk w7 w6.heap.size 74 #[.int .i64 m.kind, .string ⟨m.text.toArray⟩, .slice a5 m.items.length c5, .slice none 0 0]) := (Blk.new w6 74 _).below hb7 (by simp)
     have HBO7 : Hid (Blk w7 (W.heap.size + 1) 74 #[.int .i64 9, .string ⟨#[]⟩, .slice ia inn ic, .slice none 0 0]) := by
       have h1 := HBO5.out.below HB6.out HBO5.out.lt
       exact (h1.alloc _).below hb7 (h1.alloc _).lt
     have hs6 : wr.heap.size ≤ w6.heap.size := by have := HB6.out.size; have := HS5.out; omega
     have HS7 : Hid (w6.heap.size + 1 ≤ w7.heap.size) := by have := hb7.size; simp at this; exact this
     have HKR := Lib.hid hkrow
     have HB7 := Lib.hid hb7
     have v0 := HIV7.out.cell 0
     have v1 := HIV7.out.cell 1
     have v2 := HIV7.out.cell 2
     have v3 := HIV7.out.cell 3
     have v3f := HIV7.out.frozen 3
     have vl := HIV7.out.lt
     simp at v0 v1 v2 v3
     have q2 := HBO7.out.cell 2
     simp at q2
     have ql := HBO7.out.lt
     have hvne : W.heap.size + 1 ≠ w6.heap.size := by have := HBO5.out.lt; have := HB6.out.size; omega
     clear hkrow hb7
     have hs7 := HS7.out
     have hs56 : w5.heap.size ≤ w6.heap.size := HB6.out.size
     have HPRES : Hid (∀ k t cs, k ≠ it → Blk wr k t cs → Blk ((w7.setCell ⟨w6.heap.size, 3, none⟩ (.slice ak m.keys.length ck)).alloc (.cells #[.int .i64 m.kind, .string ⟨m.text.toArray⟩, .slice a5 m.items.length c5, .slice ak m.keys.length ck] 74)) k t cs) := by
       intro k t cs h1 h2
       have h5 := HNE5.out k t cs h1 h2
       have h6 := h5.below HB6.out h5.lt
       have h7 := (h6.alloc (.cells #[.int .i64 m.kind, .string ⟨m.text.toArray⟩, .slice a5 m.items.length c5, .slice none 0 0] 74)).below HB7.out (h6.alloc _).lt
       have hl := h5.lt
       exact (h7.far (p := ⟨w6.heap.size, 3, none⟩) (by show k ≠ w6.heap.size; omega) _).alloc _
     have HOWN9 := Lib.hid (own_keep2 HOWN.out (fun k cs h1 h2 => HPRES.out k 74 cs (by omega) h2))
     have HBO9 := Lib.hid (HPRES.out _ _ _ (by omega) HBO.out)
     have hs9 : it + 1 ≤ w7.heap.size := by omega
     have HB9 : Hid (Below W.heap.size W ((w7.setCell ⟨w6.heap.size, 3, none⟩ (.slice ak m.keys.length ck)).alloc (.cells #[.int .i64 m.kind, .string ⟨m.text.toArray⟩, .slice a5 m.items.length c5, .slice ak m.keys.length ck] 74))) := by
       have h0 := HBW5.out.size
       have h1 := (HBW5.out.trans (HB6.out.mono h0)).alloc (by omega) (.cells #[.int .i64 m.kind, .string ⟨m.text.toArray⟩, .slice a5 m.items.length c5, .slice none 0 0] 74)
       have h2 := h1.trans (HB7.out.mono (by simp; omega))
       exact (h2.setCell (p := ⟨w6.heap.size, 3, none⟩) (by show W.heap.size ≤ w6.heap.size; omega) _).alloc (by simp; omega) _
     have HIT9 : Hid (Blk ((w7.setCell ⟨w6.heap.size, 3, none⟩ (.slice ak m.keys.length ck)).alloc (.cells #[.int .i64 m.kind, .string ⟨m.text.toArray⟩, .slice a5 m.items.length c5, .slice ak m.keys.length ck] 74)) it 99 #[.bool true, ndPtr gn p]) := by
       have h6 := HIT5.out.below HB6.out HIT5.out.lt
       have h7 := (h6.alloc (.cells #[.int .i64 m.kind, .string ⟨m.text.toArray⟩, .slice a5 m.items.length c5, .slice none 0 0] 74)).below HB7.out (h6.alloc _).lt
       have hl := HIT5.out.lt
       exact (h7.far (p := ⟨w6.heap.size, 3, none⟩) (by show it ≠ w6.heap.size; omega) _).alloc _
     have HPN9 : Hid (PN ((w7.setCell ⟨w6.heap.size, 3, none⟩ (.slice ak m.keys.length ck)).alloc (.cells #[.int .i64 m.kind, .string ⟨m.text.toArray⟩, .slice a5 m.items.length c5, .slice ak m.keys.length ck] 74)) g gn ns) := by
       have h0 := HBW5.out.size
       exact ((HPN6.out.below HB7.out).set (p := ⟨w6.heap.size, 3, none⟩) (by show g ≠ w6.heap.size; omega) (by show gn ≠ w6.heap.size; omega) _).alloc _
     have HX9 : Hid (NodeIs (fun k => wr.heap.size ≤ k) ((w7.setCell ⟨w6.heap.size, 3, none⟩ (.slice ak m.keys.length ck)).alloc (.cells #[.int .i64 m.kind, .string ⟨m.text.toArray⟩, .slice a5 m.items.length c5, .slice ak m.keys.length ck] 74)) 74 m [.int .i64 m.kind, .string ⟨m.text.toArray⟩, .slice a5 m.items.length c5, .slice ak m.keys.length ck]) := by
       have hs5 := HS5.out
       have hm : ∀ k t cs, w5.heap.size ≤ k → Blk w6 k t cs → wr.heap.size ≤ k ∧ Blk ((w7.setCell ⟨w6.heap.size, 3, none⟩ (.slice ak m.keys.length ck)).alloc (.cells #[.int .i64 m.kind, .string ⟨m.text.toArray⟩, .slice a5 m.items.length c5, .slice ak m.keys.length ck] 74)) k t cs := by
         intro k t cs h1 h2
         have h7 := (h2.alloc (.cells #[.int .i64 m.kind, .string ⟨m.text.toArray⟩, .slice a5 m.items.length c5, .slice none 0 0] 74)).below HB7.out (h2.alloc _).lt
         have hl := h2.lt
         exact ⟨by omega, (h7.far (p := ⟨w6.heap.size, 3, none⟩) (by show k ≠ w6.heap.size; omega) _).alloc _⟩
       refine NodeIs.mk' (Row.move HKR.out ?_) (HROW5.out.move hm) (ItemsIs.move hm _ HITS5.out)
       intro k t cs h1 h2
       rw [size_alloc'] at h1
       exact ⟨by omega, (h2.far (p := ⟨w6.heap.size, 3, none⟩) (by show k ≠ w6.heap.size; omega) _).alloc _⟩
     have hs9w : wr.heap.size ≤ w7.heap.size := by omega
     clear HPN6 HK56 HB7 HB6 HKR HROW5 HITS5 HBW5 HIT5 HNE5 HPN5 HK55 HBO5
     generalize hq : w6.heap.size = q at *
     clear hq
     go_wp2_with (first
       | (at_builtin; refine wpList_append_lies _ rfl (.tmp 42) (.tmp 44) 72 rfl (it + 1) 74 i0 _ 4 72 Try.underlying72 HI0.out hz0 hz1 hz2 rfl (by decide) (.slice ia inn ic) dn.length cs' (by rfl) HOWN9.out ⟨w7.heap.size, 0, none⟩ 1 1 [.int .i64 m.kind, .string ⟨m.text.toArray⟩, .slice a5 m.items.length c5, .slice ak m.keys.length ck] (by rfl) rfl ?hnews (one4 _ _ _ _ _ _ _ _) (by decide) (by simp only [maxLen]; omega) (by omega) (alloc_le (by simpa using hs9)) (w7.heap.size + 1) (by simp) ?_
          case hnews =>
            have h := Blk.new (w7.setCell ⟨q, 3, none⟩ (.slice ak m.keys.length ck)) 74 #[.int .i64 m.kind, .string ⟨m.text.toArray⟩, .slice a5 m.items.length c5, .slice ak m.keys.length ck]
            rw [show (w7.setCell ⟨q, 3, none⟩ (.slice ak m.keys.length ck)).heap.size = w7.heap.size from by simp] at h
            exact Blk.add (l := [.int .i64 m.kind, .string ⟨m.text.toArray⟩, .slice a5 m.items.length c5, .slice ak m.keys.length ck]) h
          intro g7 c7 w8 hown7 hgrow7 hlies7 hlt7
          have HBO8 : Hid (Blk w8 (W.heap.size + 1) 74 #[.int .i64 9, .string ⟨#[]⟩, .slice ia inn ic, .slice none 0 0]) := (hgrow7.block _ HBO9.out.lt (fun h => by have := (HIVB.out _ h.symm).1; omega)).trans HBO9.out
          have q3 : w8.cell? ⟨W.heap.size + 1, 2, none⟩ = some (.slice ia inn ic) := by have := HBO8.out.cell 2; simpa using this
          have q3f := HBO8.out.frozen 2
          have q3l := HBO8.out.lt
          have HOWN7 := Lib.hid hown7
          have HGROW7 := Lib.hid hgrow7
          have HLIES7 := Lib.hid hlies7
          clear hown7 hgrow7 hlies7))
     go_roundg ms.length
     case measure => simp
     case rel =>
       exact no_snoc HIT0.out HCN2.out HSEGB.out HOWN.out HITS.out HX9.out hSw rfl (by omega) rfl hgl hgnl (by simp; omega) HPRES.out HB9.out HPN9.out HIT9.out HR.out HRN.out HBO.out HBR.out HOWN7.out HGROW7.out (HLIES7.out.imp_right fun h => by rw [size_alloc']; simpa using h)
theorem nodeOf_ok : ∀ n, NodeOk n
 | 0 => fun v h => absurd h (Nat.not_lt_zero _)
 | n + 1 => by
   intro v hsz W g gn ns base nx xs hpn hk hb hv hseg
   have ih := nodeOf_ok n
   cases v with
   | mk kd t items ks =>
     unfold VNds at hv
     obtain ⟨x, ys, h1, h2, h3, h4⟩ := hv
     rcases h4 with ⟨g1, g2, g3, g4, g5⟩ | ⟨g1, g2, g3, g4⟩
     · subst h1
       refine (nodeOf_scal hpn hseg.head h2 g1 g2).mono ?_
       rintro e w' ⟨rfl, hb'⟩
       subst g5
       exact ⟨_, [], rfl, ⟨rfl, .inl ⟨rfl, rfl⟩⟩, items_nil.2 rfl, hb'⟩
     · subst g2
       rcases g1 with rfl | rfl
       · exact nodeOf_arr ih (tb := (8 : Nat) = 9) (by decide) hsz hpn hk hb ⟨x, ys, h1, h2, h3, g3, g4⟩ hseg
       · exact nodeOf_tbl ih (tb := (9 : Nat) = 9) rfl hsz hpn hk hb ⟨x, ys, h1, h2, h3, g3, g4⟩ hseg
theorem nodeOf_any {W : World} {g gn : Nat} {ns xs : List Nd} {base nx : Nat} {v : N} (h : PN W g gn ns) (hk : ∀ x ∈ ns, x.kind ≠ 0) (hb : ns.length ≤ 1000000) (hv : VNds W v base nx xs) (hseg : Seg ns base xs) : Calls Try.prog 26 #[ndPtr gn base] W (NodeTold v W) :=
 nodeOf_ok (SizeOf.sizeOf v + 1) v (Nat.lt_succ_self _) W g gn ns base nx xs h hk hb hv hseg
end Go.Proofs.Ytnlkbbpmpgdmiaa
