/- Expressions as they lie in memory; impl; The reference's writer: picks and blanks; The reference's writer: figures of sixteen. -/
import Derived.Test.YtnlkbbpmpgdmiaaXAO
import Derived.Test.YtnlkbbpmpgdmiaaXAD
import Derived.Test.YtnlkbbpmpgdmiaaXAC
namespace Go.Proofs.Ytnlkbbpmpgdmiaa
open Go.RowKit
set_option linter.unusedVariables false
set_option linter.unusedSimpArgs false
theorem Row.moveE {P P' : Nat → Prop} {w w' : World} {e : TypeId} {sz n : Nat} {v : Value} {xs : List Value} (h : Row P w e sz v n xs) (hm : ∀ g cs, P g → Blk w g e cs → P' g ∧ Blk w' g e cs) : Row P' w' e sz v n xs := by
 obtain ⟨h1, h2⟩ := h
 refine ⟨h1, ?_⟩
 rcases h2 with h2 | ⟨g, cap, cur, a, b, c, d⟩
 · exact .inl h2
 · exact .inr ⟨g, cap, cur, a, (hm g cur b c).1, (hm g cur b c).2, d⟩
mutual
theorem NodeIs.moveT {P P' : Nat → Prop} {w w' : World} {T : TypeId} (hm : ∀ g t cs, t = T ∨ t = 9 → P g → Blk w g t cs → P' g ∧ Blk w' g t cs) : ∀ (v : N) {cs : List Value}, NodeIs P w T v cs → NodeIs P' w' T v cs
 | .mk kd t items ks, cs, h => by
   unfold NodeIs at h ⊢
   obtain ⟨iv, kv, cs', h1, h2, h3, h4⟩ := h
   exact ⟨iv, kv, cs', h1, Row.moveE h2 (fun g cs => hm g 9 cs (.inr rfl)), h3.moveE (fun g cs => hm g T cs (.inl rfl)), ItemsIs.moveT hm items h4⟩
theorem ItemsIs.moveT {P P' : Nat → Prop} {w w' : World} {T : TypeId} (hm : ∀ g t cs, t = T ∨ t = 9 → P g → Blk w g t cs → P' g ∧ Blk w' g t cs) : ∀ (l : List N) {cs : List Value}, ItemsIs P w T l cs → ItemsIs P' w' T l cs
 | [], cs, h => by unfold ItemsIs at h ⊢; exact h
 | v :: vs, cs, h => by
   unfold ItemsIs at h ⊢
   obtain ⟨a, b, h1, h2, h3⟩ := h
   exact ⟨a, b, h1, NodeIs.moveT hm v h2, ItemsIs.moveT hm vs h3⟩
end
def ExIs (P : Nat → Prop) (w : World) (T : TypeId) (x : Ex) (cs : List Value) : Prop := ∃ kv c4, cs = .int .i64 x.kind :: kv :: c4 ∧ StrRow P w kv x.keys ∧ c4.length = 4 ∧ (x.kind = 0 → NodeIs P w T x.value c4)
def ExsIs (P : Nat → Prop) (w : World) (T : TypeId) : List Ex → List Value → Prop
 | [], cs => cs = []
 | x :: xs, cs => ∃ a b, cs = a ++ b ∧ ExIs P w T x a ∧ ExsIs P w T xs b
theorem ExIs.moveT {P P' : Nat → Prop} {w w' : World} {T : TypeId} (hm : ∀ g t cs, t = T ∨ t = 9 → P g → Blk w g t cs → P' g ∧ Blk w' g t cs) {x : Ex} {cs : List Value} (h : ExIs P w T x cs) : ExIs P' w' T x cs := by
 obtain ⟨kv, c4, h1, h2, h3, h4⟩ := h
 exact ⟨kv, c4, h1, Row.moveE h2 (fun g cs => hm g 9 cs (.inr rfl)), h3, fun h0 => (h4 h0).moveT hm⟩
theorem ExsIs.moveT {P P' : Nat → Prop} {w w' : World} {T : TypeId} (hm : ∀ g t cs, t = T ∨ t = 9 → P g → Blk w g t cs → P' g ∧ Blk w' g t cs) : ∀ {l : List Ex} {cs : List Value}, ExsIs P w T l cs → ExsIs P' w' T l cs
 | [], _, h => h
 | x :: xs, _, ⟨a, b, h1, h2, h3⟩ => ⟨a, b, h1, h2.moveT hm, ExsIs.moveT hm h3⟩
theorem ExsIs.snoc {P : Nat → Prop} {w : World} {T : TypeId} {x : Ex} {xc : List Value} (hx : ExIs P w T x xc) : ∀ {l : List Ex} {cs : List Value}, ExsIs P w T l cs → ExsIs P w T (l ++ [x]) (cs ++ xc)
 | [], cs, h => by
   have h' : cs = [] := h
   subst h'
   exact ⟨xc, [], by simp, hx, rfl⟩
 | y :: ys, cs, ⟨a, b, h1, h2, h3⟩ => ⟨a, b ++ xc, by rw [h1]; simp, h2, ExsIs.snoc hx h3⟩
theorem exs_snoc {S : Nat} {wr w1 w2 : World} {T E : TypeId} {iv iv' : Value} {dn : List Ex} {cs' : List Value} {x : Ex} {xc : List Value} (hown : wr.ownsRow S E 6 iv dn.length cs') (hit : ExsIs (fun g => S ≤ g ∧ some g ≠ iv.ownBlock) wr T dn cs') (hx : ExIs (fun g => wr.heap.size ≤ g) w1 T x xc)
   (hS : S ≤ wr.heap.size) (hsz : wr.heap.size ≤ w1.heap.size) (hb : ∀ g t cs, t = T ∨ t = 9 → Blk wr g t cs → Blk w1 g t cs) (hg : w1.grownBy w2 iv.ownBlock) (hat : iv'.ownBlock = iv.ownBlock ∨ iv'.ownBlock = some w1.heap.size) :
   ExsIs (fun g => S ≤ g ∧ some g ≠ iv'.ownBlock) w2 T (dn ++ [x]) (cs' ++ xc) := by
 refine ExsIs.snoc (hx.moveT ?_) (hit.moveT ?_)
 · intro g t cs _ hg1 hblk
   have hne : some g ≠ iv.ownBlock := by
     intro h
     have := own_lt hown h.symm
     omega
   have hl := hblk.lt
   refine ⟨⟨by omega, ?_⟩, (hg.block g hblk.lt hne).trans hblk⟩
   rcases hat with h | h
   · rw [h]; exact hne
   · rw [h]; intro e; injection e with e; omega
 · intro g t cs ht hg1 hblk
   have hl := hblk.lt
   have hblk1 := hb g t cs ht hblk
   refine ⟨⟨hg1.1, ?_⟩, (hg.block g hblk1.lt hg1.2).trans hblk1⟩
   rcases hat with h | h
   · rw [h]; exact hg1.2
   · rw [h]; intro e; injection e with e; omega
theorem PS.keep77 {B g b cap : Nat} {kc : Bool} {D : List UInt8} {left err : Value} {nest : Nat} {ns : List Nd} {w w' : World} (h : PS B w g b cap kc D left ns err nest) (hk : ∀ g t cs, t ≠ 77 → Blk w g t cs → Blk w' g t cs) (hs : w.heap.size ≤ w'.heap.size) : PS B w' g b cap kc D left ns err nest := by
 obtain ⟨A, V, hg, hBg, harn, hBw⟩ := h
 refine ⟨A, V, hk _ _ _ (by decide) hg, hBg, ?_, Nat.le_trans hBw hs⟩
 rcases harn with h | ⟨gn, ncap, cur, junk, h1, hgn, h2⟩
 · exact .inl h
 · exact .inr ⟨gn, ncap, cur, junk, h1, hk _ _ _ (by decide) hgn, h2⟩
theorem ExNds.kinds {w : World} {x : Ex} {xs : List Nd} (h : ExNds w x xs) : ∀ y ∈ xs, y.kind ≠ 0 := by
 intro y hy
 rcases h with ⟨_, _, r, kn, vn, rfl, h3, _, _, h6, h7⟩ | ⟨_, r, kn, rfl, h3, _, _, h6⟩ | ⟨_, r, kn, rfl, h3, _, _, h6⟩
 · rcases List.mem_cons.1 hy with rfl | hy
   · rw [h3]; omega
   · rcases List.mem_append.1 hy with hy | hy
     · exact KeyNds.kinds h6.2 y hy
     · exact VNds.kinds _ h7 y hy
 · rcases List.mem_cons.1 hy with rfl | hy
   · rw [h3]; omega
   · exact KeyNds.kinds h6.2 y hy
 · rcases List.mem_cons.1 hy with rfl | hy
   · rw [h3]; omega
   · exact KeyNds.kinds h6.2 y hy
theorem Seg.all (xs : List Nd) : Seg xs 0 xs := ⟨[], [], by simp, rfl⟩
theorem info77 : (Try.prog.info? 77).map (fun i => (i.zero, i.size, i.bytes)) = some (some (.agg #[.int .i64 0, .slice none 0 0, .int .i64 0, .string ByteArray.empty, .slice none 0 0, .slice none 0 0]), 6, 104) := by kernel_rfl
def ReadTold (es : List Ex) (W : World) (e : Ending) (w' : World) : Prop :=
 ∃ v cs, e = .returned (.tuple #[v, .bool true]) ∧ Row (fun g => W.heap.size ≤ g) w' 77 6 v es.length cs ∧ ExsIs (fun g => W.heap.size ≤ g) w' 74 es cs ∧ Below W.heap.size W w'
def RRel (es : List Ex) (D : List UInt8) (W : World) (b cap : Nat) (gg : Nat) (s5 : Value) (wx : World) : Prop :=
 ∃ (dn more : List Ex) (z s : List UInt8) (a : Addr) (k : Nat) (ns : List Nd) (cs : List Value), es = dn ++ more ∧ gg = more.length ∧ LastTxt z ∧ DocTxt z more s ∧ Pos b cap D s a k ∧ PS W.heap.size wx W.heap.size b cap false D (.slice (some a) s.length k) ns .nilIface 0 ∧ Inp wx b cap D ∧
   wx.ownsRow W.heap.size 77 6 s5 dn.length cs ∧ ExsIs (fun g => W.heap.size ≤ g ∧ some g ≠ s5.ownBlock) wx 74 dn cs ∧ Below W.heap.size W wx
theorem rr_snoc {es dn ms : List Ex} {m : Ex} {D z s' : List UInt8} {W wr w3 w6 w7 : World} {b cap g7 c7 k' : Nat} {a' : Addr} {ns : List Nd} {iv : Value} {cs' xc : List Value} (he : es = dn ++ m :: ms) (hz : LastTxt z) (hd : DocTxt z ms s') (hp : Pos b cap D s' a' k')
   (hps : PS W.heap.size w3 W.heap.size b cap false D (.slice (some a') s'.length k') ns .nilIface 0) (hi : Inp w3 b cap D) (hown : wr.ownsRow W.heap.size 77 6 iv dn.length cs') (hits : ExsIs (fun g => W.heap.size ≤ g ∧ some g ≠ iv.ownBlock) wr 74 dn cs')
   (hbw : Below W.heap.size W wr) (hf : Fr W.heap.size wr w3) (hb6 : Below w3.heap.size w3 w6) (hx : ExIs (fun g => wr.heap.size ≤ g) w6 74 m xc)
   (hown7 : w7.ownsRow W.heap.size 77 6 (.slice (some ⟨g7, 0, none⟩) (dn.length + 1) c7) (dn.length + 1) (cs' ++ xc)) (hgrow : w6.grownBy w7 iv.ownBlock) (hlies : iv.ownBlock = some g7 ∨ g7 = w6.heap.size) :
   RRel es D W b cap ms.length (.slice (some ⟨g7, 0, none⟩) (dn.length + 1) c7) w7 := by
 have hs3 : wr.heap.size ≤ w3.heap.size := hf.1.size
 have hs6 : w3.heap.size ≤ w6.heap.size := hb6.size
 have hsW : W.heap.size ≤ wr.heap.size := hbw.size
 have hs7 : w6.heap.size ≤ w7.heap.size := hgrow.size
 have hk7 : ∀ k t cs, t ≠ 77 → Blk w6 k t cs → Blk w7 k t cs := by
   intro k t cs ht hb
   refine (hgrow.block k hb.lt ?_).trans hb
   intro h
   rcases hown.2 with ⟨rfl, _⟩ | ⟨g', cap', cur, rfl, _, hc, _⟩
   · cases h
   · injection h with h
     subst h
     have h3 : Blk w3 k 77 cur := hf.2.2 _ _ _ (by decide) (by decide) hc
     exact hb.ne_ (h3.below hb6 h3.lt) ht rfl
 refine ⟨dn ++ [m], ms, z, s', a', k', ns, cs' ++ xc, by rw [he]; simp, rfl, hz, hd, hp, (hps.kp hb6).keep77 hk7 hs7, ?_, by rw [List.length_append]; exact hown7, ?_, ?_⟩
 · have h6 : Inp w6 b cap D := hi.below hb6
   exact h6.k5 ⟨hs7, fun g cs hb => hk7 g 5 cs (by decide) hb⟩
 · refine exs_snoc (iv' := .slice (some ⟨g7, 0, none⟩) (dn.length + 1) c7) hown hits hx hsW (by omega) ?_ hgrow ?_
   · intro g t cs ht hb
     have h3 : Blk w3 g t cs := hf.2.2 g t cs (by rcases ht with rfl | rfl <;> decide) (by rcases ht with rfl | rfl <;> decide) hb
     exact h3.below hb6 h3.lt
   · rcases hlies with h | h
     · exact .inl h.symm
     · exact .inr (by rw [← h]; rfl)
 · refine ((hbw.trans hf.1).trans (hb6.mono (by omega))).grown hgrow (by omega) ?_
   intro k hk
   exact (own_lt hown hk).1
end Go.Proofs.Ytnlkbbpmpgdmiaa
namespace Go.Proofs.Ytnlkbbpmpgdmiaa
open Go.RowKit
set_option linter.unusedVariables false
set_option linter.unusedSimpArgs false
theorem clone_end4 {w w' : World} {v' : Value} {D : List UInt8} {row : Option Nat} (hb : D.length ≤ 4000000) (hown : w'.ownsRow w.heap.size 5 1 v' (0 + D.length) ([] ++ D.map fun b => Value.int .u8 b.toNat)) (hgrow : (w.alloc (.cells #[] 5)).grownBy w' (some w.heap.size)) (hnil : v' ≠ .slice none 0 0) : CloneIs D w (.returned v') w' := by
 obtain ⟨_, h2⟩ := hown
 rcases h2 with ⟨h, _⟩ | ⟨g, cap, cur, rfl, hg, hc, hn, hm, hs, ht⟩
 · exact absurd h hnil
 · rw [Nat.zero_add] at hn ht
   simp only [maxLen] at hm
   refine ⟨g, cap, ⟨g, 0, none⟩, by rw [Nat.zero_add], ⟨.inr ⟨cur, hc, ?_⟩, hn, by omega, by omega⟩, ⟨List.suffix_refl _, by omega, fun _ => by rw [Nat.sub_self]⟩, ?_⟩
   · intro k hk
     have h1 : (cur.toList.take (D.length * 1))[k]? = (D.map fun b => Value.int .u8 b.toNat)[k]? := by rw [ht]; rfl
     rw [List.getElem?_take_of_lt (by omega)] at h1
     rw [← Array.getElem?_toList, h1]
     simp [List.getD, hk]
   · exact ((Below.refl _ w).alloc (Nat.le_refl _) _).grown hgrow (by simp) (fun k hk => by injection hk with hk; omega)
set_option maxRecDepth 100000 in
theorem clone_rd4 {w : World} {v : Value} {D : List UInt8} (hd : RdIs w v D) (hb : D.length ≤ 4000000) : Calls Try.prog 17 #[v] w (CloneIs D w) := by
 obtain ⟨blk, off, c, a, rfl, h2, h3⟩ := hd
 have H3 := Lib.hid h3
 have HO : Hid ((w.alloc (.cells #[] 5)).ownsRow w.heap.size 5 1 (.slice (some ⟨w.heap.size, 0, none⟩) 0 0) 0 []) := ⟨rfl, .inr ⟨w.heap.size, 0, #[], rfl, Nat.le_refl _, Blk.new w 5 #[], Nat.le_refl _, by simp [maxLen], rfl, rfl⟩⟩
 have HN : Hid (∀ j u, (D.map fun b => Value.int .u8 b.toNat)[j]? = some u → (w.alloc (.cells #[] 5)).cell? (a.add j) = some u) := by
   intro j u hj
   have hjl : j < D.length := by
     have := (List.getElem?_eq_some_iff.1 hj).1
     simpa using this
   obtain ⟨rfl, hC⟩ := H3.out (by omega)
   rw [Addr.add_lit, show (w.alloc (.cells #[] 5)).cell? ⟨blk, off + j, none⟩ = _ from (World.cell?_alloc_lt w _ ⟨blk, off + j, none⟩ (World.block_lt_of_cell? w ⟨blk, off + j, none⟩ (hC j hjl))).trans (hC j hjl)]
   simp [hjl] at hj
   rw [← hj]
   simp [List.getD, hjl]
 clear h3
 have hq := eql_nil a D.length c w
 obtain ⟨i0, hi0, hz0, hz1, hz2⟩ := info_parts info5
 have HI0 := Lib.hid hi0
 clear hi0
 go_enter Try.func17, Try.ntmps17
 go_wp2_with (first
   | (at_builtin; refine wpList_append_own _ rfl (.tmp 5) (.tmp 6) 25 rfl w.heap.size 5 i0 _ 1 1 Try.underlying25 HI0.out hz0 hz1 hz2 rfl (by decide) _ 0 [] rfl HO.out a D.length c (D.map fun b => Value.int .u8 b.toNat) rfl ?c0 HN.out ?c2 ?mx ?by_ ?bs ?_
      case c0 => simp
      case c2 => intro u hu; simp at hu; obtain ⟨_, _, rfl⟩ := hu; rfl
      case mx => simp only [maxLen]; omega
      case by_ => omega
      case bs => simp
      intro v' w' hown hgrow hnil
      have HOWN := Lib.hid hown
      have HGROW := Lib.hid hgrow
      have HNIL := Lib.hid hnil
      clear hown hgrow hnil))
 go_ret
 exact clone_end4 (row := none) hb HOWN.out HGROW.out (fun h => by have := (HNIL.out.1 h).1; cases this)
theorem one6 (k k' : Int) (t : ByteArray) (a b d : Option Addr) (n c n' c' n2 c2 : Nat) : ∀ u ∈ ([.int .i64 k, .slice d n2 c2, .int .i64 k', .string t, .slice a n c, .slice b n' c'] : List Value), u.oneCell' = true := by
 intro u hu
 simp only [List.mem_cons, List.not_mem_nil, or_false] at hu
 rcases hu with rfl | rfl | rfl | rfl | rfl | rfl <;> rfl
set_option maxRecDepth 100000 in
set_option maxHeartbeats 2000000 in
theorem read_any {W : World} {v : Value} {D z : List UInt8} {es : List Ex} (hd : RdIs W v D) (hz : LastTxt z) (hdt : DocTxt z es D) (hl : es.length ≤ 1000) (hb : D.length ≤ 4000000) : Calls Try.prog 13 #[v] W (ReadTold es W) := by
 obtain ⟨i0, hi0, hz0, hz1, hz2⟩ := info_parts info77
 have HI0 := Lib.hid hi0
 have HD := Lib.hid hd
 have HZ := Lib.hid hz
 have HDT := Lib.hid hdt
 clear hd hz hdt hi0
 obtain ⟨blk, off, c, a, hv, -⟩ := HD.out
 go_enter Try.func13, Try.ntmps13
 go_wp2_with fail
 have hd2 : RdIs (W.alloc (.cells #[.bool false, .slice none 0 0, .slice none 0 0, .slice none 0 0, .nilIface, .int .i64 0] 52)) (.slice (some a) D.length c) D := by rw [← hv]; exact HD.out.alloc _
 have HD2 := Lib.hid hd2
 clear hd2 hv
 have hsz : (W.alloc (.cells #[.bool false, .slice none 0 0, .slice none 0 0, .slice none 0 0, .nilIface, .int .i64 0] 52)).heap.size = W.heap.size + 1 := by simp
 have HSZ := Lib.hid hsz
 clear hsz
 refine (clone_rd4 HD2.out hb).mono ?_
 rintro e w1 ⟨b, cap, A, rfl, hin, hps, hb1⟩
 have HIN := Lib.hid hin
 have HPS := Lib.hid hps
 have hg1 : Blk w1 W.heap.size 52 #[.bool false, .slice none 0 0, .slice none 0 0, .slice none 0 0, .nilIface, .int .i64 0] := (Blk.new W 52 _).below hb1 (by rw [HSZ.out]; omega)
 have HG1 := Lib.hid hg1
 have HB1 : Hid (Below W.heap.size W w1) := ((Below.refl _ W).alloc (Nat.le_refl _) _).trans (hb1.mono (by rw [HSZ.out]; omega))
 clear hin hps hg1 hb1
 go_wp2_with fail
 refine (reset_new HG1.out (some A) D.length cap).mono ?_
 rintro e w2 ⟨rfl, hg2, hbl, hkp⟩
 have HR : Hid (RRel es D W b cap es.length (.slice none 0 0) w2) := ⟨[], es, z, D, A, cap, [], [], rfl, rfl, HZ.out, HDT.out, HPS.out, ⟨A, _, hg2, Nat.le_refl _, .inl ⟨rfl, rfl⟩, by have := hg2.lt; omega⟩, HIN.out.kp hkp, ⟨rfl, .inl ⟨rfl, rfl⟩⟩, rfl, HB1.out.trans (hbl _ (Nat.le_refl _))⟩
 clear hg2 hbl hkp
 go_wp2_with fail
 go_loopg [5] es.length (fun gg s5 wx => RRel es D W b cap gg s5 wx)
 case atStart => exact HR.out
 case round =>
   obtain ⟨dn, more, z', s, a', k, ns, cs', hes, rfl, hz', hdt', hpos, hps, hin, hown, hits, hbw⟩ := hrel
   have hdl : dn.length ≤ 1000 := by have := congrArg List.length hes; simp at this; omega
   have hive : ∃ a n c, u5 = .slice a n c := by
     rcases hown.2 with ⟨rfl, _⟩ | ⟨g', cap, cur, rfl, _⟩
     · exact ⟨_, _, _, rfl⟩
     · exact ⟨_, _, _, rfl⟩
   obtain ⟨ia, inn, ic, rfl⟩ := hive
   have HN := Lib.hid (nextEx_any hz' hdt' hps hin hpos)
   have HES := Lib.hid hes
   have HOWN := Lib.hid hown
   have HITS := Lib.hid hits
   have HBW := Lib.hid hbw
   have HIN2 := Lib.hid hin
   clear hes hz' hdt' hpos hps hin hown hits hbw HR HG1 HB1 HPS HIN HD2 HSZ HD HDT
   go_wp2_with fail
   refine HN.out.mono ?_
   rintro e w3 h
   rcases h with ⟨hm, rfl, ⟨left, hps3⟩, hf3⟩ | ⟨x, ms, z2, s2, a2, k2, xs, hm, rfl, hz2, hdt2, hp2, hps2, hx2, hne2, hf2⟩
   · subst hm
     have HPS3 := Lib.hid hps3
     have HF3 := Lib.hid hf3
     clear hps3 hf3
     go_wp2_with fail
     refine (error_any HPS3.out).mono ?_
     rintro e w4 ⟨rfl, rfl⟩
     go_wp2_with fail
     go_ret2
     obtain rfl : es = dn := by have := HES.out; simpa using this
     have hown3 := own_keep HOWN.out (fun g cs hb => HF3.out.2.2 g 77 cs (by decide) (by decide) hb)
     refine ⟨_, cs', rfl, Row.of_own hown3 (fun g h _ => h), HITS.out.moveT ?_, HBW.out.trans HF3.out.1⟩
     intro g t cs ht h1 h2
     exact ⟨h1.1, HF3.out.2.2 g t cs (by rcases ht with rfl | rfl <;> decide) (by rcases ht with rfl | rfl <;> decide) h2⟩
   · subst hm
     have hcnt := hps2.count
     obtain ⟨gn, hpn⟩ := hps2.pn hne2
     have hkinds := hx2.kinds
     have hnp : 0 < xs.length := List.length_pos_iff.2 hne2
     have HPN := Lib.hid hpn
     have HPS2 := Lib.hid hps2
     have HP2 := Lib.hid hp2
     have HZ2 := Lib.hid hz2
     have HDT2 := Lib.hid hdt2
     have HF2 := Lib.hid hf2
     have HKI := Lib.hid hkinds
     have hin3 := HIN2.out.kp hf2.2
     have HIN3 := Lib.hid hin3
     clear hpn hps2 hp2 hz2 hdt2 hf2 hkinds hin3
     rcases hx2 with ⟨hx0, hvk, x5, kn, vn, hxs, h5k, h5n, h5c, hkn, hvn⟩ | ⟨hx0, x5, kn, hxs, h5k, h5n, h5c, hkn⟩ | ⟨hx0, x5, kn, hxs, h5k, h5n, h5c, hkn⟩
     · have hseg : Seg xs 0 (x5 :: (kn ++ vn)) := by rw [← hxs]; exact Seg.all xs
       have hsegK : Seg xs 1 kn := hseg.tail.left
       have hsegV : Seg xs (1 + kn.length) vn := hseg.tail.right
       obtain ⟨y, ra, hvr, hyn, hyk0, _, _⟩ := hvn.root
       have hr : xs[0]? = some x5 := hseg.head
       have hy : xs[1 + kn.length]? = some y := by rw [hvr] at hsegV; exact hsegV.head
       have hcl2 : 1 + kn.length < xs.length := by have h1 := hsegV.lt; rw [hvr] at h1; simp only [List.length_cons] at h1; omega
       have hkml : x.keys.length ≤ 1000000 := by have := hkn.2.length; rw [N.withKeys_keys] at this; have := hsegK.lt; omega
       have hynl : y.next ≤ xs.length := by rw [hyn]; have h1 := hkn.2.length; have h2 := List.length_pos_iff.2 hkn.1; have := hsegK.lt; omega
       have hnk : nxt x.keys 1 = y.next := by rw [hyn]; unfold nxt; rw [if_neg (show ¬ x.keys = [] from hkn.1)]
       have ck : w3.cell? ⟨gn, 0, none⟩ = some (.int .i64 5) := by have := HPN.out.kind hr; rw [h5k] at this; exact this
       have hvn0 : VNds w3 x.value (0 + 1 + kn.length) (0 + 2) vn := VNds.withKeys.1 hvn
       have HC : Hid (∀ w, PN w W.heap.size gn xs → K5 w3 w → Calls Try.prog 26 #[ndPtr gn (1 + kn.length)] w (NodeTold x.value w)) := fun w h1 h2 => nodeOf_any (nx := 0 + 2) h1 HKI.out hcnt (by have h := VNds.k5 h2 _ hvn0; rw [Nat.zero_add] at h; exact h) hsegV
       have HV : Hid (∀ w, PN w W.heap.size gn xs → Calls Try.prog 27 #[ndPtr gn 0] w (PtrIs (ndPtr gn (1 + kn.length)) w)) := fun w h1 => value_any h1 hr _ (by rw [h5c]; omega) hcl2 hcnt
       have HKO : Hid (∀ w, PN w W.heap.size gn xs → K5 w3 w → Calls Try.prog 25 #[ndPtr gn 0] w (KeysTold x.keys w)) := fun w h1 h2 => by
         refine keysOf_any h1 HKI.out hcnt (p := 1) (kn := kn) (hkn.2.k5 h2) hsegK hkml ?_
         rw [hnk]
         exact key_kv h1 HKI.out hr h5k (c := 1 + kn.length) (by rw [h5c]; omega) hy hynl hcnt
       have HX0 := Lib.hid hx0
       have HVK := Lib.hid hvk
       clear hseg hsegK hsegV hvr hr hy hkml hynl hnk hvn hvn0 hkn hx0 h5k h5n h5c hxs hvk
       generalize 1 + kn.length = pv at *
       go_wp2_with fail
       refine (expr_any HPN.out hnp).mono ?_
       rintro e w4 ⟨rfl, rfl⟩
       go_wp2_with fail
       refine (HKO.out _ HPN.out (K5.refl _)).mono ?_
       rintro e w4 ⟨kv, rfl, hkrow, hb4⟩
       obtain ⟨ak, ck2, rfl, -, -⟩ := hkrow.slice
       have HPN4 := Lib.hid (HPN.out.below hb4)
       have HK54 := Lib.hid (Kp.of_below hb4).k5
       have HKR := Lib.hid hkrow
       have HB4 := Lib.hid hb4
       clear hkrow hb4
       go_wp2_with fail
       refine (HV.out _ HPN4.out).mono ?_
       rintro e w5 ⟨rfl, nv, hw5⟩
       have HPN5 : Hid (PN w5 W.heap.size gn xs) := by rw [hw5]; exact HPN4.out
       have HK55 : Hid (K5 w3 w5) := by rw [hw5]; exact HK54.out
       have HB5 : Hid (Below w3.heap.size w3 w5) := by rw [hw5]; exact HB4.out.trans (Fr.drewN w4 nv).1
       have HKR5 : Hid (StrRow (fun g => w3.heap.size ≤ g) w5 (.slice ak x.keys.length ck2) x.keys) := by rw [hw5]; exact HKR.out
       clear hw5 HPN4 HK54 HKR HB4
       go_wp2_with fail
       refine (HC.out _ HPN5.out HK55.out).mono ?_
       rintro e w6 ⟨iv6, cs6, rfl, hrow6, hits6, hb6⟩
       obtain ⟨a6, c6, rfl, -, -⟩ := hrow6.slice
       have HB6 : Hid (Below w3.heap.size w3 w6) := HB5.out.trans (hb6.mono HB5.out.size)
       have hs3 : wr.heap.size ≤ w3.heap.size := HF2.out.1.size
       have hs35 : w3.heap.size ≤ w5.heap.size := HB5.out.size
       have HX6 : Hid (ExIs (fun g => wr.heap.size ≤ g) w6 74 x [.int .i64 0, .slice ak x.keys.length ck2, .int .i64 x.value.kind, .string ⟨x.value.text.toArray⟩, .slice a6 x.value.items.length c6, .slice none 0 0]) := by
         refine ⟨_, _, by rw [HX0.out]; rfl, Row.move HKR5.out ?_, rfl, fun _ => NodeIs.mk' (by rw [HVK.out]; exact StrRow.nil _ _) (hrow6.move ?_) (ItemsIs.move ?_ _ hits6)⟩
         · intro k t cs h1 h2
           exact ⟨by omega, h2.below hb6 h2.lt⟩
         · intro k t cs h1 h2
           exact ⟨by omega, h2⟩
         · intro k t cs h1 h2
           exact ⟨by omega, h2⟩
       clear hrow6 hits6 hb6 HB5 HKR5 HPN5 HK55
       have hs6 : W.heap.size ≤ w6.heap.size := by have := HB6.out.size; have := HBW.out.size; omega
       have HOWN6 : Hid ((w6.alloc (.cells #[.int .i64 0, .slice ak x.keys.length ck2, .int .i64 x.value.kind, .string ⟨x.value.text.toArray⟩, .slice a6 x.value.items.length c6, .slice none 0 0] 77)).ownsRow W.heap.size 77 6 (.slice ia inn ic) dn.length cs') := own_keep HOWN.out (fun g cs hb => by
         have h3 : Blk w3 g 77 cs := HF2.out.2.2 g 77 cs (by decide) (by decide) hb
         exact (h3.below HB6.out h3.lt).alloc _)
       have HB7 : Hid (Below w3.heap.size w3 (w6.alloc (.cells #[.int .i64 0, .slice ak x.keys.length ck2, .int .i64 x.value.kind, .string ⟨x.value.text.toArray⟩, .slice a6 x.value.items.length c6, .slice none 0 0] 77))) := HB6.out.alloc HB6.out.size _
       have HX7 : Hid (ExIs (fun g => wr.heap.size ≤ g) (w6.alloc (.cells #[.int .i64 0, .slice ak x.keys.length ck2, .int .i64 x.value.kind, .string ⟨x.value.text.toArray⟩, .slice a6 x.value.items.length c6, .slice none 0 0] 77)) 74 x [.int .i64 0, .slice ak x.keys.length ck2, .int .i64 x.value.kind, .string ⟨x.value.text.toArray⟩, .slice a6 x.value.items.length c6, .slice none 0 0]) := HX6.out.moveT (fun g t cs _ h1 h2 => ⟨h1, h2.alloc _⟩)
       clear HX6
       go_wp2_with (first
         | (at_builtin; refine wpList_append_lies _ rfl (.tmp 18) (.tmp 25) 34 rfl W.heap.size 77 i0 _ 6 104 Try.underlying34 HI0.out hz0 hz1 hz2 rfl (by decide) (.slice ia inn ic) dn.length cs' (by rfl) HOWN6.out ⟨w6.heap.size, 0, none⟩ 1 1 [.int .i64 0, .slice ak x.keys.length ck2, .int .i64 x.value.kind, .string ⟨x.value.text.toArray⟩, .slice a6 x.value.items.length c6, .slice none 0 0] (by rfl) rfl (Blk.add (l := [.int .i64 0, .slice ak x.keys.length ck2, .int .i64 x.value.kind, .string ⟨x.value.text.toArray⟩, .slice a6 x.value.items.length c6, .slice none 0 0]) (Blk.new w6 77 _)) (one6 _ _ _ _ _ _ _ _ _ _ _ _) (by decide) (by simp only [maxLen]; omega) (by omega) (alloc_le hs6) (w6.heap.size + 1) (size_alloc' _ _) ?_
            intro g7 c7 w7 hown7 hgrow7 hlies7 hlt7
            have HOWN7 := Lib.hid hown7
            have HGROW7 := Lib.hid hgrow7
            have HLIES7 := Lib.hid hlies7
            clear hown7 hgrow7 hlies7))
       go_roundg ms.length
       case measure => simp
       case rel =>
         exact rr_snoc HES.out HZ2.out HDT2.out HP2.out HPS2.out HIN3.out HOWN.out HITS.out HBW.out HF2.out HB7.out HX7.out HOWN7.out HGROW7.out (HLIES7.out.imp_right fun h => by rw [size_alloc']; exact h)
     · have hseg : Seg xs 0 (x5 :: kn) := by rw [← hxs]; exact Seg.all xs
       have hsegK : Seg xs 1 kn := hseg.tail
       have hr : xs[0]? = some x5 := hseg.head
       have hkml : x.keys.length ≤ 1000000 := by have := hkn.2.length; have := hsegK.lt; omega
       have hcl2 : x5.child ≤ xs.length := by rw [h5c]; have h1 := hkn.2.length; have h2 := List.length_pos_iff.2 hkn.1; have := hsegK.lt; omega
       have hnk : nxt x.keys 1 = x5.child := by rw [h5c]; unfold nxt; rw [if_neg hkn.1]
       have ck := HPN.out.kind hr
       rw [h5k] at ck
       have ck' : w3.cell? ⟨gn, 0, none⟩ = some (.int .i64 (1 + 2)) := ck
       have HKO : Hid (∀ w, PN w W.heap.size gn xs → K5 w3 w → Calls Try.prog 25 #[ndPtr gn 0] w (KeysTold x.keys w)) := fun w h1 h2 => by
         refine keysOf_any h1 HKI.out hcnt (p := 1) (kn := kn) (hkn.2.k5 h2) hsegK hkml ?_
         rw [hnk]
         exact key_head h1 hr (by rw [h5k]; decide) hcl2 hcnt
       have HX0 := Lib.hid hx0
       clear hseg hsegK hr hkml hnk hkn hx0 h5k h5n h5c hxs hcl2 ck
       go_wp2_with fail
       refine (expr_any HPN.out hnp).mono ?_
       rintro e w4 ⟨rfl, rfl⟩
       go_wp2_with fail
       refine (HKO.out _ HPN.out (K5.refl _)).mono ?_
       rintro e w6 ⟨kv, rfl, hkrow, hb4⟩
       obtain ⟨ak, ck2, rfl, -, -⟩ := hkrow.slice
       have HB6 : Hid (Below w3.heap.size w3 w6) := hb4
       have hs3 : wr.heap.size ≤ w3.heap.size := HF2.out.1.size
       have HX6 : Hid (ExIs (fun g => wr.heap.size ≤ g) w6 74 x [.int .i64 1, .slice ak x.keys.length ck2, .int .i64 0, .string ⟨#[]⟩, .slice none 0 0, .slice none 0 0]) := by
         refine ⟨_, _, by rw [HX0.out]; rfl, Row.move hkrow ?_, rfl, fun h => by rw [HX0.out] at h; cases h⟩
         intro k t cs h1 h2
         exact ⟨by omega, h2⟩
       clear hkrow hb4
       have hs6 : W.heap.size ≤ w6.heap.size := by have := HB6.out.size; have := HBW.out.size; omega
       have HOWN6 : Hid ((w6.alloc (.cells #[.int .i64 1, .slice ak x.keys.length ck2, .int .i64 0, .string ⟨#[]⟩, .slice none 0 0, .slice none 0 0] 77)).ownsRow W.heap.size 77 6 (.slice ia inn ic) dn.length cs') := own_keep HOWN.out (fun g cs hb => by
         have h3 : Blk w3 g 77 cs := HF2.out.2.2 g 77 cs (by decide) (by decide) hb
         exact (h3.below HB6.out h3.lt).alloc _)
       have HB7 : Hid (Below w3.heap.size w3 (w6.alloc (.cells #[.int .i64 1, .slice ak x.keys.length ck2, .int .i64 0, .string ⟨#[]⟩, .slice none 0 0, .slice none 0 0] 77))) := HB6.out.alloc HB6.out.size _
       have HX7 : Hid (ExIs (fun g => wr.heap.size ≤ g) (w6.alloc (.cells #[.int .i64 1, .slice ak x.keys.length ck2, .int .i64 0, .string ⟨#[]⟩, .slice none 0 0, .slice none 0 0] 77)) 74 x [.int .i64 1, .slice ak x.keys.length ck2, .int .i64 0, .string ⟨#[]⟩, .slice none 0 0, .slice none 0 0]) := HX6.out.moveT (fun g t cs _ h1 h2 => ⟨h1, h2.alloc _⟩)
       clear HX6
       go_wp2_with (first
         | (at_builtin; refine wpList_append_lies _ rfl (.tmp 29) (.tmp 33) 34 rfl W.heap.size 77 i0 _ 6 104 Try.underlying34 HI0.out hz0 hz1 hz2 rfl (by decide) (.slice ia inn ic) dn.length cs' (by rfl) HOWN6.out ⟨w6.heap.size, 0, none⟩ 1 1 [.int .i64 1, .slice ak x.keys.length ck2, .int .i64 0, .string ⟨#[]⟩, .slice none 0 0, .slice none 0 0] (by rfl) rfl (Blk.add (l := [.int .i64 1, .slice ak x.keys.length ck2, .int .i64 0, .string ⟨#[]⟩, .slice none 0 0, .slice none 0 0]) (Blk.new w6 77 _)) (one6 _ _ _ _ _ _ _ _ _ _ _ _) (by decide) (by simp only [maxLen]; omega) (by omega) (alloc_le hs6) (w6.heap.size + 1) (size_alloc' _ _) ?_
            intro g7 c7 w7 hown7 hgrow7 hlies7 hlt7
            have HOWN7 := Lib.hid hown7
            have HGROW7 := Lib.hid hgrow7
            have HLIES7 := Lib.hid hlies7
            clear hown7 hgrow7 hlies7))
       go_roundg ms.length
       case measure => simp
       case rel =>
         exact rr_snoc HES.out HZ2.out HDT2.out HP2.out HPS2.out HIN3.out HOWN.out HITS.out HBW.out HF2.out HB7.out HX7.out HOWN7.out HGROW7.out (HLIES7.out.imp_right fun h => by rw [size_alloc']; exact h)
     · have hseg : Seg xs 0 (x5 :: kn) := by rw [← hxs]; exact Seg.all xs
       have hsegK : Seg xs 1 kn := hseg.tail
       have hr : xs[0]? = some x5 := hseg.head
       have hkml : x.keys.length ≤ 1000000 := by have := hkn.2.length; have := hsegK.lt; omega
       have hcl2 : x5.child ≤ xs.length := by rw [h5c]; have h1 := hkn.2.length; have h2 := List.length_pos_iff.2 hkn.1; have := hsegK.lt; omega
       have hnk : nxt x.keys 1 = x5.child := by rw [h5c]; unfold nxt; rw [if_neg hkn.1]
       have ck := HPN.out.kind hr
       rw [h5k] at ck
       have ck' : w3.cell? ⟨gn, 0, none⟩ = some (.int .i64 (2 + 2)) := ck
       have HKO : Hid (∀ w, PN w W.heap.size gn xs → K5 w3 w → Calls Try.prog 25 #[ndPtr gn 0] w (KeysTold x.keys w)) := fun w h1 h2 => by
         refine keysOf_any h1 HKI.out hcnt (p := 1) (kn := kn) (hkn.2.k5 h2) hsegK hkml ?_
         rw [hnk]
         exact key_head h1 hr (by rw [h5k]; decide) hcl2 hcnt
       have HX0 := Lib.hid hx0
       clear hseg hsegK hr hkml hnk hkn hx0 h5k h5n h5c hxs hcl2 ck
       go_wp2_with fail
       refine (expr_any HPN.out hnp).mono ?_
       rintro e w4 ⟨rfl, rfl⟩
       go_wp2_with fail
       refine (HKO.out _ HPN.out (K5.refl _)).mono ?_
       rintro e w6 ⟨kv, rfl, hkrow, hb4⟩
       obtain ⟨ak, ck2, rfl, -, -⟩ := hkrow.slice
       have HB6 : Hid (Below w3.heap.size w3 w6) := hb4
       have hs3 : wr.heap.size ≤ w3.heap.size := HF2.out.1.size
       have HX6 : Hid (ExIs (fun g => wr.heap.size ≤ g) w6 74 x [.int .i64 2, .slice ak x.keys.length ck2, .int .i64 0, .string ⟨#[]⟩, .slice none 0 0, .slice none 0 0]) := by
         refine ⟨_, _, by rw [HX0.out]; rfl, Row.move hkrow ?_, rfl, fun h => by rw [HX0.out] at h; cases h⟩
         intro k t cs h1 h2
         exact ⟨by omega, h2⟩
       clear hkrow hb4
       have hs6 : W.heap.size ≤ w6.heap.size := by have := HB6.out.size; have := HBW.out.size; omega
       have HOWN6 : Hid ((w6.alloc (.cells #[.int .i64 2, .slice ak x.keys.length ck2, .int .i64 0, .string ⟨#[]⟩, .slice none 0 0, .slice none 0 0] 77)).ownsRow W.heap.size 77 6 (.slice ia inn ic) dn.length cs') := own_keep HOWN.out (fun g cs hb => by
         have h3 : Blk w3 g 77 cs := HF2.out.2.2 g 77 cs (by decide) (by decide) hb
         exact (h3.below HB6.out h3.lt).alloc _)
       have HB7 : Hid (Below w3.heap.size w3 (w6.alloc (.cells #[.int .i64 2, .slice ak x.keys.length ck2, .int .i64 0, .string ⟨#[]⟩, .slice none 0 0, .slice none 0 0] 77))) := HB6.out.alloc HB6.out.size _
       have HX7 : Hid (ExIs (fun g => wr.heap.size ≤ g) (w6.alloc (.cells #[.int .i64 2, .slice ak x.keys.length ck2, .int .i64 0, .string ⟨#[]⟩, .slice none 0 0, .slice none 0 0] 77)) 74 x [.int .i64 2, .slice ak x.keys.length ck2, .int .i64 0, .string ⟨#[]⟩, .slice none 0 0, .slice none 0 0]) := HX6.out.moveT (fun g t cs _ h1 h2 => ⟨h1, h2.alloc _⟩)
       clear HX6
       go_wp2_with (first
         | (at_builtin; refine wpList_append_lies _ rfl (.tmp 37) (.tmp 41) 34 rfl W.heap.size 77 i0 _ 6 104 Try.underlying34 HI0.out hz0 hz1 hz2 rfl (by decide) (.slice ia inn ic) dn.length cs' (by rfl) HOWN6.out ⟨w6.heap.size, 0, none⟩ 1 1 [.int .i64 2, .slice ak x.keys.length ck2, .int .i64 0, .string ⟨#[]⟩, .slice none 0 0, .slice none 0 0] (by rfl) rfl (Blk.add (l := [.int .i64 2, .slice ak x.keys.length ck2, .int .i64 0, .string ⟨#[]⟩, .slice none 0 0, .slice none 0 0]) (Blk.new w6 77 _)) (one6 _ _ _ _ _ _ _ _ _ _ _ _) (by decide) (by simp only [maxLen]; omega) (by omega) (alloc_le hs6) (w6.heap.size + 1) (size_alloc' _ _) ?_
            intro g7 c7 w7 hown7 hgrow7 hlies7 hlt7
            have HOWN7 := Lib.hid hown7
            have HGROW7 := Lib.hid hgrow7
            have HLIES7 := Lib.hid hlies7
            clear hown7 hgrow7 hlies7))
       go_roundg ms.length
       case measure => simp
       case rel =>
         exact rr_snoc HES.out HZ2.out HDT2.out HP2.out HPS2.out HIN3.out HOWN.out HITS.out HBW.out HF2.out HB7.out HX7.out HOWN7.out HGROW7.out (HLIES7.out.imp_right fun h => by rw [size_alloc']; exact h)
end Go.Proofs.Ytnlkbbpmpgdmiaa
namespace Go.Proofs.Ytnlkbbpmpgdmiaa
open Go.RowKit
set_option linter.unusedVariables false
set_option linter.unusedSimpArgs false
def Sty (w : World) (sb : Nat) (C : Value) (cs : List UInt8) (at_ : Nat) : Prop :=
 Blk w sb 80 #[C, .int .i64 at_] ∧ ∃ A c, C = .slice A cs.length c ∧ cs.length ≤ c ∧ c ≤ 9223372036854775807 ∧ (0 < cs.length → ∃ b off, A = some ⟨b, off, none⟩ ∧ b < sb ∧ ∀ k (x : UInt8), cs[k]? = some x → w.cell? ⟨b, off + k, none⟩ = some (.int .u8 x.toNat))
def SF (sb : Nat) (w w' : World) : Prop := Below sb w w' ∧ ∀ g o, g ≠ sb → w.heap[g]? = some o → w'.heap[g]? = some o
theorem SF.refl (sb : Nat) (w : World) : SF sb w w := ⟨Below.refl _ _, fun _ _ _ h => h⟩
theorem SF.trans {sb : Nat} {w w1 w2 : World} (h : SF sb w w1) (h2 : SF sb w1 w2) : SF sb w w2 := ⟨h.1.trans h2.1, fun g o a b => h2.2 g o a (h.2 g o a b)⟩
theorem heap_lt {w : World} {g : Nat} {o : Obj} (h : w.heap[g]? = some o) : g < w.heap.size := by
 rcases Nat.lt_or_ge g w.heap.size with hlt | hge
 · exact hlt
 · simp [Array.getElem?_eq_none hge] at h
theorem SF.alloc {sb : Nat} {w : World} (h : sb ≤ w.heap.size) (o : Obj) : SF sb w (w.alloc o) := ⟨(Below.refl _ w).alloc h o, fun g o' _ hb => (Below.heap_alloc w o g (heap_lt hb)).trans hb⟩
theorem SF.drewN (sb : Nat) (w : World) (n : Nat) : SF sb w (w.drewN n) := ⟨(Fr.drewN w n).1, fun _ _ _ h => h⟩
theorem SF.keep {sb : Nat} {w w' : World} (h : SF sb w w') {g : Nat} {t : TypeId} {c : Array Value} (hb : Blk w g t c) (hne : g ≠ sb) : Blk w' g t c := h.2 g _ hne hb
theorem Sty.move {w w' : World} {sb : Nat} {C : Value} {cs : List UInt8} {a : Nat} (h : Sty w sb C cs a) (hb : Below sb w w') {a' : Nat} (h2 : Blk w' sb 80 #[C, .int .i64 a']) : Sty w' sb C cs a' := by
 obtain ⟨h1, A, c, e1, e2, e3, e4⟩ := h
 refine ⟨h2, A, c, e1, e2, e3, fun h0 => ?_⟩
 obtain ⟨b, off, f1, f2, f3⟩ := e4 h0
 exact ⟨b, off, f1, f2, fun k x hk => (hb.cell (p := ⟨b, off + k, none⟩) f2).trans (f3 k x hk)⟩
theorem Sty.alloc {w : World} {sb : Nat} {C : Value} {cs : List UInt8} {a : Nat} (h : Sty w sb C cs a) (o : Obj) : Sty (w.alloc o) sb C cs a :=
 h.move (SF.alloc (Nat.le_of_lt h.1.lt) o).1 (h.1.alloc o)
theorem Sty.drewN {w : World} {sb : Nat} {C : Value} {cs : List UInt8} {a : Nat} (h : Sty w sb C cs a) (n : Nat) : Sty (w.drewN n) sb C cs a := h.move (SF.drewN sb w n).1 h.1
def pickV (cs : List UInt8) (a n : Nat) : Nat := (match cs[a]? with | some x => x.toNat | none => a * 7) % n
theorem pickV_lt (cs : List UInt8) (a : Nat) {n : Nat} (h : 0 < n) : pickV cs a n < n := Nat.mod_lt _ h
def PickIs (cs : List UInt8) (sb : Nat) (C : Value) (a n : Nat) (w : World) (e : Ending) (w' : World) : Prop :=
 e = .returned (.int .i64 (pickV cs a n)) ∧ Sty w' sb C cs (a + 1) ∧ SF sb w w'
set_option maxRecDepth 100000 in
set_option maxHeartbeats 1000000 in
theorem pick_any {w : World} {sb : Nat} {C : Value} {cs : List UInt8} {a : Nat} (h : Sty w sb C cs a) (ha : a ≤ 1000000000) (n : Nat) (hn : 0 < n) (hn2 : n ≤ 100) :
   Calls Try.prog 28 #[.pointer (some ⟨sb, 0, none⟩), .int .i64 n] w (PickIs cs sb C a n w) := by
 have HS := Lib.hid h
 obtain ⟨hb, A, c, rfl, h1, h2, h3⟩ := h
 have c0 : w.cell? ⟨sb, 0, none⟩ = some (.slice A cs.length c) := by have := hb.cell 0; simpa using this
 have c1 : w.cell? ⟨sb, 1, none⟩ = some (.int .i64 a) := by have := hb.cell 1; simpa using this
 have f1 := hb.frozen 1
 have hl := hb.lt
 have fin : ∀ (w2 : World) (k : Nat) (x : Int), w2 = (w.drewN k).setCell ⟨sb, 1, none⟩ (.int .i64 ((a : Int) + 1)) → x = (pickV cs a n : Int) → PickIs cs sb (.slice A cs.length c) a n w (.returned (.int .i64 x)) w2 := by
   rintro w2 k x rfl rfl
   have hblk : Blk ((w.drewN k).setCell ⟨sb, 1, none⟩ (.int .i64 ((a : Int) + 1))) sb 80 #[.slice A cs.length c, .int .i64 ((a + 1 : Nat) : Int)] := Blk.set_ (w := w.drewN k) HS.out.1 1 _
   have hbel : Below sb w ((w.drewN k).setCell ⟨sb, 1, none⟩ (.int .i64 ((a : Int) + 1))) := (Fr.drewN w k).1.trans ((Below.refl sb _).setCell (p := ⟨sb, 1, none⟩) (Nat.le_refl sb) _)
   exact ⟨rfl, HS.out.move hbel hblk, hbel, fun g o hg hb => (Below.heap_setCell (w.drewN k) ⟨sb, 1, none⟩ _ g hg).trans hb⟩
 have FIN := Lib.hid fin
 have hnz : ¬ ((n : Int) = 0) := by omega
 by_cases hlt : a < cs.length
 · obtain ⟨b, off, rfl, hbs, hcell⟩ := h3 (by omega)
   obtain ⟨x, hx⟩ : ∃ x, cs[a]? = some x := ⟨_, List.getElem?_eq_getElem hlt⟩
   have cx := hcell a x hx
   have HV : Hid ((x.toNat : Int) % n = (pickV cs a n : Int)) := by show _ = _; unfold pickV; rw [hx]; simp
   have hx0 : (0 : Int) ≤ (x.toNat : Int) := by omega
   have hx1 : (x.toNat : Int) ≤ 255 := by have := x.toNat_lt; omega
   clear fin hcell h3 hx hb
   generalize (x.toNat : Int) = y at *
   have hmod : y.tmod (n : Int) = y % n := Int.tmod_eq_emod_of_nonneg hx0
   go_enter Try.func28, Try.ntmps28
   go_wp2_with fail
   go_quiet (fail)
   go_wp2_with fail
   go_quiet (fail)
   go_wp2_with fail
   go_ret
   exact FIN.out _ _ _ rfl HV.out
 · have hnone : cs[a]? = none := List.getElem?_eq_none (by omega)
   have HV : Hid (((a : Int) * 7) % n = (pickV cs a n : Int)) := by show _ = _; unfold pickV; rw [hnone]; simp
   have hx0 : (0 : Int) ≤ (a : Int) * 7 := by omega
   have hmod : ((a : Int) * 7).tmod (n : Int) = ((a : Int) * 7) % n := Int.tmod_eq_emod_of_nonneg hx0
   clear fin h3 hnone hb
   go_enter Try.func28, Try.ntmps28
   go_wp2_with fail
   go_quiet (fail)
   go_wp2_with fail
   go_ret
   exact FIN.out _ _ _ rfl HV.out
def ToldX (R : List UInt8 → Prop) (sb : Nat) (C : Value) (cs : List UInt8) (a' : Nat) (w : World) (e : Ending) (w' : World) : Prop :=
 ∃ s, e = .returned (.string ⟨s.toArray⟩) ∧ R s ∧ Sty w' sb C cs a' ∧ SF sb w w'
def Told (R : List UInt8 → Prop) (sb : Nat) (C : Value) (cs : List UInt8) (a k : Nat) (w : World) (e : Ending) (w' : World) : Prop :=
 ∃ s a', e = .returned (.string ⟨s.toArray⟩) ∧ R s ∧ a ≤ a' ∧ a' ≤ a + k ∧ Sty w' sb C cs a' ∧ SF sb w w'
def BlkTxt (s : List UInt8) : Prop := Blk1 s ∧ s.length ≤ 2
set_option maxRecDepth 100000 in
set_option maxHeartbeats 1000000 in
theorem blanks_any {w : World} {sb : Nat} {C : Value} {cs : List UInt8} {a : Nat} (h : Sty w sb C cs a) (ha : a ≤ 1000000000) :
   Calls Try.prog 30 #[.pointer (some ⟨sb, 0, none⟩)] w (ToldX BlkTxt sb C cs (a + 1) w) := by
 have hl := h.1.lt
 have HC : Hid (∀ o, Calls Try.prog 28 #[.pointer (some ⟨sb, 0, none⟩), .int .i64 5] (w.alloc o) (PickIs cs sb C a 5 (w.alloc o))) := fun o => pick_any (h.alloc o) ha 5 (by omega) (by omega)
 have hpv := pickV_lt cs a (n := 5) (by omega)
 have HSA : Hid (∀ o, SF sb w (w.alloc o)) := fun o => SF.alloc (Nat.le_of_lt hl) o
 have hb : ∀ cells : Array Value, Blk (w.alloc (.cells cells 9)) w.heap.size 9 cells := fun cells => Blk.new w 9 cells
 have HB := Lib.hid hb
 have hlne : w.heap.size ≠ sb := by omega
 clear hb h
 generalize hp : pickV cs a 5 = p at *
 go_enter Try.func30, Try.ntmps30
 go_wp2_with fail
 refine (HC.out _).mono ?_
 rintro e w1 ⟨rfl, hst, hf⟩
 rw [hp]
 have hb1 := hf.keep (HB.out _) hlne
 have d0 := hb1.cell 0
 have d1 := hb1.cell 1
 have d2 := hb1.cell 2
 have d3 := hb1.cell 3
 have d4 := hb1.cell 4
 simp at d0 d1 d2 d3 d4
 have HST := Lib.hid hst
 have HF := Lib.hid ((HSA.out _).trans hf)
 clear hst hf hb1
 have hpc : p = 0 ∨ p = 1 ∨ p = 2 ∨ p = 3 ∨ p = 4 := by omega
 clear hpv hp
 rcases hpc with rfl | rfl | rfl | rfl | rfl
 · go_wp2_with fail
   go_ret
   exact ⟨[], rfl, ⟨by intro c hc; revert c; decide, by decide⟩, HST.out, HF.out⟩
 · go_wp2_with fail
   go_ret
   exact ⟨[], rfl, ⟨by intro c hc; revert c; decide, by decide⟩, HST.out, HF.out⟩
 · go_wp2_with fail
   go_ret
   exact ⟨[32], rfl, ⟨by intro c hc; revert c; decide, by decide⟩, HST.out, HF.out⟩
 · go_wp2_with fail
   go_ret
   exact ⟨[9], rfl, ⟨by intro c hc; revert c; decide, by decide⟩, HST.out, HF.out⟩
 · go_wp2_with fail
   go_ret
   exact ⟨[32, 32], rfl, ⟨by intro c hc; revert c; decide, by decide⟩, HST.out, HF.out⟩
end Go.Proofs.Ytnlkbbpmpgdmiaa
namespace Go.Proofs.Ytnlkbbpmpgdmiaa
open Go.RowKit
set_option linter.unusedVariables false
set_option linter.unusedSimpArgs false
def hx (d : Nat) : UInt8 := if d < 10 then UInt8.ofNat (48 + d) else UInt8.ofNat (87 + d)
def hexT (v : Nat) : Nat → List UInt8
 | 0 => []
 | n + 1 => hx (v / 16 ^ n % 16) :: hexT v n
theorem hexT_len (v n : Nat) : (hexT v n).length = n := by
 induction n with
 | zero => rfl
 | succ n ih => simp [hexT, ih]
def hexA : ByteArray := { data := #[48, 49, 50, 51, 52, 53, 54, 55, 56, 57, 97, 98, 99, 100, 101, 102, 65, 66, 67, 68, 69, 70] }
theorem hexA_get {d : Nat} (h : d < 16) : hexA.data[d]? = some (hx d) := by
 have : d = 0 ∨ d = 1 ∨ d = 2 ∨ d = 3 ∨ d = 4 ∨ d = 5 ∨ d = 6 ∨ d = 7 ∨ d = 8 ∨ d = 9 ∨ d = 10 ∨ d = 11 ∨ d = 12 ∨ d = 13 ∨ d = 14 ∨ d = 15 := by omega
 rcases this with rfl | rfl | rfl | rfl | rfl | rfl | rfl | rfl | rfl | rfl | rfl | rfl | rfl | rfl | rfl | rfl <;> rfl
theorem i64_and15 (v : Nat) (j : Nat) (hv : v ≤ 2147483647) : bits .and .i64 ((v : Int) / 2 ^ (4 * j)) 15 = ((v / 16 ^ j % 16 : Nat) : Int) := by
 have e1 : ((v : Int) / 2 ^ (4 * j)) = ((v / 16 ^ j : Nat) : Int) := by
   rw [show (16 : Nat) ^ j = 2 ^ (4 * j) from by rw [Nat.pow_mul]]
   simp
 have hle : v / 16 ^ j ≤ v := Nat.div_le_self _ _
 rw [e1]
 generalize v / 16 ^ j = x at *
 show IntKind.i64.wrap ((BitVec.ofInt 64 (x : Int) &&& BitVec.ofInt 64 ((15 : Nat) : Int)).toNat : Int) = _
 rw [BitVec.toNat_and, BitVec.ofInt_natCast, BitVec.ofInt_natCast, BitVec.toNat_ofNat, BitVec.toNat_ofNat, Nat.mod_eq_of_lt (by omega), Nat.mod_eq_of_lt (by omega)]
 rw [show (15 : Nat) = 2 ^ 4 - 1 from rfl, Nat.and_two_pow_sub_one_eq_mod]
 simp only [IntKind.wrap]
 simp [IntKind.bits, IntKind.signed]
 omega
theorem hexA_ix {d : Nat} (hd : d < 16) (h : d < 22) : (({ data := #[48, 49, 50, 51, 52, 53, 54, 55, 56, 57, 97, 98, 99, 100, 101, 102, 65, 66, 67, 68, 69, 70] } : ByteArray)[d]'h) = hx d := by
 have h1 := hexA_get hd
 obtain ⟨h2, h3⟩ := Array.getElem?_eq_some_iff.1 h1
 exact h3
theorem Buf.bts {B : Nat} {w : World} {v : Value} {l : List UInt8} (h : Buf B w v l) : ∃ b c, v = .slice (some ⟨b, 0, none⟩) l.length c ∧ Bts w b 0 l := by
 obtain ⟨⟨h1, h2⟩, hv⟩ := h
 rcases h2 with ⟨rfl, _⟩ | ⟨g, cap, cur, rfl, b, c, hn, hm, hs, ht⟩
 · exact absurd rfl hv
 · refine ⟨g, cap, rfl, fun k hk => ?_⟩
   have h3 : (cur.toList.take (l.length * 1))[k]? = (l.map fun c => Value.int .u8 c.toNat)[k]? := by rw [ht]
   rw [List.getElem?_take_of_lt (by omega)] at h3
   have c' : Blk w g 5 cur := c
   rw [Nat.zero_add, c'.cell k, ← Array.getElem?_toList, h3, List.getElem?_map, List.getElem?_eq_getElem hk]
   simp [List.getD, hk]
theorem Buf.new {B : Nat} {w : World} (h : B ≤ w.heap.size) : Buf B (w.alloc (.cells #[] 5)) (.slice (some ⟨w.heap.size, 0, none⟩) 0 0) [] :=
 ⟨⟨by decide, .inr ⟨w.heap.size, 0, #[], rfl, h, Blk.new w 5 #[], Nat.le_refl _, Nat.zero_le _, rfl, rfl⟩⟩, by simp⟩
def HexRel (B v n : Nat) (w : World) (g : Nat) (s5 s6 : Value) (wx : World) : Prop :=
 ∃ (j : Nat) (l : List UInt8), s6 = .int .i64 ((j : Int) - 1) ∧ g = j ∧ j ≤ n ∧ l.length + j = n ∧ l ++ hexT v j = hexT v n ∧ Buf B wx s5 l ∧ Below B w wx ∧ B ≤ wx.heap.size
set_option maxRecDepth 100000 in
set_option maxHeartbeats 4000000 in
theorem hex_any {w : World} {v n : Nat} (hv : v ≤ 2147483647) (hn : n ≤ 8) :
   Calls Try.prog 65 #[.int .i64 v, .int .i64 n] w (fun e w' => e = .returned (.string ⟨(hexT v n).toArray⟩) ∧ Below w.heap.size w w') := by
 generalize hB : w.heap.size = B
 have HBE := Lib.hid hB
 go_enter Try.func65, Try.ntmps65
 go_wp2_with fail
 go_loopg [5, 6] n (fun g s5 s6 wx => HexRel B v n w g s5 s6 wx)
 case atStart =>
   refine ⟨n, [], rfl, rfl, Nat.le_refl _, by simp, rfl, ?_, (Below.refl B w).alloc (by omega) _, by simp; omega⟩
   have := Buf.new (w := w) (Nat.le_of_eq HBE.out.symm)
   rw [HBE.out] at this
   exact this
 case round =>
   obtain ⟨j, l, rfl, rfl, hjn, hlj, hl, hbuf, hbel, hwr⟩ := hrel
   have HBUF := Lib.hid hbuf
   have HBEL := Lib.hid hbel
   have HL := Lib.hid hl
   clear hbuf hbel hl
   cases gk with
   | zero =>
     have hll : l.length = n := by omega
     obtain ⟨b, off, c, e1, hb1⟩ : ∃ b off c, u5 = .slice (some ⟨b, off, none⟩) l.length c ∧ Bts wr b off l := by
       obtain ⟨b, c, h1, h2⟩ := HBUF.out.bts
       exact ⟨b, 0, c, h1, h2⟩
     subst e1
     have hcv := conv_bts (c := c) hb1
     rw [hll] at hcv
     clear HBUF hb1
     go_wp2_with fail
     go_ret
     have h := HL.out
     rw [show hexT v 0 = [] from rfl, List.append_nil] at h
     rw [h]
     exact ⟨rfl, HBEL.out⟩
   | succ j =>
     have hs0 : ((j : Int) + 1 - 1) = j := by omega
     have hj0 : (0 : Int) ≤ j := by omega
     have hbit := i64_and15 v j hv
     have hd16 : v / 16 ^ j % 16 < 16 := Nat.mod_lt _ (by omega)
     have HT : Hid (hexT v (j + 1) = hx (v / 16 ^ j % 16) :: hexT v j) := rfl
     generalize v / 16 ^ j % 16 = d at *
     have hd0 : (0 : Int) ≤ (d : Int) := by omega
     have hd1 : (d : Int) < 22 := by omega
     have hix := hexA_ix hd16
     have HA : Hid (∀ cs, Buf B (wr.alloc (.cells cs 5)) u5 l) := fun cs => HBUF.out.alloc _
     go_wp2_with (at_builtin; refine wpList_app8 rfl (.tmp 14) (.tmp 21) rfl _ l rfl (HA.out _) ⟨wr.heap.size, 0, none⟩ 1 1 [hx d] rfl rfl (Blk.add (l := [.int .u8 (hx d).toNat]) (Blk.new wr 5 _)) (by simp; omega) (by simp; omega) ?_; intro v1 w1 hb1 hw1)
     have HB1 := Lib.hid hb1
     have HW1 := Lib.hid hw1
     clear hb1 hw1
     go_roundg j
     case measure => omega
     case rel =>
       refine ⟨j, l ++ [hx d], rfl, rfl, by omega, by simp; omega, ?_, HB1.out, (HBEL.out.trans ((Below.refl B wr).alloc hwr _)).trans HW1.out, ?_⟩
       · rw [← HL.out, HT.out]
         simp
       · exact Nat.le_trans (by simp; omega) HW1.out.size
end Go.Proofs.Ytnlkbbpmpgdmiaa
