/- The cells of one of the values in a row; Expressions as they lie in memory, their values always known; The laws' own documents: documentOf; The reference's writer: a list. -/
import Derived.Test.YtnlkbbpmpgdmiaaXAP
import Derived.Test.YtnlkbbpmpgdmiaaXAU
import Derived.Deep.RegionHeld3
namespace Go.Proofs.Ytnlkbbpmpgdmiaa
open Go.RowKit
set_option linter.unusedVariables false
set_option linter.unusedSimpArgs false
theorem NodeIs.len {P : Nat → Prop} {w : World} {T : TypeId} {v : N} {cs : List Value} (h : NodeIs P w T v cs) : cs.length = 4 := by
 obtain ⟨iv, kv, cs', rfl, _⟩ := h.cells
 rfl
theorem items_at {P : Nat → Prop} {w : World} {T : TypeId} {x : N} {rest : List N} : ∀ {dn : List N} {cs : List Value}, ItemsIs P w T (dn ++ x :: rest) cs → ∃ xc, NodeIs P w T x xc ∧ ∀ i, i < 4 → cs[dn.length * 4 + i]? = xc[i]?
 | [], cs, h => by
   obtain ⟨a, b, rfl, h1, _⟩ := items_cons.1 h
   refine ⟨a, h1, fun i hi => ?_⟩
   have := h1.len
   simp only [List.length_nil, Nat.zero_mul, Nat.zero_add]
   rw [List.getElem?_append_left (by omega)]
 | d :: dn, cs, h => by
   obtain ⟨a, b, rfl, h1, h2⟩ := items_cons.1 h
   obtain ⟨xc, h3, h4⟩ := items_at (dn := dn) h2
   refine ⟨xc, h3, fun i hi => ?_⟩
   have := h1.len
   rw [← h4 i hi, List.getElem?_append_right (by simp only [List.length_cons]; omega)]
   congr 1
   simp only [List.length_cons]
   omega
end Go.Proofs.Ytnlkbbpmpgdmiaa
namespace Go.Proofs.Ytnlkbbpmpgdmiaa
open Go.RowKit
set_option linter.unusedVariables false
set_option linter.unusedSimpArgs false
def ExF (P : Nat → Prop) (w : World) (T : TypeId) (x : Ex) (cs : List Value) : Prop := ∃ kv c4, cs = .int .i64 x.kind :: kv :: c4 ∧ StrRow P w kv x.keys ∧ NodeIs P w T x.value c4
def ExsF (P : Nat → Prop) (w : World) (T : TypeId) : List Ex → List Value → Prop
 | [], cs => cs = []
 | x :: xs, cs => ∃ a b, cs = a ++ b ∧ ExF P w T x a ∧ ExsF P w T xs b
theorem ExF.moveT {P P' : Nat → Prop} {w w' : World} {T : TypeId} (hm : ∀ g t cs, t = T ∨ t = 9 → P g → Blk w g t cs → P' g ∧ Blk w' g t cs) {x : Ex} {cs : List Value} (h : ExF P w T x cs) : ExF P' w' T x cs := by
 obtain ⟨kv, c4, h1, h2, h3⟩ := h
 exact ⟨kv, c4, h1, Row.moveE h2 (fun g cs => hm g 9 cs (.inr rfl)), h3.moveT hm⟩
theorem ExsF.moveT {P P' : Nat → Prop} {w w' : World} {T : TypeId} (hm : ∀ g t cs, t = T ∨ t = 9 → P g → Blk w g t cs → P' g ∧ Blk w' g t cs) : ∀ {l : List Ex} {cs : List Value}, ExsF P w T l cs → ExsF P' w' T l cs
 | [], _, h => h
 | x :: xs, _, ⟨a, b, h1, h2, h3⟩ => ⟨a, b, h1, h2.moveT hm, ExsF.moveT hm h3⟩
theorem ExsF.snoc {P : Nat → Prop} {w : World} {T : TypeId} {x : Ex} {xc : List Value} (hx : ExF P w T x xc) : ∀ {l : List Ex} {cs : List Value}, ExsF P w T l cs → ExsF P w T (l ++ [x]) (cs ++ xc)
 | [], cs, h => by
   have h' : cs = [] := h
   subst h'
   exact ⟨xc, [], by simp, hx, rfl⟩
 | y :: ys, cs, ⟨a, b, h1, h2, h3⟩ => ⟨a, b ++ xc, by rw [h1]; simp, h2, ExsF.snoc hx h3⟩
theorem ExF.len {P : Nat → Prop} {w : World} {T : TypeId} {x : Ex} {cs : List Value} (h : ExF P w T x cs) : cs.length = 6 := by
 obtain ⟨kv, c4, rfl, _, h⟩ := h
 have := h.len
 simp [this]
theorem ExsF.append {P : Nat → Prop} {w : World} {T : TypeId} : ∀ {l m : List Ex} {cs ds : List Value}, ExsF P w T l cs → ExsF P w T m ds → ExsF P w T (l ++ m) (cs ++ ds)
 | [], m, cs, ds, h, h' => by
   have h0 : cs = [] := h
   subst h0
   exact h'
 | x :: xs, m, cs, ds, ⟨a, b, h1, h2, h3⟩, h' => ⟨a, b ++ ds, by rw [h1]; simp, h2, ExsF.append h3 h'⟩
theorem exsF_at {P : Nat → Prop} {w : World} {T : TypeId} {x : Ex} {rest : List Ex} : ∀ {dn : List Ex} {cs : List Value}, ExsF P w T (dn ++ x :: rest) cs → ∃ xc, ExF P w T x xc ∧ ∀ i, i < 6 → cs[dn.length * 6 + i]? = xc[i]?
 | [], cs, ⟨a, b, h0, h1, _⟩ => by
   subst h0
   refine ⟨a, h1, fun i hi => ?_⟩
   have := h1.len
   simp only [List.length_nil, Nat.zero_mul, Nat.zero_add]
   rw [List.getElem?_append_left (by omega)]
 | d :: dn, cs, ⟨a, b, h0, h1, h2⟩ => by
   subst h0
   obtain ⟨xc, h3, h4⟩ := exsF_at (dn := dn) h2
   refine ⟨xc, h3, fun i hi => ?_⟩
   have := h1.len
   rw [← h4 i hi, List.getElem?_append_right (by simp only [List.length_cons]; omega)]
   congr 1
   simp only [List.length_cons]
   omega
theorem exsF_snoc {S : Nat} {wr w1 w2 : World} {T E : TypeId} {iv iv' : Value} {dn : List Ex} {cs' : List Value} {x : Ex} {xc : List Value} (hown : wr.ownsRow S E 6 iv dn.length cs') (hit : ExsF (fun g => S ≤ g ∧ some g ≠ iv.ownBlock) wr T dn cs') (hx : ExF (fun g => wr.heap.size ≤ g) w1 T x xc)
   (hS : S ≤ wr.heap.size) (hsz : wr.heap.size ≤ w1.heap.size) (hb : ∀ g t cs, t = T ∨ t = 9 → Blk wr g t cs → Blk w1 g t cs) (hg : w1.grownBy w2 iv.ownBlock) (hat : iv'.ownBlock = iv.ownBlock ∨ iv'.ownBlock = some w1.heap.size) :
   ExsF (fun g => S ≤ g ∧ some g ≠ iv'.ownBlock) w2 T (dn ++ [x]) (cs' ++ xc) := by
 refine ExsF.snoc (hx.moveT ?_) (hit.moveT ?_)
 · intro g t cs _ hg1 hblk
   have hne : some g ≠ iv.ownBlock := by
     intro h
     have := own_lt hown h.symm
     omega
   have hl := hblk.lt
   refine ⟨⟨by omega, ?_⟩, (hg.block g hblk.lt hne).trans hblk⟩
   rcases hat with h | h
   · rw [h]; exact hne
   · rw [h]; intro e; injection e with e; omega
 · intro g t cs ht hg1 hblk
   have hl := hblk.lt
   have hblk1 := hb g t cs ht hblk
   refine ⟨⟨hg1.1, ?_⟩, (hg.block g hblk1.lt hg1.2).trans hblk1⟩
   rcases hat with h | h
   · rw [h]; exact hg1.2
   · rw [h]; intro e; injection e with e; omega
end Go.Proofs.Ytnlkbbpmpgdmiaa
namespace Go.Proofs.Ytnlkbbpmpgdmiaa
open Go.RowKit
set_option linter.unusedVariables false
set_option linter.unusedSimpArgs false
theorem valOf_all : ∀ d, d ≤ 100 → ValOf d
 | 0, _ => valOf_zero
 | d + 1, h => valOf_step (by omega) (valOf_all d (by omega))
def ExOk (x : Ex) : Prop := (∃ kws : List (List Nat), kws ≠ [] ∧ kws.length ≤ 3 ∧ (∀ k ∈ kws, k.length ≤ 6 ∧ ∀ r ∈ k, Alpha r) ∧ x.keys = kws.map Wd) ∧
 ((x.kind = 0 ∧ x.value.keys = [] ∧ VOk 3 x.value ∧ wt x.value ≤ wtB 3) ∨ x.kind = 1 ∨ x.kind = 2) ∧ wt x.value ≤ wtB 3
theorem U32s.mono {w : World} {B B' : Nat} {lv : Value} {n : Nat} (h : U32s w B lv n) (hb : B ≤ B') : U32s w B' lv n := by
 obtain ⟨A, c, h1, h2, h3, h4⟩ := h
 refine ⟨A, c, h1, h2, h3, fun h0 => ?_⟩
 obtain ⟨b, off, e1, e2, e3⟩ := h4 h0
 exact ⟨b, off, e1, by omega, e3⟩
def DocIs (w : World) (e : Ending) (w' : World) : Prop := ∃ (es : List Ex) (v : Value) (cs : List Value), e = .returned v ∧ Row (fun g => w.heap.size ≤ g) w' 45 6 v es.length cs ∧ ExsF (fun g => w.heap.size ≤ g) w' 43 es cs ∧ es.length ≤ 12 ∧ (∀ x ∈ es, ExOk x) ∧ Below w.heap.size w w'
theorem info45 : (Try.prog.info? 45).map (fun i => (i.zero, i.size, i.bytes)) = some (some (.agg #[.int .i64 0, .slice none 0 0, .int .i64 0, .string ByteArray.empty, .slice none 0 0, .slice none 0 0]), 6, 104) := by kernel_rfl
def DoRel (w : World) (g : Nat) (s3 s8 : Value) (wx : World) : Prop :=
 ∃ (dn : List Ex) (a k : Nat) (cs' : List Value), k + g = 12 ∧ s8 = .int .i64 k ∧ dn.length ≤ k ∧ a ≤ 50 * k ∧ wx.ownsRow w.heap.size 45 6 s3 dn.length cs' ∧ ExsF (fun g => w.heap.size ≤ g ∧ some g ≠ s3.ownBlock) wx 43 dn cs' ∧ (∀ x ∈ dn, ExOk x) ∧ Blk wx (w.heap.size + 1) 3 #[.int .i64 a] ∧ Below w.heap.size w wx
theorem do_snoc {w wr wE w7 : World} {g7 c7 a a2 k gk : Nat} {dn : List Ex} {x : Ex} {iv : Value} {cs' xc : List Value} (hkg : k + gk = 12) (hgk : 0 < gk) (hdk : dn.length ≤ k) (hak : a ≤ 50 * k) (ha2 : a2 ≤ a + 50)
   (hown : wr.ownsRow w.heap.size 45 6 iv dn.length cs') (hits : ExsF (fun g => w.heap.size ≤ g ∧ some g ≠ iv.ownBlock) wr 43 dn cs') (hPP : ∀ x ∈ dn, ExOk x) (hbw : Below w.heap.size w wr) (hs1 : w.heap.size + 1 < wr.heap.size) (hown1 : (Value.ownBlock iv) ≠ some (w.heap.size + 1))
   (hx : ExF (fun g => wr.heap.size ≤ g) wE 43 x xc) (hxP : ExOk x) (hsz : wr.heap.size ≤ wE.heap.size) (hpres : ∀ g t cs, g ≠ w.heap.size + 1 → Blk wr g t cs → Blk wE g t cs) (hE : Below w.heap.size w wE) (hab : Blk wr (w.heap.size + 1) 3 #[.int .i64 a]) (hat : Blk wE (w.heap.size + 1) 3 #[.int .i64 a2])
   (hown7 : w7.ownsRow w.heap.size 45 6 (.slice (some ⟨g7, 0, none⟩) (dn.length + 1) c7) (dn.length + 1) (cs' ++ xc)) (hgrow : wE.grownBy w7 iv.ownBlock) (hlies : iv.ownBlock = some g7 ∨ g7 = wE.heap.size) {s : Value} (hs : s = .int .i64 ((k : Int) + 1)) :
   DoRel w (gk - 1) (.slice (some ⟨g7, 0, none⟩) (dn.length + 1) c7) s w7 := by
 have hty : ∀ g t cs, t = 43 ∨ t = 9 → Blk wr g t cs → g ≠ w.heap.size + 1 := by
   rintro g t cs ht hb rfl
   have := hb.ne_ hab (by rcases ht with rfl | rfl <;> decide)
   exact this rfl
 refine ⟨dn ++ [x], a2, k + 1, cs' ++ xc, by omega, by rw [hs]; go_num, by simp; omega, by omega, by rw [List.length_append]; exact hown7, ?_, ?_, ?_, ?_⟩
 · refine exsF_snoc (S := w.heap.size) (E := 45) hown hits hx hbw.size hsz (fun g t cs ht hb => hpres g t cs (hty g t cs ht hb) hb) hgrow ?_
   rcases hlies with h | h
   · exact .inl h.symm
   · exact .inr (by rw [← h]; rfl)
 · intro y hy
   rcases List.mem_append.1 hy with hy | hy
   · exact hPP y hy
   · have : y = x := by simpa using hy
     rw [this]; exact hxP
 · exact (hgrow.block _ hat.lt (fun h => hown1 h.symm)).trans hat
 · exact hE.grown hgrow hE.size (fun k hk => (own_lt hown hk).1)
set_option maxRecDepth 100000 in
set_option maxHeartbeats 4000000 in
theorem doc_any {w : World} {lv : Value} {n : Nat} (hu : U32s w w.heap.size lv n) (hn : n ≤ 100) : Calls Try.prog 12 #[lv] w (DocIs w) := by
 obtain ⟨i0, hi0, hz0, hz1, hz2⟩ := info_parts info45
 have HI0 := Lib.hid hi0
 have HU := Lib.hid hu
 obtain ⟨A, c, rfl, hnc, hcm, _⟩ := hu
 clear hi0
 go_enter Try.func12, Try.ntmps12
 go_wp2_with fail
 go_loopg [3, 8] 12 (fun g s3 s8 wx => Hid (DoRel w g s3 s8 wx))
 case atStart =>
   have h1 : (w.alloc (.cells #[] 45)).heap.size = w.heap.size + 1 := by simp
   have h2 := Blk.new (w.alloc (.cells #[] 45)) 3 #[.int .i64 0]
   rw [h1] at h2
   refine ⟨[], 0, 0, [], rfl, rfl, Nat.le_refl _, Nat.le_refl _, ⟨rfl, .inr ⟨w.heap.size, 0, #[], rfl, Nat.le_refl _, (Blk.new w 45 #[]).alloc _, Nat.le_refl _, by simp [maxLen], rfl, rfl⟩⟩, rfl, by simp, h2, ((Below.refl _ w).alloc (Nat.le_refl _) _).alloc (by simp) _⟩
 case round =>
   obtain ⟨dn, a, k, cs', hkg, rfl, hdk, hak, hown, hits, hPP, hat, hbw⟩ := hrel.out
   clear hrel
   obtain ⟨ia, inn, ic, rfl⟩ := own_slice hown
   have hs1 := hat.lt
   have HOWN := Lib.hid hown
   have HITS := Lib.hid hits
   have HPP := Lib.hid hPP
   have HAT := Lib.hid hat
   have HBW := Lib.hid hbw
   have q0 : wr.cell? ⟨w.heap.size + 1, 0, none⟩ = some (.int .i64 a) := by have := hat.cell 0; simpa using this
   have q0f := hat.frozen 0
   have hown1 : (Value.slice ia inn ic).ownBlock ≠ some (w.heap.size + 1) := by
     intro h
     rcases hown.2 with ⟨h2, _⟩ | ⟨g', cap, cur, h2, _, hc, _⟩
     · rw [h2] at h; cases h
     · rw [h2] at h
       injection h with h
       have h : g' = w.heap.size + 1 := h
       subst h
       exact Blk.ne_ (t := 45) hc hat (by decide) rfl
   have HFIN : Hid (DocIs w (.returned (.slice ia inn ic)) wr) := by
     refine ⟨dn, _, cs', rfl, Row.of_own hown fun g h _ => h, ?_, by omega, hPP, hbw⟩
     exact ExsF.moveT (fun g t cs _ h1 h2 => ⟨h1.1, h2⟩) hits
   clear hown hits hPP hat hbw
   cases gk with
   | zero =>
     have hk12 : k = 12 := by omega
     subst hk12
     go_wp2_with fail
     go_ret
     exact HFIN.out
   | succ g' =>
     have hk12 : (k : Int) < 12 := by omega
     rcases Nat.lt_or_ge a n with hlt | hlt
     · have hlt' : (a : Int) < n := by omega
       have hUr : U32s wr (w.heap.size + 1) (.slice A n c) n := (HU.out.keep HBW.out).mono (by omega)
       have HUR := Lib.hid hUr
       obtain ⟨A', c', e', _, _, hcell⟩ := hUr
       injection e' with e1 _ e2
       subst e1
       subst e2
       obtain ⟨b, off, rfl, hb, hcl⟩ := hcell (by omega)
       obtain ⟨N, hN1, hN2⟩ := hcl a hlt
       have hbl : b < wr.heap.size := by omega
       have hbne : b ≠ w.heap.size + 1 := by omega
       have ham : a ≤ 1000 := by omega
       have hkw : w.heap.size ≤ wr.heap.size := by omega
       clear hcell hcl HFIN
       by_cases h0 : (N : Int) % 5 = 0
       · go_wp2_with fail
         refine (keys_int _ (by omega) (by omega) _).mono ?_
         rintro e w2 ⟨kv, kws, rfl, hout, hkne, hkl, hkA, hb2⟩
         obtain ⟨ak, nk, ck, rfl⟩ := own_slice hout
         have hs2 : wr.heap.size ≤ w2.heap.size := by have := hb2.size; simpa using this
         have hkn : nk = (kws.map Wd).length := by
           have h := (StrRow.of_out (ks := kws.map Wd) (P := fun _ => True) (by rw [wdStr_map]; exact hout) fun _ _ => trivial).slice
           obtain ⟨_, _, e, _⟩ := h
           injection e
         have HOUT : Hid (StrRow (fun g => wr.heap.size ≤ g) w2 (.slice ak nk ck) (kws.map Wd)) := StrRow.of_out (by rw [wdStr_map]; exact hout) fun g h => by simpa using h
         have HKK : Hid (∃ kws' : List (List Nat), kws' ≠ [] ∧ kws'.length ≤ 3 ∧ (∀ k ∈ kws', k.length ≤ 6 ∧ ∀ r ∈ k, Alpha r) ∧ kws.map Wd = kws'.map Wd) := ⟨kws, hkne, hkl, hkA, rfl⟩
         have HPRES2 : Hid (∀ k t cs, k ≠ w.heap.size + 1 → Blk wr k t cs → Blk w2 k t cs) := fun k t cs h1 h2 => (h2.far (p := ⟨w.heap.size + 1, 0, none⟩) h1 _).below hb2 (by have := h2.lt; simpa using this)
         have HAT2 : Hid (Blk w2 (w.heap.size + 1) 3 #[.int .i64 ((a + 1 : Nat) : Int)]) := (HAT.out.set_ 0 _).below hb2 (by simpa using hs1)
         have HBW2 : Hid (Below w.heap.size w w2) := (HBW.out.setCell (p := ⟨w.heap.size + 1, 0, none⟩) (by show w.heap.size ≤ w.heap.size + 1; omega) _).trans (hb2.mono (by simp; omega))
         have HBB : Hid (Below (w.heap.size + 1) wr w2) := ((Below.refl _ wr).setCell (p := ⟨w.heap.size + 1, 0, none⟩) (Nat.le_refl _) _).trans (hb2.mono (by simp; omega))
         clear hout hkne hkl hkA hb2 hkn
         generalize kws.map Wd = KS at *
         have hsz2 : (w2.alloc (.cells #[.int .i64 1, .slice ak nk ck, .int .i64 0, .string ⟨#[]⟩, .slice none 0 0, .slice none 0 0] 45)).heap.size = w2.heap.size + 1 := by simp
         have HPRES6 : Hid (∀ g t cs, g ≠ w.heap.size + 1 → Blk wr g t cs → Blk ((w2.alloc (.cells #[.int .i64 1, .slice ak nk ck, .int .i64 0, .string ⟨#[]⟩, .slice none 0 0, .slice none 0 0] 45)).alloc (.cells #[.int .i64 1, .slice ak nk ck, .int .i64 0, .string ⟨#[]⟩, .slice none 0 0, .slice none 0 0] 45)) g t cs) := fun g t cs h1 h2 => ((HPRES2.out g t cs h1 h2).alloc _).alloc _
         have HAT6 := Lib.hid ((HAT2.out.alloc (.cells #[.int .i64 1, .slice ak nk ck, .int .i64 0, .string ⟨#[]⟩, .slice none 0 0, .slice none 0 0] 45)).alloc (.cells #[.int .i64 1, .slice ak nk ck, .int .i64 0, .string ⟨#[]⟩, .slice none 0 0, .slice none 0 0] 45))
         have HE6 : Hid (Below w.heap.size w ((w2.alloc (.cells #[.int .i64 1, .slice ak nk ck, .int .i64 0, .string ⟨#[]⟩, .slice none 0 0, .slice none 0 0] 45)).alloc (.cells #[.int .i64 1, .slice ak nk ck, .int .i64 0, .string ⟨#[]⟩, .slice none 0 0, .slice none 0 0] 45))) := (HBW2.out.alloc (by omega) _).alloc (by simp; omega) _
         have HX6 : Hid (ExF (fun g => wr.heap.size ≤ g) ((w2.alloc (.cells #[.int .i64 1, .slice ak nk ck, .int .i64 0, .string ⟨#[]⟩, .slice none 0 0, .slice none 0 0] 45)).alloc (.cells #[.int .i64 1, .slice ak nk ck, .int .i64 0, .string ⟨#[]⟩, .slice none 0 0, .slice none 0 0] 45)) 43 ⟨1, KS, .mk 0 [] [] []⟩ [.int .i64 1, .slice ak nk ck, .int .i64 0, .string ⟨#[]⟩, .slice none 0 0, .slice none 0 0]) :=
           ⟨_, _, rfl, Row.move HOUT.out (fun g t cs h1 h2 => ⟨h1, (h2.alloc _).alloc _⟩), NodeIs.mk' (v := .mk 0 [] [] []) (StrRow.nil _ _) ⟨rfl, .inl ⟨rfl, rfl⟩⟩ (items_nil.2 rfl)⟩
         have HOWN6 : Hid (((w2.alloc (.cells #[.int .i64 1, .slice ak nk ck, .int .i64 0, .string ⟨#[]⟩, .slice none 0 0, .slice none 0 0] 45)).alloc (.cells #[.int .i64 1, .slice ak nk ck, .int .i64 0, .string ⟨#[]⟩, .slice none 0 0, .slice none 0 0] 45)).ownsRow w.heap.size 45 6 (.slice ia inn ic) dn.length cs') := own_keep HOWN.out (fun g cs h => HPRES6.out g 45 cs (by rintro rfl; exact Blk.ne_ h HAT.out (by decide) rfl) h)
         have HNW : Hid (∀ j u, ([.int .i64 1, .slice ak nk ck, .int .i64 0, .string ⟨#[]⟩, .slice none 0 0, .slice none 0 0] : List Value)[j]? = some u → ((w2.alloc (.cells #[.int .i64 1, .slice ak nk ck, .int .i64 0, .string ⟨#[]⟩, .slice none 0 0, .slice none 0 0] 45)).alloc (.cells #[.int .i64 1, .slice ak nk ck, .int .i64 0, .string ⟨#[]⟩, .slice none 0 0, .slice none 0 0] 45)).cell? ((⟨w2.heap.size + 1, 0, none⟩ : Addr).add j) = some u) := by
           have h := Blk.new (w2.alloc (.cells #[.int .i64 1, .slice ak nk ck, .int .i64 0, .string ⟨#[]⟩, .slice none 0 0, .slice none 0 0] 45)) 45 #[.int .i64 1, .slice ak nk ck, .int .i64 0, .string ⟨#[]⟩, .slice none 0 0, .slice none 0 0]
           rw [hsz2] at h
           exact Blk.add (l := [.int .i64 1, .slice ak nk ck, .int .i64 0, .string ⟨#[]⟩, .slice none 0 0, .slice none 0 0]) h
         have HSZ6 : Hid (((w2.alloc (.cells #[.int .i64 1, .slice ak nk ck, .int .i64 0, .string ⟨#[]⟩, .slice none 0 0, .slice none 0 0] 45)).alloc (.cells #[.int .i64 1, .slice ak nk ck, .int .i64 0, .string ⟨#[]⟩, .slice none 0 0, .slice none 0 0] 45)).heap.size = w2.heap.size + 1 + 1) := by show _ = _; simp
         have HOK : Hid (ExOk ⟨1, KS, .mk 0 [] [] []⟩) := ⟨HKK.out, .inr (by simp), by have := wtB_ge 3; unfold wt wts; simp only [List.length_nil]; omega⟩
         have hA2 : a + 1 ≤ a + 50 := by omega
         clear hsz2
         go_wp2_with (first
           | (at_builtin; refine wpList_append_lies _ rfl (.tmp 35) (.tmp 37) 32 rfl w.heap.size 45 i0 _ 6 104 Try.underlying32 HI0.out hz0 hz1 hz2 rfl (by decide) (.slice ia inn ic) dn.length cs' (by rfl) HOWN6.out ⟨(w2.heap.size + 1), 0, none⟩ 1 1 [.int .i64 1, .slice ak nk ck, .int .i64 0, .string ⟨#[]⟩, .slice none 0 0, .slice none 0 0] (by rfl) rfl HNW.out (one6 _ _ _ _ _ _ _ _ _ _ _ _) (by decide) (by simp only [maxLen]; omega) (by omega) HE6.out.size ((w2.heap.size + 1) + 1) HSZ6.out ?_
              intro g7 c7 w7 hown7 hgrow7 hlies7 hlt7
              have HOWN7 := Lib.hid hown7
              have HGROW7 := Lib.hid hgrow7
              have HLIES7 := Lib.hid hlies7
              clear hown7 hgrow7 hlies7))
         go_roundg g'
         case measure => simp
         case rel =>
           exact do_snoc (gk := g' + 1) hkg (by omega) hdk hak hA2 HOWN.out HITS.out HPP.out HBW.out hs1 hown1 HX6.out HOK.out (by have := HSZ6.out; omega) HPRES6.out HE6.out HAT.out HAT6.out HOWN7.out HGROW7.out (HLIES7.out.imp_right fun h => by rw [HSZ6.out]; exact h) (by go_num)
       · have h0' : ((N : Int) % 5 == 0) = false := by simpa using h0
         by_cases h1 : (N : Int) % 5 = 1
         · go_wp2_with fail
           refine (keys_int _ (by omega) (by omega) _).mono ?_
           rintro e w2 ⟨kv, kws, rfl, hout, hkne, hkl, hkA, hb2⟩
           obtain ⟨ak, nk, ck, rfl⟩ := own_slice hout
           have hs2 : wr.heap.size ≤ w2.heap.size := by have := hb2.size; simpa using this
           have hkn : nk = (kws.map Wd).length := by
             have h := (StrRow.of_out (ks := kws.map Wd) (P := fun _ => True) (by rw [wdStr_map]; exact hout) fun _ _ => trivial).slice
             obtain ⟨_, _, e, _⟩ := h
             injection e
           have HOUT : Hid (StrRow (fun g => wr.heap.size ≤ g) w2 (.slice ak nk ck) (kws.map Wd)) := StrRow.of_out (by rw [wdStr_map]; exact hout) fun g h => by simpa using h
           have HKK : Hid (∃ kws' : List (List Nat), kws' ≠ [] ∧ kws'.length ≤ 3 ∧ (∀ k ∈ kws', k.length ≤ 6 ∧ ∀ r ∈ k, Alpha r) ∧ kws.map Wd = kws'.map Wd) := ⟨kws, hkne, hkl, hkA, rfl⟩
           have HPRES2 : Hid (∀ k t cs, k ≠ w.heap.size + 1 → Blk wr k t cs → Blk w2 k t cs) := fun k t cs h1 h2 => (h2.far (p := ⟨w.heap.size + 1, 0, none⟩) h1 _).below hb2 (by have := h2.lt; simpa using this)
           have HAT2 : Hid (Blk w2 (w.heap.size + 1) 3 #[.int .i64 ((a + 1 : Nat) : Int)]) := (HAT.out.set_ 0 _).below hb2 (by simpa using hs1)
           have HBW2 : Hid (Below w.heap.size w w2) := (HBW.out.setCell (p := ⟨w.heap.size + 1, 0, none⟩) (by show w.heap.size ≤ w.heap.size + 1; omega) _).trans (hb2.mono (by simp; omega))
           have HBB : Hid (Below (w.heap.size + 1) wr w2) := ((Below.refl _ wr).setCell (p := ⟨w.heap.size + 1, 0, none⟩) (Nat.le_refl _) _).trans (hb2.mono (by simp; omega))
           clear hout hkne hkl hkA hb2 hkn
           generalize kws.map Wd = KS at *
           have hsz2 : (w2.alloc (.cells #[.int .i64 2, .slice ak nk ck, .int .i64 0, .string ⟨#[]⟩, .slice none 0 0, .slice none 0 0] 45)).heap.size = w2.heap.size + 1 := by simp
           have HPRES6 : Hid (∀ g t cs, g ≠ w.heap.size + 1 → Blk wr g t cs → Blk ((w2.alloc (.cells #[.int .i64 2, .slice ak nk ck, .int .i64 0, .string ⟨#[]⟩, .slice none 0 0, .slice none 0 0] 45)).alloc (.cells #[.int .i64 2, .slice ak nk ck, .int .i64 0, .string ⟨#[]⟩, .slice none 0 0, .slice none 0 0] 45)) g t cs) := fun g t cs h1 h2 => ((HPRES2.out g t cs h1 h2).alloc _).alloc _
           have HAT6 := Lib.hid ((HAT2.out.alloc (.cells #[.int .i64 2, .slice ak nk ck, .int .i64 0, .string ⟨#[]⟩, .slice none 0 0, .slice none 0 0] 45)).alloc (.cells #[.int .i64 2, .slice ak nk ck, .int .i64 0, .string ⟨#[]⟩, .slice none 0 0, .slice none 0 0] 45))
           have HE6 : Hid (Below w.heap.size w ((w2.alloc (.cells #[.int .i64 2, .slice ak nk ck, .int .i64 0, .string ⟨#[]⟩, .slice none 0 0, .slice none 0 0] 45)).alloc (.cells #[.int .i64 2, .slice ak nk ck, .int .i64 0, .string ⟨#[]⟩, .slice none 0 0, .slice none 0 0] 45))) := (HBW2.out.alloc (by omega) _).alloc (by simp; omega) _
           have HX6 : Hid (ExF (fun g => wr.heap.size ≤ g) ((w2.alloc (.cells #[.int .i64 2, .slice ak nk ck, .int .i64 0, .string ⟨#[]⟩, .slice none 0 0, .slice none 0 0] 45)).alloc (.cells #[.int .i64 2, .slice ak nk ck, .int .i64 0, .string ⟨#[]⟩, .slice none 0 0, .slice none 0 0] 45)) 43 ⟨2, KS, .mk 0 [] [] []⟩ [.int .i64 2, .slice ak nk ck, .int .i64 0, .string ⟨#[]⟩, .slice none 0 0, .slice none 0 0]) :=
             ⟨_, _, rfl, Row.move HOUT.out (fun g t cs h1 h2 => ⟨h1, (h2.alloc _).alloc _⟩), NodeIs.mk' (v := .mk 0 [] [] []) (StrRow.nil _ _) ⟨rfl, .inl ⟨rfl, rfl⟩⟩ (items_nil.2 rfl)⟩
           have HOWN6 : Hid (((w2.alloc (.cells #[.int .i64 2, .slice ak nk ck, .int .i64 0, .string ⟨#[]⟩, .slice none 0 0, .slice none 0 0] 45)).alloc (.cells #[.int .i64 2, .slice ak nk ck, .int .i64 0, .string ⟨#[]⟩, .slice none 0 0, .slice none 0 0] 45)).ownsRow w.heap.size 45 6 (.slice ia inn ic) dn.length cs') := own_keep HOWN.out (fun g cs h => HPRES6.out g 45 cs (by rintro rfl; exact Blk.ne_ h HAT.out (by decide) rfl) h)
           have HNW : Hid (∀ j u, ([.int .i64 2, .slice ak nk ck, .int .i64 0, .string ⟨#[]⟩, .slice none 0 0, .slice none 0 0] : List Value)[j]? = some u → ((w2.alloc (.cells #[.int .i64 2, .slice ak nk ck, .int .i64 0, .string ⟨#[]⟩, .slice none 0 0, .slice none 0 0] 45)).alloc (.cells #[.int .i64 2, .slice ak nk ck, .int .i64 0, .string ⟨#[]⟩, .slice none 0 0, .slice none 0 0] 45)).cell? ((⟨w2.heap.size + 1, 0, none⟩ : Addr).add j) = some u) := by
             have h := Blk.new (w2.alloc (.cells #[.int .i64 2, .slice ak nk ck, .int .i64 0, .string ⟨#[]⟩, .slice none 0 0, .slice none 0 0] 45)) 45 #[.int .i64 2, .slice ak nk ck, .int .i64 0, .string ⟨#[]⟩, .slice none 0 0, .slice none 0 0]
             rw [hsz2] at h
             exact Blk.add (l := [.int .i64 2, .slice ak nk ck, .int .i64 0, .string ⟨#[]⟩, .slice none 0 0, .slice none 0 0]) h
           have HSZ6 : Hid (((w2.alloc (.cells #[.int .i64 2, .slice ak nk ck, .int .i64 0, .string ⟨#[]⟩, .slice none 0 0, .slice none 0 0] 45)).alloc (.cells #[.int .i64 2, .slice ak nk ck, .int .i64 0, .string ⟨#[]⟩, .slice none 0 0, .slice none 0 0] 45)).heap.size = w2.heap.size + 1 + 1) := by show _ = _; simp
           have HOK : Hid (ExOk ⟨2, KS, .mk 0 [] [] []⟩) := ⟨HKK.out, .inr (by simp), by have := wtB_ge 3; unfold wt wts; simp only [List.length_nil]; omega⟩
           have hA2 : a + 1 ≤ a + 50 := by omega
           clear hsz2
           go_wp2_with (first
             | (at_builtin; refine wpList_append_lies _ rfl (.tmp 35) (.tmp 37) 32 rfl w.heap.size 45 i0 _ 6 104 Try.underlying32 HI0.out hz0 hz1 hz2 rfl (by decide) (.slice ia inn ic) dn.length cs' (by rfl) HOWN6.out ⟨(w2.heap.size + 1), 0, none⟩ 1 1 [.int .i64 2, .slice ak nk ck, .int .i64 0, .string ⟨#[]⟩, .slice none 0 0, .slice none 0 0] (by rfl) rfl HNW.out (one6 _ _ _ _ _ _ _ _ _ _ _ _) (by decide) (by simp only [maxLen]; omega) (by omega) HE6.out.size ((w2.heap.size + 1) + 1) HSZ6.out ?_
                intro g7 c7 w7 hown7 hgrow7 hlies7 hlt7
                have HOWN7 := Lib.hid hown7
                have HGROW7 := Lib.hid hgrow7
                have HLIES7 := Lib.hid hlies7
                clear hown7 hgrow7 hlies7))
           go_roundg g'
           case measure => simp
           case rel =>
             exact do_snoc (gk := g' + 1) hkg (by omega) hdk hak hA2 HOWN.out HITS.out HPP.out HBW.out hs1 hown1 HX6.out HOK.out (by have := HSZ6.out; omega) HPRES6.out HE6.out HAT.out HAT6.out HOWN7.out HGROW7.out (HLIES7.out.imp_right fun h => by rw [HSZ6.out]; exact h) (by go_num)
         · have h1' : ((N : Int) % 5 == 1) = false := by simpa using h1
           go_wp2_with fail
           refine (keys_int _ (by omega) (by omega) _).mono ?_
           rintro e w2 ⟨kv, kws, rfl, hout, hkne, hkl, hkA, hb2⟩
           obtain ⟨ak, nk, ck, rfl⟩ := own_slice hout
           have hs2 : wr.heap.size ≤ w2.heap.size := by have := hb2.size; simpa using this
           have hkn : nk = (kws.map Wd).length := by
             have h := (StrRow.of_out (ks := kws.map Wd) (P := fun _ => True) (by rw [wdStr_map]; exact hout) fun _ _ => trivial).slice
             obtain ⟨_, _, e, _⟩ := h
             injection e
           have HOUT : Hid (StrRow (fun g => wr.heap.size ≤ g) w2 (.slice ak nk ck) (kws.map Wd)) := StrRow.of_out (by rw [wdStr_map]; exact hout) fun g h => by simpa using h
           have HKK : Hid (∃ kws' : List (List Nat), kws' ≠ [] ∧ kws'.length ≤ 3 ∧ (∀ k ∈ kws', k.length ≤ 6 ∧ ∀ r ∈ k, Alpha r) ∧ kws.map Wd = kws'.map Wd) := ⟨kws, hkne, hkl, hkA, rfl⟩
           have HPRES2 : Hid (∀ k t cs, k ≠ w.heap.size + 1 → Blk wr k t cs → Blk w2 k t cs) := fun k t cs h1 h2 => (h2.far (p := ⟨w.heap.size + 1, 0, none⟩) h1 _).below hb2 (by have := h2.lt; simpa using this)
           have HAT2 : Hid (Blk w2 (w.heap.size + 1) 3 #[.int .i64 ((a + 1 : Nat) : Int)]) := (HAT.out.set_ 0 _).below hb2 (by simpa using hs1)
           have HBW2 : Hid (Below w.heap.size w w2) := (HBW.out.setCell (p := ⟨w.heap.size + 1, 0, none⟩) (by show w.heap.size ≤ w.heap.size + 1; omega) _).trans (hb2.mono (by simp; omega))
           have HBB : Hid (Below (w.heap.size + 1) wr w2) := ((Below.refl _ wr).setCell (p := ⟨w.heap.size + 1, 0, none⟩) (Nat.le_refl _) _).trans (hb2.mono (by simp; omega))
           clear hout hkne hkl hkA hb2 hkn
           generalize kws.map Wd = KS at *
           go_wp2_with fail
           have HC : Hid (Calls Try.prog 24 #[.slice (some ⟨b, off, none⟩) n c, .pointer (some ⟨w.heap.size + 1, 0, none⟩), .int .i64 3] (w2.alloc (.cells #[.int .i64 0, .slice ak nk ck, .int .i64 0, .string ⟨#[]⟩, .slice none 0 0, .slice none 0 0] 45)) (ValIs 3 (w.heap.size + 1) (a + 1) (w2.alloc (.cells #[.int .i64 0, .slice ak nk ck, .int .i64 0, .string ⟨#[]⟩, .slice none 0 0, .slice none 0 0] 45)))) :=
             valOf_all 3 (by omega) _ _ (a + 1) n _ (HUR.out.keep (HBB.out.alloc (by omega) _)) hn (HAT2.out.alloc _) (by show a + 1 + 40 ≤ 1000000; omega)
           refine HC.out.mono ?_
           rintro e w5 ⟨v, a5, c5, cs5, a2, rfl, hvk, hrow5, hits5, hvo, hvw, hat5, hle1, hle2, hsf5⟩
           have hle3 : a2 ≤ a + 1 + 40 := hle2
           have hs5 : w2.heap.size + 1 ≤ w5.heap.size := by have := hsf5.1.size; simpa using this
           have hEB : Blk w5 w2.heap.size 45 #[.int .i64 0, .slice ak nk ck, .int .i64 0, .string ⟨#[]⟩, .slice none 0 0, .slice none 0 0] := hsf5.keep (Blk.new w2 45 _) (by omega)
           have d0 := hEB.cell 0
           have d1 := hEB.cell 1
           have d2 := hEB.cell 2
           have d3 := hEB.cell 3
           have d4 := hEB.cell 4
           have d5 := hEB.cell 5
           simp at d0 d1 d2 d3 d4 d5
           have f2 := hEB.frozen 2
           have f3 := hEB.frozen 3
           have f4 := hEB.frozen 4
           have f5 := hEB.frozen 5
           have hel := hEB.lt
           have HFAR : Hid (∀ g t cs, g ≠ w2.heap.size → Blk w5 g t cs → Blk (((((w5.setCell ⟨w2.heap.size, 2, none⟩ (.int .i64 v.kind)).setCell ⟨w2.heap.size, 3, none⟩ (.string ⟨v.text.toArray⟩)).setCell ⟨w2.heap.size, 4, none⟩ (.slice a5 v.items.length c5)).setCell ⟨w2.heap.size, 5, none⟩ (.slice none 0 0)).alloc (.cells #[.int .i64 0, .slice ak nk ck, .int .i64 v.kind, .string ⟨v.text.toArray⟩, .slice a5 v.items.length c5, .slice none 0 0] 45)) g t cs) := fun g t cs h1 h2 => ((((h2.far (p := ⟨w2.heap.size, 2, none⟩) h1 _).far (p := ⟨w2.heap.size, 3, none⟩) h1 _).far (p := ⟨w2.heap.size, 4, none⟩) h1 _).far (p := ⟨w2.heap.size, 5, none⟩) h1 _).alloc _
           have HPRES6 : Hid (∀ g t cs, g ≠ w.heap.size + 1 → Blk wr g t cs → Blk (((((w5.setCell ⟨w2.heap.size, 2, none⟩ (.int .i64 v.kind)).setCell ⟨w2.heap.size, 3, none⟩ (.string ⟨v.text.toArray⟩)).setCell ⟨w2.heap.size, 4, none⟩ (.slice a5 v.items.length c5)).setCell ⟨w2.heap.size, 5, none⟩ (.slice none 0 0)).alloc (.cells #[.int .i64 0, .slice ak nk ck, .int .i64 v.kind, .string ⟨v.text.toArray⟩, .slice a5 v.items.length c5, .slice none 0 0] 45)) g t cs) := fun g t cs h1 h2 => by
             have hl := h2.lt
             exact HFAR.out g t cs (by omega) (hsf5.keep ((HPRES2.out g t cs h1 h2).alloc _) h1)
           have HAT6 : Hid (Blk (((((w5.setCell ⟨w2.heap.size, 2, none⟩ (.int .i64 v.kind)).setCell ⟨w2.heap.size, 3, none⟩ (.string ⟨v.text.toArray⟩)).setCell ⟨w2.heap.size, 4, none⟩ (.slice a5 v.items.length c5)).setCell ⟨w2.heap.size, 5, none⟩ (.slice none 0 0)).alloc (.cells #[.int .i64 0, .slice ak nk ck, .int .i64 v.kind, .string ⟨v.text.toArray⟩, .slice a5 v.items.length c5, .slice none 0 0] 45)) (w.heap.size + 1) 3 #[.int .i64 a2]) := HFAR.out _ _ _ (by omega) hat5
           have HE6 : Hid (Below w.heap.size w (((((w5.setCell ⟨w2.heap.size, 2, none⟩ (.int .i64 v.kind)).setCell ⟨w2.heap.size, 3, none⟩ (.string ⟨v.text.toArray⟩)).setCell ⟨w2.heap.size, 4, none⟩ (.slice a5 v.items.length c5)).setCell ⟨w2.heap.size, 5, none⟩ (.slice none 0 0)).alloc (.cells #[.int .i64 0, .slice ak nk ck, .int .i64 v.kind, .string ⟨v.text.toArray⟩, .slice a5 v.items.length c5, .slice none 0 0] 45))) := by
             have h0 : w.heap.size ≤ w2.heap.size := by omega
             have h1 := (HBW2.out.alloc h0 (.cells #[.int .i64 0, .slice ak nk ck, .int .i64 0, .string ⟨#[]⟩, .slice none 0 0, .slice none 0 0] 45)).trans (hsf5.1.mono (Nat.le_succ _))
             exact ((((h1.setCell (p := ⟨w2.heap.size, 2, none⟩) h0 _).setCell (p := ⟨w2.heap.size, 3, none⟩) h0 _).setCell (p := ⟨w2.heap.size, 4, none⟩) h0 _).setCell (p := ⟨w2.heap.size, 5, none⟩) h0 _).alloc (by simp; omega) _
           have HX6 : Hid (ExF (fun g => wr.heap.size ≤ g) (((((w5.setCell ⟨w2.heap.size, 2, none⟩ (.int .i64 v.kind)).setCell ⟨w2.heap.size, 3, none⟩ (.string ⟨v.text.toArray⟩)).setCell ⟨w2.heap.size, 4, none⟩ (.slice a5 v.items.length c5)).setCell ⟨w2.heap.size, 5, none⟩ (.slice none 0 0)).alloc (.cells #[.int .i64 0, .slice ak nk ck, .int .i64 v.kind, .string ⟨v.text.toArray⟩, .slice a5 v.items.length c5, .slice none 0 0] 45)) 43 ⟨0, KS, v⟩ [.int .i64 0, .slice ak nk ck, .int .i64 v.kind, .string ⟨v.text.toArray⟩, .slice a5 v.items.length c5, .slice none 0 0]) := by
             have hm : ∀ g t cs, w2.heap.size + 1 ≤ g → Blk w5 g t cs → wr.heap.size ≤ g ∧ Blk (((((w5.setCell ⟨w2.heap.size, 2, none⟩ (.int .i64 v.kind)).setCell ⟨w2.heap.size, 3, none⟩ (.string ⟨v.text.toArray⟩)).setCell ⟨w2.heap.size, 4, none⟩ (.slice a5 v.items.length c5)).setCell ⟨w2.heap.size, 5, none⟩ (.slice none 0 0)).alloc (.cells #[.int .i64 0, .slice ak nk ck, .int .i64 v.kind, .string ⟨v.text.toArray⟩, .slice a5 v.items.length c5, .slice none 0 0] 45)) g t cs := fun g t cs h1 h2 => ⟨by omega, HFAR.out g t cs (by omega) h2⟩
             refine ⟨_, _, rfl, Row.move HOUT.out (fun g t cs h1 h2 => ⟨h1, HFAR.out g t cs (by have := h2.lt; omega) (hsf5.keep (h2.alloc _) (by omega))⟩), ?_⟩
             refine NodeIs.move (P := fun g => (w2.alloc (.cells #[.int .i64 0, .slice ak nk ck, .int .i64 0, .string ⟨#[]⟩, .slice none 0 0, .slice none 0 0] 45)).heap.size ≤ g) (w := w5) ?_ v (NodeIs.mk' (by rw [hvk]; exact StrRow.nil _ _) hrow5 hits5)
             intro g t cs h1 h2
             rw [size_alloc'] at h1
             exact hm g t cs h1 h2
           have HOWN6 : Hid ((((((w5.setCell ⟨w2.heap.size, 2, none⟩ (.int .i64 v.kind)).setCell ⟨w2.heap.size, 3, none⟩ (.string ⟨v.text.toArray⟩)).setCell ⟨w2.heap.size, 4, none⟩ (.slice a5 v.items.length c5)).setCell ⟨w2.heap.size, 5, none⟩ (.slice none 0 0)).alloc (.cells #[.int .i64 0, .slice ak nk ck, .int .i64 v.kind, .string ⟨v.text.toArray⟩, .slice a5 v.items.length c5, .slice none 0 0] 45)).ownsRow w.heap.size 45 6 (.slice ia inn ic) dn.length cs') := own_keep HOWN.out (fun g cs h => HPRES6.out g 45 cs (by rintro rfl; exact Blk.ne_ h HAT.out (by decide) rfl) h)
           have HNW : Hid (∀ j u, ([.int .i64 0, .slice ak nk ck, .int .i64 v.kind, .string ⟨v.text.toArray⟩, .slice a5 v.items.length c5, .slice none 0 0] : List Value)[j]? = some u → (((((w5.setCell ⟨w2.heap.size, 2, none⟩ (.int .i64 v.kind)).setCell ⟨w2.heap.size, 3, none⟩ (.string ⟨v.text.toArray⟩)).setCell ⟨w2.heap.size, 4, none⟩ (.slice a5 v.items.length c5)).setCell ⟨w2.heap.size, 5, none⟩ (.slice none 0 0)).alloc (.cells #[.int .i64 0, .slice ak nk ck, .int .i64 v.kind, .string ⟨v.text.toArray⟩, .slice a5 v.items.length c5, .slice none 0 0] 45)).cell? ((⟨w5.heap.size, 0, none⟩ : Addr).add j) = some u) := by
             have h := Blk.new ((((w5.setCell ⟨w2.heap.size, 2, none⟩ (.int .i64 v.kind)).setCell ⟨w2.heap.size, 3, none⟩ (.string ⟨v.text.toArray⟩)).setCell ⟨w2.heap.size, 4, none⟩ (.slice a5 v.items.length c5)).setCell ⟨w2.heap.size, 5, none⟩ (.slice none 0 0)) 45 #[.int .i64 0, .slice ak nk ck, .int .i64 v.kind, .string ⟨v.text.toArray⟩, .slice a5 v.items.length c5, .slice none 0 0]
             rw [show ((((w5.setCell ⟨w2.heap.size, 2, none⟩ (.int .i64 v.kind)).setCell ⟨w2.heap.size, 3, none⟩ (.string ⟨v.text.toArray⟩)).setCell ⟨w2.heap.size, 4, none⟩ (.slice a5 v.items.length c5)).setCell ⟨w2.heap.size, 5, none⟩ (.slice none 0 0)).heap.size = w5.heap.size from by simp] at h
             exact Blk.add (l := [.int .i64 0, .slice ak nk ck, .int .i64 v.kind, .string ⟨v.text.toArray⟩, .slice a5 v.items.length c5, .slice none 0 0]) h
           have HSZ6 : Hid ((((((w5.setCell ⟨w2.heap.size, 2, none⟩ (.int .i64 v.kind)).setCell ⟨w2.heap.size, 3, none⟩ (.string ⟨v.text.toArray⟩)).setCell ⟨w2.heap.size, 4, none⟩ (.slice a5 v.items.length c5)).setCell ⟨w2.heap.size, 5, none⟩ (.slice none 0 0)).alloc (.cells #[.int .i64 0, .slice ak nk ck, .int .i64 v.kind, .string ⟨v.text.toArray⟩, .slice a5 v.items.length c5, .slice none 0 0] 45)).heap.size = w5.heap.size + 1) := by show _ = _; simp
           have HOK : Hid (ExOk ⟨0, KS, v⟩) := ⟨HKK.out, .inl ⟨rfl, hvk, hvo, hvw⟩, hvw⟩
           have hA2 : a2 ≤ a + 50 := by omega
           have hs25 : wr.heap.size ≤ w5.heap.size + 1 := by omega
           clear hrow5 hits5 hvo hvw hat5 hle1 hle2 hle3 hsf5 hEB HFAR hvk
           go_wp2_with (first
             | (at_builtin; refine wpList_append_lies _ rfl (.tmp 35) (.tmp 37) 32 rfl w.heap.size 45 i0 _ 6 104 Try.underlying32 HI0.out hz0 hz1 hz2 rfl (by decide) (.slice ia inn ic) dn.length cs' (by rfl) HOWN6.out ⟨(w5.heap.size), 0, none⟩ 1 1 [.int .i64 0, .slice ak nk ck, .int .i64 v.kind, .string ⟨v.text.toArray⟩, .slice a5 v.items.length c5, .slice none 0 0] (by rfl) rfl HNW.out (one6 _ _ _ _ _ _ _ _ _ _ _ _) (by decide) (by simp only [maxLen]; omega) (by omega) HE6.out.size ((w5.heap.size) + 1) HSZ6.out ?_
                intro g7 c7 w7 hown7 hgrow7 hlies7 hlt7
                have HOWN7 := Lib.hid hown7
                have HGROW7 := Lib.hid hgrow7
                have HLIES7 := Lib.hid hlies7
                clear hown7 hgrow7 hlies7))
           go_roundg g'
           case measure => simp
           case rel =>
             exact do_snoc (gk := g' + 1) hkg (by omega) hdk hak hA2 HOWN.out HITS.out HPP.out HBW.out hs1 hown1 HX6.out HOK.out (by have := HSZ6.out; omega) HPRES6.out HE6.out HAT.out HAT6.out HOWN7.out HGROW7.out (HLIES7.out.imp_right fun h => by rw [HSZ6.out]; exact h) (by go_num)
     · have hlt' : (n : Int) ≤ a := by omega
       go_wp2_with fail
       go_ret
       exact HFIN.out
end Go.Proofs.Ytnlkbbpmpgdmiaa
namespace Go.Proofs.Ytnlkbbpmpgdmiaa
open Go.RowKit
set_option linter.unusedVariables false
set_option linter.unusedSimpArgs false
def ValC (sb : Nat) (C : Value) (cs : List UInt8) (d : Nat) (x : N) : Prop := ∀ (w : World) (a : Nat) (cells : List Value), Sty w sb C cs a → NodeIs (· ≠ sb) w 43 x cells → a + wt x ≤ 800000000 →
 Calls Try.prog 32 #[.pointer (some ⟨sb, 0, none⟩), .agg cells.toArray] w (Told (ValTold d x) sb C cs a (wt x) w)
def CmOk (cm : List UInt8) (dn : List N) : Prop := cm = [] ∨ (cm = [44] ∧ dn ≠ [])
theorem wts_len (l : List N) : 40 * l.length ≤ wts l := by
 induction l with
 | nil => simp
 | cons x l ih => simp only [List.length_cons, wts]; omega
def ArRel (kv : Value) (items : List N) (iv : Value) (cs' : List Value) (d : Nat) (sb : Nat) (C : Value) (cs : List UInt8) (a : Nat) (w : World) (g : Nat) (s5 s24 : Value) (wx : World) : Prop :=
 ∃ (dn rest : List N) (a1 : Nat) (L L5 : List UInt8), items = dn ++ rest ∧ g = rest.length ∧ s24 = .int .i64 dn.length ∧ s5 = .string ⟨L5.toArray⟩ ∧ L5 = 91 :: L ∧ Pre (ElTxt (ValTxt d)) 93 dn L ∧ L.length ≤ wts dn ∧ a ≤ a1 ∧ a1 ≤ a + wts dn ∧
   Sty wx sb C cs a1 ∧ SF sb w wx ∧ Blk wx w.heap.size 43 #[.int .i64 8, .string ⟨#[]⟩, iv, kv]
set_option maxRecDepth 100000 in
set_option maxHeartbeats 4000000 in
theorem value_arr {w : World} {sb : Nat} {C : Value} {cs : List UInt8} {a : Nat} (h : Sty w sb C cs a) {items : List N} {iv : Value} {cs' : List Value} (hr : Row (· ≠ sb) w 43 4 iv items.length cs') (hi : ItemsIs (· ≠ sb) w 43 items cs') (d : Nat)
   (IH : ∀ x ∈ items, x.keys = [] ∧ ValC sb C cs d x) (kv : Value) (ks : List (List UInt8)) (hw : wts items ≤ 1000000) (ha : a + wts items ≤ 800000000) :
   Calls Try.prog 32 #[.pointer (some ⟨sb, 0, none⟩), .agg #[.int .i64 8, .string ⟨#[]⟩, iv, kv]] w (Told (ValTold (d + 1) (.mk 8 [] items ks)) sb C cs a (wt (.mk 8 [] items ks)) w) := by
 have hl := h.1.lt
 obtain ⟨A, cap, rfl, hcap, hcm⟩ := hr.slice
 have HR := Lib.hid hr
 have HI := Lib.hid hi
 have HH := Lib.hid IH
 have HS : Hid (∀ o, Sty (w.alloc o) sb C cs a ∧ SF sb w (w.alloc o)) := fun o => ⟨h.alloc o, SF.alloc (Nat.le_of_lt hl) o⟩
 have hwl := wts_len items
 obtain ⟨n, hn⟩ : ∃ n, items.length = n := ⟨_, rfl⟩
 rw [hn] at hcap HR hwl ⊢
 have hnm : n ≤ 1000000 := by omega
 have HN := Lib.hid hn
 clear h hr hi IH hn
 go_enter Try.func32, Try.ntmps32
 go_wp2_with fail
 go_loopg [5, 24] n (fun g s5 s24 wx => Hid (ArRel kv items (.slice A n cap) cs' d sb C cs a w g s5 s24 wx))
 case atStart =>
   refine ⟨[], items, a, [], [91], rfl, HN.out.symm, rfl, rfl, rfl, Pre.start, Nat.zero_le _, Nat.le_refl _, Nat.le_add_right _ _, (HS.out _).1, (HS.out _).2, Blk.new w 43 _⟩
 case round =>
   obtain ⟨dn, rest, a1, L, L5, he, hgk, rfl, rfl, hL5, hpre, hLl, h1, h2, hst, hf, hbo⟩ := hrel.out
   clear hrel HS
   cases rest with
   | nil =>
     have hdn : dn = items := by rw [he]; simp
     have hnl : ¬ ((dn.length : Int) < n) := by have := HN.out; rw [← hdn] at this; omega
     have b2 : wr.cell? ⟨w.heap.size, 2, none⟩ = some (.slice A n cap) := by have := hbo.cell 2; simpa using this
     have hl2 := hbo.lt
     have HST := Lib.hid hst
     have HF := Lib.hid hf
     have HP := Lib.hid hpre
     have hdw : wts dn ≤ wts items := by rw [hdn]; exact Nat.le_refl _
     have hLm : L5.length ≤ 1000001 := by rw [hL5]; simp; omega
     have HL := Lib.hid (And.intro hL5 (And.intro hLl (And.intro h1 h2)))
     have ha1 : a1 ≤ 800000000 := by omega
     have HDN := Lib.hid hdn
     have HHK := Lib.hid hgk
     clear hst hf hpre he hL5 hLl h1 h2 hbo hdw hdn hgk
     by_cases hn0 : n = 0
     · subst hn0
       have HCM : Hid (CmOk [] dn ∧ L5 = 91 :: (L ++ [])) := ⟨.inl rfl, by rw [HL.out.1]; simp⟩
       go_wp2_with fail
       refine (gap_any end_any HST.out (by omega)).mono ?_
       rintro e w5 ⟨g5, a5, rfl, hg5, hb5, hc5, hst5, hf5⟩
       have hg5l := hg5.2
       have HG5 := Lib.hid hg5
       have HST5 := Lib.hid hst5
       have HF5 := Lib.hid (HF.out.trans hf5)
       clear hg5 hst5 hf5
       go_wp2_with fail
       go_ret
       refine ⟨L5 ++ (g5 ++ [93]), a5, by rw [show (⟨#[93]⟩ : ByteArray) = ⟨([93] : List UInt8).toArray⟩ from rfl, str2, str2, List.append_assoc]; rfl, ⟨.inr (.inl ⟨items, ks, L ++ ([] ++ (g5 ++ [93])), rfl, ?_, ?_⟩), ?_⟩, ?_, ?_, HST5.out, HF5.out⟩
       · rw [HCM.out.2]; simp
       · have h := HP.out.close HG5.out HCM.out.1
         rw [HDN.out] at h
         exact h
       · have h1 := HL.out.2.1
         rw [HDN.out] at h1
         rw [HCM.out.2]
         simp only [List.length_append, List.length_cons, List.length_nil]
         unfold wt
         simp only [List.length_nil]
         omega
       · have := HL.out.2.2.1; omega
       · have h1 := HL.out.2.2.2
         rw [HDN.out] at h1
         unfold wt
         omega
     · have hn1 : (0 : Int) < n := by omega
       have hdne : dn ≠ [] := by rintro rfl; have h1 := HN.out; have h2 := HDN.out; rw [← h2] at h1; simp at h1; omega
       go_wp2_with fail
       refine (pick_any HST.out (by omega) 4 (by omega) (by omega)).mono ?_
       rintro e w1 ⟨rfl, hst1, hf1⟩
       have HST1 := Lib.hid hst1
       have HF1 := Lib.hid (HF.out.trans hf1)
       clear hst1 hf1
       generalize pickV cs a1 4 = p at *
       by_cases hp : p = 0
       · subst hp
         obtain ⟨L6, hL6⟩ : ∃ L6, L5 ++ [44] = L6 := ⟨_, rfl⟩
         have hcat : (⟨L5.toArray⟩ : ByteArray) ++ ⟨#[44]⟩ = ⟨L6.toArray⟩ := by rw [← hL6, ← str2]
         have hL6m : L6.length ≤ 1000002 := by rw [← hL6]; simp; omega
         have HCM : Hid (CmOk [44] dn ∧ L6 = 91 :: (L ++ [44])) := ⟨.inr ⟨rfl, hdne⟩, by rw [← hL6, HL.out.1]; simp⟩
         clear hL6
         go_wp2_with fail
         refine (gap_any end_any HST1.out (by omega)).mono ?_
         rintro e w5 ⟨g5, a5, rfl, hg5, hb5, hc5, hst5, hf5⟩
         have hg5l := hg5.2
         have HG5 := Lib.hid hg5
         have HST5 := Lib.hid hst5
         have HF5 := Lib.hid (HF1.out.trans hf5)
         clear hg5 hst5 hf5
         go_wp2_with fail
         go_ret
         refine ⟨L6 ++ (g5 ++ [93]), a5, by rw [show (⟨#[93]⟩ : ByteArray) = ⟨([93] : List UInt8).toArray⟩ from rfl, str2, str2, List.append_assoc]; rfl, ⟨.inr (.inl ⟨items, ks, L ++ ([44] ++ (g5 ++ [93])), rfl, ?_, ?_⟩), ?_⟩, ?_, ?_, HST5.out, HF5.out⟩
         · rw [HCM.out.2]; simp
         · have h := HP.out.close HG5.out HCM.out.1
           rw [HDN.out] at h
           exact h
         · have h1 := HL.out.2.1
           rw [HDN.out] at h1
           rw [HCM.out.2]
           simp only [List.length_append, List.length_cons, List.length_nil]
           unfold wt
           simp only [List.length_nil]
           omega
         · have := HL.out.2.2.1; omega
         · have h1 := HL.out.2.2.2
           rw [HDN.out] at h1
           unfold wt
           omega
       · have fp : ((p : Int) == 0) = false := by simp; omega
         have fp' : ¬ ((p : Int) = 0) := by omega
         have HCM : Hid (CmOk [] dn ∧ L5 = 91 :: (L ++ [])) := ⟨.inl rfl, by rw [HL.out.1]; simp⟩
         go_wp2_with fail
         refine (gap_any end_any HST1.out (by omega)).mono ?_
         rintro e w5 ⟨g5, a5, rfl, hg5, hb5, hc5, hst5, hf5⟩
         have hg5l := hg5.2
         have HG5 := Lib.hid hg5
         have HST5 := Lib.hid hst5
         have HF5 := Lib.hid (HF1.out.trans hf5)
         clear hg5 hst5 hf5
         go_wp2_with fail
         go_ret
         refine ⟨L5 ++ (g5 ++ [93]), a5, by rw [show (⟨#[93]⟩ : ByteArray) = ⟨([93] : List UInt8).toArray⟩ from rfl, str2, str2, List.append_assoc]; rfl, ⟨.inr (.inl ⟨items, ks, L ++ ([] ++ (g5 ++ [93])), rfl, ?_, ?_⟩), ?_⟩, ?_, ?_, HST5.out, HF5.out⟩
         · rw [HCM.out.2]; simp
         · have h := HP.out.close HG5.out HCM.out.1
           rw [HDN.out] at h
           exact h
         · have h1 := HL.out.2.1
           rw [HDN.out] at h1
           rw [HCM.out.2]
           simp only [List.length_append, List.length_cons, List.length_nil]
           unfold wt
           simp only [List.length_nil]
           omega
         · have := HL.out.2.2.1; omega
         · have h1 := HL.out.2.2.2
           rw [HDN.out] at h1
           unfold wt
           omega
   | cons x rest =>
     have hnl : dn.length < n := by have := HN.out; rw [he] at this; simp at this; omega
     have hrow : Row (· ≠ sb) wr 43 4 (.slice A n cap) n cs' := Row.move HR.out fun g t c hg hb => ⟨hg, hf.keep hb hg⟩
     have hits : ItemsIs (· ≠ sb) wr 43 items cs' := ItemsIs.move (fun g t c hg hb => ⟨hg, hf.keep hb hg⟩) items HI.out
     rw [he] at hits
     obtain ⟨xc, hx, hxc⟩ := items_at hits
     obtain ⟨xi, xk, xcs, rfl, hsk, hri, _⟩ := hx.cells
     obtain ⟨A1, m1, rfl, _, _⟩ := Row.slice hsk
     obtain ⟨A2, m2, rfl, _, _⟩ := Row.slice hri
     generalize x.keys.length = k1 at *
     generalize x.items.length = k2 at *
     obtain ⟨g, cap', e1, _, _, hgs, hgl, hcl⟩ := Row.cells hrow (by omega)
     injection e1 with e1 _ e2
     subst e1
     subst e2
     obtain ⟨j, hj⟩ : ∃ j, dn.length = j := ⟨_, rfl⟩
     rw [hj] at hnl hxc ⊢
     have c0 : wr.cell? ⟨g, j * 4, none⟩ = some (.int .i64 x.kind) := by rw [hcl (j * 4) (by omega)]; exact hxc 0 (by omega)
     have c1 : wr.cell? ⟨g, j * 4 + 1, none⟩ = some (.string ⟨x.text.toArray⟩) := by rw [hcl (j * 4 + 1) (by omega)]; exact hxc 1 (by omega)
     have c2 : wr.cell? ⟨g, j * 4 + 2, none⟩ = some (.slice A2 k2 m2) := by rw [hcl (j * 4 + 2) (by omega)]; exact hxc 2 (by omega)
     have c3 : wr.cell? ⟨g, j * 4 + 3, none⟩ = some (.slice A1 k1 m1) := by rw [hcl (j * 4 + 3) (by omega)]; exact hxc 3 (by omega)
     have HJ := Lib.hid hj
     have HX := Lib.hid hx
     have hL5l : L5.length = 1 + L.length := by rw [hL5]; simp; omega
     have hwd : wts dn ≤ wts items := by rw [he, wts_append]; omega
     have hL5m : L5.length ≤ 1000001 := by omega
     have hLb : ¬ (9223372036854775807 < L5.length + 1) := by omega
     have HQ := Lib.hid (And.intro hL5 (And.intro he (And.intro hpre (And.intro hLl (And.intro h1 h2)))))
     have HST := Lib.hid hst
     have HF := Lib.hid hf
     have hnl' : (j : Int) < n := by omega
     have hj0 : (0 : Int) ≤ (j : Int) := by omega
     have HBO := Lib.hid hbo
     clear hj hst hf hbo hrow hits hxc hx hcl hpre hsk hri hL5
     by_cases h0 : j = 0
     · subst h0
       clear hL5l
       go_wp2_with fail
       have HL6 : Hid (L5 = 91 :: (L ++ sepr dn [])) := by
         have hd0 : dn = [] := List.eq_nil_of_length_eq_zero HJ.out
         show _ = _
         rw [HQ.out.1, hd0]
         simp [sepr]
       have hbx : Blk (wr.alloc (.cells #[.int .i64 x.kind, .string ⟨x.text.toArray⟩, .slice A2 k2 m2, .slice A1 k1 m1] 43)) wr.heap.size 43 #[.int .i64 x.kind, .string ⟨x.text.toArray⟩, .slice A2 k2 m2, .slice A1 k1 m1] := Blk.new wr 43 _
       have hstx : Sty (wr.alloc (.cells #[.int .i64 x.kind, .string ⟨x.text.toArray⟩, .slice A2 k2 m2, .slice A1 k1 m1] 43)) sb C cs a1 := HST.out.alloc _
       have hsfx : SF sb w (wr.alloc (.cells #[.int .i64 x.kind, .string ⟨x.text.toArray⟩, .slice A2 k2 m2, .slice A1 k1 m1] 43)) := HF.out.trans (SF.alloc (Nat.le_of_lt HST.out.1.lt) _)
       have hsfr : SF sb wr (wr.alloc (.cells #[.int .i64 x.kind, .string ⟨x.text.toArray⟩, .slice A2 k2 m2, .slice A1 k1 m1] 43)) := SF.alloc (Nat.le_of_lt HST.out.1.lt) _
       have hwne : w.heap.size ≠ sb := by omega
       have hbne : wr.heap.size ≠ sb := by have := HST.out.1.lt; omega
       generalize wr.alloc (.cells #[.int .i64 x.kind, .string ⟨x.text.toArray⟩, .slice A2 k2 m2, .slice A1 k1 m1] 43) = wx at *
       generalize hbq : wr.heap.size = bx at *
       have z0 : wx.cell? ⟨bx, 0, none⟩ = some (.int .i64 x.kind) := by have := hbx.cell 0; simpa using this
       have z1 : wx.cell? ⟨bx, 1, none⟩ = some (.string ⟨x.text.toArray⟩) := by have := hbx.cell 1; simpa using this
       have z2 : wx.cell? ⟨bx, 2, none⟩ = some (.slice A2 k2 m2) := by have := hbx.cell 2; simpa using this
       have z3 : wx.cell? ⟨bx, 3, none⟩ = some (.slice A1 k1 m1) := by have := hbx.cell 3; simpa using this
       have HST0 : Hid (Sty wx.drew sb C cs a1) := hstx.drewN 1
       have HBX0 : Hid (Blk wx.drew bx 43 #[.int .i64 x.kind, .string ⟨x.text.toArray⟩, .slice A2 k2 m2, .slice A1 k1 m1]) := hbx
       have HSF0 : Hid (SF sb w wx.drew) := hsfx.trans (SF.drewN sb wx 1)
       have HXW : Hid (∀ w', SF sb wr w' → NodeIs (· ≠ sb) w' 43 x [.int .i64 x.kind, .string ⟨x.text.toArray⟩, .slice A2 k2 m2, .slice A1 k1 m1]) := fun w' h => NodeIs.move (fun g t c h1 h2 => ⟨h1, h.keep h2 h1⟩) x HX.out
       have HSFR : Hid (SF sb wr wx.drew) := hsfr.trans (SF.drewN sb wx 1)
       have hxm : wt x + kwb x.keys + 40 + wts dn ≤ wts items := by have he := HQ.out.2.1; rw [he, wts_append]; simp only [wts]; omega
       have ha1 : a1 ≤ a + wts dn := HQ.out.2.2.2.2.2
       have HVC := Lib.hid (HH.out x (by rw [HQ.out.2.1]; simp))
       clear hbx hstx hsfx hsfr hbq c0 c1 c2 c3
       go_region_held3 (fun w' => w'.cell? ⟨bx, 0, none⟩ = some (.int .i64 x.kind) ∧ w'.cell? ⟨bx, 1, none⟩ = some (.string ⟨x.text.toArray⟩) ∧ w'.cell? ⟨bx, 2, none⟩ = some (.slice A2 k2 m2) ∧ w'.cell? ⟨bx, 3, none⟩ = some (.slice A1 k1 m1))
         (first
           | assumption
           | (refine ⟨?_, ?_, ?_, ?_⟩ <;> assumption)
           | go_keep)
         (first
           | (go_at_call 32
              refine (HVC.out.2 _ a2 _ HST2.out (HXW.out _ HSFR2.out) (by omega)).mono ?_
              rintro e w3 ⟨t, a3, rfl, ht, h5, h6, hst3, hf3⟩
              have hbx3 := hf3.keep HBX2.out hbne
              have x0 : w3.cell? ⟨bx, 0, none⟩ = some (.int .i64 x.kind) := by have := hbx3.cell 0; simpa using this
              have x1 : w3.cell? ⟨bx, 1, none⟩ = some (.string ⟨x.text.toArray⟩) := by have := hbx3.cell 1; simpa using this
              have x2 : w3.cell? ⟨bx, 2, none⟩ = some (.slice A2 k2 m2) := by have := hbx3.cell 2; simpa using this
              have x3 : w3.cell? ⟨bx, 3, none⟩ = some (.slice A1 k1 m1) := by have := hbx3.cell 3; simpa using this
              have htl := ht.2
              have hsum1 : ¬ (9223372036854775807 < g1.length + t.length) := by omega
              have HT := Lib.hid ht.1
              have HBX3 := Lib.hid hbx3
              have HST3 := Lib.hid hst3
              have HSF3 := Lib.hid (HSF2.out.trans hf3)
              have HSFR3 := Lib.hid (HSFR2.out.trans hf3)
              clear ht hbx3 hst3 hf3)
           | (go_at_call 55
              refine (gap_any end_any HST3.out (by omega)).mono ?_
              rintro e w4 ⟨g2, a4, rfl, hg2, h7, h8, hst4, hf4⟩
              have hbx4 := hf4.keep HBX3.out hbne
              have v0 : w4.cell? ⟨bx, 0, none⟩ = some (.int .i64 x.kind) := by have := hbx4.cell 0; simpa using this
              have v1 : w4.cell? ⟨bx, 1, none⟩ = some (.string ⟨x.text.toArray⟩) := by have := hbx4.cell 1; simpa using this
              have v2 : w4.cell? ⟨bx, 2, none⟩ = some (.slice A2 k2 m2) := by have := hbx4.cell 2; simpa using this
              have v3 : w4.cell? ⟨bx, 3, none⟩ = some (.slice A1 k1 m1) := by have := hbx4.cell 3; simpa using this
              have hg2l := hg2.2
              have hsum2 : ¬ (9223372036854775807 < g1.length + t.length + g2.length) := by omega
              have hsum3 : ¬ (9223372036854775807 < L5.length + (g1.length + t.length + g2.length)) := by omega
              have HG2 := Lib.hid hg2
              have HST4 := Lib.hid hst4
              have HSF4 := Lib.hid (HSF3.out.trans hf4)
              have HSFR4 := Lib.hid (HSFR3.out.trans hf4)
              clear hg2 hbx4 hst4 hf4)
           | (go_at_call 55
              refine (gap_any end_any HST0.out (by omega)).mono ?_
              rintro e w2 ⟨g1, a2, rfl, hg1, h3, h4, hst2, hf2⟩
              have hbx2 := hf2.keep HBX0.out hbne
              have y0 : w2.cell? ⟨bx, 0, none⟩ = some (.int .i64 x.kind) := by have := hbx2.cell 0; simpa using this
              have y1 : w2.cell? ⟨bx, 1, none⟩ = some (.string ⟨x.text.toArray⟩) := by have := hbx2.cell 1; simpa using this
              have y2 : w2.cell? ⟨bx, 2, none⟩ = some (.slice A2 k2 m2) := by have := hbx2.cell 2; simpa using this
              have y3 : w2.cell? ⟨bx, 3, none⟩ = some (.slice A1 k1 m1) := by have := hbx2.cell 3; simpa using this
              have hg1l := hg1.2
              have HG1 := Lib.hid hg1
              have HBX2 := Lib.hid hbx2
              have HST2 := Lib.hid hst2
              have HSF2 := Lib.hid (HSF0.out.trans hf2)
              have HSFR2 := Lib.hid (HSFR.out.trans hf2)
              clear hg1 hbx2 hst2 hf2))
       all_goals
         go_wp2_with fail
         go_roundg rest.length
         case measure => (rw [hgk]; simp)
         case rel =>
           obtain ⟨hL5, he, hpre, hLl, h1, h2⟩ := HQ.out
           have hjj := HJ.out
           refine ⟨dn ++ [x], rest, a4, L ++ (sepr dn [] ++ (g1 ++ (t ++ g2))), _, by rw [he]; simp, rfl, by simp [hjj], (by rw [str2, str2, str2]), ?_, ?_, ?_, by omega, ?_, HST4.out, HSF4.out, HSFR4.out.keep HBO.out hwne⟩
           · rw [HL6.out]
             simp
           · exact hpre.item HG1.out ⟨HVC.out.1, HT.out⟩ HG2.out
           · have hsl : (sepr dn []).length ≤ 1 := by unfold sepr; split <;> simp
             rw [wts_append]
             simp only [List.length_append, wts]
             omega
           · rw [wts_append]
             simp only [wts]
             omega
     · have fj : (0 : Int) < (j : Int) := by omega
       obtain ⟨L6, hL6⟩ : ∃ L6, L5 ++ [44] = L6 := ⟨_, rfl⟩
       have hcat : (⟨L5.toArray⟩ : ByteArray) ++ ⟨#[44]⟩ = ⟨L6.toArray⟩ := by rw [← hL6, ← str2]
       have hL6l : L6.length = L5.length + 1 := by rw [← hL6]; simp
       have HL6 : Hid (L6 = 91 :: (L ++ sepr dn [])) := by
         have hd0 : dn ≠ [] := by rintro rfl; have := HJ.out; simp at this; omega
         show _ = _
         rw [← hL6, HQ.out.1]
         simp [sepr, hd0]
       clear hL6
       have hL6m : L6.length ≤ 1000002 := by omega
       clear hL6l hL5l
       go_wp2_with fail
       have hbx : Blk (wr.alloc (.cells #[.int .i64 x.kind, .string ⟨x.text.toArray⟩, .slice A2 k2 m2, .slice A1 k1 m1] 43)) wr.heap.size 43 #[.int .i64 x.kind, .string ⟨x.text.toArray⟩, .slice A2 k2 m2, .slice A1 k1 m1] := Blk.new wr 43 _
       have hstx : Sty (wr.alloc (.cells #[.int .i64 x.kind, .string ⟨x.text.toArray⟩, .slice A2 k2 m2, .slice A1 k1 m1] 43)) sb C cs a1 := HST.out.alloc _
       have hsfx : SF sb w (wr.alloc (.cells #[.int .i64 x.kind, .string ⟨x.text.toArray⟩, .slice A2 k2 m2, .slice A1 k1 m1] 43)) := HF.out.trans (SF.alloc (Nat.le_of_lt HST.out.1.lt) _)
       have hsfr : SF sb wr (wr.alloc (.cells #[.int .i64 x.kind, .string ⟨x.text.toArray⟩, .slice A2 k2 m2, .slice A1 k1 m1] 43)) := SF.alloc (Nat.le_of_lt HST.out.1.lt) _
       have hwne : w.heap.size ≠ sb := by omega
       have hbne : wr.heap.size ≠ sb := by have := HST.out.1.lt; omega
       generalize wr.alloc (.cells #[.int .i64 x.kind, .string ⟨x.text.toArray⟩, .slice A2 k2 m2, .slice A1 k1 m1] 43) = wx at *
       generalize hbq : wr.heap.size = bx at *
       have z0 : wx.cell? ⟨bx, 0, none⟩ = some (.int .i64 x.kind) := by have := hbx.cell 0; simpa using this
       have z1 : wx.cell? ⟨bx, 1, none⟩ = some (.string ⟨x.text.toArray⟩) := by have := hbx.cell 1; simpa using this
       have z2 : wx.cell? ⟨bx, 2, none⟩ = some (.slice A2 k2 m2) := by have := hbx.cell 2; simpa using this
       have z3 : wx.cell? ⟨bx, 3, none⟩ = some (.slice A1 k1 m1) := by have := hbx.cell 3; simpa using this
       have HST0 : Hid (Sty wx.drew sb C cs a1) := hstx.drewN 1
       have HBX0 : Hid (Blk wx.drew bx 43 #[.int .i64 x.kind, .string ⟨x.text.toArray⟩, .slice A2 k2 m2, .slice A1 k1 m1]) := hbx
       have HSF0 : Hid (SF sb w wx.drew) := hsfx.trans (SF.drewN sb wx 1)
       have HXW : Hid (∀ w', SF sb wr w' → NodeIs (· ≠ sb) w' 43 x [.int .i64 x.kind, .string ⟨x.text.toArray⟩, .slice A2 k2 m2, .slice A1 k1 m1]) := fun w' h => NodeIs.move (fun g t c h1 h2 => ⟨h1, h.keep h2 h1⟩) x HX.out
       have HSFR : Hid (SF sb wr wx.drew) := hsfr.trans (SF.drewN sb wx 1)
       have hxm : wt x + kwb x.keys + 40 + wts dn ≤ wts items := by have he := HQ.out.2.1; rw [he, wts_append]; simp only [wts]; omega
       have ha1 : a1 ≤ a + wts dn := HQ.out.2.2.2.2.2
       have HVC := Lib.hid (HH.out x (by rw [HQ.out.2.1]; simp))
       clear hbx hstx hsfx hsfr hbq c0 c1 c2 c3
       go_region_held3 (fun w' => w'.cell? ⟨bx, 0, none⟩ = some (.int .i64 x.kind) ∧ w'.cell? ⟨bx, 1, none⟩ = some (.string ⟨x.text.toArray⟩) ∧ w'.cell? ⟨bx, 2, none⟩ = some (.slice A2 k2 m2) ∧ w'.cell? ⟨bx, 3, none⟩ = some (.slice A1 k1 m1))
         (first
           | assumption
           | (refine ⟨?_, ?_, ?_, ?_⟩ <;> assumption)
           | go_keep)
         (first
           | (go_at_call 32
              refine (HVC.out.2 _ a2 _ HST2.out (HXW.out _ HSFR2.out) (by omega)).mono ?_
              rintro e w3 ⟨t, a3, rfl, ht, h5, h6, hst3, hf3⟩
              have hbx3 := hf3.keep HBX2.out hbne
              have x0 : w3.cell? ⟨bx, 0, none⟩ = some (.int .i64 x.kind) := by have := hbx3.cell 0; simpa using this
              have x1 : w3.cell? ⟨bx, 1, none⟩ = some (.string ⟨x.text.toArray⟩) := by have := hbx3.cell 1; simpa using this
              have x2 : w3.cell? ⟨bx, 2, none⟩ = some (.slice A2 k2 m2) := by have := hbx3.cell 2; simpa using this
              have x3 : w3.cell? ⟨bx, 3, none⟩ = some (.slice A1 k1 m1) := by have := hbx3.cell 3; simpa using this
              have htl := ht.2
              have hsum1 : ¬ (9223372036854775807 < g1.length + t.length) := by omega
              have HT := Lib.hid ht.1
              have HBX3 := Lib.hid hbx3
              have HST3 := Lib.hid hst3
              have HSF3 := Lib.hid (HSF2.out.trans hf3)
              have HSFR3 := Lib.hid (HSFR2.out.trans hf3)
              clear ht hbx3 hst3 hf3)
           | (go_at_call 55
              refine (gap_any end_any HST3.out (by omega)).mono ?_
              rintro e w4 ⟨g2, a4, rfl, hg2, h7, h8, hst4, hf4⟩
              have hbx4 := hf4.keep HBX3.out hbne
              have v0 : w4.cell? ⟨bx, 0, none⟩ = some (.int .i64 x.kind) := by have := hbx4.cell 0; simpa using this
              have v1 : w4.cell? ⟨bx, 1, none⟩ = some (.string ⟨x.text.toArray⟩) := by have := hbx4.cell 1; simpa using this
              have v2 : w4.cell? ⟨bx, 2, none⟩ = some (.slice A2 k2 m2) := by have := hbx4.cell 2; simpa using this
              have v3 : w4.cell? ⟨bx, 3, none⟩ = some (.slice A1 k1 m1) := by have := hbx4.cell 3; simpa using this
              have hg2l := hg2.2
              have hsum2 : ¬ (9223372036854775807 < g1.length + t.length + g2.length) := by omega
              have hsum3 : ¬ (9223372036854775807 < L6.length + (g1.length + t.length + g2.length)) := by omega
              have HG2 := Lib.hid hg2
              have HST4 := Lib.hid hst4
              have HSF4 := Lib.hid (HSF3.out.trans hf4)
              have HSFR4 := Lib.hid (HSFR3.out.trans hf4)
              clear hg2 hbx4 hst4 hf4)
           | (go_at_call 55
              refine (gap_any end_any HST0.out (by omega)).mono ?_
              rintro e w2 ⟨g1, a2, rfl, hg1, h3, h4, hst2, hf2⟩
              have hbx2 := hf2.keep HBX0.out hbne
              have y0 : w2.cell? ⟨bx, 0, none⟩ = some (.int .i64 x.kind) := by have := hbx2.cell 0; simpa using this
              have y1 : w2.cell? ⟨bx, 1, none⟩ = some (.string ⟨x.text.toArray⟩) := by have := hbx2.cell 1; simpa using this
              have y2 : w2.cell? ⟨bx, 2, none⟩ = some (.slice A2 k2 m2) := by have := hbx2.cell 2; simpa using this
              have y3 : w2.cell? ⟨bx, 3, none⟩ = some (.slice A1 k1 m1) := by have := hbx2.cell 3; simpa using this
              have hg1l := hg1.2
              have HG1 := Lib.hid hg1
              have HBX2 := Lib.hid hbx2
              have HST2 := Lib.hid hst2
              have HSF2 := Lib.hid (HSF0.out.trans hf2)
              have HSFR2 := Lib.hid (HSFR.out.trans hf2)
              clear hg1 hbx2 hst2 hf2))
       all_goals
         go_wp2_with fail
         go_roundg rest.length
         case measure => (rw [hgk]; simp)
         case rel =>
           obtain ⟨hL5, he, hpre, hLl, h1, h2⟩ := HQ.out
           have hjj := HJ.out
           refine ⟨dn ++ [x], rest, a4, L ++ (sepr dn [] ++ (g1 ++ (t ++ g2))), _, by rw [he]; simp, rfl, by simp [hjj], (by rw [str2, str2, str2]), ?_, ?_, ?_, by omega, ?_, HST4.out, HSF4.out, HSFR4.out.keep HBO.out hwne⟩
           · rw [HL6.out]
             simp
           · exact hpre.item HG1.out ⟨HVC.out.1, HT.out⟩ HG2.out
           · have hsl : (sepr dn []).length ≤ 1 := by unfold sepr; split <;> simp
             rw [wts_append]
             simp only [List.length_append, wts]
             omega
           · rw [wts_append]
             simp only [wts]
             omega
end Go.Proofs.Ytnlkbbpmpgdmiaa
