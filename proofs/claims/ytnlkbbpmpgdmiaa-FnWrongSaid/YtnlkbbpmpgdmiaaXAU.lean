/- The reference's writer: a value that is no list and no table; The laws' own documents: what valueOf tells; plain laws; The laws' own documents: valueOf; The laws' own documents: valueOf: lists and tables. -/
import Derived.Test.YtnlkbbpmpgdmiaaXAS
import Derived.Test.YtnlkbbpmpgdmiaaXAT
import Derived.Test.YtnlkbbpmpgdmiaaXAR
import Derived.Deep.CutRange
import Derived.Deep.RegionHeld3
namespace Go.Proofs.Ytnlkbbpmpgdmiaa
open Go.RowKit
set_option linter.unusedVariables false
set_option linter.unusedSimpArgs false
mutual
def wt : N → Nat
 | .mk kd t items ks => 40 + 16 * t.length + wts items
def wts : List N → Nat
 | [] => 0
 | x :: l => wt x + kwb x.keys + 40 + wts l
def kwb : List (List UInt8) → Nat
 | [] => 0
 | k :: l => 10 + 10 * k.length + kwb l
end
theorem wts_append (a b : List N) : wts (a ++ b) = wts a + wts b := by
 induction a with
 | nil => simp [wts]
 | cons x a ih => simp only [List.cons_append, wts, ih]; omega
theorem Wd.ge (rs : List Nat) : rs.length ≤ (Wd rs).length := by
 induction rs with
 | nil => simp
 | cons r rs ih =>
   have := encN_len r
   rw [Wd.cons]
   simp
   omega
def ValTold (d : Nat) (v : N) (s : List UInt8) : Prop := ValTxt d v s ∧ s.length ≤ wt v
set_option maxRecDepth 100000 in
set_option maxHeartbeats 4000000 in
theorem value_str {w : World} {sb : Nat} {C : Value} {cs : List UInt8} {a : Nat} (h : Sty w sb C cs a) {rs : List Nat} (hA : ∀ r ∈ rs, Alpha r) (hw : (Wd rs).length ≤ 1000000) (ha : a ≤ 900000000) (iv kv : Value) (ks : List (List UInt8)) (d : Nat) :
   Calls Try.prog 32 #[.pointer (some ⟨sb, 0, none⟩), .agg #[.int .i64 0, .string ⟨(Wd rs).toArray⟩, iv, kv]] w (Told (ValTold d (.mk 0 (Wd rs) [] ks)) sb C cs a (wt (.mk 0 (Wd rs) [] ks)) w) := by
 have hl := h.1.lt
 have hge := Wd.ge rs
 have HT : Hid (∀ o, Calls Try.prog 54 #[.pointer (some ⟨sb, 0, none⟩), .string ⟨(Wd rs).toArray⟩] (w.alloc o) (Told (TextOk rs) sb C cs a (1 + 5 * rs.length) (w.alloc o))) := fun o => text_any (h.alloc o) hA (by omega) (by omega)
 have HSF : Hid (∀ o, SF sb w (w.alloc o)) := fun o => SF.alloc (Nat.le_of_lt hl) o
 have HWT : Hid (1 + 5 * rs.length ≤ wt (.mk 0 (Wd rs) [] ks) ∧ 10 + 16 * rs.length ≤ wt (.mk 0 (Wd rs) [] ks)) := by
   show _ ∧ _
   unfold wt wts
   omega
 have HVT : Hid (∀ s, Scal 0 (Wd rs) s → ValTxt d (.mk 0 (Wd rs) [] ks) s) := by
   intro s hs
   cases d with
   | zero => exact ⟨0, _, _, rfl, hs⟩
   | succ d => exact .inl ⟨0, _, _, rfl, hs⟩
 clear h hge
 go_enter Try.func32, Try.ntmps32
 go_wp2_with fail
 refine (HT.out _).mono ?_
 rintro e w1 ⟨s, a', rfl, hs, h1, h2, hst, hf⟩
 have HF := Lib.hid ((HSF.out _).trans hf)
 have HST := Lib.hid hst
 have HS := Lib.hid hs
 clear hst hf hs
 go_wp2_with fail
 go_ret
 refine ⟨s, a', rfl, ⟨HVT.out s HS.out.1, by have := HS.out.2; have := HWT.out.2; omega⟩, h1, ?_, HST.out, HF.out⟩
 have := HWT.out.1
 omega
set_option maxRecDepth 100000 in
set_option maxHeartbeats 4000000 in
theorem value_scal {w : World} {sb : Nat} {C : Value} {cs : List UInt8} {a : Nat} (h : Sty w sb C cs a) {kd : Nat} {t : List UInt8} (h1 : 1 ≤ kd) (h7 : kd ≤ 7) (hs : Scal kd t t) (iv kv : Value) (ks : List (List UInt8)) (d : Nat) :
   Calls Try.prog 32 #[.pointer (some ⟨sb, 0, none⟩), .agg #[.int .i64 kd, .string ⟨t.toArray⟩, iv, kv]] w (Told (ValTold d (.mk kd t [] ks)) sb C cs a (wt (.mk kd t [] ks)) w) := by
 have hl := h.1.lt
 have HFIN : Hid (∀ o, Told (ValTold d (.mk kd t [] ks)) sb C cs a (wt (.mk kd t [] ks)) w (.returned (.string ⟨t.toArray⟩)) (w.alloc o)) := by
   intro o
   refine ⟨t, a, rfl, ⟨?_, ?_⟩, Nat.le_refl _, Nat.le_add_right _ _, h.alloc _, SF.alloc (Nat.le_of_lt hl) _⟩
   · cases d with
     | zero => exact ⟨kd, _, _, rfl, hs⟩
     | succ d => exact .inl ⟨kd, _, _, rfl, hs⟩
   · unfold wt
     omega
 have f0 : ((kd : Int) == 0) = false := by simp; omega
 have f8 : ((kd : Int) == 8) = false := by simp; omega
 have f9 : ((kd : Int) == 9) = false := by simp; omega
 have f0' : ¬ ((kd : Int) = 0) := by omega
 have f8' : ¬ ((kd : Int) = 8) := by omega
 have f9' : ¬ ((kd : Int) = 9) := by omega
 clear h hs h1 h7
 go_enter Try.func32, Try.ntmps32
 go_wp2_with fail
 go_ret
 exact HFIN.out _
end Go.Proofs.Ytnlkbbpmpgdmiaa
namespace Go.Proofs.Ytnlkbbpmpgdmiaa
open Go.RowKit
set_option linter.unusedVariables false
set_option linter.unusedSimpArgs false
def U32s (w : World) (B : Nat) (lv : Value) (n : Nat) : Prop := ∃ A c, lv = .slice A n c ∧ n ≤ c ∧ c ≤ 9223372036854775807 ∧ (0 < n → ∃ b off, A = some ⟨b, off, none⟩ ∧ b < B ∧ ∀ k, k < n → ∃ x : Nat, x ≤ 4294967295 ∧ w.cell? ⟨b, off + k, none⟩ = some (.int .u32 x))
theorem U32s.keep {w w' : World} {B : Nat} {lv : Value} {n : Nat} (h : U32s w B lv n) (hb : Below B w w') : U32s w' B lv n := by
 obtain ⟨A, c, h1, h2, h3, h4⟩ := h
 refine ⟨A, c, h1, h2, h3, fun h0 => ?_⟩
 obtain ⟨b, off, e1, e2, e3⟩ := h4 h0
 refine ⟨b, off, e1, e2, fun k hk => ?_⟩
 obtain ⟨x, g1, g2⟩ := e3 k hk
 exact ⟨x, g1, (hb.cell (p := ⟨b, off + k, none⟩) e2).trans g2⟩
def wtB : Nat → Nat
 | 0 => 680
 | d + 1 => 40 + 3 * (wtB d + 830)
def cntB : Nat → Nat
 | 0 => 1
 | d + 1 => 1 + 3 * cntB d
theorem wtB_ge : ∀ d, 680 ≤ wtB d
 | 0 => Nat.le_refl _
 | d + 1 => by have := wtB_ge d; unfold wtB; omega
theorem cntB_ge : ∀ d, 1 ≤ cntB d
 | 0 => Nat.le_refl _
 | d + 1 => by unfold cntB; omega
def ValIs (d ab a : Nat) (w : World) (e : Ending) (w' : World) : Prop := ∃ (v : N) (A : Option Addr) (c : Nat) (cs' : List Value) (a' : Nat), e = .returned (.agg #[.int .i64 v.kind, .string ⟨v.text.toArray⟩, .slice A v.items.length c, .slice none 0 0]) ∧ v.keys = [] ∧
 Row (fun g => w.heap.size ≤ g) w' 43 4 (.slice A v.items.length c) v.items.length cs' ∧ ItemsIs (fun g => w.heap.size ≤ g) w' 43 v.items cs' ∧ VOk d v ∧ wt v ≤ wtB d ∧ Blk w' ab 3 #[.int .i64 a'] ∧ a ≤ a' ∧ a' ≤ a + cntB d ∧ SF ab w w'
def ValOf (d : Nat) : Prop := ∀ (w : World) (ab a n : Nat) (lv : Value), U32s w ab lv n → n ≤ 100 → Blk w ab 3 #[.int .i64 a] → a + cntB d ≤ 1000000 → Calls Try.prog 24 #[lv, .pointer (some ⟨ab, 0, none⟩), .int .i64 d] w (ValIs d ab a w)
theorem SF.setNew {ab : Nat} {W w : World} (h : SF ab W w) (hab : ab ≤ W.heap.size) {p : Addr} (hp : W.heap.size ≤ p.block) (u : Value) : SF ab W (w.setCell p u) :=
 ⟨h.1.setCell (by omega) u, fun g o hg ho => (Below.heap_setCell w p u g (by have := heap_lt ho; omega)).trans (h.2 g o hg ho)⟩
theorem SF.allocNew {ab : Nat} {W w : World} (h : SF ab W w) (hab : ab ≤ W.heap.size) (o : Obj) : SF ab W (w.alloc o) := h.trans (SF.alloc (Nat.le_trans hab h.1.size) o)
theorem SF.grown {ab : Nat} {W w w' : World} {row : Option Nat} (h : SF ab W w) (hab : ab ≤ W.heap.size) (hg : w.grownBy w' row) (hrow : ∀ k, row = some k → W.heap.size ≤ k) : SF ab W w' :=
 ⟨h.1.grown hg (Nat.le_trans hab h.1.size) (fun k hk => Nat.le_trans hab (hrow k hk)), fun g o hne ho => by
   have h1 := h.2 g o hne ho
   exact (hg.block g (heap_lt h1) (fun e => by have := hrow g e.symm; have := heap_lt ho; omega)).trans h1⟩
theorem SF.setAb {ab : Nat} {W w : World} (h : SF ab W w) (i : Nat) (u : Value) : SF ab W (w.setCell ⟨ab, i, none⟩ u) :=
 ⟨h.1.setCell (Nat.le_refl _) u, fun g o hg ho => (Below.heap_setCell w ⟨ab, i, none⟩ u g hg).trans (h.2 g o hg ho)⟩
abbrev z43 : Array Value := #[.int .i64 0, .string ⟨#[]⟩, .slice none 0 0, .slice none 0 0]
def VoRel (kd : Nat) (PP : N → Prop) (Cw c m : Nat) (W : World) (ab a0 : Nat) (gg : Nat) (s : Value) (wx : World) : Prop :=
 ∃ (dn : List N) (a1 : Nat) (iv : Value) (cs' : List Value), dn.length + gg = m ∧ s = .int .u32 dn.length ∧ Blk wx (W.heap.size + 1) 43 #[.int .i64 kd, .string ⟨#[]⟩, iv, .slice none 0 0] ∧ Blk wx W.heap.size 43 z43 ∧ wx.ownsRow (W.heap.size + 2) 43 4 iv dn.length cs' ∧
   ItemsIs (fun g => W.heap.size + 2 ≤ g ∧ some g ≠ iv.ownBlock) wx 43 dn cs' ∧ (∀ x ∈ dn, PP x) ∧ wts dn ≤ dn.length * Cw ∧ Blk wx ab 3 #[.int .i64 a1] ∧ a0 ≤ a1 ∧ a1 ≤ a0 + dn.length * c ∧ SF ab W wx ∧ W.heap.size + 2 ≤ wx.heap.size
theorem vo_snoc {kd : Nat} {PP : N → Prop} {Cw c m : Nat} {W wr w6 w7 : World} {ab a0 a1 a2 g7 c7 gk : Nat} {dn : List N} {x : N} {iv : Value} {cs' xc : List Value} (hm : dn.length + gk = m) (hgk : 0 < gk)
   (hbo : Blk wr (W.heap.size + 1) 43 #[.int .i64 kd, .string ⟨#[]⟩, iv, .slice none 0 0]) (hbr : Blk wr W.heap.size 43 z43) (hown : wr.ownsRow (W.heap.size + 2) 43 4 iv dn.length cs') (hits : ItemsIs (fun g => W.heap.size + 2 ≤ g ∧ some g ≠ iv.ownBlock) wr 43 dn cs') (hPP : ∀ x ∈ dn, PP x) (hwt : wts dn ≤ dn.length * Cw)
   (hx : NodeIs (fun g => wr.heap.size ≤ g) w6 43 x xc) (hxP : PP x) (hxw : wt x + kwb x.keys + 40 ≤ Cw) (hsz : wr.heap.size ≤ w6.heap.size) (hpres : ∀ g t cs, g ≠ ab → Blk wr g t cs → Blk w6 g t cs) (hab : ab < W.heap.size) (hsf : SF ab W w6) (hS : W.heap.size + 2 ≤ wr.heap.size)
   (hat : Blk w6 ab 3 #[.int .i64 a2]) (ha0 : a0 ≤ a1) (ha1 : a1 ≤ a0 + dn.length * c) (h12 : a1 ≤ a2) (h2 : a2 ≤ a1 + c)
   (hown7 : w7.ownsRow (W.heap.size + 2) 43 4 (.slice (some ⟨g7, 0, none⟩) (dn.length + 1) c7) (dn.length + 1) (cs' ++ xc)) (hgrow : w6.grownBy w7 iv.ownBlock) (hlies : iv.ownBlock = some g7 ∨ g7 = w6.heap.size) {s : Value} (hs : s = .int .u32 ((dn.length : Int) + 1)) :
   VoRel kd PP Cw c m W ab a0 (gk - 1) s (w7.setCell ⟨W.heap.size + 1, 2, none⟩ (.slice (some ⟨g7, 0, none⟩) (dn.length + 1) c7)) := by
 have hne : ∀ k, k < W.heap.size + 2 → some k ≠ iv.ownBlock := by
   intro k hk h
   have := own_lt hown h.symm
   omega
 have hk7 : ∀ k t cs, k < W.heap.size + 2 → Blk w6 k t cs → Blk w7 k t cs := fun k t cs hk hb => (hgrow.block k hb.lt (hne k hk)).trans hb
 have hg7 : W.heap.size + 2 ≤ g7 ∧ g7 < w7.heap.size := own_lt hown7 rfl
 have hsz7 : w6.heap.size ≤ w7.heap.size := hgrow.size
 have hsf7 : SF ab W w7 := hsf.grown (by omega) hgrow (fun k hk => by have := own_lt hown hk; omega)
 refine ⟨dn ++ [x], a2, .slice (some ⟨g7, 0, none⟩) (dn.length + 1) c7, cs' ++ xc, by simp; omega, by rw [hs]; simp, ?_, ?_, ?_, ?_, ?_, ?_, ?_, by omega, ?_, hsf7.setNew (by omega) (by show W.heap.size ≤ W.heap.size + 1; omega) _, by simp; omega⟩
 · exact (hk7 _ _ _ (by omega) (hpres _ _ _ (by omega) hbo)).set_ 2 _
 · exact (hk7 _ _ _ (by omega) (hpres _ _ _ (by omega) hbr)).far (p := ⟨W.heap.size + 1, 2, none⟩) (by show W.heap.size ≠ W.heap.size + 1; omega) _
 · rw [List.length_append]
   exact own_far hown7 (by show W.heap.size + 1 < W.heap.size + 2; omega) _
 · refine ItemsIs.move (P := fun g => W.heap.size + 2 ≤ g ∧ some g ≠ (Value.slice (some ⟨g7, 0, none⟩) (dn.length + 1) c7).ownBlock) ?_ _ (items_snoc hown hits hx hS hsz (fun g t cs hg hb => hpres g t cs (by omega) hb) hgrow ?_)
   · intro k t cs h4 hb
     exact ⟨h4, hb.far (p := ⟨W.heap.size + 1, 2, none⟩) (by show k ≠ W.heap.size + 1; omega) _⟩
   · rcases hlies with h | h
     · exact .inl h.symm
     · exact .inr (by rw [← h]; rfl)
 · intro y hy
   rcases List.mem_append.1 hy with hy | hy
   · exact hPP y hy
   · have : y = x := by simpa using hy
     rw [this]; exact hxP
 · rw [wts_append, List.length_append]
   simp only [wts, List.length_cons, List.length_nil]
   rw [Nat.add_mul]
   omega
 · exact (hk7 _ _ _ (by omega) hat).far (p := ⟨W.heap.size + 1, 2, none⟩) (by show ab ≠ W.heap.size + 1; omega) _
 · rw [List.length_append, Nat.add_mul]
   simp only [List.length_cons, List.length_nil]
   omega
end Go.Proofs.Ytnlkbbpmpgdmiaa
namespace Go.Proofs.Ytnlkbbpmpgdmiaa
open Go.RowKit
set_option linter.unusedVariables false
set_option linter.unusedSimpArgs false
theorem info43 : (Try.prog.info? 43).map (fun i => (i.zero, i.size, i.bytes)) = some (some (.agg #[.int .i64 0, .string ByteArray.empty, .slice none 0 0, .slice none 0 0]), 4, 72) := by kernel_rfl
theorem scalar_int (x : Int) (h0 : 0 ≤ x) (h1 : x ≤ 4294967295) (w : World) : Calls Try.prog 47 #[.int .u32 x] w (Scal47 w) := by
 obtain ⟨n, rfl⟩ := Int.eq_ofNat_of_zero_le h0
 exact scalar_any n h1 w
theorem keys_int (x : Int) (h0 : 0 ≤ x) (h1 : x ≤ 4294967295) (w : World) : Calls Try.prog 23 #[.int .u32 x] w (Keys23 w) := by
 obtain ⟨n, rfl⟩ := Int.eq_ofNat_of_zero_le h0
 exact keys_any n h1 w
theorem vo_set4 {w w2 : World} {ab : Nat} {v0 v1 v2 v3 : Value} {u0 u1 u2 u3 : Value} {x : Array Value} (hb : Blk w2 w.heap.size 43 #[u0, u1, u2, u3]) (hat : Blk w2 ab 3 x) (hsf : SF ab w w2) (hab : ab < w.heap.size) :
   Blk ((((w2.setCell ⟨w.heap.size, 0, none⟩ v0).setCell ⟨w.heap.size, 1, none⟩ v1).setCell ⟨w.heap.size, 2, none⟩ v2).setCell ⟨w.heap.size, 3, none⟩ v3) w.heap.size 43 #[v0, v1, v2, v3] ∧
   Blk ((((w2.setCell ⟨w.heap.size, 0, none⟩ v0).setCell ⟨w.heap.size, 1, none⟩ v1).setCell ⟨w.heap.size, 2, none⟩ v2).setCell ⟨w.heap.size, 3, none⟩ v3) ab 3 x ∧
   SF ab w ((((w2.setCell ⟨w.heap.size, 0, none⟩ v0).setCell ⟨w.heap.size, 1, none⟩ v1).setCell ⟨w.heap.size, 2, none⟩ v2).setCell ⟨w.heap.size, 3, none⟩ v3) ∧
   ∀ g t cs, g ≠ w.heap.size → Blk w2 g t cs → Blk ((((w2.setCell ⟨w.heap.size, 0, none⟩ v0).setCell ⟨w.heap.size, 1, none⟩ v1).setCell ⟨w.heap.size, 2, none⟩ v2).setCell ⟨w.heap.size, 3, none⟩ v3) g t cs := by
 have far : ∀ g t cs, g ≠ w.heap.size → Blk w2 g t cs → Blk ((((w2.setCell ⟨w.heap.size, 0, none⟩ v0).setCell ⟨w.heap.size, 1, none⟩ v1).setCell ⟨w.heap.size, 2, none⟩ v2).setCell ⟨w.heap.size, 3, none⟩ v3) g t cs := fun g t cs hne h =>
   (((h.far (p := ⟨w.heap.size, 0, none⟩) hne _).far (p := ⟨w.heap.size, 1, none⟩) hne _).far (p := ⟨w.heap.size, 2, none⟩) hne _).far (p := ⟨w.heap.size, 3, none⟩) hne _
 refine ⟨(((hb.set_ 0 v0).set_ 1 v1).set_ 2 v2).set_ 3 v3, far _ _ _ (by omega) hat, ?_, far⟩
 exact (((hsf.setNew (by omega) (Nat.le_refl _) _).setNew (by omega) (Nat.le_refl _) _).setNew (by omega) (Nat.le_refl _) _).setNew (by omega) (Nat.le_refl _) _
theorem vo_start {w : World} {ab a : Nat} (hab : Blk w ab 3 #[.int .i64 a]) :
   Blk ((w.setCell ⟨ab, 0, none⟩ (.int .i64 ((a : Int) + 1))).alloc (.cells z43 43)) w.heap.size 43 z43 ∧ Blk ((w.setCell ⟨ab, 0, none⟩ (.int .i64 ((a : Int) + 1))).alloc (.cells z43 43)) ab 3 #[.int .i64 ((a + 1 : Nat) : Int)] ∧ SF ab w ((w.setCell ⟨ab, 0, none⟩ (.int .i64 ((a : Int) + 1))).alloc (.cells z43 43)) := by
 have hl := hab.lt
 refine ⟨?_, (hab.set_ 0 _).alloc _, ((SF.refl ab w).setAb 0 _).trans (SF.alloc (by simp; omega) _)⟩
 have := Blk.new (w.setCell ⟨ab, 0, none⟩ (.int .i64 ((a : Int) + 1))) 43 z43
 simpa using this
theorem scalIs_ok {kd : Nat} {t : List UInt8} (h : ScalIs kd t) (d : Nat) : VOk d (.mk kd t [] []) ∧ wt (.mk kd t [] []) ≤ 680 := by
 have hv : (kd = 0 ∧ ∃ rs : List Nat, (∀ r ∈ rs, Alpha r) ∧ t = Wd rs) ∨ (1 ≤ kd ∧ kd ≤ 7 ∧ Scal kd t t) := by
   rcases h with ⟨h0, rs, hA, _, rfl⟩ | h
   · exact .inl ⟨h0, rs, hA, rfl⟩
   · obtain ⟨h1, h2, h3, _⟩ := words_scal kd t h
     exact .inr ⟨h2, h3, h1⟩
 refine ⟨?_, ?_⟩
 · cases d with
   | zero => unfold VOk; exact ⟨rfl, hv⟩
   | succ d => unfold VOk; exact .inl ⟨rfl, hv⟩
 · have hl : t.length ≤ 40 := by
     rcases h with ⟨h0, rs, hA, hr, rfl⟩ | h
     · have : ∀ rs : List Nat, ((rs.map encN).flatten).length ≤ 4 * rs.length := by
         intro rs
         induction rs with
         | nil => simp
         | cons r rs ih =>
           have := encN_length r
           simp only [List.map_cons, List.flatten_cons, List.length_append, List.length_cons]
           omega
       have := this rs
       omega
     · exact (words_scal kd t h).2.2.2
   unfold wt wts
   omega
set_option maxRecDepth 100000 in
set_option maxHeartbeats 4000000 in
theorem valOf_zero : ValOf 0 := by
 intro w ab a n lv hu hn hab ha
 have habl := hab.lt
 have h0 : w.cell? ⟨ab, 0, none⟩ = some (.int .i64 a) := by have := hab.cell 0; simpa using this
 have f0 := hab.frozen 0
 have HAB := Lib.hid hab
 have HU := Lib.hid hu
 obtain ⟨A, c, rfl, hnc, hcm, hcell⟩ := hu
 have ham : a ≤ 1000000 := by omega
 have HA := Lib.hid ha
 have hx : a < n → ∃ b off, ∃ x : Nat, A = some ⟨b, off, none⟩ ∧ x ≤ 4294967295 ∧ b < ab ∧ w.cell? ⟨b, off + a, none⟩ = some (.int .u32 x) := by
   intro h
   obtain ⟨b, off, e1, e2, e3⟩ := hcell (by omega)
   obtain ⟨x, g1, g2⟩ := e3 a h
   exact ⟨b, off, x, e1, g1, e2, g2⟩
 have HX := Lib.hid hx
 clear hcell hx ha hab
 obtain ⟨hbr1, hat1, hsf1⟩ := vo_start HAB.out
 have HBR := Lib.hid hbr1
 have HAT := Lib.hid hat1
 have HSF := Lib.hid hsf1
 clear hbr1 hat1 hsf1
 rcases Nat.lt_or_ge a n with hlt | hlt
 · obtain ⟨b, off, x, rfl, hx1, hx2, hx3⟩ := HX.out hlt
   have hlt' : (a : Int) < n := by omega
   have hb' : b < w.heap.size := by omega
   go_enter Try.func24, Try.ntmps24
   go_wp2_with fail
   refine (scalar_int _ (by omega) (by omega) _).mono ?_
   rintro e w2 ⟨kd, t, rfl, hsc, hb2⟩
   have hbr2 := HBR.out.below hb2 HBR.out.lt
   have HBR2 := Lib.hid hbr2
   have HAT2 := Lib.hid (HAT.out.below hb2 HAT.out.lt)
   have HSF2 : Hid (SF ab w w2) := HSF.out.trans ⟨hb2.mono (Nat.le_of_lt HAT.out.lt), fun g o _ ho => (hb2.block g (heap_lt ho)).trans ho⟩
   have HSC := Lib.hid hsc
   have d0 := hbr2.cell 0
   have d1 := hbr2.cell 1
   have d2 := hbr2.cell 2
   have d3 := hbr2.cell 3
   simp at d0 d1 d2 d3
   have f0 := hbr2.frozen 0
   have f1 := hbr2.frozen 1
   have f2 := hbr2.frozen 2
   have f3 := hbr2.frozen 3
   have hl3 := hbr2.lt
   clear hb2 hbr2 hsc
   go_wp2_with fail
   obtain ⟨hb4, hat4, hsf4, _⟩ := vo_set4 (v0 := .int .i64 kd) (v1 := .string ⟨t.toArray⟩) (v2 := .slice none 0 0) (v3 := .slice none 0 0) HBR2.out HAT2.out HSF2.out habl
   have e0 := hb4.cell 0
   have e1 := hb4.cell 1
   have e2 := hb4.cell 2
   have e3 := hb4.cell 3
   simp at e0 e1 e2 e3
   refine bodyPost_ret (v := .agg #[.int .i64 kd, .string ⟨t.toArray⟩, .slice none 0 0, .slice none 0 0]) (by simp [results, Try.results24, go_sem, e0, e1, e2, e3, hl3]) rfl ?_
   have hok := scalIs_ok HSC.out 0
   have hwb := wtB_ge 0
   have hcb := cntB_ge 0
   exact ⟨.mk kd t [] [], none, 0, [], a + 1, rfl, rfl, ⟨rfl, .inl ⟨rfl, rfl⟩⟩, items_nil.2 rfl, hok.1, Nat.le_trans hok.2 hwb, hat4, Nat.le_succ a, by omega, hsf4⟩
 · have hlt' : ¬ (a : Int) < n := by omega
   go_enter Try.func24, Try.ntmps24
   go_wp2_with fail
   refine (scalar_int _ (by omega) (by omega) _).mono ?_
   rintro e w2 ⟨kd, t, rfl, hsc, hb2⟩
   have hbr2 := HBR.out.below hb2 HBR.out.lt
   have HBR2 := Lib.hid hbr2
   have HAT2 := Lib.hid (HAT.out.below hb2 HAT.out.lt)
   have HSF2 : Hid (SF ab w w2) := HSF.out.trans ⟨hb2.mono (Nat.le_of_lt HAT.out.lt), fun g o _ ho => (hb2.block g (heap_lt ho)).trans ho⟩
   have HSC := Lib.hid hsc
   have d0 := hbr2.cell 0
   have d1 := hbr2.cell 1
   have d2 := hbr2.cell 2
   have d3 := hbr2.cell 3
   simp at d0 d1 d2 d3
   have f0 := hbr2.frozen 0
   have f1 := hbr2.frozen 1
   have f2 := hbr2.frozen 2
   have f3 := hbr2.frozen 3
   have hl3 := hbr2.lt
   clear hb2 hbr2 hsc
   go_wp2_with fail
   obtain ⟨hb4, hat4, hsf4, _⟩ := vo_set4 (v0 := .int .i64 kd) (v1 := .string ⟨t.toArray⟩) (v2 := .slice none 0 0) (v3 := .slice none 0 0) HBR2.out HAT2.out HSF2.out habl
   have e0 := hb4.cell 0
   have e1 := hb4.cell 1
   have e2 := hb4.cell 2
   have e3 := hb4.cell 3
   simp at e0 e1 e2 e3
   refine bodyPost_ret (v := .agg #[.int .i64 kd, .string ⟨t.toArray⟩, .slice none 0 0, .slice none 0 0]) (by simp [results, Try.results24, go_sem, e0, e1, e2, e3, hl3]) rfl ?_
   have hok := scalIs_ok HSC.out 0
   have hwb := wtB_ge 0
   have hcb := cntB_ge 0
   exact ⟨.mk kd t [] [], none, 0, [], a + 1, rfl, rfl, ⟨rfl, .inl ⟨rfl, rfl⟩⟩, items_nil.2 rfl, hok.1, Nat.le_trans hok.2 hwb, hat4, Nat.le_succ a, by omega, hsf4⟩
end Go.Proofs.Ytnlkbbpmpgdmiaa
namespace Go.Proofs.Ytnlkbbpmpgdmiaa
open Go.RowKit
set_option linter.unusedVariables false
set_option linter.unusedSimpArgs false
theorem vo_mul {k m c : Nat} (h : k ≤ m) (hm : m ≤ 3) : k * c ≤ 3 * c := Nat.mul_le_mul_right _ (by omega)
theorem vo_end {kd d m : Nat} {PP : N → Prop} {w w2 : World} {ab a a1 : Nat} {dn : List N} {A : Option Addr} {nn c : Nat} {cs' : List Value} (hm : dn.length = m) (hm3 : m ≤ 3) (hown : w2.ownsRow (w.heap.size + 2) 43 4 (.slice A nn c) dn.length cs') (hits : ItemsIs (fun g => w.heap.size + 2 ≤ g ∧ some g ≠ (Value.slice A nn c).ownBlock) w2 43 dn cs')
   (hv : (∀ x ∈ dn, PP x) → VOk (d + 1) (.mk kd [] dn [])) (hPP : ∀ x ∈ dn, PP x) (hwt : wts dn ≤ dn.length * (wtB d + 830)) (hat : Blk w2 ab 3 #[.int .i64 a1]) (ha0 : a + 1 ≤ a1) (ha1 : a1 ≤ (a + 1) + dn.length * cntB d) (hsf : SF ab w w2) (hbr : Blk w2 w.heap.size 43 z43) (hab : ab < w.heap.size) :
   ValIs (d + 1) ab a w (.returned (.agg #[.int .i64 kd, .string ⟨#[]⟩, .slice A nn c, .slice none 0 0])) ((((w2.setCell ⟨w.heap.size, 0, none⟩ (.int .i64 kd)).setCell ⟨w.heap.size, 1, none⟩ (.string ⟨#[]⟩)).setCell ⟨w.heap.size, 2, none⟩ (.slice A nn c)).setCell ⟨w.heap.size, 3, none⟩ (.slice none 0 0)) := by
 obtain ⟨hb4, hat4, hsf4, hfar⟩ := vo_set4 (v0 := .int .i64 kd) (v1 := .string ⟨#[]⟩) (v2 := .slice A nn c) (v3 := .slice none 0 0) hbr hat hsf hab
 have hnn : nn = dn.length := by
   obtain ⟨a', c', e, _⟩ := Row.slice (Row.of_own (P := fun _ => True) hown fun _ _ _ => trivial)
   injection e
 subst hnn
 have h3 := vo_mul (c := wtB d + 830) (Nat.le_of_eq hm) hm3
 have h4 := vo_mul (c := cntB d) (Nat.le_of_eq hm) hm3
 refine ⟨.mk kd [] dn [], A, c, cs', a1, rfl, rfl, ?_, ?_, hv hPP, ?_, hat4, by omega, ?_, hsf4⟩
 · exact (Row.of_own (P := fun g => w.heap.size + 2 ≤ g) hown fun g h _ => h).move fun g t cs h1 h2 => ⟨by omega, hfar g t cs (by omega) h2⟩
 · exact ItemsIs.move (fun g t cs h1 h2 => ⟨by omega, hfar g t cs (by omega) h2⟩) _ hits
 · unfold wt wtB
   simp only [List.length_nil]
   omega
 · unfold cntB
   omega
theorem SF.ofBelow {ab : Nat} {w w' : World} (h : Below w.heap.size w w') (hab : ab ≤ w.heap.size) : SF ab w w' := ⟨h.mono hab, fun g o _ ho => (h.block g (heap_lt ho)).trans ho⟩
theorem VOk.withKeys {d : Nat} {v : N} (h : VOk d v) (ks : List (List UInt8)) : VOk d (v.withKeys ks) := by
 cases v with
 | mk kd t items k0 =>
   cases d <;> (unfold N.withKeys; unfold VOk at h ⊢; exact h)
theorem keys_withKeys (v : N) (ks : List (List UInt8)) : (v.withKeys ks).keys = ks := rfl
theorem wt_withKeys (v : N) (ks : List (List UInt8)) : wt (v.withKeys ks) = wt v := by
 cases v with
 | mk kd t items k0 => unfold N.withKeys wt; rfl
theorem Wd_le (k : List Nat) : (Wd k).length ≤ 4 * k.length := by
 induction k with
 | nil => simp [Wd]
 | cons r k ih =>
   have := encN_length r
   rw [Wd.cons]
   simp only [List.length_append, List.length_cons]
   omega
theorem kwb_le : ∀ (kws : List (List Nat)), (∀ k ∈ kws, k.length ≤ 6) → kwb (kws.map Wd) ≤ kws.length * 250
 | [], _ => by simp [kwb]
 | k :: kws, h => by
   have h1 := kwb_le kws (fun k' hk => h k' (by simp [hk]))
   have h2 := h k (by simp)
   have h3 := Wd_le k
   simp only [List.map_cons, kwb, List.length_cons]
   rw [Nat.add_mul]
   omega
theorem wdStr_map (kws : List (List Nat)) : ((kws.map Wd).map fun k => (⟨k.toArray⟩ : ByteArray)) = kws.map wdStr := by
 rw [List.map_map]
 rfl
set_option maxRecDepth 100000 in
set_option maxHeartbeats 4000000 in
theorem valOf_step {d : Nat} (hd : d ≤ 100) (ih : ValOf d) : ValOf (d + 1) := by
 intro w ab a n lv hu hn hab ha
 have habl := hab.lt
 have h0 : w.cell? ⟨ab, 0, none⟩ = some (.int .i64 a) := by have := hab.cell 0; simpa using this
 have f0 := hab.frozen 0
 have HAB := Lib.hid hab
 have HU := Lib.hid hu
 obtain ⟨A, c, rfl, hnc, hcm, hcell⟩ := hu
 have ham : a ≤ 1000000 := by omega
 have HA := Lib.hid ha
 have hx : a < n → ∃ b off, ∃ x : Nat, A = some ⟨b, off, none⟩ ∧ x ≤ 4294967295 ∧ b < ab ∧ w.cell? ⟨b, off + a, none⟩ = some (.int .u32 x) := by
   intro h
   obtain ⟨b, off, e1, e2, e3⟩ := hcell (by omega)
   obtain ⟨x, g1, g2⟩ := e3 a h
   exact ⟨b, off, x, e1, g1, e2, g2⟩
 have HX := Lib.hid hx
 clear hcell hx ha hab
 obtain ⟨hbr1, hat1, hsf1⟩ := vo_start HAB.out
 have HBR := Lib.hid hbr1
 have HAT := Lib.hid hat1
 have HSF := Lib.hid hsf1
 clear hbr1 hat1 hsf1
 obtain ⟨i0, hi0, hz0, hz1, hz2⟩ := info_parts info43
 have HI0 := Lib.hid hi0
 clear hi0
 have HIH := Lib.hid ih
 clear ih
 obtain ⟨D, hD⟩ : ∃ D, D = d + 1 := ⟨_, rfl⟩
 rw [← hD]
 have HD := Lib.hid hD
 have hD1 : (D : Int) - 1 = d := by omega
 have hD0 : 0 < D := by omega
 have hD2 : D ≤ 101 := by omega
 clear hD
 rcases Nat.lt_or_ge a n with hlt | hlt
 · obtain ⟨b, off, N, rfl, hx1, hx2, hx3⟩ := HX.out hlt
   have hlt' : (a : Int) < n := by omega
   have hb' : b < w.heap.size := by omega
   clear HX
   by_cases h0 : (N : Int) / 268435456 % 6 = 0
   · obtain ⟨m, hm⟩ : ∃ m : Nat, (N : Int) / 16777216 % 4 = m := ⟨N / 16777216 % 4, by simp⟩
     have hm3 : m ≤ 3 := by omega
     go_enter Try.func24, Try.ntmps24
     go_wp2_with fail
     have HM := Lib.hid hm
     have hRel : VoRel 8 (fun x => x.keys = [] ∧ VOk d x) (wtB d + 830) (cntB d) m w ab (a + 1) m (.int .u32 0) (((w.setCell ⟨ab, 0, none⟩ (.int .i64 ((a : Int) + 1))).alloc (.cells z43 43)).alloc (.cells #[.int .i64 8, .string ⟨#[]⟩, .slice none 0 0, .slice none 0 0] 43)) := by
       have hs : ((w.setCell ⟨ab, 0, none⟩ (.int .i64 ((a : Int) + 1))).alloc (.cells z43 43)).heap.size = w.heap.size + 1 := by simp
       have hbo := Blk.new ((w.setCell ⟨ab, 0, none⟩ (.int .i64 ((a : Int) + 1))).alloc (.cells z43 43)) 43 #[.int .i64 8, .string ⟨#[]⟩, .slice none 0 0, .slice none 0 0]
       rw [hs] at hbo
       exact ⟨[], a + 1, .slice none 0 0, [], by simp, rfl, hbo, HBR.out.alloc _, ⟨rfl, .inl ⟨rfl, rfl⟩⟩, items_nil.2 rfl, by simp, by simp [wts], HAT.out.alloc _, Nat.le_refl _, by omega, HSF.out.allocNew (Nat.le_of_lt habl) _, by simp⟩
     have HREL := Lib.hid hRel
     clear hRel hm h0
     try clear h1
     go_loopg [47] m (fun g s47 wx => Hid (VoRel 8 (fun x => x.keys = [] ∧ VOk d x) (wtB d + 830) (cntB d) m w ab (a + 1) g s47 wx))
     case atStart => exact HREL.out
     case round =>
       obtain ⟨dn, a1, iv, cs', hdg, rfl, hbo, hbr, hown, hits, hPP, hwt, hat, ha0, ha1, hsf, hS⟩ := hrel.out
       clear hrel HREL
       obtain ⟨ia, inn, ic, rfl⟩ := own_slice hown
       have HBO := Lib.hid hbo
       have HBR1 := Lib.hid hbr
       have HOWN := Lib.hid hown
       have HITS := Lib.hid hits
       have HPP := Lib.hid hPP
       have HWT := Lib.hid hwt
       have HAT1 := Lib.hid hat
       have HSF1 := Lib.hid hsf
       have HA0 := Lib.hid (And.intro ha0 ha1)
       have hl3 := hbo.lt
       have hl2 := hbr.lt
       have q2 : wr.cell? ⟨w.heap.size + 1, 2, none⟩ = some (.slice ia inn ic) := by have := hbo.cell 2; simpa using this
       clear hbo hbr hown hits hPP hwt hat hsf ha0 ha1
       cases gk with
       | zero =>
         have hnl : ¬ (dn.length : Int) < (N : Int) / 16777216 % 4 := by have := HM.out; omega
         have hdl : dn.length = m := by omega
         have o0 := HBO.out.cell 0
         have o1 := HBO.out.cell 1
         have o3 := HBO.out.cell 3
         have r0 := HBR1.out.cell 0
         have r1 := HBR1.out.cell 1
         have r2 := HBR1.out.cell 2
         have r3 := HBR1.out.cell 3
         simp at o0 o1 o3 r0 r1 r2 r3
         have p0 := HBR1.out.frozen 0
         have p1 := HBR1.out.frozen 1
         have p2 := HBR1.out.frozen 2
         have p3 := HBR1.out.frozen 3
         go_wp2_with fail
         obtain ⟨hb4, hat4, hsf4, _⟩ := vo_set4 (v0 := .int .i64 8) (v1 := .string ⟨#[]⟩) (v2 := .slice ia inn ic) (v3 := .slice none 0 0) HBR1.out HAT1.out HSF1.out habl
         have e0 := hb4.cell 0
         have e1 := hb4.cell 1
         have e2 := hb4.cell 2
         have e3 := hb4.cell 3
         simp at e0 e1 e2 e3
         refine bodyPost_ret (v := .agg #[.int .i64 8, .string ⟨#[]⟩, .slice ia inn ic, .slice none 0 0]) (by simp [results, Try.results24, go_sem, e0, e1, e2, e3, hl2]) rfl ?_
         rw [HD.out]
         exact vo_end (PP := (fun x => x.keys = [] ∧ VOk d x)) hdl hm3 HOWN.out HITS.out (fun h => (by unfold VOk; exact .inr (.inl ⟨rfl, rfl, h⟩))) HPP.out HWT.out HAT1.out HA0.out.1 HA0.out.2 HSF1.out HBR1.out habl
       | succ g' =>
         have hc1 : a1 + cntB d ≤ 1000000 := by
           have h1 := HA.out
           unfold cntB at h1
           have h2 := Nat.mul_le_mul_right (cntB d) (show dn.length + 1 ≤ 3 by omega)
           rw [Nat.add_mul, Nat.one_mul] at h2
           have := HA0.out.2
           omega
         have hnl : (dn.length : Int) < (N : Int) / 16777216 % 4 := by have := HM.out; omega
         have hU1 : U32s wr ab (.slice (some ⟨b, off, none⟩) n c) n := HU.out.keep HSF1.out.1
         have hS0 : ab ≤ wr.heap.size := by omega
         have hdl3 : dn.length ≤ 3 := by omega
         have HC : Hid (Calls Try.prog 24 #[(.slice (some ⟨b, off, none⟩) n c), .pointer (some ⟨ab, 0, none⟩), .int .i64 d] wr.drew (ValIs d ab a1 wr.drew)) := HIH.out wr.drew ab a1 n (.slice (some ⟨b, off, none⟩) n c) (hU1.keep (Fr.drewN wr 1).1) hn HAT1.out hc1
         have hwd : IntKind.i64.wrap (d : Int) = d := IntWalk.i64_in _ (by omega)
         clear hU1
         go_wp2_with fail
         go_region_law (first
           | (go_simp
              go_at_call 24
              (with_reducible refine HC.out.mono ?_)
              rintro e w5 ⟨v, a5, c5, cs5, a2, rfl, hvk, hrow5, hits5, hvo, hvw, hat5, hle1, hle2, hsf5⟩
              have hsf6 : SF ab wr w5 := (SF.drewN ab wr 1).trans hsf5
              have HBO5 : Hid (Blk w5 (w.heap.size + 1) 43 #[.int .i64 8, .string ⟨#[]⟩, .slice ia inn ic, .slice none 0 0]) := hsf6.keep HBO.out (by omega)
              have q4 : w5.cell? ⟨w.heap.size + 1, 2, none⟩ = some (.slice ia inn ic) := by have := HBO5.out.cell 2; simpa using this
              have hl5 := HBO5.out.lt
              have hs5 : wr.heap.size ≤ w5.heap.size := hsf6.1.size
              have HROW5 := Lib.hid hrow5
              have HITS5 := Lib.hid hits5
              have HSF6 := Lib.hid hsf6
              have HV := Lib.hid (And.intro hvk (And.intro hvo (And.intro hvw (And.intro hle1 hle2))))
              have HAT5 := Lib.hid hat5
              have HOWN5 : Hid (w5.ownsRow (w.heap.size + 2) 43 4 (.slice ia inn ic) dn.length cs') := own_keep2 HOWN.out (fun g cs h1 h2 => hsf6.keep h2 (by omega))
              clear hrow5 hits5 hsf5 hsf6 hvk hvo hvw hle1 hle2 hat5)
           | (refine step_append_lies _ rfl (.tmp 50) (.tmp 56) 41 rfl (w.heap.size + 2) 43 i0 _ 4 72 Try.underlying41 HI0.out hz0 hz1 hz2 rfl (by decide) (.slice ia inn ic) dn.length cs' (by simp [Act.eval, Act.put]) (own_keep HOWN5.out (fun g cs hb => hb.alloc _)) ⟨w5.heap.size, 0, none⟩ 1 1 [.int .i64 v.kind, .string ⟨v.text.toArray⟩, .slice a5 v.items.length c5, .slice none 0 0] (by simp [Act.eval, Act.put]) rfl (Blk.add (l := [.int .i64 v.kind, .string ⟨v.text.toArray⟩, .slice a5 v.items.length c5, .slice none 0 0]) (Blk.new w5 43 _)) (one4 _ _ _ _ _ _ _ _) (by decide) (by simp only [maxLen]; omega) (by omega) (alloc_le (Nat.le_trans hS hs5)) (w5.heap.size + 1) (size_alloc' _ _) ?_
              intro g7 c7 w7 hown7 hgrow7 hlies7 hlt7
              have HOWN7 := Lib.hid hown7
              have HGROW7 := Lib.hid hgrow7
              have HLIES7 := Lib.hid hlies7
              have HBO7 : Hid (Blk w7 (w.heap.size + 1) 43 #[.int .i64 8, .string ⟨#[]⟩, .slice ia inn ic, .slice none 0 0]) := (hgrow7.block _ (HBO5.out.alloc _).lt (fun h => by have := own_lt HOWN.out h.symm; omega)).trans (HBO5.out.alloc _)
              have q3 : w7.cell? ⟨w.heap.size + 1, 2, none⟩ = some (.slice ia inn ic) := by have := HBO7.out.cell 2; simpa using this
              have q3f := HBO7.out.frozen 2
              have q3l := HBO7.out.lt
              clear hown7 hgrow7 hlies7))
         all_goals
           go_wp2_with fail
           go_roundg g'
           case measure => simp
           case rel =>
             obtain ⟨hvk, hvo, hvw, hle1, hle2⟩ := HV.out
             refine vo_snoc (gk := g' + 1) (w6 := w5.alloc (.cells #[.int .i64 v.kind, .string ⟨v.text.toArray⟩, .slice a5 v.items.length c5, .slice none 0 0] 43)) hdg (by omega) HBO.out HBR1.out HOWN.out HITS.out HPP.out HWT.out ?_ ⟨hvk, hvo⟩ ?_ (by simp; omega) (fun g t cs h1 h2 => (HSF6.out.keep h2 h1).alloc _) habl ((HSF1.out.trans HSF6.out).allocNew (Nat.le_of_lt habl) _) hS (HAT5.out.alloc _) HA0.out.1 HA0.out.2 hle1 hle2 HOWN7.out HGROW7.out (HLIES7.out.imp_right fun h => by rw [size_alloc']; exact h) (by go_num)
             · refine NodeIs.move (P := fun g => wr.drew.heap.size ≤ g) (w := w5) ?_ v (NodeIs.mk' (by rw [hvk]; exact StrRow.nil _ _) HROW5.out HITS5.out)
               intro k t cs h1 h2
               exact ⟨h1, h2.alloc _⟩
             · rw [hvk]
               unfold kwb
               omega
   · have h0' : ((N : Int) / 268435456 % 6 == 0) = false := by simpa using h0
     by_cases h1 : (N : Int) / 268435456 % 6 = 1
     · clear h0'
       obtain ⟨m, hm⟩ : ∃ m : Nat, (N : Int) / 16777216 % 4 = m := ⟨N / 16777216 % 4, by simp⟩
       have hm3 : m ≤ 3 := by omega
       go_enter Try.func24, Try.ntmps24
       go_wp2_with fail
       have HM := Lib.hid hm
       have hRel : VoRel 9 (fun x => (∃ kws : List (List Nat), kws ≠ [] ∧ (∀ k ∈ kws, ∀ r ∈ k, Alpha r) ∧ x.keys = kws.map Wd) ∧ VOk d x) (wtB d + 830) (cntB d) m w ab (a + 1) m (.int .u32 0) (((w.setCell ⟨ab, 0, none⟩ (.int .i64 ((a : Int) + 1))).alloc (.cells z43 43)).alloc (.cells #[.int .i64 9, .string ⟨#[]⟩, .slice none 0 0, .slice none 0 0] 43)) := by
         have hs : ((w.setCell ⟨ab, 0, none⟩ (.int .i64 ((a : Int) + 1))).alloc (.cells z43 43)).heap.size = w.heap.size + 1 := by simp
         have hbo := Blk.new ((w.setCell ⟨ab, 0, none⟩ (.int .i64 ((a : Int) + 1))).alloc (.cells z43 43)) 43 #[.int .i64 9, .string ⟨#[]⟩, .slice none 0 0, .slice none 0 0]
         rw [hs] at hbo
         exact ⟨[], a + 1, .slice none 0 0, [], by simp, rfl, hbo, HBR.out.alloc _, ⟨rfl, .inl ⟨rfl, rfl⟩⟩, items_nil.2 rfl, by simp, by simp [wts], HAT.out.alloc _, Nat.le_refl _, by omega, HSF.out.allocNew (Nat.le_of_lt habl) _, by simp⟩
       have HREL := Lib.hid hRel
       clear hRel hm h0
       try clear h1
       go_loopg [74] m (fun g s47 wx => Hid (VoRel 9 (fun x => (∃ kws : List (List Nat), kws ≠ [] ∧ (∀ k ∈ kws, ∀ r ∈ k, Alpha r) ∧ x.keys = kws.map Wd) ∧ VOk d x) (wtB d + 830) (cntB d) m w ab (a + 1) g s47 wx))
       case atStart => exact HREL.out
       case round =>
         obtain ⟨dn, a1, iv, cs', hdg, rfl, hbo, hbr, hown, hits, hPP, hwt, hat, ha0, ha1, hsf, hS⟩ := hrel.out
         clear hrel HREL
         obtain ⟨ia, inn, ic, rfl⟩ := own_slice hown
         have HBO := Lib.hid hbo
         have HBR1 := Lib.hid hbr
         have HOWN := Lib.hid hown
         have HITS := Lib.hid hits
         have HPP := Lib.hid hPP
         have HWT := Lib.hid hwt
         have HAT1 := Lib.hid hat
         have HSF1 := Lib.hid hsf
         have HA0 := Lib.hid (And.intro ha0 ha1)
         have hl3 := hbo.lt
         have hl2 := hbr.lt
         have q2 : wr.cell? ⟨w.heap.size + 1, 2, none⟩ = some (.slice ia inn ic) := by have := hbo.cell 2; simpa using this
         clear hbo hbr hown hits hPP hwt hat hsf ha0 ha1
         cases gk with
         | zero =>
           have hnl : ¬ (dn.length : Int) < (N : Int) / 16777216 % 4 := by have := HM.out; omega
           have hdl : dn.length = m := by omega
           have o0 := HBO.out.cell 0
           have o1 := HBO.out.cell 1
           have o3 := HBO.out.cell 3
           have r0 := HBR1.out.cell 0
           have r1 := HBR1.out.cell 1
           have r2 := HBR1.out.cell 2
           have r3 := HBR1.out.cell 3
           simp at o0 o1 o3 r0 r1 r2 r3
           have p0 := HBR1.out.frozen 0
           have p1 := HBR1.out.frozen 1
           have p2 := HBR1.out.frozen 2
           have p3 := HBR1.out.frozen 3
           go_wp2_with fail
           obtain ⟨hb4, hat4, hsf4, _⟩ := vo_set4 (v0 := .int .i64 9) (v1 := .string ⟨#[]⟩) (v2 := .slice ia inn ic) (v3 := .slice none 0 0) HBR1.out HAT1.out HSF1.out habl
           have e0 := hb4.cell 0
           have e1 := hb4.cell 1
           have e2 := hb4.cell 2
           have e3 := hb4.cell 3
           simp at e0 e1 e2 e3
           refine bodyPost_ret (v := .agg #[.int .i64 9, .string ⟨#[]⟩, .slice ia inn ic, .slice none 0 0]) (by simp [results, Try.results24, go_sem, e0, e1, e2, e3, hl2]) rfl ?_
           rw [HD.out]
           exact vo_end (PP := (fun x => (∃ kws : List (List Nat), kws ≠ [] ∧ (∀ k ∈ kws, ∀ r ∈ k, Alpha r) ∧ x.keys = kws.map Wd) ∧ VOk d x)) hdl hm3 HOWN.out HITS.out (fun h => (by unfold VOk; exact .inr (.inr ⟨rfl, rfl, h⟩))) HPP.out HWT.out HAT1.out HA0.out.1 HA0.out.2 HSF1.out HBR1.out habl
         | succ g' =>
           have hc1 : a1 + cntB d ≤ 1000000 := by
             have h1 := HA.out
             unfold cntB at h1
             have h2 := Nat.mul_le_mul_right (cntB d) (show dn.length + 1 ≤ 3 by omega)
             rw [Nat.add_mul, Nat.one_mul] at h2
             have := HA0.out.2
             omega
           have hnl : (dn.length : Int) < (N : Int) / 16777216 % 4 := by have := HM.out; omega
           have hU1 : U32s wr ab (.slice (some ⟨b, off, none⟩) n c) n := HU.out.keep HSF1.out.1
           have hS0 : ab ≤ wr.heap.size := by omega
           have hdl3 : dn.length ≤ 3 := by omega
           have HC : Hid (Calls Try.prog 24 #[(.slice (some ⟨b, off, none⟩) n c), .pointer (some ⟨ab, 0, none⟩), .int .i64 d] wr (ValIs d ab a1 wr)) := HIH.out wr ab a1 n (.slice (some ⟨b, off, none⟩) n c) hU1 hn HAT1.out hc1
           clear hU1
           go_wp2_with fail
           refine HC.out.mono ?_
           rintro e w5 ⟨v, a5, c5, cs5, a2, rfl, hvk, hrow5, hits5, hvo, hvw, hat5, hle1, hle2, hsf5⟩
           have hs5 : wr.heap.size ≤ w5.heap.size := hsf5.1.size
           have HBO5 : Hid (Blk w5 (w.heap.size + 1) 43 #[.int .i64 9, .string ⟨#[]⟩, .slice ia inn ic, .slice none 0 0]) := hsf5.keep HBO.out (by omega)
           have HROW5 := Lib.hid hrow5
           have HITS5 := Lib.hid hits5
           have HSF5 := Lib.hid hsf5
           have HV := Lib.hid (And.intro hvo (And.intro hvw (And.intro hle1 hle2)))
           have HAT5 := Lib.hid hat5
           have HC1 := Lib.hid hc1
           clear hrow5 hits5 hsf5 hvk hvo hvw hle1 hle2 hat5 hc1 q2
           go_wp2_with fail
           refine (keys_int _ (by omega) (by omega) _).mono ?_
           rintro e w7 ⟨kv, kws, rfl, hout, hkne, hkl, hkA, hb7⟩
           obtain ⟨ak, nk, ck, rfl⟩ := own_slice hout
           have hk7 : w5.heap.size + 1 ≤ w7.heap.size := by have := hb7.size; simp at this; exact this
           have hX7 : Blk w7 w5.heap.size 43 #[.int .i64 v.kind, .string ⟨v.text.toArray⟩, .slice a5 v.items.length c5, .slice none 0 0] := (Blk.new w5 43 _).below hb7 (by simp)
           have hO7 : Blk w7 (w.heap.size + 1) 43 #[.int .i64 9, .string ⟨#[]⟩, .slice ia inn ic, .slice none 0 0] := (HBO5.out.alloc _).below hb7 (HBO5.out.alloc _).lt
           have v0 := hX7.cell 0
           have v1 := hX7.cell 1
           have v2 := hX7.cell 2
           have v3 := hX7.cell 3
           have v3f := hX7.frozen 3
           have vl := hX7.lt
           simp at v0 v1 v2 v3
           have q2 := hO7.cell 2
           simp at q2
           have ql := hO7.lt
           have hvne : w.heap.size + 1 ≠ w5.heap.size := by omega
           have HOUT := Lib.hid hout
           have HKK := Lib.hid (And.intro hkne (And.intro hkl hkA))
           have HB7 := Lib.hid hb7
           clear hout hkne hkl hkA hb7 hX7 hO7
           have HPRES : Hid (∀ k t cs, k ≠ ab → Blk wr k t cs → Blk ((w7.setCell ⟨w5.heap.size, 3, none⟩ (.slice ak nk ck)).alloc (.cells #[.int .i64 v.kind, .string ⟨v.text.toArray⟩, .slice a5 v.items.length c5, .slice ak nk ck] 43)) k t cs) := by
             intro k t cs h1 h2
             have h5 := HSF5.out.keep h2 h1
             have h7 := (h5.alloc (.cells #[.int .i64 v.kind, .string ⟨v.text.toArray⟩, .slice a5 v.items.length c5, .slice none 0 0] 43)).below HB7.out (h5.alloc _).lt
             have hl := h2.lt
             exact (h7.far (p := ⟨w5.heap.size, 3, none⟩) (by show k ≠ w5.heap.size; omega) _).alloc _
           have HAT9 : Hid (Blk ((w7.setCell ⟨w5.heap.size, 3, none⟩ (.slice ak nk ck)).alloc (.cells #[.int .i64 v.kind, .string ⟨v.text.toArray⟩, .slice a5 v.items.length c5, .slice ak nk ck] 43)) ab 3 #[.int .i64 a2]) := by
             have h7 := (HAT5.out.alloc (.cells #[.int .i64 v.kind, .string ⟨v.text.toArray⟩, .slice a5 v.items.length c5, .slice none 0 0] 43)).below HB7.out (HAT5.out.alloc _).lt
             exact (h7.far (p := ⟨w5.heap.size, 3, none⟩) (by show ab ≠ w5.heap.size; omega) _).alloc _
           have HSF9 : Hid (SF ab w ((w7.setCell ⟨w5.heap.size, 3, none⟩ (.slice ak nk ck)).alloc (.cells #[.int .i64 v.kind, .string ⟨v.text.toArray⟩, .slice a5 v.items.length c5, .slice ak nk ck] 43))) := by
             have h1 := (HSF1.out.trans HSF5.out).allocNew (Nat.le_of_lt habl) (.cells #[.int .i64 v.kind, .string ⟨v.text.toArray⟩, .slice a5 v.items.length c5, .slice none 0 0] 43)
             have h2 := h1.trans (SF.ofBelow HB7.out (by simp; omega))
             exact (h2.setNew (Nat.le_of_lt habl) (p := ⟨w5.heap.size, 3, none⟩) (by show w.heap.size ≤ w5.heap.size; omega) _).allocNew (Nat.le_of_lt habl) _
           have HX9 : Hid (NodeIs (fun g => wr.heap.size ≤ g) ((w7.setCell ⟨w5.heap.size, 3, none⟩ (.slice ak nk ck)).alloc (.cells #[.int .i64 v.kind, .string ⟨v.text.toArray⟩, .slice a5 v.items.length c5, .slice ak nk ck] 43)) 43 (v.withKeys (kws.map Wd)) [.int .i64 v.kind, .string ⟨v.text.toArray⟩, .slice a5 v.items.length c5, .slice ak nk ck]) := by
             have hm : ∀ k t cs, wr.heap.size ≤ k → Blk w5 k t cs → wr.heap.size ≤ k ∧ Blk ((w7.setCell ⟨w5.heap.size, 3, none⟩ (.slice ak nk ck)).alloc (.cells #[.int .i64 v.kind, .string ⟨v.text.toArray⟩, .slice a5 v.items.length c5, .slice ak nk ck] 43)) k t cs := by
               intro k t cs h1 h2
               have h7 := (h2.alloc (.cells #[.int .i64 v.kind, .string ⟨v.text.toArray⟩, .slice a5 v.items.length c5, .slice none 0 0] 43)).below HB7.out (h2.alloc _).lt
               have hl := h2.lt
               exact ⟨h1, (h7.far (p := ⟨w5.heap.size, 3, none⟩) (by show k ≠ w5.heap.size; omega) _).alloc _⟩
             have hsr : StrRow (fun g => w5.heap.size + 1 ≤ g) w7 (.slice ak nk ck) (kws.map Wd) := by
               refine StrRow.of_out (B := w5.heap.size + 1) ?_ fun g h => h
               rw [wdStr_map]
               have h := HOUT.out
               rw [size_alloc'] at h
               exact h
             refine NodeIs.mk' (v := v.withKeys (kws.map Wd)) (Row.move hsr ?_) (HROW5.out.move hm) (ItemsIs.move hm _ HITS5.out)
             intro k t cs h1 h2
             exact ⟨by omega, (h2.far (p := ⟨w5.heap.size, 3, none⟩) (by show k ≠ w5.heap.size; omega) _).alloc _⟩
           have HOWN9 := Lib.hid (own_keep2 HOWN.out (fun k cs h1 h2 => HPRES.out k 43 cs (by omega) h2))
           have HBO9 := Lib.hid (HPRES.out _ _ _ (by omega) HBO.out)
           have hs9 : w.heap.size + 2 ≤ w7.heap.size := by omega
           have hs9w : wr.heap.size ≤ w7.heap.size := by omega
           have HIVB : Hid (∀ k, (Value.slice ia inn ic).ownBlock = some k → w.heap.size + 2 ≤ k ∧ k < wr.heap.size) := fun k hk => own_lt HOWN.out hk
           clear HB7 HOUT HROW5 HITS5 HSF5 HBO5 HAT5
           generalize hq : w5.heap.size = q at *
           clear hq
           go_wp2_with (first
             | (at_builtin; refine wpList_append_lies _ rfl (.tmp 90) (.tmp 92) 41 rfl (w.heap.size + 2) 43 i0 _ 4 72 Try.underlying41 HI0.out hz0 hz1 hz2 rfl (by decide) (.slice ia inn ic) dn.length cs' (by rfl) HOWN9.out ⟨w7.heap.size, 0, none⟩ 1 1 [.int .i64 v.kind, .string ⟨v.text.toArray⟩, .slice a5 v.items.length c5, .slice ak nk ck] (by rfl) rfl ?hnews (one4 _ _ _ _ _ _ _ _) (by decide) (by simp only [maxLen]; omega) (by omega) (alloc_le (by simpa using hs9)) (w7.heap.size + 1) (by simp) ?_
                case hnews =>
                  have h := Blk.new (w7.setCell ⟨q, 3, none⟩ (.slice ak nk ck)) 43 #[.int .i64 v.kind, .string ⟨v.text.toArray⟩, .slice a5 v.items.length c5, .slice ak nk ck]
                  rw [show (w7.setCell ⟨q, 3, none⟩ (.slice ak nk ck)).heap.size = w7.heap.size from by simp] at h
                  exact Blk.add (l := [.int .i64 v.kind, .string ⟨v.text.toArray⟩, .slice a5 v.items.length c5, .slice ak nk ck]) h
                intro g7 c7 w8 hown7 hgrow7 hlies7 hlt7
                have HBO8 : Hid (Blk w8 (w.heap.size + 1) 43 #[.int .i64 9, .string ⟨#[]⟩, .slice ia inn ic, .slice none 0 0]) := (hgrow7.block _ HBO9.out.lt (fun h => by have := (HIVB.out _ h.symm).1; omega)).trans HBO9.out
                have q3 : w8.cell? ⟨w.heap.size + 1, 2, none⟩ = some (.slice ia inn ic) := by have := HBO8.out.cell 2; simpa using this
                have q3f := HBO8.out.frozen 2
                have q3l := HBO8.out.lt
                have HOWN7 := Lib.hid hown7
                have HGROW7 := Lib.hid hgrow7
                have HLIES7 := Lib.hid hlies7
                clear hown7 hgrow7 hlies7))
           go_roundg g'
           case measure => simp
           case rel =>
             obtain ⟨hvo, hvw, hle1, hle2⟩ := HV.out
             obtain ⟨hkne, hkl, hkA⟩ := HKK.out
             refine vo_snoc (gk := g' + 1) (x := v.withKeys (kws.map Wd)) (w6 := (w7.setCell ⟨q, 3, none⟩ (.slice ak nk ck)).alloc (.cells #[.int .i64 v.kind, .string ⟨v.text.toArray⟩, .slice a5 v.items.length c5, .slice ak nk ck] 43)) hdg (by omega) HBO.out HBR1.out HOWN.out HITS.out HPP.out HWT.out HX9.out ⟨⟨kws, hkne, fun k hk => (hkA k hk).2, rfl⟩, hvo.withKeys _⟩ ?_ (by simp; omega) HPRES.out habl HSF9.out hS HAT9.out HA0.out.1 HA0.out.2 hle1 hle2 HOWN7.out HGROW7.out (HLIES7.out.imp_right fun h => by rw [size_alloc']; simpa using h) (by go_num)
             rw [wt_withKeys, keys_withKeys]
             have h1 := kwb_le kws (fun k hk => (hkA k hk).1)
             have h2 := Nat.mul_le_mul_right 250 hkl
             omega
     · have h1' : ((N : Int) / 268435456 % 6 == 1) = false := by simpa using h1
       clear h0 h1
       go_enter Try.func24, Try.ntmps24
       go_wp2_with fail
       refine (scalar_int _ (by omega) (by omega) _).mono ?_
       rintro e w2 ⟨kd, t, rfl, hsc, hb2⟩
       have hbr2 := HBR.out.below hb2 HBR.out.lt
       have HBR2 := Lib.hid hbr2
       have HAT2 := Lib.hid (HAT.out.below hb2 HAT.out.lt)
       have HSF2 : Hid (SF ab w w2) := HSF.out.trans ⟨hb2.mono (Nat.le_of_lt HAT.out.lt), fun g o _ ho => (hb2.block g (heap_lt ho)).trans ho⟩
       have HSC := Lib.hid hsc
       have d0 := hbr2.cell 0
       have d1 := hbr2.cell 1
       have d2 := hbr2.cell 2
       have d3 := hbr2.cell 3
       simp at d0 d1 d2 d3
       have f0 := hbr2.frozen 0
       have f1 := hbr2.frozen 1
       have f2 := hbr2.frozen 2
       have f3 := hbr2.frozen 3
       have hl3 := hbr2.lt
       clear hb2 hbr2 hsc
       go_wp2_with fail
       obtain ⟨hb4, hat4, hsf4, _⟩ := vo_set4 (v0 := .int .i64 kd) (v1 := .string ⟨t.toArray⟩) (v2 := .slice none 0 0) (v3 := .slice none 0 0) HBR2.out HAT2.out HSF2.out habl
       have e0 := hb4.cell 0
       have e1 := hb4.cell 1
       have e2 := hb4.cell 2
       have e3 := hb4.cell 3
       simp at e0 e1 e2 e3
       refine bodyPost_ret (v := .agg #[.int .i64 kd, .string ⟨t.toArray⟩, .slice none 0 0, .slice none 0 0]) (by simp [results, Try.results24, go_sem, e0, e1, e2, e3, hl3]) rfl ?_
       have hok := scalIs_ok HSC.out D
       have hwb := wtB_ge D
       have hcb := cntB_ge D
       exact ⟨.mk kd t [] [], none, 0, [], a + 1, rfl, rfl, ⟨rfl, .inl ⟨rfl, rfl⟩⟩, items_nil.2 rfl, hok.1, Nat.le_trans hok.2 hwb, hat4, Nat.le_succ a, by omega, hsf4⟩
 · have hlt' : ¬ (a : Int) < n := by omega
   clear HX
   obtain ⟨N, hN⟩ : ∃ N : Nat, (a : Int) * 2654435 % 4294967296 = N := ⟨a * 2654435 % 4294967296, by simp⟩
   have hx1 : N ≤ 4294967295 := by omega
   by_cases h0 : (N : Int) / 268435456 % 6 = 0
   · obtain ⟨m, hm⟩ : ∃ m : Nat, (N : Int) / 16777216 % 4 = m := ⟨N / 16777216 % 4, by simp⟩
     have hm3 : m ≤ 3 := by omega
     go_enter Try.func24, Try.ntmps24
     go_wp2_with fail
     have HM := Lib.hid hm
     have hRel : VoRel 8 (fun x => x.keys = [] ∧ VOk d x) (wtB d + 830) (cntB d) m w ab (a + 1) m (.int .u32 0) (((w.setCell ⟨ab, 0, none⟩ (.int .i64 ((a : Int) + 1))).alloc (.cells z43 43)).alloc (.cells #[.int .i64 8, .string ⟨#[]⟩, .slice none 0 0, .slice none 0 0] 43)) := by
       have hs : ((w.setCell ⟨ab, 0, none⟩ (.int .i64 ((a : Int) + 1))).alloc (.cells z43 43)).heap.size = w.heap.size + 1 := by simp
       have hbo := Blk.new ((w.setCell ⟨ab, 0, none⟩ (.int .i64 ((a : Int) + 1))).alloc (.cells z43 43)) 43 #[.int .i64 8, .string ⟨#[]⟩, .slice none 0 0, .slice none 0 0]
       rw [hs] at hbo
       exact ⟨[], a + 1, .slice none 0 0, [], by simp, rfl, hbo, HBR.out.alloc _, ⟨rfl, .inl ⟨rfl, rfl⟩⟩, items_nil.2 rfl, by simp, by simp [wts], HAT.out.alloc _, Nat.le_refl _, by omega, HSF.out.allocNew (Nat.le_of_lt habl) _, by simp⟩
     have HREL := Lib.hid hRel
     clear hRel hm h0
     try clear h1
     go_loopg [47] m (fun g s47 wx => Hid (VoRel 8 (fun x => x.keys = [] ∧ VOk d x) (wtB d + 830) (cntB d) m w ab (a + 1) g s47 wx))
     case atStart => exact HREL.out
     case round =>
       obtain ⟨dn, a1, iv, cs', hdg, rfl, hbo, hbr, hown, hits, hPP, hwt, hat, ha0, ha1, hsf, hS⟩ := hrel.out
       clear hrel HREL
       obtain ⟨ia, inn, ic, rfl⟩ := own_slice hown
       have HBO := Lib.hid hbo
       have HBR1 := Lib.hid hbr
       have HOWN := Lib.hid hown
       have HITS := Lib.hid hits
       have HPP := Lib.hid hPP
       have HWT := Lib.hid hwt
       have HAT1 := Lib.hid hat
       have HSF1 := Lib.hid hsf
       have HA0 := Lib.hid (And.intro ha0 ha1)
       have hl3 := hbo.lt
       have hl2 := hbr.lt
       have q2 : wr.cell? ⟨w.heap.size + 1, 2, none⟩ = some (.slice ia inn ic) := by have := hbo.cell 2; simpa using this
       clear hbo hbr hown hits hPP hwt hat hsf ha0 ha1
       cases gk with
       | zero =>
         have hnl : ¬ (dn.length : Int) < (N : Int) / 16777216 % 4 := by have := HM.out; omega
         have hdl : dn.length = m := by omega
         have o0 := HBO.out.cell 0
         have o1 := HBO.out.cell 1
         have o3 := HBO.out.cell 3
         have r0 := HBR1.out.cell 0
         have r1 := HBR1.out.cell 1
         have r2 := HBR1.out.cell 2
         have r3 := HBR1.out.cell 3
         simp at o0 o1 o3 r0 r1 r2 r3
         have p0 := HBR1.out.frozen 0
         have p1 := HBR1.out.frozen 1
         have p2 := HBR1.out.frozen 2
         have p3 := HBR1.out.frozen 3
         go_wp2_with fail
         obtain ⟨hb4, hat4, hsf4, _⟩ := vo_set4 (v0 := .int .i64 8) (v1 := .string ⟨#[]⟩) (v2 := .slice ia inn ic) (v3 := .slice none 0 0) HBR1.out HAT1.out HSF1.out habl
         have e0 := hb4.cell 0
         have e1 := hb4.cell 1
         have e2 := hb4.cell 2
         have e3 := hb4.cell 3
         simp at e0 e1 e2 e3
         refine bodyPost_ret (v := .agg #[.int .i64 8, .string ⟨#[]⟩, .slice ia inn ic, .slice none 0 0]) (by simp [results, Try.results24, go_sem, e0, e1, e2, e3, hl2]) rfl ?_
         rw [HD.out]
         exact vo_end (PP := (fun x => x.keys = [] ∧ VOk d x)) hdl hm3 HOWN.out HITS.out (fun h => (by unfold VOk; exact .inr (.inl ⟨rfl, rfl, h⟩))) HPP.out HWT.out HAT1.out HA0.out.1 HA0.out.2 HSF1.out HBR1.out habl
       | succ g' =>
         have hc1 : a1 + cntB d ≤ 1000000 := by
           have h1 := HA.out
           unfold cntB at h1
           have h2 := Nat.mul_le_mul_right (cntB d) (show dn.length + 1 ≤ 3 by omega)
           rw [Nat.add_mul, Nat.one_mul] at h2
           have := HA0.out.2
           omega
         have hnl : (dn.length : Int) < (N : Int) / 16777216 % 4 := by have := HM.out; omega
         have hU1 : U32s wr ab (.slice A n c) n := HU.out.keep HSF1.out.1
         have hS0 : ab ≤ wr.heap.size := by omega
         have hdl3 : dn.length ≤ 3 := by omega
         have HC : Hid (Calls Try.prog 24 #[(.slice A n c), .pointer (some ⟨ab, 0, none⟩), .int .i64 d] wr.drew (ValIs d ab a1 wr.drew)) := HIH.out wr.drew ab a1 n (.slice A n c) (hU1.keep (Fr.drewN wr 1).1) hn HAT1.out hc1
         have hwd : IntKind.i64.wrap (d : Int) = d := IntWalk.i64_in _ (by omega)
         clear hU1
         go_wp2_with fail
         go_region_law (first
           | (go_simp
              go_at_call 24
              (with_reducible refine HC.out.mono ?_)
              rintro e w5 ⟨v, a5, c5, cs5, a2, rfl, hvk, hrow5, hits5, hvo, hvw, hat5, hle1, hle2, hsf5⟩
              have hsf6 : SF ab wr w5 := (SF.drewN ab wr 1).trans hsf5
              have HBO5 : Hid (Blk w5 (w.heap.size + 1) 43 #[.int .i64 8, .string ⟨#[]⟩, .slice ia inn ic, .slice none 0 0]) := hsf6.keep HBO.out (by omega)
              have q4 : w5.cell? ⟨w.heap.size + 1, 2, none⟩ = some (.slice ia inn ic) := by have := HBO5.out.cell 2; simpa using this
              have hl5 := HBO5.out.lt
              have hs5 : wr.heap.size ≤ w5.heap.size := hsf6.1.size
              have HROW5 := Lib.hid hrow5
              have HITS5 := Lib.hid hits5
              have HSF6 := Lib.hid hsf6
              have HV := Lib.hid (And.intro hvk (And.intro hvo (And.intro hvw (And.intro hle1 hle2))))
              have HAT5 := Lib.hid hat5
              have HOWN5 : Hid (w5.ownsRow (w.heap.size + 2) 43 4 (.slice ia inn ic) dn.length cs') := own_keep2 HOWN.out (fun g cs h1 h2 => hsf6.keep h2 (by omega))
              clear hrow5 hits5 hsf5 hsf6 hvk hvo hvw hle1 hle2 hat5)
           | (refine step_append_lies _ rfl (.tmp 50) (.tmp 56) 41 rfl (w.heap.size + 2) 43 i0 _ 4 72 Try.underlying41 HI0.out hz0 hz1 hz2 rfl (by decide) (.slice ia inn ic) dn.length cs' (by simp [Act.eval, Act.put]) (own_keep HOWN5.out (fun g cs hb => hb.alloc _)) ⟨w5.heap.size, 0, none⟩ 1 1 [.int .i64 v.kind, .string ⟨v.text.toArray⟩, .slice a5 v.items.length c5, .slice none 0 0] (by simp [Act.eval, Act.put]) rfl (Blk.add (l := [.int .i64 v.kind, .string ⟨v.text.toArray⟩, .slice a5 v.items.length c5, .slice none 0 0]) (Blk.new w5 43 _)) (one4 _ _ _ _ _ _ _ _) (by decide) (by simp only [maxLen]; omega) (by omega) (alloc_le (Nat.le_trans hS hs5)) (w5.heap.size + 1) (size_alloc' _ _) ?_
              intro g7 c7 w7 hown7 hgrow7 hlies7 hlt7
              have HOWN7 := Lib.hid hown7
              have HGROW7 := Lib.hid hgrow7
              have HLIES7 := Lib.hid hlies7
              have HBO7 : Hid (Blk w7 (w.heap.size + 1) 43 #[.int .i64 8, .string ⟨#[]⟩, .slice ia inn ic, .slice none 0 0]) := (hgrow7.block _ (HBO5.out.alloc _).lt (fun h => by have := own_lt HOWN.out h.symm; omega)).trans (HBO5.out.alloc _)
              have q3 : w7.cell? ⟨w.heap.size + 1, 2, none⟩ = some (.slice ia inn ic) := by have := HBO7.out.cell 2; simpa using this
              have q3f := HBO7.out.frozen 2
              have q3l := HBO7.out.lt
              clear hown7 hgrow7 hlies7))
         all_goals
           go_wp2_with fail
           go_roundg g'
           case measure => simp
           case rel =>
             obtain ⟨hvk, hvo, hvw, hle1, hle2⟩ := HV.out
             refine vo_snoc (gk := g' + 1) (w6 := w5.alloc (.cells #[.int .i64 v.kind, .string ⟨v.text.toArray⟩, .slice a5 v.items.length c5, .slice none 0 0] 43)) hdg (by omega) HBO.out HBR1.out HOWN.out HITS.out HPP.out HWT.out ?_ ⟨hvk, hvo⟩ ?_ (by simp; omega) (fun g t cs h1 h2 => (HSF6.out.keep h2 h1).alloc _) habl ((HSF1.out.trans HSF6.out).allocNew (Nat.le_of_lt habl) _) hS (HAT5.out.alloc _) HA0.out.1 HA0.out.2 hle1 hle2 HOWN7.out HGROW7.out (HLIES7.out.imp_right fun h => by rw [size_alloc']; exact h) (by go_num)
             · refine NodeIs.move (P := fun g => wr.drew.heap.size ≤ g) (w := w5) ?_ v (NodeIs.mk' (by rw [hvk]; exact StrRow.nil _ _) HROW5.out HITS5.out)
               intro k t cs h1 h2
               exact ⟨h1, h2.alloc _⟩
             · rw [hvk]
               unfold kwb
               omega
   · have h0' : ((N : Int) / 268435456 % 6 == 0) = false := by simpa using h0
     by_cases h1 : (N : Int) / 268435456 % 6 = 1
     · clear h0'
       obtain ⟨m, hm⟩ : ∃ m : Nat, (N : Int) / 16777216 % 4 = m := ⟨N / 16777216 % 4, by simp⟩
       have hm3 : m ≤ 3 := by omega
       go_enter Try.func24, Try.ntmps24
       go_wp2_with fail
       have HM := Lib.hid hm
       have hRel : VoRel 9 (fun x => (∃ kws : List (List Nat), kws ≠ [] ∧ (∀ k ∈ kws, ∀ r ∈ k, Alpha r) ∧ x.keys = kws.map Wd) ∧ VOk d x) (wtB d + 830) (cntB d) m w ab (a + 1) m (.int .u32 0) (((w.setCell ⟨ab, 0, none⟩ (.int .i64 ((a : Int) + 1))).alloc (.cells z43 43)).alloc (.cells #[.int .i64 9, .string ⟨#[]⟩, .slice none 0 0, .slice none 0 0] 43)) := by
         have hs : ((w.setCell ⟨ab, 0, none⟩ (.int .i64 ((a : Int) + 1))).alloc (.cells z43 43)).heap.size = w.heap.size + 1 := by simp
         have hbo := Blk.new ((w.setCell ⟨ab, 0, none⟩ (.int .i64 ((a : Int) + 1))).alloc (.cells z43 43)) 43 #[.int .i64 9, .string ⟨#[]⟩, .slice none 0 0, .slice none 0 0]
         rw [hs] at hbo
         exact ⟨[], a + 1, .slice none 0 0, [], by simp, rfl, hbo, HBR.out.alloc _, ⟨rfl, .inl ⟨rfl, rfl⟩⟩, items_nil.2 rfl, by simp, by simp [wts], HAT.out.alloc _, Nat.le_refl _, by omega, HSF.out.allocNew (Nat.le_of_lt habl) _, by simp⟩
       have HREL := Lib.hid hRel
       clear hRel hm h0
       try clear h1
       go_loopg [74] m (fun g s47 wx => Hid (VoRel 9 (fun x => (∃ kws : List (List Nat), kws ≠ [] ∧ (∀ k ∈ kws, ∀ r ∈ k, Alpha r) ∧ x.keys = kws.map Wd) ∧ VOk d x) (wtB d + 830) (cntB d) m w ab (a + 1) g s47 wx))
       case atStart => exact HREL.out
       case round =>
         obtain ⟨dn, a1, iv, cs', hdg, rfl, hbo, hbr, hown, hits, hPP, hwt, hat, ha0, ha1, hsf, hS⟩ := hrel.out
         clear hrel HREL
         obtain ⟨ia, inn, ic, rfl⟩ := own_slice hown
         have HBO := Lib.hid hbo
         have HBR1 := Lib.hid hbr
         have HOWN := Lib.hid hown
         have HITS := Lib.hid hits
         have HPP := Lib.hid hPP
         have HWT := Lib.hid hwt
         have HAT1 := Lib.hid hat
         have HSF1 := Lib.hid hsf
         have HA0 := Lib.hid (And.intro ha0 ha1)
         have hl3 := hbo.lt
         have hl2 := hbr.lt
         have q2 : wr.cell? ⟨w.heap.size + 1, 2, none⟩ = some (.slice ia inn ic) := by have := hbo.cell 2; simpa using this
         clear hbo hbr hown hits hPP hwt hat hsf ha0 ha1
         cases gk with
         | zero =>
           have hnl : ¬ (dn.length : Int) < (N : Int) / 16777216 % 4 := by have := HM.out; omega
           have hdl : dn.length = m := by omega
           have o0 := HBO.out.cell 0
           have o1 := HBO.out.cell 1
           have o3 := HBO.out.cell 3
           have r0 := HBR1.out.cell 0
           have r1 := HBR1.out.cell 1
           have r2 := HBR1.out.cell 2
           have r3 := HBR1.out.cell 3
           simp at o0 o1 o3 r0 r1 r2 r3
           have p0 := HBR1.out.frozen 0
           have p1 := HBR1.out.frozen 1
           have p2 := HBR1.out.frozen 2
           have p3 := HBR1.out.frozen 3
           go_wp2_with fail
           obtain ⟨hb4, hat4, hsf4, _⟩ := vo_set4 (v0 := .int .i64 9) (v1 := .string ⟨#[]⟩) (v2 := .slice ia inn ic) (v3 := .slice none 0 0) HBR1.out HAT1.out HSF1.out habl
           have e0 := hb4.cell 0
           have e1 := hb4.cell 1
           have e2 := hb4.cell 2
           have e3 := hb4.cell 3
           simp at e0 e1 e2 e3
           refine bodyPost_ret (v := .agg #[.int .i64 9, .string ⟨#[]⟩, .slice ia inn ic, .slice none 0 0]) (by simp [results, Try.results24, go_sem, e0, e1, e2, e3, hl2]) rfl ?_
           rw [HD.out]
           exact vo_end (PP := (fun x => (∃ kws : List (List Nat), kws ≠ [] ∧ (∀ k ∈ kws, ∀ r ∈ k, Alpha r) ∧ x.keys = kws.map Wd) ∧ VOk d x)) hdl hm3 HOWN.out HITS.out (fun h => (by unfold VOk; exact .inr (.inr ⟨rfl, rfl, h⟩))) HPP.out HWT.out HAT1.out HA0.out.1 HA0.out.2 HSF1.out HBR1.out habl
         | succ g' =>
           have hc1 : a1 + cntB d ≤ 1000000 := by
             have h1 := HA.out
             unfold cntB at h1
             have h2 := Nat.mul_le_mul_right (cntB d) (show dn.length + 1 ≤ 3 by omega)
             rw [Nat.add_mul, Nat.one_mul] at h2
             have := HA0.out.2
             omega
           have hnl : (dn.length : Int) < (N : Int) / 16777216 % 4 := by have := HM.out; omega
           have hU1 : U32s wr ab (.slice A n c) n := HU.out.keep HSF1.out.1
           have hS0 : ab ≤ wr.heap.size := by omega
           have hdl3 : dn.length ≤ 3 := by omega
           have HC : Hid (Calls Try.prog 24 #[(.slice A n c), .pointer (some ⟨ab, 0, none⟩), .int .i64 d] wr (ValIs d ab a1 wr)) := HIH.out wr ab a1 n (.slice A n c) hU1 hn HAT1.out hc1
           clear hU1
           go_wp2_with fail
           refine HC.out.mono ?_
           rintro e w5 ⟨v, a5, c5, cs5, a2, rfl, hvk, hrow5, hits5, hvo, hvw, hat5, hle1, hle2, hsf5⟩
           have hs5 : wr.heap.size ≤ w5.heap.size := hsf5.1.size
           have HBO5 : Hid (Blk w5 (w.heap.size + 1) 43 #[.int .i64 9, .string ⟨#[]⟩, .slice ia inn ic, .slice none 0 0]) := hsf5.keep HBO.out (by omega)
           have HROW5 := Lib.hid hrow5
           have HITS5 := Lib.hid hits5
           have HSF5 := Lib.hid hsf5
           have HV := Lib.hid (And.intro hvo (And.intro hvw (And.intro hle1 hle2)))
           have HAT5 := Lib.hid hat5
           have HC1 := Lib.hid hc1
           clear hrow5 hits5 hsf5 hvk hvo hvw hle1 hle2 hat5 hc1 q2
           go_wp2_with fail
           refine (keys_int _ (by omega) (by omega) _).mono ?_
           rintro e w7 ⟨kv, kws, rfl, hout, hkne, hkl, hkA, hb7⟩
           obtain ⟨ak, nk, ck, rfl⟩ := own_slice hout
           have hk7 : w5.heap.size + 1 ≤ w7.heap.size := by have := hb7.size; simp at this; exact this
           have hX7 : Blk w7 w5.heap.size 43 #[.int .i64 v.kind, .string ⟨v.text.toArray⟩, .slice a5 v.items.length c5, .slice none 0 0] := (Blk.new w5 43 _).below hb7 (by simp)
           have hO7 : Blk w7 (w.heap.size + 1) 43 #[.int .i64 9, .string ⟨#[]⟩, .slice ia inn ic, .slice none 0 0] := (HBO5.out.alloc _).below hb7 (HBO5.out.alloc _).lt
           have v0 := hX7.cell 0
           have v1 := hX7.cell 1
           have v2 := hX7.cell 2
           have v3 := hX7.cell 3
           have v3f := hX7.frozen 3
           have vl := hX7.lt
           simp at v0 v1 v2 v3
           have q2 := hO7.cell 2
           simp at q2
           have ql := hO7.lt
           have hvne : w.heap.size + 1 ≠ w5.heap.size := by omega
           have HOUT := Lib.hid hout
           have HKK := Lib.hid (And.intro hkne (And.intro hkl hkA))
           have HB7 := Lib.hid hb7
           clear hout hkne hkl hkA hb7 hX7 hO7
           have HPRES : Hid (∀ k t cs, k ≠ ab → Blk wr k t cs → Blk ((w7.setCell ⟨w5.heap.size, 3, none⟩ (.slice ak nk ck)).alloc (.cells #[.int .i64 v.kind, .string ⟨v.text.toArray⟩, .slice a5 v.items.length c5, .slice ak nk ck] 43)) k t cs) := by
             intro k t cs h1 h2
             have h5 := HSF5.out.keep h2 h1
             have h7 := (h5.alloc (.cells #[.int .i64 v.kind, .string ⟨v.text.toArray⟩, .slice a5 v.items.length c5, .slice none 0 0] 43)).below HB7.out (h5.alloc _).lt
             have hl := h2.lt
             exact (h7.far (p := ⟨w5.heap.size, 3, none⟩) (by show k ≠ w5.heap.size; omega) _).alloc _
           have HAT9 : Hid (Blk ((w7.setCell ⟨w5.heap.size, 3, none⟩ (.slice ak nk ck)).alloc (.cells #[.int .i64 v.kind, .string ⟨v.text.toArray⟩, .slice a5 v.items.length c5, .slice ak nk ck] 43)) ab 3 #[.int .i64 a2]) := by
             have h7 := (HAT5.out.alloc (.cells #[.int .i64 v.kind, .string ⟨v.text.toArray⟩, .slice a5 v.items.length c5, .slice none 0 0] 43)).below HB7.out (HAT5.out.alloc _).lt
             exact (h7.far (p := ⟨w5.heap.size, 3, none⟩) (by show ab ≠ w5.heap.size; omega) _).alloc _
           have HSF9 : Hid (SF ab w ((w7.setCell ⟨w5.heap.size, 3, none⟩ (.slice ak nk ck)).alloc (.cells #[.int .i64 v.kind, .string ⟨v.text.toArray⟩, .slice a5 v.items.length c5, .slice ak nk ck] 43))) := by
             have h1 := (HSF1.out.trans HSF5.out).allocNew (Nat.le_of_lt habl) (.cells #[.int .i64 v.kind, .string ⟨v.text.toArray⟩, .slice a5 v.items.length c5, .slice none 0 0] 43)
             have h2 := h1.trans (SF.ofBelow HB7.out (by simp; omega))
             exact (h2.setNew (Nat.le_of_lt habl) (p := ⟨w5.heap.size, 3, none⟩) (by show w.heap.size ≤ w5.heap.size; omega) _).allocNew (Nat.le_of_lt habl) _
           have HX9 : Hid (NodeIs (fun g => wr.heap.size ≤ g) ((w7.setCell ⟨w5.heap.size, 3, none⟩ (.slice ak nk ck)).alloc (.cells #[.int .i64 v.kind, .string ⟨v.text.toArray⟩, .slice a5 v.items.length c5, .slice ak nk ck] 43)) 43 (v.withKeys (kws.map Wd)) [.int .i64 v.kind, .string ⟨v.text.toArray⟩, .slice a5 v.items.length c5, .slice ak nk ck]) := by
             have hm : ∀ k t cs, wr.heap.size ≤ k → Blk w5 k t cs → wr.heap.size ≤ k ∧ Blk ((w7.setCell ⟨w5.heap.size, 3, none⟩ (.slice ak nk ck)).alloc (.cells #[.int .i64 v.kind, .string ⟨v.text.toArray⟩, .slice a5 v.items.length c5, .slice ak nk ck] 43)) k t cs := by
               intro k t cs h1 h2
               have h7 := (h2.alloc (.cells #[.int .i64 v.kind, .string ⟨v.text.toArray⟩, .slice a5 v.items.length c5, .slice none 0 0] 43)).below HB7.out (h2.alloc _).lt
               have hl := h2.lt
               exact ⟨h1, (h7.far (p := ⟨w5.heap.size, 3, none⟩) (by show k ≠ w5.heap.size; omega) _).alloc _⟩
             have hsr : StrRow (fun g => w5.heap.size + 1 ≤ g) w7 (.slice ak nk ck) (kws.map Wd) := by
               refine StrRow.of_out (B := w5.heap.size + 1) ?_ fun g h => h
               rw [wdStr_map]
               have h := HOUT.out
               rw [size_alloc'] at h
               exact h
             refine NodeIs.mk' (v := v.withKeys (kws.map Wd)) (Row.move hsr ?_) (HROW5.out.move hm) (ItemsIs.move hm _ HITS5.out)
             intro k t cs h1 h2
             exact ⟨by omega, (h2.far (p := ⟨w5.heap.size, 3, none⟩) (by show k ≠ w5.heap.size; omega) _).alloc _⟩
           have HOWN9 := Lib.hid (own_keep2 HOWN.out (fun k cs h1 h2 => HPRES.out k 43 cs (by omega) h2))
           have HBO9 := Lib.hid (HPRES.out _ _ _ (by omega) HBO.out)
           have hs9 : w.heap.size + 2 ≤ w7.heap.size := by omega
           have hs9w : wr.heap.size ≤ w7.heap.size := by omega
           have HIVB : Hid (∀ k, (Value.slice ia inn ic).ownBlock = some k → w.heap.size + 2 ≤ k ∧ k < wr.heap.size) := fun k hk => own_lt HOWN.out hk
           clear HB7 HOUT HROW5 HITS5 HSF5 HBO5 HAT5
           generalize hq : w5.heap.size = q at *
           clear hq
           go_wp2_with (first
             | (at_builtin; refine wpList_append_lies _ rfl (.tmp 90) (.tmp 92) 41 rfl (w.heap.size + 2) 43 i0 _ 4 72 Try.underlying41 HI0.out hz0 hz1 hz2 rfl (by decide) (.slice ia inn ic) dn.length cs' (by rfl) HOWN9.out ⟨w7.heap.size, 0, none⟩ 1 1 [.int .i64 v.kind, .string ⟨v.text.toArray⟩, .slice a5 v.items.length c5, .slice ak nk ck] (by rfl) rfl ?hnews (one4 _ _ _ _ _ _ _ _) (by decide) (by simp only [maxLen]; omega) (by omega) (alloc_le (by simpa using hs9)) (w7.heap.size + 1) (by simp) ?_
                case hnews =>
                  have h := Blk.new (w7.setCell ⟨q, 3, none⟩ (.slice ak nk ck)) 43 #[.int .i64 v.kind, .string ⟨v.text.toArray⟩, .slice a5 v.items.length c5, .slice ak nk ck]
                  rw [show (w7.setCell ⟨q, 3, none⟩ (.slice ak nk ck)).heap.size = w7.heap.size from by simp] at h
                  exact Blk.add (l := [.int .i64 v.kind, .string ⟨v.text.toArray⟩, .slice a5 v.items.length c5, .slice ak nk ck]) h
                intro g7 c7 w8 hown7 hgrow7 hlies7 hlt7
                have HBO8 : Hid (Blk w8 (w.heap.size + 1) 43 #[.int .i64 9, .string ⟨#[]⟩, .slice ia inn ic, .slice none 0 0]) := (hgrow7.block _ HBO9.out.lt (fun h => by have := (HIVB.out _ h.symm).1; omega)).trans HBO9.out
                have q3 : w8.cell? ⟨w.heap.size + 1, 2, none⟩ = some (.slice ia inn ic) := by have := HBO8.out.cell 2; simpa using this
                have q3f := HBO8.out.frozen 2
                have q3l := HBO8.out.lt
                have HOWN7 := Lib.hid hown7
                have HGROW7 := Lib.hid hgrow7
                have HLIES7 := Lib.hid hlies7
                clear hown7 hgrow7 hlies7))
           go_roundg g'
           case measure => simp
           case rel =>
             obtain ⟨hvo, hvw, hle1, hle2⟩ := HV.out
             obtain ⟨hkne, hkl, hkA⟩ := HKK.out
             refine vo_snoc (gk := g' + 1) (x := v.withKeys (kws.map Wd)) (w6 := (w7.setCell ⟨q, 3, none⟩ (.slice ak nk ck)).alloc (.cells #[.int .i64 v.kind, .string ⟨v.text.toArray⟩, .slice a5 v.items.length c5, .slice ak nk ck] 43)) hdg (by omega) HBO.out HBR1.out HOWN.out HITS.out HPP.out HWT.out HX9.out ⟨⟨kws, hkne, fun k hk => (hkA k hk).2, rfl⟩, hvo.withKeys _⟩ ?_ (by simp; omega) HPRES.out habl HSF9.out hS HAT9.out HA0.out.1 HA0.out.2 hle1 hle2 HOWN7.out HGROW7.out (HLIES7.out.imp_right fun h => by rw [size_alloc']; simpa using h) (by go_num)
             rw [wt_withKeys, keys_withKeys]
             have h1 := kwb_le kws (fun k hk => (hkA k hk).1)
             have h2 := Nat.mul_le_mul_right 250 hkl
             omega
     · have h1' : ((N : Int) / 268435456 % 6 == 1) = false := by simpa using h1
       clear h0 h1
       go_enter Try.func24, Try.ntmps24
       go_wp2_with fail
       refine (scalar_int _ (by omega) (by omega) _).mono ?_
       rintro e w2 ⟨kd, t, rfl, hsc, hb2⟩
       have hbr2 := HBR.out.below hb2 HBR.out.lt
       have HBR2 := Lib.hid hbr2
       have HAT2 := Lib.hid (HAT.out.below hb2 HAT.out.lt)
       have HSF2 : Hid (SF ab w w2) := HSF.out.trans ⟨hb2.mono (Nat.le_of_lt HAT.out.lt), fun g o _ ho => (hb2.block g (heap_lt ho)).trans ho⟩
       have HSC := Lib.hid hsc
       have d0 := hbr2.cell 0
       have d1 := hbr2.cell 1
       have d2 := hbr2.cell 2
       have d3 := hbr2.cell 3
       simp at d0 d1 d2 d3
       have f0 := hbr2.frozen 0
       have f1 := hbr2.frozen 1
       have f2 := hbr2.frozen 2
       have f3 := hbr2.frozen 3
       have hl3 := hbr2.lt
       clear hb2 hbr2 hsc
       go_wp2_with fail
       obtain ⟨hb4, hat4, hsf4, _⟩ := vo_set4 (v0 := .int .i64 kd) (v1 := .string ⟨t.toArray⟩) (v2 := .slice none 0 0) (v3 := .slice none 0 0) HBR2.out HAT2.out HSF2.out habl
       have e0 := hb4.cell 0
       have e1 := hb4.cell 1
       have e2 := hb4.cell 2
       have e3 := hb4.cell 3
       simp at e0 e1 e2 e3
       refine bodyPost_ret (v := .agg #[.int .i64 kd, .string ⟨t.toArray⟩, .slice none 0 0, .slice none 0 0]) (by simp [results, Try.results24, go_sem, e0, e1, e2, e3, hl3]) rfl ?_
       have hok := scalIs_ok HSC.out D
       have hwb := wtB_ge D
       have hcb := cntB_ge D
       exact ⟨.mk kd t [] [], none, 0, [], a + 1, rfl, rfl, ⟨rfl, .inl ⟨rfl, rfl⟩⟩, items_nil.2 rfl, hok.1, Nat.le_trans hok.2 hwb, hat4, Nat.le_succ a, by omega, hsf4⟩
end Go.Proofs.Ytnlkbbpmpgdmiaa
