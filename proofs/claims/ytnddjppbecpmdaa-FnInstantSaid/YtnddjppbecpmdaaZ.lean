/- Walks of the package's functions on a date with a time. -/
import Derived.Test.YtnddjppbecpmdaaY
namespace Go.Proofs.Ytnddjppbecpmdaa
open Go.RowKit
set_option linter.unusedVariables false
set_option linter.unusedSimpArgs false

/-- block g holds just the cells cs -/
def Blk (w : World) (g : Nat) (t : TypeId) (cs : Array Value) : Prop := w.heap[g]? = some (.cells cs t (0, 0))

section
variable {w w' : World} {g : Nat} {t : TypeId} {cs : Array Value}
theorem Blk.lt (h : Blk w g t cs) : g < w.heap.size := by
  rcases Nat.lt_or_ge g w.heap.size with hlt | hge
  · exact hlt
  · unfold Blk at h
    rw [Array.getElem?_eq_none hge] at h
    cases h
theorem Blk.cell (h : Blk w g t cs) (i : Nat) : w.cell? ⟨g, i, none⟩ = cs[i]? := by
  unfold Blk at h
  simp [World.cell?, h]
theorem Blk.frozen (h : Blk w g t cs) (i : Nat) : w.frozen? ⟨g, i, none⟩ = false := by
  unfold Blk at h
  simp [World.frozen?, h]
theorem Blk.new (w : World) (t : TypeId) (cs : Array Value) : Blk (w.alloc (.cells cs t)) w.heap.size t cs := (MapKept.heap_alloc w _).1
theorem Blk.drew (h : Blk w g t cs) : Blk w.drew g t cs := h
theorem Blk.alloc (h : Blk w g t cs) (o : Obj) : Blk (w.alloc o) g t cs := (Below.heap_alloc w o g h.lt).trans h
theorem Blk.set_ (h : Blk w g t cs) (i : Nat) (u : Value) : Blk (w.setCell ⟨g, i, none⟩ u) g t (cs.setIfInBounds i u) := by
  unfold Blk at h ⊢
  simp [World.setCell, Array.getElem?_modify, h]
theorem Blk.far (h : Blk w g t cs) {p : Addr} (hp : g ≠ p.block) (u : Value) : Blk (w.setCell p u) g t cs := (Below.heap_setCell w p u g hp).trans h
theorem Blk.below {B : Nat} (h : Blk w g t cs) (hb : Below B w w') (hg : g < B) : Blk w' g t cs := (hb.block g hg).trans h
end

/-- what a reader of dates with times hands back -/
def DtRes (y m d h mi s n p : Int) (b off rl : Nat) (w : World) (e : Ending) (w' : World) : Prop :=
  ∃ (A : Option Addr) (k : Nat), e = .returned (.tuple #[.agg #[.int .i64 y, .int .i64 m, .int .i64 d, .int .i64 h, .int .i64 mi, .int .i64 s, .int .i64 n, .int .i64 p], .slice A rl k, .nilIface]) ∧ rl ≤ k ∧ (0 < rl → A = some ⟨b, off, none⟩) ∧ Below w.heap.size w w'

structure DayOk (ys ms ds : List UInt8) (y m d : Int) : Prop where
  ly : ys.length = 4
  lm : ms.length = 2
  ld : ds.length = 2
  gy : Digs ys
  gm : Digs ms
  gd : Digs ds
  ey : (val ys : Int) = y
  em : (val ms : Int) = m
  ed : (val ds : Int) = d
  y1 : 1 ≤ y
  m1 : 1 ≤ m
  m2 : m ≤ 12
  d1 : 1 ≤ d
  d2 : d ≤ mdays y m

theorem DayOk.date {ys ms ds : List UInt8} {y m d : Int} (o : DayOk ys ms ds y m d) {w : World} {b off : Nat} {r : List UInt8} (h : Bts w b off (dateL ys ms ds ++ r)) (lt : b < w.heap.size) : IsDate w b off ys ms ds ∧ Bts w b (off + 10) r := by
  have h1 := o.y1
  have h2 := o.m1
  have h3 := o.m2
  have h4 := o.d1
  have e1 := o.ey
  have e2 := o.em
  have e3 := o.ed
  exact isDate_of h o.ly o.lm o.ld o.gy o.gm o.gd lt (by omega) (by omega) (by omega) (by omega) (by rw [e1, e2, e3]; exact o.d2)

theorem DayOk.calls {ys ms ds : List UInt8} {y m d : Int} (o : DayOk ys ms ds y m d) {w : World} {b off : Nat} {r : List UInt8} (h : Bts w b off (dateL ys ms ds ++ r)) (lt : b < w.heap.size) (cap : Nat) (hcap : 10 ≤ cap) :
    Calls Try.prog 24 #[.slice (some ⟨b, off, none⟩) 10 cap] w fun e w' => e = .returned (.tuple #[.agg #[.int .i64 y, .int .i64 m, .int .i64 d], .nilIface]) ∧ Below w.heap.size w w' := by
  have hc := (o.date h lt).1.calls cap hcap
  rw [o.ey, o.em, o.ed] at hc
  exact hc

theorem below8 {B : Nat} {w w' : World} (h : Below B w w') {p1 p2 p3 p4 p5 p6 p7 p8 : Addr} {u1 u2 u3 u4 u5 u6 u7 u8 : Value} (h1 : B ≤ p1.block) (h2 : B ≤ p2.block) (h3 : B ≤ p3.block) (h4 : B ≤ p4.block) (h5 : B ≤ p5.block) (h6 : B ≤ p6.block) (h7 : B ≤ p7.block) (h8 : B ≤ p8.block) :
    Below B w ((((((((w'.setCell p1 u1).setCell p2 u2).setCell p3 u3).setCell p4 u4).setCell p5 u5).setCell p6 u6).setCell p7 u7).setCell p8 u8) :=
  (((((((h.setCell h1 _).setCell h2 _).setCell h3 _).setCell h4 _).setCell h5 _).setCell h6 _).setCell h7 _).setCell h8 _

set_option maxRecDepth 100000 in
set_option maxHeartbeats 2000000 in
theorem pldt_any (ys ms ds tl r : List UInt8) (sep : UInt8) (y m d h mi s n p : Int) (b cap len : Nat) (w : World) (ho : DayOk ys ms ds y m d) (hsep : sep.toNat = 84 ∨ sep.toNat = 32) (ht : TimeText tl h mi s n p) (hr : RestOk r)
    (hb : Bts w b 0 (dateL ys ms ds ++ (sep :: (tl ++ r)))) (lt : b < w.heap.size) (hlen : len = 11 + (tl ++ r).length) (hcap : len ≤ cap) (htl : 8 ≤ tl.length) :
    Calls Try.prog 27 #[.slice (some ⟨b, 0, none⟩) len cap] w (DtRes y m d h mi s n p b (11 + tl.length) r.length w) := by
  have hd := ho.date hb lt
  have h10 := hd.2.head.1
  have hbt := hd.2.head.2
  have hlt : (tl ++ r).length + 11 ≤ len := by omega
  have hll : 11 ≤ len := by omega
  have hlc : (tl ++ r).length ≤ cap - 11 := by omega
  have hl1 : (tl ++ r).length = len - 11 := by omega
  have hne : ¬ cap = 11 := by simp at hlc; omega
  have lt1 : b < w.heap.size + 1 := by omega
  have lt2 : b < w.heap.size + 1 + 1 := by omega
  have hcall := ho.calls (((hb.alloc lt (.cells #[.int .i64 0, .int .i64 0, .int .i64 0, .int .i64 0, .int .i64 0, .int .i64 0, .int .i64 0, .int .i64 0] 66)).alloc (by simp; omega) (.cells #[.int .i64 0, .int .i64 0, .int .i64 0, .int .i64 0, .int .i64 0, .int .i64 0, .int .i64 0, .int .i64 0] 66))) (by simp; omega) cap (by omega)
  have hct : ∀ X : World, Below w.heap.size w X → Calls Try.prog 26 #[.slice (some ⟨b, 11, none⟩) (len - 11) (cap - 11)] X (TimeRes h mi s n p b (11 + tl.length) r.length X) := fun X hX => by
    have h1 := ht X b 11 (cap - 11) r (hbt.below hX lt) (by have := hX.size; omega) hlc hr
    rw [hl1] at h1
    exact h1
  have HT := Lib.hid hct
  clear hct
  have HBT := Lib.hid hbt
  have HCALL := Lib.hid hcall
  have HL1 := Lib.hid hl1
  have HR := Lib.hid hr
  clear hd hb hbt ht hcall hl1 hr ho hlen hlt
  go_enter Try.func27, Try.ntmps27
  go_wp2_with fail
  refine HCALL.out.mono ?_
  rintro e w1 ⟨rfl, hb⟩
  clear HCALL
  have hz := hb.size
  simp at hz
  have hz0 : w.heap.size < w1.heap.size := by omega
  have hz1 : w.heap.size + 1 < w1.heap.size := by omega
  have B0 : Blk w1 w.heap.size 66 #[.int .i64 0, .int .i64 0, .int .i64 0, .int .i64 0, .int .i64 0, .int .i64 0, .int .i64 0, .int .i64 0] := ((Blk.new w 66 _).alloc _).below hb (by simp; omega)
  have B1 : Blk w1 (w.heap.size + 1) 66 #[.int .i64 0, .int .i64 0, .int .i64 0, .int .i64 0, .int .i64 0, .int .i64 0, .int .i64 0, .int .i64 0] := by
    have h1 := (Blk.new (w.alloc (.cells #[.int .i64 0, .int .i64 0, .int .i64 0, .int .i64 0, .int .i64 0, .int .i64 0, .int .i64 0, .int .i64 0] 66)) 66 #[.int .i64 0, .int .i64 0, .int .i64 0, .int .i64 0, .int .i64 0, .int .i64 0, .int .i64 0, .int .i64 0]).below hb (by simp)
    simpa using h1
  have c0 := B0.cell
  have f0 := B0.frozen
  have c1 := B1.cell
  have f1 := B1.frozen
  simp at c0 c1
  have bb : Below w.heap.size w w1 := ((((Below.refl _ _).alloc (Nat.le_refl _) _).alloc (by simp) _).trans (hb.mono (by simp; omega)))
  have k10 := (bb.cell (p := ⟨b, 0 + 10, none⟩) lt).trans h10
  have BB := Lib.hid bb
  have HB0 := Lib.hid B0
  have HB1 := Lib.hid B1
  have lt3 : b < w1.heap.size := by omega
  clear h10 bb hb B0 B1
  rcases hsep with hs | hs
  all_goals
    rw [hs] at k10
    simp at k10
    clear hs
    go_wp2_with fail
    refine (HT.out _ ?_).mono ?_
    · exact (((BB.out.setCell (by simp) _).setCell (by simp) _).setCell (by simp) _).alloc (by simp; omega) _
    · rintro e w2 ⟨A, k', rfl, hrk, hA, hb2⟩
      have hz2 := hb2.size
      simp at hz2
      have B2 := ((((HB1.out.set_ 0 (.int .i64 y)).set_ 1 (.int .i64 m)).set_ 2 (.int .i64 d)).alloc (.cells #[.int .i64 y, .int .i64 m, .int .i64 d] 51)).below hb2 (by simp; omega)
      have B3 := ((((HB0.out.far (p := ⟨w.heap.size + 1, 0, none⟩) (by simp) (.int .i64 y)).far (p := ⟨w.heap.size + 1, 1, none⟩) (by simp) (.int .i64 m)).far (p := ⟨w.heap.size + 1, 2, none⟩) (by simp) (.int .i64 d)).alloc (.cells #[.int .i64 y, .int .i64 m, .int .i64 d] 51)).below hb2 (by simp; omega)
      have HB2 := Lib.hid hb2
      have HA := Lib.hid hA
      clear hb2 hA c0 f0 c1 f1
      have d0 := B3.cell
      have g0 := B3.frozen
      have d1 := B2.cell
      have g1 := B2.frozen
      have hz3 : w.heap.size < w2.heap.size := by omega
      have hz4 : w.heap.size + 1 < w2.heap.size := by omega
      clear B2 B3
      simp at d0 d1
      go_wp2_with fail
      refine bodyPost_ret (v := .tuple #[.agg #[.int .i64 y, .int .i64 m, .int .i64 d, .int .i64 h, .int .i64 mi, .int .i64 s, .int .i64 n, .int .i64 p], .slice A r.length k', .nilIface]) (by simp [results, Try.results27, go_sem, d0, hz3]) rfl ⟨A, k', rfl, hrk, HA.out, ?_⟩
      have b2 : Below w.heap.size w w2 := ((((BB.out.setCell (by simp) _).setCell (by simp) _).setCell (by simp) _).alloc (by simp; omega) _).trans (HB2.out.mono (by simp; omega))
      refine Below.alloc ?_ (by simp; omega) _
      refine below8 ?_ (by simp) (by simp) (by simp) (by simp) (by simp) (by simp) (by simp) (by simp)
      exact ((((b2.setCell (by simp) _).setCell (by simp) _).setCell (by simp) _).setCell (by simp) _).setCell (by simp) _
end Go.Proofs.Ytnddjppbecpmdaa
