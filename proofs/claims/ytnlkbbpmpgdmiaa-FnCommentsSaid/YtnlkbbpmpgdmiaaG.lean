/- push. -/
import Derived.Test.YtnlkbbpmpgdmiaaF
import Derived.Deep.RegionLaw
import Derived.StillTailTactics
import Derived.Deep.Cut
import Derived.Laws.CopyOwn
namespace Go.Proofs.Ytnlkbbpmpgdmiaa
open Go.RowKit
set_option linter.unusedVariables false
set_option linter.unusedSimpArgs false

theorem info65 : (Try.prog.info? 65).map (fun i => (i.size, i.bytes)) = some (7, 56) := by kernel_rfl

/-- append where there is room, in a region that draws: the row is written anew -/
theorem step_append_row {P : Program} {ops : Array Oper} {o : Oper} {a : Act} {w : World} {K : Act → World → Prop} {Q : Exit → Act → World → Prop} {E : Prop}
    (hg : o.guard = none) (s x : Operand) (t : TypeId) (hop : o.op = Op.call { callee := Callee.builtin Builtin.append, args := #[s, x], argTypes := #[t, t] })
    (e : TypeId) (i : TypeInfo) (size : Nat) (h1 : P.underlying t = some (.slice e)) (h2 : P.info? e = some i) (h4 : i.size = size)
    (b n cap : Nat) (hs : a.eval s = .slice (some ⟨b, 0, none⟩) n cap) (cur : Array Value) (hcur : w.heap[b]? = some (.cells cur e (0, 0)))
    (ad : Addr) (m c : Nat) (news : List Value) (hx : a.eval x = .slice (some ad) m c) (hn : news.length = m * size) (hc : ∀ j u, news[j]? = some u → w.cell? (ad.add j) = some u) (h1c : ∀ u ∈ news, u.oneCell' = true)
    (hroom : n + m ≤ cap) (hfit : n * size + news.length ≤ cur.size)
    (hK : ∀ w', w' = w.setRow b (cur.toList.take (n * size) ++ news ++ cur.toList.drop (n * size + news.length)).toArray → K (a.put o.dst (.slice (some ⟨b, 0, none⟩) (n + m) cap)) w') :
    if Region.wanted o (yielded ops a.tmps) = true then Oper.wp P o a w K Q else E := by
  have hw : Region.wanted o (yielded ops a.tmps) = true := by simp [Region.wanted, hg]
  rw [if_pos hw]
  subst h4
  have hrun := run_append_room (P := P) w t o.type e i h1 h2 b n cap cur hcur ad m c news hn hc h1c hroom hfit
  unfold Oper.wp
  simp only [execOp, hop, resolve, invoke, builtin, hs, hx, Sem.run_bind, Sem.run_pure, Result.andThen_ok, List.map_toArray, List.map_cons, List.map_nil, hrun]
  exact hK _ rfl

theorem Blk.add {w : World} {g : Nat} {t : TypeId} {l : List Value} (h : Blk w g t l.toArray) : ∀ j u, l[j]? = some u → w.cell? ((⟨g, 0, none⟩ : Addr).add j) = some u := by
  intro j u hj
  rw [Addr.add_lit, Nat.zero_add, h.cell j]
  simpa using hj

/-- a node as it lies in memory -/
abbrev ndCells (g : Nat) (k ro rl : Int) (dv : Value) : Array Value := #[.int .i64 k, .int .u32 ro, .int .u32 rl, dv, .pointer (some ⟨g, 0, none⟩), .int .i32 0, .int .i32 0]

def PushRow (B g gn n ncap : Nat) (kc : Bool) (A : Addr) (dl cap : Nat) (left err nv : Value) (cur : Array Value) (k ro rl : Int) (dv : Value) (w w' : World) : Prop :=
  Blk w' g 52 #[.bool kc, .slice (some A) dl cap, left, .slice (some ⟨gn, 0, none⟩) (n + 1) ncap, err, nv] ∧
  Blk w' gn 65 (cur.toList.take (n * 7) ++ (ndCells g k ro rl dv).toList ++ cur.toList.drop (n * 7 + 7)).toArray ∧ Fr B w w'

theorem push_end {k ro rl : Int} {dv : Value} {B g cap gn ncap : Nat} {A : Addr} {n : Nat} {kc : Bool} {dl : Nat} {left err nv : Value} {cur : Array Value} {w wB w1 w3 : World} {bx : Nat}
    (hg : Blk wB g 52 #[.bool kc, .slice (some A) dl cap, left, .slice (some ⟨gn, 0, none⟩) n ncap, err, nv]) (hgn : Blk wB gn 65 cur) (hBg : B ≤ g) (hBn : B ≤ gn) (hne : g ≠ gn) (hB : B ≤ w.heap.size)
    (hbx : w.heap.size = bx) (hgx : g ≠ bx) (hgnx : gn ≠ bx) (hf : Fr B w wB)
    (h1 : wB.setCell ⟨bx, 4, none⟩ (Value.pointer (some ⟨g, 0, none⟩)) = w1)
    (h3 : w3 = ((w1.alloc (Obj.cells (ndCells g k ro rl dv) 65)).drew).setRow gn (cur.toList.take (n * 7) ++ (ndCells g k ro rl dv).toList ++ cur.toList.drop (n * 7 + 7)).toArray) :
    PushRow B g gn n ncap kc A dl cap left err nv cur k ro rl dv w (w3.setCell ⟨g, 3, none⟩ (.slice (some ⟨gn, 0, none⟩) (n + 1) ncap)) := by
  have l1 := hg.lt
  have l2 := hgn.lt
  have hg1 : Blk w1 g 52 #[.bool kc, .slice (some A) dl cap, left, .slice (some ⟨gn, 0, none⟩) n ncap, err, nv] := by
    rw [← h1]
    exact hg.far (by simpa using hgx) _
  have hgn1 : Blk w1 gn 65 cur := by
    rw [← h1]
    exact hgn.far (by simpa using hgnx) _
  have hf1 : Fr B w w1 := by
    rw [← h1]
    exact ⟨hf.1.setCell (by show B ≤ bx; omega) _, hf.2.newcell (by omega)⟩
  generalize hw2 : ((w1.alloc (Obj.cells (ndCells g k ro rl dv) 65)).drew) = w2 at h3
  have hg2 : Blk w2 g 52 #[.bool kc, .slice (some A) dl cap, left, .slice (some ⟨gn, 0, none⟩) n ncap, err, nv] := by
    rw [← hw2]
    exact (hg1.alloc _).drew
  have hgn2 : Blk w2 gn 65 cur := by
    rw [← hw2]
    exact (hgn1.alloc _).drew
  have hf2 : Fr B w1 w2 := by
    rw [← hw2]
    refine ⟨?_, (Kp.alloc w1 _).trans (Kp.drew _)⟩
    exact ((Below.refl B w1).alloc (by have := hg1.lt; omega) _).drew
  have hg3 : Blk w3 g 52 #[.bool kc, .slice (some A) dl cap, left, .slice (some ⟨gn, 0, none⟩) n ncap, err, nv] := by
    rw [h3]
    exact (setRow_other _ gn g _ hne).trans hg2
  have hgn3 : Blk w3 gn 65 (cur.toList.take (n * 7) ++ (ndCells g k ro rl dv).toList ++ cur.toList.drop (n * 7 + 7)).toArray := by
    rw [h3]
    exact setRow_heap _ gn _ _ _ _ hgn2
  have hf3 : Fr B w2 w3 := by
    rw [h3]
    exact ⟨below_setRow (Below.refl _ _) hBn _, Kp.row65 hgn2 _⟩
  refine ⟨hg3.set_ 3 _, hgn3.far (Ne.symm hne) _, ((hf1.trans hf2).trans hf3).trans ⟨(Below.refl B w3).setCell hBg _, Kp.set52 hg3 3 _⟩⟩

set_option maxRecDepth 100000 in
set_option maxHeartbeats 4000000 in
theorem push_room (k ro rl : Int) (dv : Value) (B g cap gn ncap : Nat) (A : Addr) (n : Nat) (kc : Bool) (dl : Nat) (left err nv : Value) (cur : Array Value) (w : World)
    (hg : Blk w g 52 #[.bool kc, .slice (some A) dl cap, left, .slice (some ⟨gn, 0, none⟩) n ncap, err, nv]) (hgn : Blk w gn 65 cur) (hn : n < ncap) (hnc : ncap ≤ 1000000) (hcur : cur.size = 7 * ncap) (hdv : Hid (dv.oneCell' = true)) (hBg : B ≤ g) (hBn : B ≤ gn) :
    Calls Try.prog 38 #[.pointer (some ⟨g, 0, none⟩), .agg #[.int .i64 k, .int .u32 ro, .int .u32 rl, dv, .pointer none, .int .i32 0, .int .i32 0]] w fun e w' => e = .returned (.int .i32 ((n : Int) + 1)) ∧ PushRow B g gn n ncap kc A dl cap left err nv cur k ro rl dv w w' := by
  obtain ⟨i0, hi0, hx0⟩ := Option.map_eq_some_iff.1 info65
  simp only [Prod.mk.injEq] at hx0
  obtain ⟨hz1, hz2⟩ := hx0
  have c3 : w.cell? ⟨g, 3, none⟩ = some (.slice (some ⟨gn, 0, none⟩) n ncap) := by have := hg.cell 3; simpa using this
  have f3 := hg.frozen 3
  have hlt := hg.lt
  have hltn := hgn.lt
  have hne : g ≠ gn := hg.ne_ hgn (by decide)
  have hnn : ¬ n = ncap := by omega
  go_enter Try.func38, Try.ntmps38
  go_wp2_with fail
  go_quiet (fail)
  go_upto_region 8 with fail
  generalize hwB : (w.alloc (Obj.cells #[Value.int IntKind.i64 k, Value.int IntKind.u32 ro, Value.int IntKind.u32 rl, dv, Value.pointer none, Value.int IntKind.i32 0, Value.int IntKind.i32 0] 65)).drewN nq = wB at *
  have hgB : Blk wB g 52 #[.bool kc, .slice (some A) dl cap, left, .slice (some ⟨gn, 0, none⟩) n ncap, err, nv] := by rw [← hwB]; exact hg.alloc _
  have hgnB : Blk wB gn 65 cur := by rw [← hwB]; exact hgn.alloc _
  have BB : Blk wB w.heap.size 65 #[.int .i64 k, .int .u32 ro, .int .u32 rl, dv, .pointer none, .int .i32 0, .int .i32 0] := by rw [← hwB]; exact Blk.new _ _ _
  have hfB : Fr B w wB := by
    rw [← hwB]
    exact ⟨((Below.refl B w).alloc (by omega) _).trans (Fr.drewN _ nq).1, (Kp.alloc w _).trans (Kp.drewN _ nq)⟩
  generalize hbx : w.heap.size = bx at *
  have HBX := Lib.hid hbx
  have hgx : g ≠ bx := by omega
  have hgnx : gn ≠ bx := by omega
  have HFB := Lib.hid hfB
  clear c3 f3 hbx hwB hfB
  have l1 := hgB.lt
  have l2 := hgnB.lt
  have l3 := BB.lt
  have f3B := hgB.frozen 3
  have y4 := BB.cell 4
  have y4f := BB.frozen 4
  simp at y4
  go_upto_region 9 with fail
  generalize hw1 : wB.setCell ⟨bx, 4, none⟩ (Value.pointer (some ⟨g, 0, none⟩)) = w1 at *
  have B1 : Blk w1 bx 65 #[.int .i64 k, .int .u32 ro, .int .u32 rl, dv, .pointer (some ⟨g, 0, none⟩), .int .i32 0, .int .i32 0] := by
    rw [← hw1]
    exact BB.set_ 4 (Value.pointer (some ⟨g, 0, none⟩))
  have hg1 : Blk w1 g 52 #[.bool kc, .slice (some A) dl cap, left, .slice (some ⟨gn, 0, none⟩) n ncap, err, nv] := by
    rw [← hw1]
    exact hgB.far (by simpa using hgx) _
  have hgn1 : Blk w1 gn 65 cur := by
    rw [← hw1]
    exact hgnB.far (by simpa using hgnx) _
  have HW1 := Lib.hid hw1
  have hlt1 := hg1.lt
  have hltn1 := hgn1.lt
  have hltb1 := B1.lt
  clear hw1 l1 l2 l3 f3B y4 y4f
  have d3 : w1.cell? ⟨g, 3, none⟩ = some (.slice (some ⟨gn, 0, none⟩) n ncap) := by have := hg1.cell 3; simpa using this
  have x0 := B1.cell 0
  have x1 := B1.cell 1
  have x2 := B1.cell 2
  have x3 := B1.cell 3
  have x4 := B1.cell 4
  have x5 := B1.cell 5
  have x6 := B1.cell 6
  simp at x0 x1 x2 x3 x4 x5 x6
  have HN : Hid (∀ j u, ([.int .i64 k, .int .u32 ro, .int .u32 rl, dv, .pointer (some ⟨g, 0, none⟩), .int .i32 0, .int .i32 0] : List Value)[j]? = some u → ((w1.alloc (Obj.cells #[Value.int IntKind.i64 k, Value.int IntKind.u32 ro, Value.int IntKind.u32 rl, dv, Value.pointer (some ⟨g, 0, none⟩), Value.int IntKind.i32 0, Value.int IntKind.i32 0] 65)).drew).cell? ((⟨w1.heap.size, 0, none⟩ : Addr).add j) = some u) :=
    Blk.add (l := [.int .i64 k, .int .u32 ro, .int .u32 rl, dv, .pointer (some ⟨g, 0, none⟩), .int .i32 0, .int .i32 0]) ((Blk.new w1 65 _).drew)
  have H1 : Hid (∀ u ∈ ([.int .i64 k, .int .u32 ro, .int .u32 rl, dv, .pointer (some ⟨g, 0, none⟩), .int .i32 0, .int .i32 0] : List Value), u.oneCell' = true) := by
    intro u hu
    have := hdv.out
    simp at hu
    rcases hu with rfl | rfl | rfl | rfl | rfl | rfl | rfl <;> first | rfl | exact this
  have HG52 : Hid (Blk ((w1.alloc (Obj.cells #[Value.int IntKind.i64 k, Value.int IntKind.u32 ro, Value.int IntKind.u32 rl, dv, Value.pointer (some ⟨g, 0, none⟩), Value.int IntKind.i32 0, Value.int IntKind.i32 0] 65)).drew) g 52 #[.bool kc, .slice (some A) dl cap, left, .slice (some ⟨gn, 0, none⟩) n ncap, err, nv]) := (hg1.alloc _).drew
  have HG : Hid (Blk ((w1.alloc (Obj.cells #[Value.int IntKind.i64 k, Value.int IntKind.u32 ro, Value.int IntKind.u32 rl, dv, Value.pointer (some ⟨g, 0, none⟩), Value.int IntKind.i32 0, Value.int IntKind.i32 0] 65)).drew) gn 65 cur) := (hgn1.alloc _).drew
  go_region_law (
      refine step_append_row rfl (.tmp 49) (.tmp 51) 48 rfl 65 i0 7 Try.underlying48 hi0 hz1 gn n ncap (by simp [Act.eval, Act.put]) cur HG.out ⟨w1.heap.size, 0, none⟩ 1 1 [.int .i64 k, .int .u32 ro, .int .u32 rl, dv, .pointer (some ⟨g, 0, none⟩), .int .i32 0, .int .i32 0] (by simp [Act.eval, Act.put]) rfl HN.out H1.out (by omega) (by simp; omega) ?_
      intro w3 hw3
      have B3 : Blk w3 g 52 #[.bool kc, .slice (some A) dl cap, left, .slice (some ⟨gn, 0, none⟩) n ncap, err, nv] := by rw [hw3]; exact (setRow_other _ gn g _ hne).trans HG52.out
      have e3 : w3.cell? ⟨g, 3, none⟩ = some (.slice (some ⟨gn, 0, none⟩) n ncap) := by have := B3.cell 3; simpa using this
      have e3f := B3.frozen 3
      have HW3 := Lib.hid hw3
      clear hw3)
  all_goals
    go_wp2_with fail
    go_ret
  all_goals exact ⟨rfl, push_end hgB hgnB hBg hBn hne (by have := HBX.out; omega) HBX.out hgx hgnx HFB.out HW1.out HW3.out⟩
end Go.Proofs.Ytnlkbbpmpgdmiaa
