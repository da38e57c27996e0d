/- push; push where the nodes' memory is full; The parser's nodes, read and written; Range, at, rangeFrom; Keys without quotes. -/
import Derived.Test.YtnlkbbpmpgdmiaaXAA
import Derived.Deep.RegionLaw
import Derived.StillTailTactics
import Derived.Deep.Cut
import Derived.Laws.CopyOwn
namespace Go.Proofs.Ytnlkbbpmpgdmiaa
open Go.RowKit
set_option linter.unusedVariables false
set_option linter.unusedSimpArgs false
theorem info65 : (Try.prog.info? 65).map (fun i => (i.size, i.bytes)) = some (7, 56) := by kernel_rfl
theorem step_append_row {P : Program} {ops : Array Oper} {o : Oper} {a : Act} {w : World} {K : Act → World → Prop} {Q : Exit → Act → World → Prop} {E : Prop}
   (hg : o.guard = none) (s x : Operand) (t : TypeId) (hop : o.op = Op.call { callee := Callee.builtin Builtin.append, args := #[s, x], argTypes := #[t, t] })
   (e : TypeId) (i : TypeInfo) (size : Nat) (h1 : P.underlying t = some (.slice e)) (h2 : P.info? e = some i) (h4 : i.size = size)
   (b n cap : Nat) (hs : a.eval s = .slice (some ⟨b, 0, none⟩) n cap) (cur : Array Value) (hcur : w.heap[b]? = some (.cells cur e (0, 0)))
   (ad : Addr) (m c : Nat) (news : List Value) (hx : a.eval x = .slice (some ad) m c) (hn : news.length = m * size) (hc : ∀ j u, news[j]? = some u → w.cell? (ad.add j) = some u) (h1c : ∀ u ∈ news, u.oneCell' = true)
   (hroom : n + m ≤ cap) (hfit : n * size + news.length ≤ cur.size)
   (hK : ∀ w', w' = w.setRow b (cur.toList.take (n * size) ++ news ++ cur.toList.drop (n * size + news.length)).toArray → K (a.put o.dst (.slice (some ⟨b, 0, none⟩) (n + m) cap)) w') :
   if Region.wanted o (yielded ops a.tmps) = true then Oper.wp P o a w K Q else E := by
 have hw : Region.wanted o (yielded ops a.tmps) = true := by simp [Region.wanted, hg]
 rw [if_pos hw]
 subst h4
 have hrun := run_append_room (P := P) w t o.type e i h1 h2 b n cap cur hcur ad m c news hn hc h1c hroom hfit
 unfold Oper.wp
 simp only [execOp, hop, resolve, invoke, builtin, hs, hx, Sem.run_bind, Sem.run_pure, Result.andThen_ok, List.map_toArray, List.map_cons, List.map_nil, hrun]
 exact hK _ rfl
theorem Blk.add {w : World} {g : Nat} {t : TypeId} {l : List Value} (h : Blk w g t l.toArray) : ∀ j u, l[j]? = some u → w.cell? ((⟨g, 0, none⟩ : Addr).add j) = some u := by
 intro j u hj
 rw [Addr.add_lit, Nat.zero_add, h.cell j]
 simpa using hj
abbrev ndCells (g : Nat) (k ro rl : Int) (dv : Value) : Array Value := #[.int .i64 k, .int .u32 ro, .int .u32 rl, dv, .pointer (some ⟨g, 0, none⟩), .int .i32 0, .int .i32 0]
def PushRow (B g gn n ncap : Nat) (kc : Bool) (A : Addr) (dl cap : Nat) (left err nv : Value) (cur : Array Value) (k ro rl : Int) (dv : Value) (w w' : World) : Prop :=
 Blk w' g 52 #[.bool kc, .slice (some A) dl cap, left, .slice (some ⟨gn, 0, none⟩) (n + 1) ncap, err, nv] ∧
 Blk w' gn 65 (cur.toList.take (n * 7) ++ (ndCells g k ro rl dv).toList ++ cur.toList.drop (n * 7 + 7)).toArray ∧ Fr B w w'
theorem push_end {k ro rl : Int} {dv : Value} {B g cap gn ncap : Nat} {A : Addr} {n : Nat} {kc : Bool} {dl : Nat} {left err nv : Value} {cur : Array Value} {w wB w1 w3 : World} {bx : Nat}
   (hg : Blk wB g 52 #[.bool kc, .slice (some A) dl cap, left, .slice (some ⟨gn, 0, none⟩) n ncap, err, nv]) (hgn : Blk wB gn 65 cur) (hBg : B ≤ g) (hBn : B ≤ gn) (hne : g ≠ gn) (hB : B ≤ w.heap.size)
   (hbx : w.heap.size = bx) (hgx : g ≠ bx) (hgnx : gn ≠ bx) (hf : Fr B w wB)
   (h1 : wB.setCell ⟨bx, 4, none⟩ (Value.pointer (some ⟨g, 0, none⟩)) = w1)
   (h3 : w3 = ((w1.alloc (Obj.cells (ndCells g k ro rl dv) 65)).drew).setRow gn (cur.toList.take (n * 7) ++ (ndCells g k ro rl dv).toList ++ cur.toList.drop (n * 7 + 7)).toArray) :
   PushRow B g gn n ncap kc A dl cap left err nv cur k ro rl dv w (w3.setCell ⟨g, 3, none⟩ (.slice (some ⟨gn, 0, none⟩) (n + 1) ncap)) := by
 have l1 := hg.lt
 have l2 := hgn.lt
 have hg1 : Blk w1 g 52 #[.bool kc, .slice (some A) dl cap, left, .slice (some ⟨gn, 0, none⟩) n ncap, err, nv] := by
   rw [← h1]
   exact hg.far (by simpa using hgx) _
 have hgn1 : Blk w1 gn 65 cur := by
   rw [← h1]
   exact hgn.far (by simpa using hgnx) _
 have hf1 : Fr B w w1 := by
   rw [← h1]
   exact ⟨hf.1.setCell (by show B ≤ bx; omega) _, hf.2.newcell (by omega)⟩
 generalize hw2 : ((w1.alloc (Obj.cells (ndCells g k ro rl dv) 65)).drew) = w2 at h3
 have hg2 : Blk w2 g 52 #[.bool kc, .slice (some A) dl cap, left, .slice (some ⟨gn, 0, none⟩) n ncap, err, nv] := by
   rw [← hw2]
   exact (hg1.alloc _).drew
 have hgn2 : Blk w2 gn 65 cur := by
   rw [← hw2]
   exact (hgn1.alloc _).drew
 have hf2 : Fr B w1 w2 := by
   rw [← hw2]
   refine ⟨?_, (Kp.alloc w1 _).trans (Kp.drew _)⟩
   exact ((Below.refl B w1).alloc (by have := hg1.lt; omega) _).drew
 have hg3 : Blk w3 g 52 #[.bool kc, .slice (some A) dl cap, left, .slice (some ⟨gn, 0, none⟩) n ncap, err, nv] := by
   rw [h3]
   exact (setRow_other _ gn g _ hne).trans hg2
 have hgn3 : Blk w3 gn 65 (cur.toList.take (n * 7) ++ (ndCells g k ro rl dv).toList ++ cur.toList.drop (n * 7 + 7)).toArray := by
   rw [h3]
   exact setRow_heap _ gn _ _ _ _ hgn2
 have hf3 : Fr B w2 w3 := by
   rw [h3]
   exact ⟨below_setRow (Below.refl _ _) hBn _, Kp.row65 hgn2 _⟩
 refine ⟨hg3.set_ 3 _, hgn3.far (Ne.symm hne) _, ((hf1.trans hf2).trans hf3).trans ⟨(Below.refl B w3).setCell hBg _, Kp.set52 hg3 3 _⟩⟩
set_option maxRecDepth 100000 in
set_option maxHeartbeats 4000000 in
theorem push_room (k ro rl : Int) (dv : Value) (B g cap gn ncap : Nat) (A : Addr) (n : Nat) (kc : Bool) (dl : Nat) (left err nv : Value) (cur : Array Value) (w : World)
   (hg : Blk w g 52 #[.bool kc, .slice (some A) dl cap, left, .slice (some ⟨gn, 0, none⟩) n ncap, err, nv]) (hgn : Blk w gn 65 cur) (hn : n < ncap) (hnc : ncap ≤ 1000000) (hcur : cur.size = 7 * ncap) (hdv : Hid (dv.oneCell' = true)) (hBg : B ≤ g) (hBn : B ≤ gn) :
   Calls Try.prog 38 #[.pointer (some ⟨g, 0, none⟩), .agg #[.int .i64 k, .int .u32 ro, .int .u32 rl, dv, .pointer none, .int .i32 0, .int .i32 0]] w fun e w' => e = .returned (.int .i32 ((n : Int) + 1)) ∧ PushRow B g gn n ncap kc A dl cap left err nv cur k ro rl dv w w' := by
 obtain ⟨i0, hi0, hx0⟩ := Option.map_eq_some_iff.1 info65
 simp only [Prod.mk.injEq] at hx0
 obtain ⟨hz1, hz2⟩ := hx0
 have c3 : w.cell? ⟨g, 3, none⟩ = some (.slice (some ⟨gn, 0, none⟩) n ncap) := by have := hg.cell 3; simpa using this
 have f3 := hg.frozen 3
 have hlt := hg.lt
 have hltn := hgn.lt
 have hne : g ≠ gn := hg.ne_ hgn (by decide)
 have hnn : ¬ n = ncap := by omega
 go_enter Try.func38, Try.ntmps38
 go_wp2_with fail
 go_quiet (fail)
 go_upto_region 8 with fail
 generalize hwB : (w.alloc (Obj.cells #[Value.int IntKind.i64 k, Value.int IntKind.u32 ro, Value.int IntKind.u32 rl, dv, Value.pointer none, Value.int IntKind.i32 0, Value.int IntKind.i32 0] 65)).drewN nq = wB at *
 have hgB : Blk wB g 52 #[.bool kc, .slice (some A) dl cap, left, .slice (some ⟨gn, 0, none⟩) n ncap, err, nv] := by rw [← hwB]; exact hg.alloc _
 have hgnB : Blk wB gn 65 cur := by rw [← hwB]; exact hgn.alloc _
 have BB : Blk wB w.heap.size 65 #[.int .i64 k, .int .u32 ro, .int .u32 rl, dv, .pointer none, .int .i32 0, .int .i32 0] := by rw [← hwB]; exact Blk.new _ _ _
 have hfB : Fr B w wB := by
   rw [← hwB]
   exact ⟨((Below.refl B w).alloc (by omega) _).trans (Fr.drewN _ nq).1, (Kp.alloc w _).trans (Kp.drewN _ nq)⟩
 generalize hbx : w.heap.size = bx at *
 have HBX := Lib.hid hbx
 have hgx : g ≠ bx := by omega
 have hgnx : gn ≠ bx := by omega
 have HFB := Lib.hid hfB
 clear c3 f3 hbx hwB hfB
 have l1 := hgB.lt
 have l2 := hgnB.lt
 have l3 := BB.lt
 have f3B := hgB.frozen 3
 have y4 := BB.cell 4
 have y4f := BB.frozen 4
 simp at y4
 go_upto_region 9 with fail
 generalize hw1 : wB.setCell ⟨bx, 4, none⟩ (Value.pointer (some ⟨g, 0, none⟩)) = w1 at *
 have B1 : Blk w1 bx 65 #[.int .i64 k, .int .u32 ro, .int .u32 rl, dv, .pointer (some ⟨g, 0, none⟩), .int .i32 0, .int .i32 0] := by
   rw [← hw1]
   exact BB.set_ 4 (Value.pointer (some ⟨g, 0, none⟩))
 have hg1 : Blk w1 g 52 #[.bool kc, .slice (some A) dl cap, left, .slice (some ⟨gn, 0, none⟩) n ncap, err, nv] := by
   rw [← hw1]
   exact hgB.far (by simpa using hgx) _
 have hgn1 : Blk w1 gn 65 cur := by
   rw [← hw1]
   exact hgnB.far (by simpa using hgnx) _
 have HW1 := Lib.hid hw1
 have hlt1 := hg1.lt
 have hltn1 := hgn1.lt
 have hltb1 := B1.lt
 clear hw1 l1 l2 l3 f3B y4 y4f
 have d3 : w1.cell? ⟨g, 3, none⟩ = some (.slice (some ⟨gn, 0, none⟩) n ncap) := by have := hg1.cell 3; simpa using this
 have x0 := B1.cell 0
 have x1 := B1.cell 1
 have x2 := B1.cell 2
 have x3 := B1.cell 3
 have x4 := B1.cell 4
 have x5 := B1.cell 5
 have x6 := B1.cell 6
 simp at x0 x1 x2 x3 x4 x5 x6
 have HN : Hid (∀ j u, ([.int .i64 k, .int .u32 ro, .int .u32 rl, dv, .pointer (some ⟨g, 0, none⟩), .int .i32 0, .int .i32 0] : List Value)[j]? = some u → ((w1.alloc (Obj.cells #[Value.int IntKind.i64 k, Value.int IntKind.u32 ro, Value.int IntKind.u32 rl, dv, Value.pointer (some ⟨g, 0, none⟩), Value.int IntKind.i32 0, Value.int IntKind.i32 0] 65)).drew).cell? ((⟨w1.heap.size, 0, none⟩ : Addr).add j) = some u) :=
   Blk.add (l := [.int .i64 k, .int .u32 ro, .int .u32 rl, dv, .pointer (some ⟨g, 0, none⟩), .int .i32 0, .int .i32 0]) ((Blk.new w1 65 _).drew)
 have H1 : Hid (∀ u ∈ ([.int .i64 k, .int .u32 ro, .int .u32 rl, dv, .pointer (some ⟨g, 0, none⟩), .int .i32 0, .int .i32 0] : List Value), u.oneCell' = true) := by
   intro u hu
   have := hdv.out
   simp at hu
   rcases hu with rfl | rfl | rfl | rfl | rfl | rfl | rfl <;> first | rfl | exact this
 have HG52 : Hid (Blk ((w1.alloc (Obj.cells #[Value.int IntKind.i64 k, Value.int IntKind.u32 ro, Value.int IntKind.u32 rl, dv, Value.pointer (some ⟨g, 0, none⟩), Value.int IntKind.i32 0, Value.int IntKind.i32 0] 65)).drew) g 52 #[.bool kc, .slice (some A) dl cap, left, .slice (some ⟨gn, 0, none⟩) n ncap, err, nv]) := (hg1.alloc _).drew
 have HG : Hid (Blk ((w1.alloc (Obj.cells #[Value.int IntKind.i64 k, Value.int IntKind.u32 ro, Value.int IntKind.u32 rl, dv, Value.pointer (some ⟨g, 0, none⟩), Value.int IntKind.i32 0, Value.int IntKind.i32 0] 65)).drew) gn 65 cur) := (hgn1.alloc _).drew
 go_region_law (
     refine step_append_row rfl (.tmp 49) (.tmp 51) 48 rfl 65 i0 7 Try.underlying48 hi0 hz1 gn n ncap (by simp [Act.eval, Act.put]) cur HG.out ⟨w1.heap.size, 0, none⟩ 1 1 [.int .i64 k, .int .u32 ro, .int .u32 rl, dv, .pointer (some ⟨g, 0, none⟩), .int .i32 0, .int .i32 0] (by simp [Act.eval, Act.put]) rfl HN.out H1.out (by omega) (by simp; omega) ?_
     intro w3 hw3
     have B3 : Blk w3 g 52 #[.bool kc, .slice (some A) dl cap, left, .slice (some ⟨gn, 0, none⟩) n ncap, err, nv] := by rw [hw3]; exact (setRow_other _ gn g _ hne).trans HG52.out
     have e3 : w3.cell? ⟨g, 3, none⟩ = some (.slice (some ⟨gn, 0, none⟩) n ncap) := by have := B3.cell 3; simpa using this
     have e3f := B3.frozen 3
     have HW3 := Lib.hid hw3
     clear hw3)
 all_goals
   go_wp2_with fail
   go_ret
 all_goals exact ⟨rfl, push_end hgB hgnB hBg hBn hne (by have := HBX.out; omega) HBX.out hgx hgnx HFB.out HW1.out HW3.out⟩
end Go.Proofs.Ytnlkbbpmpgdmiaa
namespace Go.Proofs.Ytnlkbbpmpgdmiaa
open Go.RowKit
set_option linter.unusedVariables false
set_option linter.unusedSimpArgs false
theorem wpList_mk {P : Program} {w : World} {ops : Array Oper} {rest : List Oper} {o : Oper} {a : Act} {Q : Exit → Act → World → Prop}
   (hg : o.guard = none) (l c : Operand) (t : TypeId) (hop : o.op = Op.makeSlice t l c)
   (e : TypeId) (i : TypeInfo) (z : Value) (size : Nat) (h1 : P.underlying t = some (.slice e)) (h2 : P.info? e = some i) (h3 : i.zero = some z) (h4 : i.size = size)
   (kl kc : IntKind) (L C : Int) (n m : Nat) (hl : a.eval l = .int kl L) (hc : a.eval c = .int kc C) (hL : L = (n : Int)) (hC : C = (m : Int)) (hnm : n ≤ m) (b2 : i.bytes * m ≤ 281474976710656) (b3 : m ≤ 9223372036854775807)
   (hK : ∀ w', w' = w.alloc (.cells (madeCells z.cells (m * size)) e) → wpList P ops Q rest (a.put o.dst (.slice (some ⟨w.heap.size, 0, none⟩) n m)) w') :
   wpList P ops Q (o :: rest) a w := by
 refine wpList_plain hg fun K hK' => ?_
 subst hL hC h4
 have hb' : (i.bytes : Int) * (m : Int) ≤ 281474976710656 := by
   have h : ((i.bytes * m : Nat) : Int) ≤ 281474976710656 := by omega
   rwa [Int.natCast_mul] at h
 have hrun := run_make (P := P) w t e i z h1 h2 h3 kl kc n m (by omega) (by omega) hb' (by omega)
 simp only [Int.toNat_natCast] at hrun
 unfold Oper.wp
 simp [execOp, hop, hl, hc, hrun, Result.andThen]
 exact hK' _ _ (hK _ rfl)
theorem copy_wide {P : Program} (w : World) (dT ty elem : TypeId) (i : TypeInfo) (g n dCap : Nat) (a : Addr) (cur : Array Value) (t : TypeId) (cs : List Value)
   (hu : P.underlying dT = some (.slice elem)) (hi : P.info? elem = some i)
   (hg : w.heap[g]? = some (.cells cur t (0, 0))) (hn : cs.length = n * i.size)
   (hsrc : ∀ j v, cs[j]? = some v → w.cell? (a.add j) = some v) (hfit : cs.length ≤ cur.size) (h1 : ∀ v ∈ cs, v.oneCell' = true) :
   (Builtin.copy_ #[dT, dT] ty #[.slice (some ⟨g, 0, none⟩) n dCap, .slice (some a) n n]).run P w =
     .ok (goInt n) (w.setRow g (cs ++ cur.toList.drop cs.length).toArray) := by
 have hl := run_loadCells_list (P := P) w a cs hsrc
 rw [hn] at hl
 have hst := run_storeCells_at P g 0 t cs 0 cur w hg (by simpa using hfit) h1
 simp at hst
 simp [Builtin.copy_, run_underlying hu, Builtin.lenOf, Builtin.firstCells, sizeOf, typeInfo, hi, hl, hst]
theorem copy_nil {P : Program} (w : World) (dT ty elem : TypeId) (i : TypeInfo) (g dCap : Nat) (cur : Array Value) (t : TypeId)
   (hu : P.underlying dT = some (.slice elem)) (hi : P.info? elem = some i)
   (hg : w.heap[g]? = some (.cells cur t (0, 0))) :
   (Builtin.copy_ #[dT, dT] ty #[.slice (some ⟨g, 0, none⟩) 0 dCap, .slice none 0 0]).run P w =
     .ok (goInt 0) (w.setRow g ([] ++ cur.toList.drop 0).toArray) := by
 have e : (([] : List Value) ++ cur.toList.drop 0).toArray = cur := by simp
 rw [e, setRow_self w g cur t (0, 0) hg]
 simp [Builtin.copy_, run_underlying hu, Builtin.lenOf, Builtin.firstCells, sizeOf, typeInfo, hi, storeCells]
theorem info65z : (Try.prog.info? 65).map (fun i => (i.zero, i.size, i.bytes)) = some (some (.agg #[.int .i64 0, .int .u32 0, .int .u32 0, .slice none 0 0, .pointer none, .int .i32 0, .int .i32 0]), 7, 56) := by kernel_rfl
abbrev ndBox (k ro rl : Int) (dv : Value) : Obj := .cells #[.int .i64 k, .int .u32 ro, .int .u32 rl, dv, .pointer none, .int .i32 0, .int .i32 0] 65
abbrev ndZ : Array Value := (Value.agg #[.int .i64 0, .int .u32 0, .int .u32 0, .slice none 0 0, .pointer none, .int .i32 0, .int .i32 0]).cells
theorem grow_facts {k ro rl : Int} {dv : Value} {B g cap : Nat} {V : Option Addr} {A : Addr} {n m : Nat} {kc : Bool} {dl : Nat} {left err nv : Value} {olds : List Value} {w wm : World} {i0 : TypeInfo} {bx nq : Nat}
   (hg : Blk w g 52 #[.bool kc, .slice (some A) dl cap, left, .slice V n n, err, nv]) (hV : (n = 0 ∧ V = none ∧ olds = []) ∨ ∃ gn, V = some ⟨gn, 0, none⟩ ∧ Blk w gn 65 olds.toArray ∧ olds.length = 7 * n)
   (hnm : n ≤ m) (h1o : ∀ u ∈ olds, u.oneCell' = true) (hBg : B ≤ g) (hBw : B ≤ bx) (hbx : w.heap.size = bx) (hi : Try.prog.info? 65 = some i0) (hz1 : i0.size = 7)
   (hwm : wm = ((w.alloc (ndBox k ro rl dv)).drewN nq).alloc (.cells (madeCells ndZ (m * 7)) 65)) :
   Blk wm g 52 #[.bool kc, .slice (some A) dl cap, left, .slice V n n, err, nv] ∧ ∃ junk, olds.length + junk.length = 7 * m ∧
     (∀ ty, (Builtin.copy_ #[48, 48] ty #[.slice (some ⟨bx + 1, 0, none⟩) n m, .slice V n n]).run Try.prog wm = .ok (goInt n) (wm.setRow (bx + 1) (olds ++ junk).toArray)) ∧
     ∀ wc, wc = wm.setRow (bx + 1) (olds ++ junk).toArray → Blk wc g 52 #[.bool kc, .slice (some A) dl cap, left, .slice V n n, err, nv] ∧ Blk wc (bx + 1) 65 (olds ++ junk).toArray ∧
       Blk wc bx 65 #[.int .i64 k, .int .u32 ro, .int .u32 rl, dv, .pointer none, .int .i32 0, .int .i32 0] ∧ Fr B w wc := by
 have l1 := hg.lt
 have hs : ((w.alloc (ndBox k ro rl dv)).drewN nq).heap.size = bx + 1 := by simp [hbx]
 have hgm : Blk wm g 52 #[.bool kc, .slice (some A) dl cap, left, .slice V n n, err, nv] := by
   rw [hwm]
   exact Blk.alloc (w := (w.alloc (ndBox k ro rl dv)).drewN nq) (hg.alloc _) _
 have hbm : Blk wm bx 65 #[.int .i64 k, .int .u32 ro, .int .u32 rl, dv, .pointer none, .int .i32 0, .int .i32 0] := by
   rw [hwm]
   have h1 : Blk (w.alloc (ndBox k ro rl dv)) bx 65 #[.int .i64 k, .int .u32 ro, .int .u32 rl, dv, .pointer none, .int .i32 0, .int .i32 0] := by rw [← hbx]; exact Blk.new _ _ _
   exact Blk.alloc (w := (w.alloc (ndBox k ro rl dv)).drewN nq) h1 _
 have hnm' : Blk wm (bx + 1) 65 (madeCells ndZ (m * 7)) := by
   rw [hwm, ← hs]
   exact Blk.new _ _ _
 have hfm : Fr B w wm := by
   rw [hwm]
   refine ⟨?_, ((Kp.alloc w _).trans (Kp.drewN _ nq)).trans (Kp.alloc _ _)⟩
   exact (((Below.refl B w).alloc (by omega) _).trans (Fr.drewN _ nq).1).alloc (by rw [hs]; omega) _
 have hsz : (madeCells ndZ (m * 7)).size = m * 7 := size_madeCells _ _
 refine ⟨hgm, (madeCells ndZ (m * 7)).toList.drop olds.length, ?_, ?_, ?_⟩
 · have hle : olds.length ≤ 7 * m := by
     rcases hV with ⟨_, _, h⟩ | ⟨_, _, _, h⟩
     · simp [h]
     · omega
   have h2 : (madeCells ndZ (m * 7)).toList.length = m * 7 := by rw [Array.length_toList]; exact hsz
   rw [List.length_drop, h2]
   omega
 · intro ty
   rcases hV with ⟨rfl, rfl, rfl⟩ | ⟨gn, rfl, hgn, hl⟩
   · exact copy_nil wm 48 ty 65 i0 (bx + 1) m _ 65 Try.underlying48 hi hnm'
   · have hgn' : Blk wm gn 65 olds.toArray := by
       rw [hwm]
       exact Blk.alloc (w := (w.alloc (ndBox k ro rl dv)).drewN nq) (hgn.alloc _) _
     exact copy_wide wm 48 ty 65 i0 (bx + 1) n m ⟨gn, 0, none⟩ _ 65 olds Try.underlying48 hi hnm' (by rw [hz1]; omega) hgn'.add (by rw [hsz]; omega) h1o
 · intro wc hwc
   have hne : g ≠ bx + 1 := by omega
   refine ⟨?_, ?_, ?_, hfm.trans ?_⟩
   · rw [hwc]; exact (setRow_other _ _ _ _ hne).trans hgm
   · rw [hwc]; exact setRow_heap _ _ _ _ _ _ hnm'
   · rw [hwc]; exact (setRow_other _ _ _ _ (by omega)).trans hbm
   · rw [hwc]; exact ⟨below_setRow (Below.refl _ _) (by omega) _, Kp.row65 hnm' _⟩
set_option maxRecDepth 100000 in
set_option maxHeartbeats 4000000 in
theorem push_grow (k ro rl : Int) (dv : Value) (B g cap : Nat) (V : Option Addr) (A : Addr) (n m : Nat) (kc : Bool) (dl : Nat) (left err nv : Value) (olds : List Value) (w : World)
   (hg : Blk w g 52 #[.bool kc, .slice (some A) dl cap, left, .slice V n n, err, nv]) (hV : (n = 0 ∧ V = none ∧ olds = []) ∨ ∃ gn, V = some ⟨gn, 0, none⟩ ∧ Blk w gn 65 olds.toArray ∧ olds.length = 7 * n)
   (hm : (n < 32 ∧ m = 64) ∨ (32 ≤ n ∧ m = 2 * n)) (hnc : m ≤ 1000000) (hdv : Hid (dv.oneCell' = true)) (h1o : Hid (∀ u ∈ olds, u.oneCell' = true)) (hBg : B ≤ g) (hBw : B ≤ w.heap.size) :
   Calls Try.prog 38 #[.pointer (some ⟨g, 0, none⟩), .agg #[.int .i64 k, .int .u32 ro, .int .u32 rl, dv, .pointer none, .int .i32 0, .int .i32 0]] w fun e w' => e = .returned (.int .i32 ((n : Int) + 1)) ∧
     ∃ gn' junk, olds.length + junk.length = 7 * m ∧ B ≤ gn' ∧ PushRow B g gn' n m kc A dl cap left err nv (olds ++ junk).toArray k ro rl dv w w' := by
 obtain ⟨i0, hi0, hz0, hz1, hz2⟩ := info_parts info65z
 have c3 : w.cell? ⟨g, 3, none⟩ = some (.slice V n n) := by have := hg.cell 3; simpa using this
 have f3 := hg.frozen 3
 have hlt := hg.lt
 have hbytes : i0.bytes * m ≤ 281474976710656 := by rw [hz2]; omega
 have HV := Lib.hid hV
 clear hV hz2
 generalize hbx : w.heap.size = bx at *
 have HBX := Lib.hid hbx
 rcases hm with ⟨hm, rfl⟩ | ⟨hm, rfl⟩
 · go_enter Try.func38, Try.ntmps38
   go_wp2_with fail
   go_quiet (fail)
   go_upto_region 8 with (first
     | (at_make; refine wpList_mk rfl _ _ 48 rfl 65 i0 _ 7 Try.underlying48 hi0 hz0 hz1 _ _ _ _ n 64 rfl rfl rfl (by first | rfl | simp) (by omega) hbytes (by omega) ?_
        intro wm hwm
        obtain ⟨hgm, junk, hjl, hrun, hwcf⟩ := grow_facts (B := B) hg HV.out (by omega) h1o.out hBg hBw HBX.out hi0 hz1 hwm
        have d3 : wm.cell? ⟨g, 3, none⟩ = some (.slice V n n) := by have := hgm.cell 3; simpa using this
        have hr3 := hrun 3
        obtain ⟨wc, hwc⟩ : ∃ wc, wc = wm.setRow (bx + 1) (olds ++ junk).toArray := ⟨_, rfl⟩
        rw [← hwc] at hr3
        obtain ⟨hgc, hnc1, hbc, hfc⟩ := hwcf wc hwc
        have e3 : wc.cell? ⟨g, 3, none⟩ = some (.slice V n n) := by have := hgc.cell 3; simpa using this
        have e3f := hgc.frozen 3
        have HJL := Lib.hid hjl
        have HFC := Lib.hid hfc
        have lc := hgc.lt
        clear hwm hrun hwcf hjl hwc hfc))
   generalize hwB : wc.setCell ⟨g, 3, none⟩ (.slice (some ⟨bx + 1, 0, none⟩) n 64) = wB at *
   have hgB : Blk wB g 52 #[.bool kc, .slice (some A) dl cap, left, .slice (some ⟨bx + 1, 0, none⟩) n 64, err, nv] := by rw [← hwB]; exact hgc.set_ 3 _
   have hgnB : Blk wB (bx + 1) 65 (olds ++ junk).toArray := by rw [← hwB]; exact hnc1.far (by show bx + 1 ≠ g; omega) _
   have BB : Blk wB bx 65 #[.int .i64 k, .int .u32 ro, .int .u32 rl, dv, .pointer none, .int .i32 0, .int .i32 0] := by rw [← hwB]; exact hbc.far (by show bx ≠ g; omega) _
   have HFB : Hid (Fr B w wB) := by
     rw [← hwB]
     exact HFC.out.trans ⟨(Below.refl B wc).setCell hBg _, Kp.set52 hgc 3 _⟩
   have hgx : g ≠ bx := by omega
   have hgnx : bx + 1 ≠ bx := by omega
   have hne : g ≠ bx + 1 := by omega
   generalize hgn : bx + 1 = gn at *
   have hBn : B ≤ gn := by omega
   have hcur : 7 * n + 7 ≤ (olds ++ junk).toArray.size := by have := HJL.out; simp; omega
   generalize hcu : (olds ++ junk).toArray = cur at *
   have HCU := Lib.hid hcu
   generalize hnc2 : 64 = ncap at *
   have hnM : n + 1 ≤ ncap := by omega
   have hnM2 : n ≤ 500000 := by omega
   have HNC := Lib.hid hnc2
   clear hnc2 c3 f3 hbx hwB hr3 e3 e3f d3 hgm hgc hnc1 hbc hcu
   have l1 := hgB.lt
   have l2 := hgnB.lt
   have l3 := BB.lt
   have f3B := hgB.frozen 3
   have y4 := BB.cell 4
   have y4f := BB.frozen 4
   simp at y4
   go_upto_region 9 with fail
   generalize hw1 : wB.setCell ⟨bx, 4, none⟩ (Value.pointer (some ⟨g, 0, none⟩)) = w1 at *
   have B1 : Blk w1 bx 65 #[.int .i64 k, .int .u32 ro, .int .u32 rl, dv, .pointer (some ⟨g, 0, none⟩), .int .i32 0, .int .i32 0] := by
     rw [← hw1]
     exact BB.set_ 4 (Value.pointer (some ⟨g, 0, none⟩))
   have hg1 : Blk w1 g 52 #[.bool kc, .slice (some A) dl cap, left, .slice (some ⟨gn, 0, none⟩) n ncap, err, nv] := by
     rw [← hw1]
     exact hgB.far (by simpa using hgx) _
   have hgn1 : Blk w1 gn 65 cur := by
     rw [← hw1]
     exact hgnB.far (by simpa using hgnx) _
   have HW1 := Lib.hid hw1
   have hlt1 := hg1.lt
   have hltn1 := hgn1.lt
   have hltb1 := B1.lt
   clear hw1 l1 l2 l3 f3B y4 y4f
   have d3 : w1.cell? ⟨g, 3, none⟩ = some (.slice (some ⟨gn, 0, none⟩) n ncap) := by have := hg1.cell 3; simpa using this
   have x0 := B1.cell 0
   have x1 := B1.cell 1
   have x2 := B1.cell 2
   have x3 := B1.cell 3
   have x4 := B1.cell 4
   have x5 := B1.cell 5
   have x6 := B1.cell 6
   simp at x0 x1 x2 x3 x4 x5 x6
   have HN : Hid (∀ j u, ([.int .i64 k, .int .u32 ro, .int .u32 rl, dv, .pointer (some ⟨g, 0, none⟩), .int .i32 0, .int .i32 0] : List Value)[j]? = some u → ((w1.alloc (Obj.cells #[Value.int IntKind.i64 k, Value.int IntKind.u32 ro, Value.int IntKind.u32 rl, dv, Value.pointer (some ⟨g, 0, none⟩), Value.int IntKind.i32 0, Value.int IntKind.i32 0] 65)).drew).cell? ((⟨w1.heap.size, 0, none⟩ : Addr).add j) = some u) :=
     Blk.add (l := [.int .i64 k, .int .u32 ro, .int .u32 rl, dv, .pointer (some ⟨g, 0, none⟩), .int .i32 0, .int .i32 0]) ((Blk.new w1 65 _).drew)
   have H1 : Hid (∀ u ∈ ([.int .i64 k, .int .u32 ro, .int .u32 rl, dv, .pointer (some ⟨g, 0, none⟩), .int .i32 0, .int .i32 0] : List Value), u.oneCell' = true) := by
     intro u hu
     have := hdv.out
     simp at hu
     rcases hu with rfl | rfl | rfl | rfl | rfl | rfl | rfl <;> first | rfl | exact this
   have HG52 : Hid (Blk ((w1.alloc (Obj.cells #[Value.int IntKind.i64 k, Value.int IntKind.u32 ro, Value.int IntKind.u32 rl, dv, Value.pointer (some ⟨g, 0, none⟩), Value.int IntKind.i32 0, Value.int IntKind.i32 0] 65)).drew) g 52 #[.bool kc, .slice (some A) dl cap, left, .slice (some ⟨gn, 0, none⟩) n ncap, err, nv]) := (hg1.alloc _).drew
   have HG : Hid (Blk ((w1.alloc (Obj.cells #[Value.int IntKind.i64 k, Value.int IntKind.u32 ro, Value.int IntKind.u32 rl, dv, Value.pointer (some ⟨g, 0, none⟩), Value.int IntKind.i32 0, Value.int IntKind.i32 0] 65)).drew) gn 65 cur) := (hgn1.alloc _).drew
   go_region_law (
       refine step_append_row rfl (.tmp 49) (.tmp 51) 48 rfl 65 i0 7 Try.underlying48 hi0 hz1 gn n ncap (by simp [Act.eval, Act.put]) cur HG.out ⟨w1.heap.size, 0, none⟩ 1 1 [.int .i64 k, .int .u32 ro, .int .u32 rl, dv, .pointer (some ⟨g, 0, none⟩), .int .i32 0, .int .i32 0] (by simp [Act.eval, Act.put]) rfl HN.out H1.out (by omega) (by simp; omega) ?_
       intro w3 hw3
       have B3 : Blk w3 g 52 #[.bool kc, .slice (some A) dl cap, left, .slice (some ⟨gn, 0, none⟩) n ncap, err, nv] := by rw [hw3]; exact (setRow_other _ gn g _ hne).trans HG52.out
       have e3 : w3.cell? ⟨g, 3, none⟩ = some (.slice (some ⟨gn, 0, none⟩) n ncap) := by have := B3.cell 3; simpa using this
       have e3f := B3.frozen 3
       have HW3 := Lib.hid hw3
       clear hw3)
   all_goals
     go_wp2_with fail
     go_ret
   all_goals
     refine ⟨rfl, gn, junk, by rw [HNC.out]; exact HJL.out, hBn, ?_⟩
     rw [HCU.out, HNC.out]
     exact push_end hgB hgnB hBg hBn hne (by have := HBX.out; omega) HBX.out hgx hgnx HFB.out HW1.out HW3.out
 · go_enter Try.func38, Try.ntmps38
   go_wp2_with fail
   go_quiet (fail)
   go_upto_region 8 with (first
     | (at_make; refine wpList_mk rfl _ _ 48 rfl 65 i0 _ 7 Try.underlying48 hi0 hz0 hz1 _ _ _ _ n (2 * n) rfl rfl rfl (by first | rfl | simp) (by omega) hbytes (by omega) ?_
        intro wm hwm
        obtain ⟨hgm, junk, hjl, hrun, hwcf⟩ := grow_facts (B := B) hg HV.out (by omega) h1o.out hBg hBw HBX.out hi0 hz1 hwm
        have d3 : wm.cell? ⟨g, 3, none⟩ = some (.slice V n n) := by have := hgm.cell 3; simpa using this
        have hr3 := hrun 3
        obtain ⟨wc, hwc⟩ : ∃ wc, wc = wm.setRow (bx + 1) (olds ++ junk).toArray := ⟨_, rfl⟩
        rw [← hwc] at hr3
        obtain ⟨hgc, hnc1, hbc, hfc⟩ := hwcf wc hwc
        have e3 : wc.cell? ⟨g, 3, none⟩ = some (.slice V n n) := by have := hgc.cell 3; simpa using this
        have e3f := hgc.frozen 3
        have HJL := Lib.hid hjl
        have HFC := Lib.hid hfc
        have lc := hgc.lt
        clear hwm hrun hwcf hjl hwc hfc))
   generalize hwB : wc.setCell ⟨g, 3, none⟩ (.slice (some ⟨bx + 1, 0, none⟩) n (2 * n)) = wB at *
   have hgB : Blk wB g 52 #[.bool kc, .slice (some A) dl cap, left, .slice (some ⟨bx + 1, 0, none⟩) n (2 * n), err, nv] := by rw [← hwB]; exact hgc.set_ 3 _
   have hgnB : Blk wB (bx + 1) 65 (olds ++ junk).toArray := by rw [← hwB]; exact hnc1.far (by show bx + 1 ≠ g; omega) _
   have BB : Blk wB bx 65 #[.int .i64 k, .int .u32 ro, .int .u32 rl, dv, .pointer none, .int .i32 0, .int .i32 0] := by rw [← hwB]; exact hbc.far (by show bx ≠ g; omega) _
   have HFB : Hid (Fr B w wB) := by
     rw [← hwB]
     exact HFC.out.trans ⟨(Below.refl B wc).setCell hBg _, Kp.set52 hgc 3 _⟩
   have hgx : g ≠ bx := by omega
   have hgnx : bx + 1 ≠ bx := by omega
   have hne : g ≠ bx + 1 := by omega
   generalize hgn : bx + 1 = gn at *
   have hBn : B ≤ gn := by omega
   have hcur : 7 * n + 7 ≤ (olds ++ junk).toArray.size := by have := HJL.out; simp; omega
   generalize hcu : (olds ++ junk).toArray = cur at *
   have HCU := Lib.hid hcu
   generalize hnc2 : (2 * n) = ncap at *
   have hnM : n + 1 ≤ ncap := by omega
   have hnM2 : n ≤ 500000 := by omega
   have HNC := Lib.hid hnc2
   clear hnc2 c3 f3 hbx hwB hr3 e3 e3f d3 hgm hgc hnc1 hbc hcu
   have l1 := hgB.lt
   have l2 := hgnB.lt
   have l3 := BB.lt
   have f3B := hgB.frozen 3
   have y4 := BB.cell 4
   have y4f := BB.frozen 4
   simp at y4
   go_upto_region 9 with fail
   generalize hw1 : wB.setCell ⟨bx, 4, none⟩ (Value.pointer (some ⟨g, 0, none⟩)) = w1 at *
   have B1 : Blk w1 bx 65 #[.int .i64 k, .int .u32 ro, .int .u32 rl, dv, .pointer (some ⟨g, 0, none⟩), .int .i32 0, .int .i32 0] := by
     rw [← hw1]
     exact BB.set_ 4 (Value.pointer (some ⟨g, 0, none⟩))
   have hg1 : Blk w1 g 52 #[.bool kc, .slice (some A) dl cap, left, .slice (some ⟨gn, 0, none⟩) n ncap, err, nv] := by
     rw [← hw1]
     exact hgB.far (by simpa using hgx) _
   have hgn1 : Blk w1 gn 65 cur := by
     rw [← hw1]
     exact hgnB.far (by simpa using hgnx) _
   have HW1 := Lib.hid hw1
   have hlt1 := hg1.lt
   have hltn1 := hgn1.lt
   have hltb1 := B1.lt
   clear hw1 l1 l2 l3 f3B y4 y4f
   have d3 : w1.cell? ⟨g, 3, none⟩ = some (.slice (some ⟨gn, 0, none⟩) n ncap) := by have := hg1.cell 3; simpa using this
   have x0 := B1.cell 0
   have x1 := B1.cell 1
   have x2 := B1.cell 2
   have x3 := B1.cell 3
   have x4 := B1.cell 4
   have x5 := B1.cell 5
   have x6 := B1.cell 6
   simp at x0 x1 x2 x3 x4 x5 x6
   have HN : Hid (∀ j u, ([.int .i64 k, .int .u32 ro, .int .u32 rl, dv, .pointer (some ⟨g, 0, none⟩), .int .i32 0, .int .i32 0] : List Value)[j]? = some u → ((w1.alloc (Obj.cells #[Value.int IntKind.i64 k, Value.int IntKind.u32 ro, Value.int IntKind.u32 rl, dv, Value.pointer (some ⟨g, 0, none⟩), Value.int IntKind.i32 0, Value.int IntKind.i32 0] 65)).drew).cell? ((⟨w1.heap.size, 0, none⟩ : Addr).add j) = some u) :=
     Blk.add (l := [.int .i64 k, .int .u32 ro, .int .u32 rl, dv, .pointer (some ⟨g, 0, none⟩), .int .i32 0, .int .i32 0]) ((Blk.new w1 65 _).drew)
   have H1 : Hid (∀ u ∈ ([.int .i64 k, .int .u32 ro, .int .u32 rl, dv, .pointer (some ⟨g, 0, none⟩), .int .i32 0, .int .i32 0] : List Value), u.oneCell' = true) := by
     intro u hu
     have := hdv.out
     simp at hu
     rcases hu with rfl | rfl | rfl | rfl | rfl | rfl | rfl <;> first | rfl | exact this
   have HG52 : Hid (Blk ((w1.alloc (Obj.cells #[Value.int IntKind.i64 k, Value.int IntKind.u32 ro, Value.int IntKind.u32 rl, dv, Value.pointer (some ⟨g, 0, none⟩), Value.int IntKind.i32 0, Value.int IntKind.i32 0] 65)).drew) g 52 #[.bool kc, .slice (some A) dl cap, left, .slice (some ⟨gn, 0, none⟩) n ncap, err, nv]) := (hg1.alloc _).drew
   have HG : Hid (Blk ((w1.alloc (Obj.cells #[Value.int IntKind.i64 k, Value.int IntKind.u32 ro, Value.int IntKind.u32 rl, dv, Value.pointer (some ⟨g, 0, none⟩), Value.int IntKind.i32 0, Value.int IntKind.i32 0] 65)).drew) gn 65 cur) := (hgn1.alloc _).drew
   go_region_law (
       refine step_append_row rfl (.tmp 49) (.tmp 51) 48 rfl 65 i0 7 Try.underlying48 hi0 hz1 gn n ncap (by simp [Act.eval, Act.put]) cur HG.out ⟨w1.heap.size, 0, none⟩ 1 1 [.int .i64 k, .int .u32 ro, .int .u32 rl, dv, .pointer (some ⟨g, 0, none⟩), .int .i32 0, .int .i32 0] (by simp [Act.eval, Act.put]) rfl HN.out H1.out (by omega) (by simp; omega) ?_
       intro w3 hw3
       have B3 : Blk w3 g 52 #[.bool kc, .slice (some A) dl cap, left, .slice (some ⟨gn, 0, none⟩) n ncap, err, nv] := by rw [hw3]; exact (setRow_other _ gn g _ hne).trans HG52.out
       have e3 : w3.cell? ⟨g, 3, none⟩ = some (.slice (some ⟨gn, 0, none⟩) n ncap) := by have := B3.cell 3; simpa using this
       have e3f := B3.frozen 3
       have HW3 := Lib.hid hw3
       clear hw3)
   all_goals
     go_wp2_with fail
     go_ret
   all_goals
     refine ⟨rfl, gn, junk, by rw [HNC.out]; exact HJL.out, hBn, ?_⟩
     rw [HCU.out, HNC.out]
     exact push_end hgB hgnB hBg hBn hne (by have := HBX.out; omega) HBX.out hgx hgnx HFB.out HW1.out HW3.out
theorem flat_one {g : Nat} {ns : List Nd} (h : ∀ x ∈ ns, x.data.oneCell' = true) : ∀ u ∈ flat g ns, u.oneCell' = true := by
 intro u hu
 simp only [flat, List.mem_flatMap] at hu
 obtain ⟨x, hx, hu⟩ := hu
 have := h x hx
 simp only [Nd.cells, List.mem_cons, List.not_mem_nil, or_false] at hu
 rcases hu with rfl | rfl | rfl | rfl | rfl | rfl | rfl <;> first | rfl | exact this
theorem push_any {B g b cap : Nat} {kc : Bool} {D : List UInt8} {left err : Value} {nest : Nat} {ns : List Nd} {w : World} (hps : PS B w g b cap kc D left ns err nest) (k : Nat) (ro rl : Int) (dv : Value) (hdv : dv.oneCell' = true) (hn : ns.length ≤ 400000) :
   Calls Try.prog 38 #[.pointer (some ⟨g, 0, none⟩), .agg #[.int .i64 k, .int .u32 ro, .int .u32 rl, dv, .pointer none, .int .i32 0, .int .i32 0]] w fun e w' =>
     e = .returned (.int .i32 ((ns.length : Int) + 1)) ∧ PS B w' g b cap kc D left (ns ++ [⟨k, ro, rl, dv, 0, 0⟩]) err nest ∧ Fr B w w' := by
 obtain ⟨A, V, hg, hBg, harn, hBw⟩ := hps
 rcases harn with ⟨rfl, rfl⟩ | ⟨gn, ncap, cur, junk, rfl, hgn, hcl, hcs, hBn, h64, hbig, hone⟩
 · refine (push_grow k ro rl dv B g cap none A 0 64 kc D.length left err (.int .i64 nest) [] w hg (.inl ⟨rfl, rfl, rfl⟩) (.inl ⟨by omega, rfl⟩) (by omega) hdv (fun u hu => by cases hu) hBg hBw).mono ?_
   rintro e w' ⟨rfl, gn', junk, hl, hBn', hr1, hr2, hr3⟩
   refine ⟨rfl, ⟨A, _, hr1, hBg, .inr ⟨gn', 64, _, junk.drop 7, rfl, hr2, ?_, ?_, hBn', by omega, by omega, ?_⟩, Nat.le_trans hBw hr3.1.size⟩, hr3⟩
   · simp [flat, Nd.cells]
   · simp at hl ⊢; omega
   · intro x hx; simp at hx; subst hx; exact hdv
 · have hfl := flat_length g ns
   by_cases hfull : ns.length = ncap
   · have hj : junk = [] := by
       have h1 : cur.toList.length = 7 * ncap := by rw [Array.length_toList]; exact hcs
       rw [hcl, List.length_append] at h1
       exact List.eq_nil_of_length_eq_zero (by omega)
     subst hj
     rw [List.append_nil] at hcl
     have hcur : cur = (flat g ns).toArray := by rw [← hcl]
     subst hcur
     rw [← hfull] at hg
     refine (push_grow k ro rl dv B g cap (some ⟨gn, 0, none⟩) A ns.length (2 * ns.length) kc D.length left err (.int .i64 nest) (flat g ns) w hg (.inr ⟨gn, rfl, hgn, hfl⟩) (.inr ⟨by omega, rfl⟩) (by omega) hdv (flat_one hone) hBg hBw).mono ?_
     rintro e w' ⟨rfl, gn', junk, hl, hBn', hr1, hr2, hr3⟩
     refine ⟨rfl, ⟨A, _, by rw [List.length_append]; exact hr1, hBg, .inr ⟨gn', 2 * ns.length, _, junk.drop 7, rfl, hr2, ?_, ?_, hBn', by omega, by omega, ?_⟩, Nat.le_trans hBw hr3.1.size⟩, hr3⟩
     · have e1 : ns.length * 7 = (flat g ns).length := by omega
       rw [flat_append]
       simp only [List.toList_toArray]
       rw [e1, List.take_left, ← List.drop_drop, List.drop_left]
       rfl
     · have h2 : junk.length = 7 * (2 * ns.length) - 7 * ns.length := by omega
       simp [hfl, h2]
       omega
     · intro x hx
       rcases List.mem_append.1 hx with h | h
       · exact hone x h
       · simp at h; subst h; exact hdv
   · have hle : ns.length ≤ ncap := by
       have h1 : cur.toList.length = 7 * ncap := by rw [Array.length_toList]; exact hcs
       rw [hcl, List.length_append] at h1
       omega
     refine (push_room k ro rl dv B g cap gn ncap A ns.length kc D.length left err (.int .i64 nest) cur w hg hgn (by omega) hbig hcs hdv hBg hBn).mono ?_
     rintro e w' ⟨rfl, hr1, hr2, hr3⟩
     refine ⟨rfl, ⟨A, _, by rw [List.length_append]; exact hr1, hBg, .inr ⟨gn, ncap, _, junk.drop 7, rfl, hr2, ?_, ?_, hBn, h64, hbig, ?_⟩, Nat.le_trans hBw hr3.1.size⟩, hr3⟩
     · have e1 : ns.length * 7 = (flat g ns).length := by omega
       rw [flat_append, hcl]
       simp only [List.toList_toArray]
       rw [e1, List.take_left, ← List.drop_drop, List.drop_left]
       rfl
     · have h1 : cur.toList.length = 7 * ncap := by rw [Array.length_toList]; exact hcs
       simp
       rw [Nat.min_eq_left (by omega)]
       omega
     · intro x hx
       rcases List.mem_append.1 hx with h | h
       · exact hone x h
       · simp at h; subst h; exact hdv
end Go.Proofs.Ytnlkbbpmpgdmiaa
namespace Go.Proofs.Ytnlkbbpmpgdmiaa
open Go.RowKit
set_option linter.unusedVariables false
set_option linter.unusedSimpArgs false
def PN (w : World) (g gn : Nat) (ns : List Nd) : Prop :=
 ∃ c, w.cell? ⟨g, 3, none⟩ = some (.slice (some ⟨gn, 0, none⟩) ns.length c) ∧ ns.length ≤ c ∧ g < w.heap.size ∧ gn < w.heap.size ∧ ∀ i x, ns[i]? = some x → ∀ j, j < 7 → w.cell? ⟨gn, 7 * i + j, none⟩ = (x.cells g)[j]?
theorem PN.below {w w' : World} {g gn : Nat} {ns : List Nd} (h : PN w g gn ns) (hb : Below w.heap.size w w') : PN w' g gn ns := by
 obtain ⟨c, h1, h2, h3, h4, h5⟩ := h
 exact ⟨c, (hb.cell (p := ⟨g, 3, none⟩) h3).trans h1, h2, Nat.lt_of_lt_of_le h3 hb.size, Nat.lt_of_lt_of_le h4 hb.size, fun i x hi j hj => (hb.cell (p := ⟨gn, 7 * i + j, none⟩) h4).trans (h5 i x hi j hj)⟩
theorem PS.pn {B g b cap : Nat} {kc : Bool} {D : List UInt8} {left err : Value} {nest : Nat} {ns : List Nd} {w : World} (h : PS B w g b cap kc D left ns err nest) (hne : ns ≠ []) : ∃ gn, PN w g gn ns := by
 obtain ⟨A, V, hg, hBg, harn, hBw⟩ := h
 rcases harn with ⟨rfl, _⟩ | ⟨gn, ncap, cur, junk, rfl, hgn, hcl, hcs, hBn, h64, hbig, hone⟩
 · exact absurd rfl hne
 · refine ⟨gn, ncap, by have := hg.cell 3; simpa using this, ?_, hg.lt, hgn.lt, ?_⟩
   · have h1 : cur.toList.length = 7 * ncap := by rw [Array.length_toList]; exact hcs
     have hfl := flat_length g ns
     rw [hcl, List.length_append] at h1
     omega
   · intro i x hi j hj
     rw [hgn.cell, ← Array.getElem?_toList, hcl]
     exact flat_get hi j hj junk
theorem PS.set {B g b cap : Nat} {kc : Bool} {D : List UInt8} {left err : Value} {nest : Nat} {ns : List Nd} {w : World} (h : PS B w g b cap kc D left ns err nest) {gn : Nat} (hpn : PN w g gn ns) {i : Nat} {x x' : Nd} (hi : ns[i]? = some x)
   (j : Nat) (hj : j < 7) (u : Value) (hx : (x.cells g).set j u = x'.cells g) (ho : x'.data.oneCell' = true) :
   PS B (w.setCell ⟨gn, 7 * i + j, none⟩ u) g b cap kc D left (ns.set i x') err nest ∧ Fr B w (w.setCell ⟨gn, 7 * i + j, none⟩ u) ∧ w.frozen? ⟨gn, 7 * i + j, none⟩ = false := by
 obtain ⟨A, V, hg, hBg, harn, hBw⟩ := h
 obtain ⟨c, h1, _⟩ := hpn
 have h2 := hg.cell 3
 rw [h1] at h2
 simp at h2
 rcases harn with ⟨rfl, rfl⟩ | ⟨gn', ncap, cur, junk, rfl, hgn, hcl, hcs, hBn, h64, hbig, hone⟩
 · simp at hi
 · injection h2 with h2 h3 h4
   injection h2 with h2
   injection h2 with h2
   subst h2
   have hne : g ≠ gn := hg.ne_ hgn (by decide)
   refine ⟨⟨A, _, hg.far hne u, hBg, .inr ⟨gn, ncap, _, junk, ?_, hgn.set_ _ u, ?_, by simpa using hcs, hBn, h64, hbig, ?_⟩, by simpa using hBw⟩, ⟨(Below.refl B w).setCell hBn _, Kp.set65 hgn _ _⟩, hgn.frozen _⟩
   · rw [List.length_set]
   · rw [Array.toList_setIfInBounds, hcl]
     exact flat_set hi j hj u hx junk
   · intro y hy
     rcases List.mem_or_eq_of_mem_set hy with h | h
     · exact hone y h
     · subst h; exact ho
def RangeIs (w : World) (e : Ending) (w' : World) : Prop := ∃ ro rl, e = .returned (.agg #[.int .u32 ro, .int .u32 rl]) ∧ Below w.heap.size w w'
theorem Range_any {w : World} {g dl dcap : Nat} {A : Addr} {kc : Bool} {left V err nv : Value} (hg : Blk w g 52 #[.bool kc, .slice (some A) dl dcap, left, V, err, nv]) (a : Addr) (n k : Nat) (h1 : k ≤ dcap) (h2 : dcap - k + n ≤ dl) (hb : dcap ≤ 9223372036854775807) (hd : dl ≤ dcap) :
   Calls Try.prog 39 #[.pointer (some ⟨g, 0, none⟩), .slice (some a) n k] w (RangeIs w) := by
 have c1 : w.cell? ⟨g, 1, none⟩ = some (.slice (some A) dl dcap) := by have := hg.cell 1; simpa using this
 have hlt := hg.lt
 have hz0 : ¬ ((dcap : Int) - k < 0) := by omega
 have hz1 : ¬ ((dl : Int) < (dcap : Int) - k + n) := by omega
 go_enter Try.func39, Try.ntmps39
 go_wp2_with fail
 refine bodyPost_ret (v := .agg #[.int .u32 (((dcap : Int) - k) % 4294967296), .int .u32 ((n : Int) % 4294967296)]) (by simp [results, Try.results39, go_sem]) rfl ⟨_, _, rfl, (Below.refl _ _).alloc (Nat.le_refl _) _⟩
theorem offsetOf_any {w : World} {g dl dcap : Nat} {A : Addr} {kc : Bool} {left V err nv : Value} (hg : Blk w g 52 #[.bool kc, .slice (some A) dl dcap, left, V, err, nv]) (a : Option Addr) (n k : Nat) (h1 : k ≤ dcap) (hb : dcap ≤ 9223372036854775807) :
   Calls Try.prog 42 #[.pointer (some ⟨g, 0, none⟩), .slice a n k] w fun e w' => e = .returned (.int .i64 ((dcap : Int) - k)) ∧ w = w' := by
 have c1 : w.cell? ⟨g, 1, none⟩ = some (.slice (some A) dl dcap) := by have := hg.cell 1; simpa using this
 have hlt := hg.lt
 go_enter Try.func42, Try.ntmps42
 go_wp2_with fail
 go_ret
 exact ⟨rfl, rfl⟩
theorem rangeFrom_any {w : World} {g dl dcap : Nat} {A : Addr} {kc : Bool} {left V err nv : Value} (hg : Blk w g 52 #[.bool kc, .slice (some A) dl dcap, left, V, err, nv]) (a a' : Option Addr) (n k n' k' : Nat) (h1 : k ≤ dcap) (h2 : k' ≤ dcap) (hb : dcap ≤ 9223372036854775807) :
   Calls Try.prog 70 #[.pointer (some ⟨g, 0, none⟩), .slice a n k, .slice a' n' k'] w (RangeIs w) := by
 have hg2 := hg.alloc (.cells #[.int .u32 0, .int .u32 0] 62)
 go_enter Try.func70, Try.ntmps70
 go_wp2_with fail
 refine (offsetOf_any hg2 a n k h1 hb).mono ?_
 rintro e w1 ⟨rfl, rfl⟩
 go_wp2_with fail
 refine (offsetOf_any hg2 a' n' k' h2 hb).mono ?_
 rintro e w1 ⟨rfl, rfl⟩
 go_wp2_with fail
 refine bodyPost_ret (v := .agg #[.int .u32 (((dcap : Int) - k) % 4294967296), .int .u32 (((dcap : Int) - k' - ((dcap : Int) - k)) % 4294967296)]) (by simp [results, Try.results70, go_sem]) rfl ⟨_, _, rfl, ?_⟩
 exact (Below.refl _ _).alloc (Nat.le_refl _) _
theorem at_any {w : World} {g gn : Nat} {ns : List Nd} (hpn : PN w g gn ns) (h : Nat) (h1 : h < ns.length) (hb : ns.length ≤ 1000000) :
   Calls Try.prog 67 #[.pointer (some ⟨g, 0, none⟩), .int .i32 ((h : Int) + 1)] w fun e w' => e = .returned (.pointer (some ⟨gn, 7 * h, none⟩)) ∧ w = w' := by
 obtain ⟨c, c3, hc, hlt, hltn, _⟩ := hpn
 generalize hN : ns.length = N at *
 clear hN
 go_enter Try.func67, Try.ntmps67
 go_wp2_with fail
 go_ret
 rw [Nat.mul_comm 7 h]
 exact ⟨rfl, rfl⟩
theorem ret_bool {a b : Bool} (h : a = b) : Ending.returned (.bool a) = .returned (.bool b) := by rw [h]
def Bare (c : UInt8) : Prop := (48 ≤ c.toNat ∧ c.toNat ≤ 57) ∨ (65 ≤ c.toNat ∧ c.toNat ≤ 90) ∨ (97 ≤ c.toNat ∧ c.toNat ≤ 122) ∨ c.toNat = 45 ∨ c.toNat = 95
instance (c : UInt8) : Decidable (Bare c) := by unfold Bare; infer_instance
theorem isBare_any (c : UInt8) (w : World) : Calls Try.prog 91 #[.int .u8 c.toNat] w fun e w' => e = .returned (.bool (decide (Bare c))) ∧ w = w' := by
 have yes : Bare c → decide (Bare c) = true := fun h => decide_eq_true h
 have no : ¬ Bare c → decide (Bare c) = false := fun h => decide_eq_false h
 have h0 := c.toNat_lt
 unfold Bare at yes no
 have cs : c.toNat < 45 ∨ c.toNat = 45 ∨ (46 ≤ c.toNat ∧ c.toNat < 48) ∨ (48 ≤ c.toNat ∧ c.toNat ≤ 57) ∨ (58 ≤ c.toNat ∧ c.toNat < 65) ∨ (65 ≤ c.toNat ∧ c.toNat ≤ 90) ∨ (91 ≤ c.toNat ∧ c.toNat < 95) ∨ c.toNat = 95 ∨ c.toNat = 96 ∨ (97 ≤ c.toNat ∧ c.toNat ≤ 122) ∨ 123 ≤ c.toNat := by omega
 have fin : ∀ v : Bool, v = decide (Bare c) → Ending.returned (Value.bool v) = Ending.returned (Value.bool (decide (Bare c))) := fun v h => by rw [h]
 have H : ∃ v, decide (Bare c) = v := ⟨_, rfl⟩
 obtain ⟨v, hv⟩ := H
 rw [hv]
 have HV := Lib.hid hv
 have HY : Hid (Bare c → v = true) := fun h => by rw [← hv]; exact decide_eq_true h
 have HN : Hid (¬ Bare c → v = false) := fun h => by rw [← hv]; exact decide_eq_false h
 clear yes no fin hv
 generalize hn : c.toNat = n at *
 have HC := Lib.hid hn
 clear hn
 rcases cs with h | h | ⟨h, h'⟩ | ⟨h, h'⟩ | ⟨h, h'⟩ | ⟨h, h'⟩ | ⟨h, h'⟩ | h | h | ⟨h, h'⟩ | h
 all_goals
   first
     | (have e : v = true := HY.out (by unfold Bare; rw [HC.out]; omega)
        subst e)
     | (have e : v = false := HN.out (by unfold Bare; rw [HC.out]; omega)
        subst e)
 all_goals try subst h
 all_goals
   clear HY HN HV HC
   go_enter Try.func91, Try.ntmps91
   go_wp2_with fail
   go_ret
   first | exact ⟨rfl, rfl⟩ | (refine ⟨ret_bool ?_, rfl⟩; simp; omega)
end Go.Proofs.Ytnlkbbpmpgdmiaa
namespace Go.Proofs.Ytnlkbbpmpgdmiaa
open Go.RowKit
set_option linter.unusedVariables false
set_option linter.unusedSimpArgs false
def KeyOk (b off cap m : Nat) (l r : List UInt8) (w : World) (e : Ending) (w' : World) : Prop :=
 ∃ v, e = .returned (.tuple #[.slice (some ⟨b, off, none⟩) m cap, .slice (some ⟨b, off, none⟩) m cap, v, .nilIface]) ∧ Rest b off cap l r v ∧ ∃ n, w' = w.drewN n
theorem key_fin {w w' : World} {b off cap k R k2 c2 k3 c3' m c3 : Nat} {q rest : List UInt8} (hR : rest.length = R) (hk : k = q.length) (hc : q.length + R ≤ cap) {A : Addr} (hA : 0 < R → A = ⟨b, off + k, none⟩)
   (e1 : k2 = k) (e2 : c2 = cap) (e1' : k3 = k) (e2' : c3' = cap) (e3 : m = R) (e4 : c3 = cap - k) (hw : ∃ n, w' = w.drewN n) :
   KeyOk b off cap q.length (q ++ rest) rest w (.returned (.tuple #[.slice (some ⟨b, off, none⟩) k2 c2, .slice (some ⟨b, off, none⟩) k3 c3', .slice (some A) m c3, .nilIface])) w' := by
 subst hk hR e1 e2 e3 e4 e1' e2'
 refine ⟨_, rfl, Rest.drop q.length (by simp) (by simp) rfl (by simp) (fun h => hA (by simp at h; omega)), hw⟩
set_option maxRecDepth 100000 in
set_option maxHeartbeats 4000000 in
theorem scanKey_bare (q rest : List UInt8) (hq : ∀ c ∈ q, Bare c) (hne : 0 < q.length) (hr : ∀ c r, rest = c :: r → ¬ Bare c) (pv : Value) (b off cap : Nat) (w : World) (hm : Bts w b off (q ++ rest)) (hc : q.length + rest.length ≤ cap) (hcb : q.length + rest.length ≤ 140737488351232 ∧ cap ≤ 9223372036854775807) :
   Calls Try.prog 82 #[pv, .slice (some ⟨b, off, none⟩) (q.length + rest.length) cap] w (KeyOk b off cap q.length (q ++ rest) rest w) := by
 have h0 : ∃ c r, q = c :: r := by cases q with | nil => simp at hne | cons c r => exact ⟨c, r, rfl⟩
 obtain ⟨c0, r0, h0⟩ := h0
 have hb0 : Bare c0 := hq c0 (by rw [h0]; simp)
 have hc0 : w.cell? ⟨b, off, none⟩ = some (.int .u8 c0.toNat) := by rw [h0] at hm; exact hm.head.1
 have t39 : ((c0.toNat : Int) == 39) = false := by unfold Bare at hb0; simp; omega
 have t34 : ((c0.toNat : Int) == 34) = false := by unfold Bare at hb0; simp; omega
 have HM := Lib.hid hm
 have HQ := Lib.hid hq
 have HR := Lib.hid hr
 clear hm hq hr h0 hb0
 generalize hRl : rest.length = R at *
 have HRR := Lib.hid hRl
 generalize hQl : q.length = N at *
 have HNN := Lib.hid hQl
 clear hRl hQl
 have tz : ((N : Int) + (R : Int) == 0) = false := by simp; omega
 go_enter Try.func82, Try.ntmps82
 go_wp2_with fail
 clear hc0 t39 t34
 go_loopg [8] N (fun g i wr => ∃ k : Nat, i = .int .i64 k ∧ k + g = N ∧ wr = w)
 case atStart => exact ⟨0, rfl, by omega, rfl⟩
 case round =>
   obtain ⟨k, rfl, hk, rfl⟩ := hrel
   cases gk with
   | zero =>
     have hkN : k = N := by omega
     subst hkN
     clear hk
     by_cases h0 : R = 0
     · have tb : ¬ ((k : Int) < (k : Int) + R) := by omega
       by_cases hcap : cap = k
       · go_wp2_with fail
         go_quiet (fail)
         go_wp2
         refine bodyPost_ret (v := .tuple #[.slice (some ⟨b, off, none⟩) k k, .slice (some ⟨b, off, none⟩) k k, .slice (some ⟨b, off, none⟩) 0 0, .nilIface]) (by simp [results, Try.results82, go_sem]) rfl ?_
         rw [show KeyOk b off cap k = KeyOk b off cap q.length from by rw [HNN.out]]
         exact key_fin HRR.out HNN.out.symm (by have := HNN.out; omega) (fun h => by omega) rfl hcap.symm rfl hcap.symm h0.symm (by omega) ⟨_, rfl⟩
       · go_wp2_with fail
         go_quiet (fail)
         go_wp2
         refine bodyPost_ret (v := .tuple #[.slice (some ⟨b, off, none⟩) k cap, .slice (some ⟨b, off, none⟩) k cap, .slice (some ⟨b, off + k, none⟩) 0 (cap - k), .nilIface]) (by simp [results, Try.results82, go_sem]) rfl ?_
         rw [show KeyOk b off cap k = KeyOk b off cap q.length from by rw [HNN.out]]
         exact key_fin HRR.out HNN.out.symm (by have := HNN.out; omega) (fun h => rfl) rfl rfl rfl rfl h0.symm rfl ⟨_, rfl⟩
     · have hcap : ¬ cap = k := by omega
       have tb : (k : Int) < (k : Int) + R := by omega
       have hx : ∃ c r, rest = c :: r := by
         cases rest with
         | nil => have := HRR.out; simp at this; omega
         | cons c r => exact ⟨c, r, rfl⟩
       obtain ⟨c, r, rfl⟩ := hx
       have hcc : wr.cell? ⟨b, off + k, none⟩ = some (.int .u8 c.toNat) := by
         have := (Bts.post HM.out).head.1
         rw [HNN.out] at this
         exact this
       have hnb : decide (Bare c) = false := decide_eq_false (HR.out c r rfl)
       go_wp2_with fail
       refine (isBare_any c wr).mono ?_
       rintro e w1 ⟨rfl, rfl⟩
       go_wp2_with fail
       go_quiet (fail)
       go_wp2
       refine bodyPost_ret (v := .tuple #[.slice (some ⟨b, off, none⟩) k cap, .slice (some ⟨b, off, none⟩) k cap, .slice (some ⟨b, off + k, none⟩) R (cap - k), .nilIface]) (by simp [results, Try.results82, go_sem]) rfl ?_
       rw [show KeyOk b off cap k = KeyOk b off cap q.length from by rw [HNN.out]]
       exact key_fin HRR.out HNN.out.symm (by have := HNN.out; omega) (fun h => rfl) rfl rfl rfl rfl rfl rfl ⟨_, rfl⟩
   | succ g =>
     have hkN : k < N := by omega
     have tb : (k : Int) < (N : Int) + R := by omega
     have hx : ∃ c t, q.drop k = c :: t := by
       cases hd : q.drop k with
       | nil => have := congrArg List.length hd; have h2 := HNN.out; simp at this; omega
       | cons c r => exact ⟨c, r, rfl⟩
     obtain ⟨c, t, hd⟩ := hx
     have hcc : wr.cell? ⟨b, off + k, none⟩ = some (.int .u8 c.toNat) := by
       have h1 := (Bts.pre HM.out).drop k (by have := HNN.out; omega)
       rw [hd] at h1
       exact h1.head.1
     have hnb : decide (Bare c) = true := decide_eq_true (HQ.out c (List.mem_of_mem_drop (by rw [hd]; simp)))
     clear hd
     go_wp2_with fail
     refine (isBare_any c wr).mono ?_
     rintro e w1 ⟨rfl, rfl⟩
     go_wp2_with fail
     go_roundg g
     case measure => omega
     case rel => exact ⟨k + 1, by go_num, by omega, rfl⟩
end Go.Proofs.Ytnlkbbpmpgdmiaa
