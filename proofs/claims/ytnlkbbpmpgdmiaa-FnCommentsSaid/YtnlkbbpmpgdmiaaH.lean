/- push where the nodes' memory is full. -/
import Derived.Test.YtnlkbbpmpgdmiaaG
namespace Go.Proofs.Ytnlkbbpmpgdmiaa
open Go.RowKit
set_option linter.unusedVariables false
set_option linter.unusedSimpArgs false

theorem wpList_mk {P : Program} {w : World} {ops : Array Oper} {rest : List Oper} {o : Oper} {a : Act} {Q : Exit → Act → World → Prop}
    (hg : o.guard = none) (l c : Operand) (t : TypeId) (hop : o.op = Op.makeSlice t l c)
    (e : TypeId) (i : TypeInfo) (z : Value) (size : Nat) (h1 : P.underlying t = some (.slice e)) (h2 : P.info? e = some i) (h3 : i.zero = some z) (h4 : i.size = size)
    (kl kc : IntKind) (L C : Int) (n m : Nat) (hl : a.eval l = .int kl L) (hc : a.eval c = .int kc C) (hL : L = (n : Int)) (hC : C = (m : Int)) (hnm : n ≤ m) (b2 : i.bytes * m ≤ 281474976710656) (b3 : m ≤ 9223372036854775807)
    (hK : ∀ w', w' = w.alloc (.cells (madeCells z.cells (m * size)) e) → wpList P ops Q rest (a.put o.dst (.slice (some ⟨w.heap.size, 0, none⟩) n m)) w') :
    wpList P ops Q (o :: rest) a w := by
  refine wpList_plain hg fun K hK' => ?_
  subst hL hC h4
  have hb' : (i.bytes : Int) * (m : Int) ≤ 281474976710656 := by
    have h : ((i.bytes * m : Nat) : Int) ≤ 281474976710656 := by omega
    rwa [Int.natCast_mul] at h
  have hrun := run_make (P := P) w t e i z h1 h2 h3 kl kc n m (by omega) (by omega) hb' (by omega)
  simp only [Int.toNat_natCast] at hrun
  unfold Oper.wp
  simp [execOp, hop, hl, hc, hrun, Result.andThen]
  exact hK' _ _ (hK _ rfl)

theorem wpList_cp {P : Program} {w : World} {ops : Array Oper} {rest : List Oper} {o : Oper} {a : Act} {Q : Exit → Act → World → Prop} (hgd : o.guard = none) (d s : Operand) (dT sT : TypeId)
    (ho : o.op = .call { callee := .builtin .copy, args := #[d, s], argTypes := #[dT, sT] }) (dv sv : Value) (hd : a.eval d = dv) (hs : a.eval s = sv) (r : Value) (w2 : World)
    (hrun : ∀ ty, (Builtin.copy_ #[dT, sT] ty #[dv, sv]).run P w = .ok r w2)
    (h : ∀ w', w' = w2 → wpList P ops Q rest (a.put o.dst r) w') : wpList P ops Q (o :: rest) a w := by
  refine wpList_plain hgd fun K hK => ?_
  subst hd hs
  have hr := hrun o.type
  unfold Oper.wp
  simp [execOp, ho, resolve, invoke, builtin, hr, Result.andThen]
  exact hK _ _ (h _ rfl)

theorem copy_wide {P : Program} (w : World) (dT ty elem : TypeId) (i : TypeInfo) (g n dCap : Nat) (a : Addr) (cur : Array Value) (t : TypeId) (cs : List Value)
    (hu : P.underlying dT = some (.slice elem)) (hi : P.info? elem = some i)
    (hg : w.heap[g]? = some (.cells cur t (0, 0))) (hn : cs.length = n * i.size)
    (hsrc : ∀ j v, cs[j]? = some v → w.cell? (a.add j) = some v) (hfit : cs.length ≤ cur.size) (h1 : ∀ v ∈ cs, v.oneCell' = true) :
    (Builtin.copy_ #[dT, dT] ty #[.slice (some ⟨g, 0, none⟩) n dCap, .slice (some a) n n]).run P w =
      .ok (goInt n) (w.setRow g (cs ++ cur.toList.drop cs.length).toArray) := by
  have hl := run_loadCells_list (P := P) w a cs hsrc
  rw [hn] at hl
  have hst := run_storeCells_at P g 0 t cs 0 cur w hg (by simpa using hfit) h1
  simp at hst
  simp [Builtin.copy_, run_underlying hu, Builtin.lenOf, Builtin.firstCells, sizeOf, typeInfo, hi, hl, hst]

theorem copy_nil {P : Program} (w : World) (dT ty elem : TypeId) (i : TypeInfo) (g dCap : Nat) (cur : Array Value) (t : TypeId)
    (hu : P.underlying dT = some (.slice elem)) (hi : P.info? elem = some i)
    (hg : w.heap[g]? = some (.cells cur t (0, 0))) :
    (Builtin.copy_ #[dT, dT] ty #[.slice (some ⟨g, 0, none⟩) 0 dCap, .slice none 0 0]).run P w =
      .ok (goInt 0) (w.setRow g ([] ++ cur.toList.drop 0).toArray) := by
  have e : (([] : List Value) ++ cur.toList.drop 0).toArray = cur := by simp
  rw [e, setRow_self w g cur t (0, 0) hg]
  simp [Builtin.copy_, run_underlying hu, Builtin.lenOf, Builtin.firstCells, sizeOf, typeInfo, hi, storeCells]

theorem info65z : (Try.prog.info? 65).map (fun i => (i.zero, i.size, i.bytes)) = some (some (.agg #[.int .i64 0, .int .u32 0, .int .u32 0, .slice none 0 0, .pointer none, .int .i32 0, .int .i32 0]), 7, 56) := by kernel_rfl

abbrev ndBox (k ro rl : Int) (dv : Value) : Obj := .cells #[.int .i64 k, .int .u32 ro, .int .u32 rl, dv, .pointer none, .int .i32 0, .int .i32 0] 65
abbrev ndZ : Array Value := (Value.agg #[.int .i64 0, .int .u32 0, .int .u32 0, .slice none 0 0, .pointer none, .int .i32 0, .int .i32 0]).cells

/-- what a new array for n nodes and more is -/
theorem grow_facts {k ro rl : Int} {dv : Value} {B g cap : Nat} {V : Option Addr} {A : Addr} {n m : Nat} {kc : Bool} {dl : Nat} {left err nv : Value} {olds : List Value} {w wm : World} {i0 : TypeInfo} {bx nq : Nat}
    (hg : Blk w g 52 #[.bool kc, .slice (some A) dl cap, left, .slice V n n, err, nv]) (hV : (n = 0 ∧ V = none ∧ olds = []) ∨ ∃ gn, V = some ⟨gn, 0, none⟩ ∧ Blk w gn 65 olds.toArray ∧ olds.length = 7 * n)
    (hnm : n ≤ m) (h1o : ∀ u ∈ olds, u.oneCell' = true) (hBg : B ≤ g) (hBw : B ≤ bx) (hbx : w.heap.size = bx) (hi : Try.prog.info? 65 = some i0) (hz1 : i0.size = 7)
    (hwm : wm = ((w.alloc (ndBox k ro rl dv)).drewN nq).alloc (.cells (madeCells ndZ (m * 7)) 65)) :
    Blk wm g 52 #[.bool kc, .slice (some A) dl cap, left, .slice V n n, err, nv] ∧ ∃ junk, olds.length + junk.length = 7 * m ∧
      (∀ ty, (Builtin.copy_ #[48, 48] ty #[.slice (some ⟨bx + 1, 0, none⟩) n m, .slice V n n]).run Try.prog wm = .ok (goInt n) (wm.setRow (bx + 1) (olds ++ junk).toArray)) ∧
      ∀ wc, wc = wm.setRow (bx + 1) (olds ++ junk).toArray → Blk wc g 52 #[.bool kc, .slice (some A) dl cap, left, .slice V n n, err, nv] ∧ Blk wc (bx + 1) 65 (olds ++ junk).toArray ∧
        Blk wc bx 65 #[.int .i64 k, .int .u32 ro, .int .u32 rl, dv, .pointer none, .int .i32 0, .int .i32 0] ∧ Fr B w wc := by
  have l1 := hg.lt
  have hs : ((w.alloc (ndBox k ro rl dv)).drewN nq).heap.size = bx + 1 := by simp [hbx]
  have hgm : Blk wm g 52 #[.bool kc, .slice (some A) dl cap, left, .slice V n n, err, nv] := by
    rw [hwm]
    exact Blk.alloc (w := (w.alloc (ndBox k ro rl dv)).drewN nq) (hg.alloc _) _
  have hbm : Blk wm bx 65 #[.int .i64 k, .int .u32 ro, .int .u32 rl, dv, .pointer none, .int .i32 0, .int .i32 0] := by
    rw [hwm]
    have h1 : Blk (w.alloc (ndBox k ro rl dv)) bx 65 #[.int .i64 k, .int .u32 ro, .int .u32 rl, dv, .pointer none, .int .i32 0, .int .i32 0] := by rw [← hbx]; exact Blk.new _ _ _
    exact Blk.alloc (w := (w.alloc (ndBox k ro rl dv)).drewN nq) h1 _
  have hnm' : Blk wm (bx + 1) 65 (madeCells ndZ (m * 7)) := by
    rw [hwm, ← hs]
    exact Blk.new _ _ _
  have hfm : Fr B w wm := by
    rw [hwm]
    refine ⟨?_, ((Kp.alloc w _).trans (Kp.drewN _ nq)).trans (Kp.alloc _ _)⟩
    exact (((Below.refl B w).alloc (by omega) _).trans (Fr.drewN _ nq).1).alloc (by rw [hs]; omega) _
  have hsz : (madeCells ndZ (m * 7)).size = m * 7 := size_madeCells _ _
  refine ⟨hgm, (madeCells ndZ (m * 7)).toList.drop olds.length, ?_, ?_, ?_⟩
  · have hle : olds.length ≤ 7 * m := by
      rcases hV with ⟨_, _, h⟩ | ⟨_, _, _, h⟩
      · simp [h]
      · omega
    have h2 : (madeCells ndZ (m * 7)).toList.length = m * 7 := by rw [Array.length_toList]; exact hsz
    rw [List.length_drop, h2]
    omega
  · intro ty
    rcases hV with ⟨rfl, rfl, rfl⟩ | ⟨gn, rfl, hgn, hl⟩
    · exact copy_nil wm 48 ty 65 i0 (bx + 1) m _ 65 Try.underlying48 hi hnm'
    · have hgn' : Blk wm gn 65 olds.toArray := by
        rw [hwm]
        exact Blk.alloc (w := (w.alloc (ndBox k ro rl dv)).drewN nq) (hgn.alloc _) _
      exact copy_wide wm 48 ty 65 i0 (bx + 1) n m ⟨gn, 0, none⟩ _ 65 olds Try.underlying48 hi hnm' (by rw [hz1]; omega) hgn'.add (by rw [hsz]; omega) h1o
  · intro wc hwc
    have hne : g ≠ bx + 1 := by omega
    refine ⟨?_, ?_, ?_, hfm.trans ?_⟩
    · rw [hwc]; exact (setRow_other _ _ _ _ hne).trans hgm
    · rw [hwc]; exact setRow_heap _ _ _ _ _ _ hnm'
    · rw [hwc]; exact (setRow_other _ _ _ _ (by omega)).trans hbm
    · rw [hwc]; exact ⟨below_setRow (Below.refl _ _) (by omega) _, Kp.row65 hnm' _⟩

set_option maxRecDepth 100000 in
set_option maxHeartbeats 4000000 in
theorem push_grow (k ro rl : Int) (dv : Value) (B g cap : Nat) (V : Option Addr) (A : Addr) (n m : Nat) (kc : Bool) (dl : Nat) (left err nv : Value) (olds : List Value) (w : World)
    (hg : Blk w g 52 #[.bool kc, .slice (some A) dl cap, left, .slice V n n, err, nv]) (hV : (n = 0 ∧ V = none ∧ olds = []) ∨ ∃ gn, V = some ⟨gn, 0, none⟩ ∧ Blk w gn 65 olds.toArray ∧ olds.length = 7 * n)
    (hm : (n < 32 ∧ m = 64) ∨ (32 ≤ n ∧ m = 2 * n)) (hnc : m ≤ 1000000) (hdv : Hid (dv.oneCell' = true)) (h1o : Hid (∀ u ∈ olds, u.oneCell' = true)) (hBg : B ≤ g) (hBw : B ≤ w.heap.size) :
    Calls Try.prog 38 #[.pointer (some ⟨g, 0, none⟩), .agg #[.int .i64 k, .int .u32 ro, .int .u32 rl, dv, .pointer none, .int .i32 0, .int .i32 0]] w fun e w' => e = .returned (.int .i32 ((n : Int) + 1)) ∧
      ∃ gn' junk, olds.length + junk.length = 7 * m ∧ B ≤ gn' ∧ PushRow B g gn' n m kc A dl cap left err nv (olds ++ junk).toArray k ro rl dv w w' := by
  obtain ⟨i0, hi0, hz0, hz1, hz2⟩ := info_parts info65z
  have c3 : w.cell? ⟨g, 3, none⟩ = some (.slice V n n) := by have := hg.cell 3; simpa using this
  have f3 := hg.frozen 3
  have hlt := hg.lt
  have hbytes : i0.bytes * m ≤ 281474976710656 := by rw [hz2]; omega
  have HV := Lib.hid hV
  clear hV hz2
  generalize hbx : w.heap.size = bx at *
  have HBX := Lib.hid hbx
  rcases hm with ⟨hm, rfl⟩ | ⟨hm, rfl⟩
  · go_enter Try.func38, Try.ntmps38
    go_wp2_with fail
    go_quiet (fail)
    go_upto_region 8 with (first
      | (at_make; refine wpList_mk rfl _ _ 48 rfl 65 i0 _ 7 Try.underlying48 hi0 hz0 hz1 _ _ _ _ n 64 rfl rfl rfl (by first | rfl | simp) (by omega) hbytes (by omega) ?_
         intro wm hwm
         obtain ⟨hgm, junk, hjl, hrun, hwcf⟩ := grow_facts (B := B) hg HV.out (by omega) h1o.out hBg hBw HBX.out hi0 hz1 hwm
         have d3 : wm.cell? ⟨g, 3, none⟩ = some (.slice V n n) := by have := hgm.cell 3; simpa using this
         have hr3 := hrun 3
         obtain ⟨wc, hwc⟩ : ∃ wc, wc = wm.setRow (bx + 1) (olds ++ junk).toArray := ⟨_, rfl⟩
         rw [← hwc] at hr3
         obtain ⟨hgc, hnc1, hbc, hfc⟩ := hwcf wc hwc
         have e3 : wc.cell? ⟨g, 3, none⟩ = some (.slice V n n) := by have := hgc.cell 3; simpa using this
         have e3f := hgc.frozen 3
         have HJL := Lib.hid hjl
         have HFC := Lib.hid hfc
         have lc := hgc.lt
         clear hwm hrun hwcf hjl hwc hfc))
    generalize hwB : wc.setCell ⟨g, 3, none⟩ (.slice (some ⟨bx + 1, 0, none⟩) n 64) = wB at *
    have hgB : Blk wB g 52 #[.bool kc, .slice (some A) dl cap, left, .slice (some ⟨bx + 1, 0, none⟩) n 64, err, nv] := by rw [← hwB]; exact hgc.set_ 3 _
    have hgnB : Blk wB (bx + 1) 65 (olds ++ junk).toArray := by rw [← hwB]; exact hnc1.far (by show bx + 1 ≠ g; omega) _
    have BB : Blk wB bx 65 #[.int .i64 k, .int .u32 ro, .int .u32 rl, dv, .pointer none, .int .i32 0, .int .i32 0] := by rw [← hwB]; exact hbc.far (by show bx ≠ g; omega) _
    have HFB : Hid (Fr B w wB) := by
      rw [← hwB]
      exact HFC.out.trans ⟨(Below.refl B wc).setCell hBg _, Kp.set52 hgc 3 _⟩
    have hgx : g ≠ bx := by omega
    have hgnx : bx + 1 ≠ bx := by omega
    have hne : g ≠ bx + 1 := by omega
    generalize hgn : bx + 1 = gn at *
    have hBn : B ≤ gn := by omega
    have hcur : 7 * n + 7 ≤ (olds ++ junk).toArray.size := by have := HJL.out; simp; omega
    generalize hcu : (olds ++ junk).toArray = cur at *
    have HCU := Lib.hid hcu
    generalize hnc2 : 64 = ncap at *
    have hnM : n + 1 ≤ ncap := by omega
    have hnM2 : n ≤ 500000 := by omega
    have HNC := Lib.hid hnc2
    clear hnc2 c3 f3 hbx hwB hr3 e3 e3f d3 hgm hgc hnc1 hbc hcu
    have l1 := hgB.lt
    have l2 := hgnB.lt
    have l3 := BB.lt
    have f3B := hgB.frozen 3
    have y4 := BB.cell 4
    have y4f := BB.frozen 4
    simp at y4
    go_upto_region 9 with fail
    generalize hw1 : wB.setCell ⟨bx, 4, none⟩ (Value.pointer (some ⟨g, 0, none⟩)) = w1 at *
    have B1 : Blk w1 bx 65 #[.int .i64 k, .int .u32 ro, .int .u32 rl, dv, .pointer (some ⟨g, 0, none⟩), .int .i32 0, .int .i32 0] := by
      rw [← hw1]
      exact BB.set_ 4 (Value.pointer (some ⟨g, 0, none⟩))
    have hg1 : Blk w1 g 52 #[.bool kc, .slice (some A) dl cap, left, .slice (some ⟨gn, 0, none⟩) n ncap, err, nv] := by
      rw [← hw1]
      exact hgB.far (by simpa using hgx) _
    have hgn1 : Blk w1 gn 65 cur := by
      rw [← hw1]
      exact hgnB.far (by simpa using hgnx) _
    have HW1 := Lib.hid hw1
    have hlt1 := hg1.lt
    have hltn1 := hgn1.lt
    have hltb1 := B1.lt
    clear hw1 l1 l2 l3 f3B y4 y4f
    have d3 : w1.cell? ⟨g, 3, none⟩ = some (.slice (some ⟨gn, 0, none⟩) n ncap) := by have := hg1.cell 3; simpa using this
    have x0 := B1.cell 0
    have x1 := B1.cell 1
    have x2 := B1.cell 2
    have x3 := B1.cell 3
    have x4 := B1.cell 4
    have x5 := B1.cell 5
    have x6 := B1.cell 6
    simp at x0 x1 x2 x3 x4 x5 x6
    have HN : Hid (∀ j u, ([.int .i64 k, .int .u32 ro, .int .u32 rl, dv, .pointer (some ⟨g, 0, none⟩), .int .i32 0, .int .i32 0] : List Value)[j]? = some u → ((w1.alloc (Obj.cells #[Value.int IntKind.i64 k, Value.int IntKind.u32 ro, Value.int IntKind.u32 rl, dv, Value.pointer (some ⟨g, 0, none⟩), Value.int IntKind.i32 0, Value.int IntKind.i32 0] 65)).drew).cell? ((⟨w1.heap.size, 0, none⟩ : Addr).add j) = some u) :=
      Blk.add (l := [.int .i64 k, .int .u32 ro, .int .u32 rl, dv, .pointer (some ⟨g, 0, none⟩), .int .i32 0, .int .i32 0]) ((Blk.new w1 65 _).drew)
    have H1 : Hid (∀ u ∈ ([.int .i64 k, .int .u32 ro, .int .u32 rl, dv, .pointer (some ⟨g, 0, none⟩), .int .i32 0, .int .i32 0] : List Value), u.oneCell' = true) := by
      intro u hu
      have := hdv.out
      simp at hu
      rcases hu with rfl | rfl | rfl | rfl | rfl | rfl | rfl <;> first | rfl | exact this
    have HG52 : Hid (Blk ((w1.alloc (Obj.cells #[Value.int IntKind.i64 k, Value.int IntKind.u32 ro, Value.int IntKind.u32 rl, dv, Value.pointer (some ⟨g, 0, none⟩), Value.int IntKind.i32 0, Value.int IntKind.i32 0] 65)).drew) g 52 #[.bool kc, .slice (some A) dl cap, left, .slice (some ⟨gn, 0, none⟩) n ncap, err, nv]) := (hg1.alloc _).drew
    have HG : Hid (Blk ((w1.alloc (Obj.cells #[Value.int IntKind.i64 k, Value.int IntKind.u32 ro, Value.int IntKind.u32 rl, dv, Value.pointer (some ⟨g, 0, none⟩), Value.int IntKind.i32 0, Value.int IntKind.i32 0] 65)).drew) gn 65 cur) := (hgn1.alloc _).drew
    go_region_law (
        refine step_append_row rfl (.tmp 49) (.tmp 51) 48 rfl 65 i0 7 Try.underlying48 hi0 hz1 gn n ncap (by simp [Act.eval, Act.put]) cur HG.out ⟨w1.heap.size, 0, none⟩ 1 1 [.int .i64 k, .int .u32 ro, .int .u32 rl, dv, .pointer (some ⟨g, 0, none⟩), .int .i32 0, .int .i32 0] (by simp [Act.eval, Act.put]) rfl HN.out H1.out (by omega) (by simp; omega) ?_
        intro w3 hw3
        have B3 : Blk w3 g 52 #[.bool kc, .slice (some A) dl cap, left, .slice (some ⟨gn, 0, none⟩) n ncap, err, nv] := by rw [hw3]; exact (setRow_other _ gn g _ hne).trans HG52.out
        have e3 : w3.cell? ⟨g, 3, none⟩ = some (.slice (some ⟨gn, 0, none⟩) n ncap) := by have := B3.cell 3; simpa using this
        have e3f := B3.frozen 3
        have HW3 := Lib.hid hw3
        clear hw3)
    all_goals
      go_wp2_with fail
      go_ret
    all_goals
      refine ⟨rfl, gn, junk, by rw [HNC.out]; exact HJL.out, hBn, ?_⟩
      rw [HCU.out, HNC.out]
      exact push_end hgB hgnB hBg hBn hne (by have := HBX.out; omega) HBX.out hgx hgnx HFB.out HW1.out HW3.out
  · go_enter Try.func38, Try.ntmps38
    go_wp2_with fail
    go_quiet (fail)
    go_upto_region 8 with (first
      | (at_make; refine wpList_mk rfl _ _ 48 rfl 65 i0 _ 7 Try.underlying48 hi0 hz0 hz1 _ _ _ _ n (2 * n) rfl rfl rfl (by first | rfl | simp) (by omega) hbytes (by omega) ?_
         intro wm hwm
         obtain ⟨hgm, junk, hjl, hrun, hwcf⟩ := grow_facts (B := B) hg HV.out (by omega) h1o.out hBg hBw HBX.out hi0 hz1 hwm
         have d3 : wm.cell? ⟨g, 3, none⟩ = some (.slice V n n) := by have := hgm.cell 3; simpa using this
         have hr3 := hrun 3
         obtain ⟨wc, hwc⟩ : ∃ wc, wc = wm.setRow (bx + 1) (olds ++ junk).toArray := ⟨_, rfl⟩
         rw [← hwc] at hr3
         obtain ⟨hgc, hnc1, hbc, hfc⟩ := hwcf wc hwc
         have e3 : wc.cell? ⟨g, 3, none⟩ = some (.slice V n n) := by have := hgc.cell 3; simpa using this
         have e3f := hgc.frozen 3
         have HJL := Lib.hid hjl
         have HFC := Lib.hid hfc
         have lc := hgc.lt
         clear hwm hrun hwcf hjl hwc hfc))
    generalize hwB : wc.setCell ⟨g, 3, none⟩ (.slice (some ⟨bx + 1, 0, none⟩) n (2 * n)) = wB at *
    have hgB : Blk wB g 52 #[.bool kc, .slice (some A) dl cap, left, .slice (some ⟨bx + 1, 0, none⟩) n (2 * n), err, nv] := by rw [← hwB]; exact hgc.set_ 3 _
    have hgnB : Blk wB (bx + 1) 65 (olds ++ junk).toArray := by rw [← hwB]; exact hnc1.far (by show bx + 1 ≠ g; omega) _
    have BB : Blk wB bx 65 #[.int .i64 k, .int .u32 ro, .int .u32 rl, dv, .pointer none, .int .i32 0, .int .i32 0] := by rw [← hwB]; exact hbc.far (by show bx ≠ g; omega) _
    have HFB : Hid (Fr B w wB) := by
      rw [← hwB]
      exact HFC.out.trans ⟨(Below.refl B wc).setCell hBg _, Kp.set52 hgc 3 _⟩
    have hgx : g ≠ bx := by omega
    have hgnx : bx + 1 ≠ bx := by omega
    have hne : g ≠ bx + 1 := by omega
    generalize hgn : bx + 1 = gn at *
    have hBn : B ≤ gn := by omega
    have hcur : 7 * n + 7 ≤ (olds ++ junk).toArray.size := by have := HJL.out; simp; omega
    generalize hcu : (olds ++ junk).toArray = cur at *
    have HCU := Lib.hid hcu
    generalize hnc2 : (2 * n) = ncap at *
    have hnM : n + 1 ≤ ncap := by omega
    have hnM2 : n ≤ 500000 := by omega
    have HNC := Lib.hid hnc2
    clear hnc2 c3 f3 hbx hwB hr3 e3 e3f d3 hgm hgc hnc1 hbc hcu
    have l1 := hgB.lt
    have l2 := hgnB.lt
    have l3 := BB.lt
    have f3B := hgB.frozen 3
    have y4 := BB.cell 4
    have y4f := BB.frozen 4
    simp at y4
    go_upto_region 9 with fail
    generalize hw1 : wB.setCell ⟨bx, 4, none⟩ (Value.pointer (some ⟨g, 0, none⟩)) = w1 at *
    have B1 : Blk w1 bx 65 #[.int .i64 k, .int .u32 ro, .int .u32 rl, dv, .pointer (some ⟨g, 0, none⟩), .int .i32 0, .int .i32 0] := by
      rw [← hw1]
      exact BB.set_ 4 (Value.pointer (some ⟨g, 0, none⟩))
    have hg1 : Blk w1 g 52 #[.bool kc, .slice (some A) dl cap, left, .slice (some ⟨gn, 0, none⟩) n ncap, err, nv] := by
      rw [← hw1]
      exact hgB.far (by simpa using hgx) _
    have hgn1 : Blk w1 gn 65 cur := by
      rw [← hw1]
      exact hgnB.far (by simpa using hgnx) _
    have HW1 := Lib.hid hw1
    have hlt1 := hg1.lt
    have hltn1 := hgn1.lt
    have hltb1 := B1.lt
    clear hw1 l1 l2 l3 f3B y4 y4f
    have d3 : w1.cell? ⟨g, 3, none⟩ = some (.slice (some ⟨gn, 0, none⟩) n ncap) := by have := hg1.cell 3; simpa using this
    have x0 := B1.cell 0
    have x1 := B1.cell 1
    have x2 := B1.cell 2
    have x3 := B1.cell 3
    have x4 := B1.cell 4
    have x5 := B1.cell 5
    have x6 := B1.cell 6
    simp at x0 x1 x2 x3 x4 x5 x6
    have HN : Hid (∀ j u, ([.int .i64 k, .int .u32 ro, .int .u32 rl, dv, .pointer (some ⟨g, 0, none⟩), .int .i32 0, .int .i32 0] : List Value)[j]? = some u → ((w1.alloc (Obj.cells #[Value.int IntKind.i64 k, Value.int IntKind.u32 ro, Value.int IntKind.u32 rl, dv, Value.pointer (some ⟨g, 0, none⟩), Value.int IntKind.i32 0, Value.int IntKind.i32 0] 65)).drew).cell? ((⟨w1.heap.size, 0, none⟩ : Addr).add j) = some u) :=
      Blk.add (l := [.int .i64 k, .int .u32 ro, .int .u32 rl, dv, .pointer (some ⟨g, 0, none⟩), .int .i32 0, .int .i32 0]) ((Blk.new w1 65 _).drew)
    have H1 : Hid (∀ u ∈ ([.int .i64 k, .int .u32 ro, .int .u32 rl, dv, .pointer (some ⟨g, 0, none⟩), .int .i32 0, .int .i32 0] : List Value), u.oneCell' = true) := by
      intro u hu
      have := hdv.out
      simp at hu
      rcases hu with rfl | rfl | rfl | rfl | rfl | rfl | rfl <;> first | rfl | exact this
    have HG52 : Hid (Blk ((w1.alloc (Obj.cells #[Value.int IntKind.i64 k, Value.int IntKind.u32 ro, Value.int IntKind.u32 rl, dv, Value.pointer (some ⟨g, 0, none⟩), Value.int IntKind.i32 0, Value.int IntKind.i32 0] 65)).drew) g 52 #[.bool kc, .slice (some A) dl cap, left, .slice (some ⟨gn, 0, none⟩) n ncap, err, nv]) := (hg1.alloc _).drew
    have HG : Hid (Blk ((w1.alloc (Obj.cells #[Value.int IntKind.i64 k, Value.int IntKind.u32 ro, Value.int IntKind.u32 rl, dv, Value.pointer (some ⟨g, 0, none⟩), Value.int IntKind.i32 0, Value.int IntKind.i32 0] 65)).drew) gn 65 cur) := (hgn1.alloc _).drew
    go_region_law (
        refine step_append_row rfl (.tmp 49) (.tmp 51) 48 rfl 65 i0 7 Try.underlying48 hi0 hz1 gn n ncap (by simp [Act.eval, Act.put]) cur HG.out ⟨w1.heap.size, 0, none⟩ 1 1 [.int .i64 k, .int .u32 ro, .int .u32 rl, dv, .pointer (some ⟨g, 0, none⟩), .int .i32 0, .int .i32 0] (by simp [Act.eval, Act.put]) rfl HN.out H1.out (by omega) (by simp; omega) ?_
        intro w3 hw3
        have B3 : Blk w3 g 52 #[.bool kc, .slice (some A) dl cap, left, .slice (some ⟨gn, 0, none⟩) n ncap, err, nv] := by rw [hw3]; exact (setRow_other _ gn g _ hne).trans HG52.out
        have e3 : w3.cell? ⟨g, 3, none⟩ = some (.slice (some ⟨gn, 0, none⟩) n ncap) := by have := B3.cell 3; simpa using this
        have e3f := B3.frozen 3
        have HW3 := Lib.hid hw3
        clear hw3)
    all_goals
      go_wp2_with fail
      go_ret
    all_goals
      refine ⟨rfl, gn, junk, by rw [HNC.out]; exact HJL.out, hBn, ?_⟩
      rw [HCU.out, HNC.out]
      exact push_end hgB hgnB hBg hBn hne (by have := HBX.out; omega) HBX.out hgx hgnx HFB.out HW1.out HW3.out

theorem flat_one {g : Nat} {ns : List Nd} (h : ∀ x ∈ ns, x.data.oneCell' = true) : ∀ u ∈ flat g ns, u.oneCell' = true := by
  intro u hu
  simp only [flat, List.mem_flatMap] at hu
  obtain ⟨x, hx, hu⟩ := hu
  have := h x hx
  simp only [Nd.cells, List.mem_cons, List.not_mem_nil, or_false] at hu
  rcases hu with rfl | rfl | rfl | rfl | rfl | rfl | rfl <;> first | rfl | exact this

/-- push: a node more -/
theorem push_any {B g b cap : Nat} {kc : Bool} {D : List UInt8} {left err : Value} {nest : Nat} {ns : List Nd} {w : World} (hps : PS B w g b cap kc D left ns err nest) (k : Nat) (ro rl : Int) (dv : Value) (hdv : dv.oneCell' = true) (hn : ns.length ≤ 400000) :
    Calls Try.prog 38 #[.pointer (some ⟨g, 0, none⟩), .agg #[.int .i64 k, .int .u32 ro, .int .u32 rl, dv, .pointer none, .int .i32 0, .int .i32 0]] w fun e w' =>
      e = .returned (.int .i32 ((ns.length : Int) + 1)) ∧ PS B w' g b cap kc D left (ns ++ [⟨k, ro, rl, dv, 0, 0⟩]) err nest ∧ Fr B w w' := by
  obtain ⟨A, V, hg, hBg, harn, hBw⟩ := hps
  rcases harn with ⟨rfl, rfl⟩ | ⟨gn, ncap, cur, junk, rfl, hgn, hcl, hcs, hBn, h64, hbig, hone⟩
  · refine (push_grow k ro rl dv B g cap none A 0 64 kc D.length left err (.int .i64 nest) [] w hg (.inl ⟨rfl, rfl, rfl⟩) (.inl ⟨by omega, rfl⟩) (by omega) hdv (fun u hu => by cases hu) hBg hBw).mono ?_
    rintro e w' ⟨rfl, gn', junk, hl, hBn', hr1, hr2, hr3⟩
    refine ⟨rfl, ⟨A, _, hr1, hBg, .inr ⟨gn', 64, _, junk.drop 7, rfl, hr2, ?_, ?_, hBn', by omega, by omega, ?_⟩, Nat.le_trans hBw hr3.1.size⟩, hr3⟩
    · simp [flat, Nd.cells]
    · simp at hl ⊢; omega
    · intro x hx; simp at hx; subst hx; exact hdv
  · have hfl := flat_length g ns
    by_cases hfull : ns.length = ncap
    · have hj : junk = [] := by
        have h1 : cur.toList.length = 7 * ncap := by rw [Array.length_toList]; exact hcs
        rw [hcl, List.length_append] at h1
        exact List.eq_nil_of_length_eq_zero (by omega)
      subst hj
      rw [List.append_nil] at hcl
      have hcur : cur = (flat g ns).toArray := by rw [← hcl]
      subst hcur
      rw [← hfull] at hg
      refine (push_grow k ro rl dv B g cap (some ⟨gn, 0, none⟩) A ns.length (2 * ns.length) kc D.length left err (.int .i64 nest) (flat g ns) w hg (.inr ⟨gn, rfl, hgn, hfl⟩) (.inr ⟨by omega, rfl⟩) (by omega) hdv (flat_one hone) hBg hBw).mono ?_
      rintro e w' ⟨rfl, gn', junk, hl, hBn', hr1, hr2, hr3⟩
      refine ⟨rfl, ⟨A, _, by rw [List.length_append]; exact hr1, hBg, .inr ⟨gn', 2 * ns.length, _, junk.drop 7, rfl, hr2, ?_, ?_, hBn', by omega, by omega, ?_⟩, Nat.le_trans hBw hr3.1.size⟩, hr3⟩
      · have e1 : ns.length * 7 = (flat g ns).length := by omega
        rw [flat_append]
        simp only [List.toList_toArray]
        rw [e1, List.take_left, ← List.drop_drop, List.drop_left]
        rfl
      · have h2 : junk.length = 7 * (2 * ns.length) - 7 * ns.length := by omega
        simp [hfl, h2]
        omega
      · intro x hx
        rcases List.mem_append.1 hx with h | h
        · exact hone x h
        · simp at h; subst h; exact hdv
    · have hle : ns.length ≤ ncap := by
        have h1 : cur.toList.length = 7 * ncap := by rw [Array.length_toList]; exact hcs
        rw [hcl, List.length_append] at h1
        omega
      refine (push_room k ro rl dv B g cap gn ncap A ns.length kc D.length left err (.int .i64 nest) cur w hg hgn (by omega) hbig hcs hdv hBg hBn).mono ?_
      rintro e w' ⟨rfl, hr1, hr2, hr3⟩
      refine ⟨rfl, ⟨A, _, by rw [List.length_append]; exact hr1, hBg, .inr ⟨gn, ncap, _, junk.drop 7, rfl, hr2, ?_, ?_, hBn, h64, hbig, ?_⟩, Nat.le_trans hBw hr3.1.size⟩, hr3⟩
      · have e1 : ns.length * 7 = (flat g ns).length := by omega
        rw [flat_append, hcl]
        simp only [List.toList_toArray]
        rw [e1, List.take_left, ← List.drop_drop, List.drop_left]
        rfl
      · have h1 : cur.toList.length = 7 * ncap := by rw [Array.length_toList]; exact hcs
        simp
        rw [Nat.min_eq_left (by omega)]
        omega
      · intro x hx
        rcases List.mem_append.1 hx with h | h
        · exact hone x h
        · simp at h; subst h; exact hdv
end Go.Proofs.Ytnlkbbpmpgdmiaa
