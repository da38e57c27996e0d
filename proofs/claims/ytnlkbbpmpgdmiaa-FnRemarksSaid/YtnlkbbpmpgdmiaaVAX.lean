/- nodeIs of equal data; exprsAre of equal data; A document made, written and read: the laws' common step. -/
import Derived.Test.YtnlkbbpmpgdmiaaVAV
import Derived.Test.YtnlkbbpmpgdmiaaVAD
import Derived.Deep.RegionHeld3
import Derived.Test.YtnlkbbpmpgdmiaaVAW
import Derived.Test.YtnlkbbpmpgdmiaaVAC
namespace Go.Proofs.Ytnlkbbpmpgdmiaa
open Go.RowKit
set_option linter.unusedVariables false
set_option linter.unusedSimpArgs false
theorem StrRow.strs {P : Nat → Prop} {w : World} {v : Value} {ks : List (List UInt8)} (h : StrRow P w v ks) : StrsAt w v (ks.map fun k => (⟨k.toArray⟩ : ByteArray)) := by
  obtain ⟨_, h2⟩ := h
  rcases h2 with ⟨rfl, h0⟩ | ⟨g, cap, cur, rfl, b, c, hn, hm, hs, ht⟩
  · have : ks = [] := List.eq_nil_of_length_eq_zero h0
    subst this
    exact ⟨none, 0, 0, rfl, Nat.le_refl _, by omega, fun i s hi => by simp at hi⟩
  · simp only [maxLen] at hm
    refine ⟨_, cap, g, by simp, by simpa using hn, hm, fun i s hi => ⟨rfl, ?_⟩⟩
    have hil : i < ks.length := by have := (List.getElem?_eq_some_iff.1 hi).1; simpa using this
    have h1 : (cur.toList.take (ks.length * 1))[i]? = (ks.map fun k => Value.string ⟨k.toArray⟩)[i]? := by rw [ht]
    rw [List.getElem?_take_of_lt (by omega)] at h1
    rw [c.cell, ← Array.getElem?_toList, h1]
    rw [List.getElem?_map] at hi ⊢
    obtain ⟨k, hk, rfl⟩ := Option.map_eq_some_iff.1 hi
    rw [hk]
    rfl
theorem StrsAt.below {w w' : World} {v : Value} {ss : List ByteArray} (h : StrsAt w v ss) (hb : Below w.heap.size w w') : StrsAt w' v ss := by
  obtain ⟨o, c, g, h1, h2, h3, h4⟩ := h
  refine ⟨o, c, g, h1, h2, h3, fun i s hi => ?_⟩
  obtain ⟨e, hc⟩ := h4 i s hi
  exact ⟨e, (hb.cell (p := ⟨g, i, none⟩) (World.block_lt_of_cell? w ⟨g, i, none⟩ hc)).trans hc⟩
def TrueBel (w : World) (e : Ending) (w' : World) : Prop := e = .returned (.bool true) ∧ Below w.heap.size w w'
/-- nodeIs tells every value of less than n from no equal one -/
def NodeEq (n : Nat) : Prop := ∀ (v : N), SizeOf.sizeOf v < n → ∀ (W : World) (cs1 cs2 : List Value), NodeIs (fun _ => True) W 74 v cs1 → NodeIs (fun _ => True) W 43 v cs2 → Calls Try.prog 33 #[.agg cs1.toArray, .agg cs2.toArray] W (TrueBel W)
theorem nodes_below {w w' : World} {T : TypeId} {v : N} {cs : List Value} (h : NodeIs (fun _ => True) w T v cs) (hb : Below w.heap.size w w') : NodeIs (fun _ => True) w' T v cs :=
  NodeIs.move (fun g t c _ h2 => ⟨trivial, h2.below hb h2.lt⟩) v h
set_option maxRecDepth 100000 in
set_option maxHeartbeats 4000000 in
theorem nodeEq_step {n : Nat} (ih : NodeEq n) : NodeEq (n + 1) := by
  intro v hsz W cs1 cs2 h1 h2
  have HSZ := Lib.hid hsz
  have HIH := Lib.hid ih
  obtain ⟨iv1, kv1, ic1, rfl, hk1, hr1, hi1⟩ := h1.cells
  obtain ⟨iv2, kv2, ic2, rfl, hk2, hr2, hi2⟩ := h2.cells
  obtain ⟨A1, m1, rfl, hm1, hm1'⟩ := Row.slice hr1
  obtain ⟨A2, m2, rfl, hm2, hm2'⟩ := Row.slice hr2
  have HS1 := Lib.hid hk1.strs
  have HS2 := Lib.hid hk2.strs
  have HR1 := Lib.hid hr1
  have HR2 := Lib.hid hr2
  have HI1 := Lib.hid hi1
  have HI2 := Lib.hid hi2
  obtain ⟨kd, hkd⟩ : ∃ kd, v.kind = kd := ⟨_, rfl⟩
  obtain ⟨t, ht⟩ : ∃ t, (⟨v.text.toArray⟩ : ByteArray) = t := ⟨_, rfl⟩
  obtain ⟨items, hit⟩ : ∃ items, v.items = items := ⟨_, rfl⟩
  rw [hkd, ht, hit]
  rw [hit] at HR1 HR2 HI1 HI2 hm1 hm2
  have HSZ2 : Hid (SizeOf.sizeOf (N.mk kd v.text items v.keys) < n + 1) := by
    have := hsz
    cases v
    subst hkd hit
    exact this
  obtain ⟨L, hL⟩ : ∃ L, items.length = L := ⟨_, rfl⟩
  rw [hL] at HR1 HR2 hm1 hm2 ⊢
  simp only [maxLen] at hm1' hm2'
  have hlen : L ≤ 9223372036854775807 := by omega
  have HL := Lib.hid hL
  clear h1 h2 hk1 hk2 hr1 hr2 hi1 hi2 hkd ht hit hL hsz HSZ ih
  have hb0 : Below W.heap.size W ((W.alloc (.cells #[.int .i64 kd, .string t, .slice A1 L m1, kv1] 74)).alloc (.cells #[.int .i64 kd, .string t, .slice A2 L m2, kv2] 43)) := ((Below.refl _ W).alloc (Nat.le_refl _) _).alloc (by simp) _
  have HB0 := Lib.hid hb0
  have HX1 : Hid (Blk ((W.alloc (.cells #[.int .i64 kd, .string t, .slice A1 L m1, kv1] 74)).alloc (.cells #[.int .i64 kd, .string t, .slice A2 L m2, kv2] 43)) W.heap.size 74 #[.int .i64 kd, .string t, .slice A1 L m1, kv1]) := (Blk.new W 74 _).alloc _
  have HX2 : Hid (Blk ((W.alloc (.cells #[.int .i64 kd, .string t, .slice A1 L m1, kv1] 74)).alloc (.cells #[.int .i64 kd, .string t, .slice A2 L m2, kv2] 43)) (W.heap.size + 1) 43 #[.int .i64 kd, .string t, .slice A2 L m2, kv2]) := by
    have h := Blk.new (W.alloc (.cells #[.int .i64 kd, .string t, .slice A1 L m1, kv1] 74)) 43 #[.int .i64 kd, .string t, .slice A2 L m2, kv2]
    rw [size_alloc'] at h
    exact h
  clear hb0
  by_cases h8 : kd < 8
  · have h8' : decide ((kd : Int) < 8) = true := by simp; omega
    go_enter Try.func33, Try.ntmps33
    go_wp2_with fail
    refine (keysAre_yes (HS1.out.below HB0.out) (HS2.out.below HB0.out)).mono ?_
    rintro e w' ⟨rfl, nk, hw0⟩
    have HB1 : Hid (Below W.heap.size W w') := by rw [hw0]; exact HB0.out.trans (Fr.drewN _ nk).1
    have HY1 : Hid (Blk w' W.heap.size 74 #[.int .i64 kd, .string t, .slice A1 L m1, kv1]) := by rw [hw0]; exact HX1.out
    have HY2 : Hid (Blk w' (W.heap.size + 1) 43 #[.int .i64 kd, .string t, .slice A2 L m2, kv2]) := by rw [hw0]; exact HX2.out
    have d2 : w'.cell? ⟨W.heap.size, 2, none⟩ = some (.slice A1 L m1) := by have := HY1.out.cell 2; simpa using this
    clear hw0
    go_wp2_with fail
    clear d2 h8 h8'
    go_loopg [5, 43] L (fun g s5 s43 wx => ∃ k : Nat, s43 = .int .i64 k ∧ k + g = L ∧ Hid (Below W.heap.size W wx ∧ Blk wx W.heap.size 74 #[.int .i64 kd, .string t, .slice A1 L m1, kv1] ∧ Blk wx (W.heap.size + 1) 43 #[.int .i64 kd, .string t, .slice A2 L m2, kv2]))
    case atStart => exact ⟨0, rfl, by omega, HB1.out, HY1.out, HY2.out⟩
    case round =>
      obtain ⟨k, rfl, hk, HW⟩ := hrel
      cases gk with
      | zero =>
        have hkn : ¬ ((k : Int) < L) := by omega
        go_wp2_with fail
        go_ret
        exact ⟨rfl, HW.out.1⟩
      | succ g' =>
        have hkn : k < L := by omega
        have hkn' : (k : Int) < L := by omega
        have hk0 : (0 : Int) ≤ (k : Int) := by omega
        obtain ⟨x, hx⟩ : ∃ x, items[k]? = some x := ⟨_, List.getElem?_eq_getElem (by rw [HL.out]; exact hkn)⟩
        have hsp : items = items.take k ++ x :: items.drop (k + 1) := by
          have h1 := List.getElem?_eq_some_iff.1 hx
          obtain ⟨h2, h3⟩ := h1
          rw [← h3]
          simp
        have htl : (items.take k).length = k := by have := HL.out; simp; omega
        have hsx : SizeOf.sizeOf x < n := size_mem HSZ2.out hsp
        have hr1 : Row (fun _ => True) wr 74 4 (.slice A1 L m1) L ic1 := Row.move HR1.out (fun g t c _ h2 => ⟨trivial, h2.below HW.out.1 h2.lt⟩)
        have hr2 : Row (fun _ => True) wr 43 4 (.slice A2 L m2) L ic2 := Row.move HR2.out (fun g t c _ h2 => ⟨trivial, h2.below HW.out.1 h2.lt⟩)
        have hj1 : ItemsIs (fun _ => True) wr 74 items ic1 := ItemsIs.move (fun g t c _ h2 => ⟨trivial, h2.below HW.out.1 h2.lt⟩) _ HI1.out
        have hj2 : ItemsIs (fun _ => True) wr 43 items ic2 := ItemsIs.move (fun g t c _ h2 => ⟨trivial, h2.below HW.out.1 h2.lt⟩) _ HI2.out
        rw [hsp] at hj1 hj2
        obtain ⟨xc1, hn1, hc1⟩ := items_at hj1
        obtain ⟨xc2, hn2, hc2⟩ := items_at hj2
        rw [htl] at hc1 hc2
        obtain ⟨g1, cap1, e1, _, _, _, hgl1, hcl1⟩ := Row.cells hr1 (by omega)
        injection e1 with e1 _ e1'
        subst e1
        subst e1'
        obtain ⟨g2, cap2, e2, _, _, _, hgl2, hcl2⟩ := Row.cells hr2 (by omega)
        injection e2 with e2 _ e2'
        subst e2
        subst e2'
        obtain ⟨yi1, yk1, ycs1, rfl, _⟩ := hn1.cells
        obtain ⟨yi2, yk2, ycs2, rfl, _⟩ := hn2.cells
        have b0 : wr.cell? ⟨g1, k * 4, none⟩ = some (.int .i64 x.kind) := by rw [hcl1 (k * 4) (by omega)]; exact hc1 0 (by omega)
        have b1 : wr.cell? ⟨g1, k * 4 + 1, none⟩ = some (.string ⟨x.text.toArray⟩) := by rw [hcl1 (k * 4 + 1) (by omega)]; exact hc1 1 (by omega)
        have b2 : wr.cell? ⟨g1, k * 4 + 2, none⟩ = some yi1 := by rw [hcl1 (k * 4 + 2) (by omega)]; exact hc1 2 (by omega)
        have b3 : wr.cell? ⟨g1, k * 4 + 3, none⟩ = some yk1 := by rw [hcl1 (k * 4 + 3) (by omega)]; exact hc1 3 (by omega)
        have c0 : wr.cell? ⟨g2, k * 4, none⟩ = some (.int .i64 x.kind) := by rw [hcl2 (k * 4) (by omega)]; exact hc2 0 (by omega)
        have c1 : wr.cell? ⟨g2, k * 4 + 1, none⟩ = some (.string ⟨x.text.toArray⟩) := by rw [hcl2 (k * 4 + 1) (by omega)]; exact hc2 1 (by omega)
        have c2 : wr.cell? ⟨g2, k * 4 + 2, none⟩ = some yi2 := by rw [hcl2 (k * 4 + 2) (by omega)]; exact hc2 2 (by omega)
        have c3 : wr.cell? ⟨g2, k * 4 + 3, none⟩ = some yk2 := by rw [hcl2 (k * 4 + 3) (by omega)]; exact hc2 3 (by omega)
        have d1 : wr.cell? ⟨W.heap.size, 2, none⟩ = some (.slice (some ⟨g1, 0, none⟩) L m1) := by have := HW.out.2.1.cell 2; simpa using this
        have d2 : wr.cell? ⟨W.heap.size + 1, 2, none⟩ = some (.slice (some ⟨g2, 0, none⟩) L m2) := by have := HW.out.2.2.cell 2; simpa using this
        have HC : Hid (Calls Try.prog 33 #[.agg #[.int .i64 x.kind, .string ⟨x.text.toArray⟩, yi1, yk1], .agg #[.int .i64 x.kind, .string ⟨x.text.toArray⟩, yi2, yk2]] wr.drew (TrueBel wr.drew)) := HIH.out x hsx wr.drew _ _ (NodeIs.move (P := fun _ => True) (P' := fun _ => True) (w := wr) (w' := wr.drew) (fun g t c _ h => ⟨trivial, h⟩) x hn1) (NodeIs.move (P := fun _ => True) (P' := fun _ => True) (w := wr) (w' := wr.drew) (fun g t c _ h => ⟨trivial, h⟩) x hn2)
        have hw1l := HW.out.2.1.lt
        have hw2l := HW.out.2.2.lt
        have hmm1 : (L : Int) ≤ (m1 : Int) := by omega
        have hmm2 : (L : Int) ≤ (m2 : Int) := by omega
        clear hcl1 hcl2 hc1 hc2 hn1 hn2 hj1 hj2 hr1 hr2 htl hsp hx hsx
        go_wp2_with fail
        go_region_held3 (fun w' => w'.cell? ⟨W.heap.size, 2, none⟩ = some (.slice (some ⟨g1, 0, none⟩) L m1) ∧ w'.cell? ⟨W.heap.size + 1, 2, none⟩ = some (.slice (some ⟨g2, 0, none⟩) L m2) ∧ w'.cell? ⟨g1, k * 4, none⟩ = some (.int .i64 x.kind) ∧ w'.cell? ⟨g1, k * 4 + 1, none⟩ = some (.string ⟨x.text.toArray⟩) ∧ w'.cell? ⟨g1, k * 4 + 2, none⟩ = some yi1 ∧ w'.cell? ⟨g1, k * 4 + 3, none⟩ = some yk1 ∧ w'.cell? ⟨g2, k * 4, none⟩ = some (.int .i64 x.kind) ∧ w'.cell? ⟨g2, k * 4 + 1, none⟩ = some (.string ⟨x.text.toArray⟩) ∧ w'.cell? ⟨g2, k * 4 + 2, none⟩ = some yi2 ∧ w'.cell? ⟨g2, k * 4 + 3, none⟩ = some yk2)
          (first
            | assumption
            | (refine ⟨?_, ?_, ?_, ?_, ?_, ?_, ?_, ?_, ?_, ?_⟩ <;> assumption)
            | go_keep)
          (first
            | (go_at_call 33
               refine HC.out.mono ?_
               rintro e w2 ⟨rfl, hb2⟩
               have HB2 : Hid (Below wr.heap.size wr w2) := Fr.drewN wr 1 |>.1.trans hb2
               have q1 : w2.cell? ⟨W.heap.size, 2, none⟩ = some (.slice (some ⟨g1, 0, none⟩) L m1) := (hb2.cell (p := ⟨W.heap.size, 2, none⟩) hw1l).trans d1
               have q2 : w2.cell? ⟨W.heap.size + 1, 2, none⟩ = some (.slice (some ⟨g2, 0, none⟩) L m2) := (hb2.cell (p := ⟨W.heap.size + 1, 2, none⟩) hw2l).trans d2
               have q3 : w2.cell? ⟨g1, k * 4, none⟩ = some (.int .i64 x.kind) := (hb2.cell (p := ⟨g1, k * 4, none⟩) hgl1).trans b0
               have q4 : w2.cell? ⟨g1, k * 4 + 1, none⟩ = some (.string ⟨x.text.toArray⟩) := (hb2.cell (p := ⟨g1, k * 4 + 1, none⟩) hgl1).trans b1
               have q5 : w2.cell? ⟨g1, k * 4 + 2, none⟩ = some yi1 := (hb2.cell (p := ⟨g1, k * 4 + 2, none⟩) hgl1).trans b2
               have q6 : w2.cell? ⟨g1, k * 4 + 3, none⟩ = some yk1 := (hb2.cell (p := ⟨g1, k * 4 + 3, none⟩) hgl1).trans b3
               have q7 : w2.cell? ⟨g2, k * 4, none⟩ = some (.int .i64 x.kind) := (hb2.cell (p := ⟨g2, k * 4, none⟩) hgl2).trans c0
               have q8 : w2.cell? ⟨g2, k * 4 + 1, none⟩ = some (.string ⟨x.text.toArray⟩) := (hb2.cell (p := ⟨g2, k * 4 + 1, none⟩) hgl2).trans c1
               have q9 : w2.cell? ⟨g2, k * 4 + 2, none⟩ = some yi2 := (hb2.cell (p := ⟨g2, k * 4 + 2, none⟩) hgl2).trans c2
               have q10 : w2.cell? ⟨g2, k * 4 + 3, none⟩ = some yk2 := (hb2.cell (p := ⟨g2, k * 4 + 3, none⟩) hgl2).trans c3
               clear hb2))
        all_goals
          go_wp2_with fail
          go_roundg g'
          case measure => omega
          case rel =>
            have hbw : Below W.heap.size W w2 := HW.out.1.trans (HB2.out.mono HW.out.1.size)
            exact ⟨k + 1, by go_num, by omega, hbw, HW.out.2.1.below HB2.out hw1l, HW.out.2.2.below HB2.out hw2l⟩
  · have h8' : decide ((kd : Int) < 8) = false := by simp; omega
    go_enter Try.func33, Try.ntmps33
    go_wp2_with fail
    refine (keysAre_yes (HS1.out.below HB0.out) (HS2.out.below HB0.out)).mono ?_
    rintro e w' ⟨rfl, nk, hw0⟩
    have HB1 : Hid (Below W.heap.size W w') := by rw [hw0]; exact HB0.out.trans (Fr.drewN _ nk).1
    have HY1 : Hid (Blk w' W.heap.size 74 #[.int .i64 kd, .string t, .slice A1 L m1, kv1]) := by rw [hw0]; exact HX1.out
    have HY2 : Hid (Blk w' (W.heap.size + 1) 43 #[.int .i64 kd, .string t, .slice A2 L m2, kv2]) := by rw [hw0]; exact HX2.out
    have d2 : w'.cell? ⟨W.heap.size, 2, none⟩ = some (.slice A1 L m1) := by have := HY1.out.cell 2; simpa using this
    clear hw0
    go_wp2_with fail
    clear d2 h8 h8'
    go_loopg [5, 43] L (fun g s5 s43 wx => ∃ k : Nat, s43 = .int .i64 k ∧ k + g = L ∧ Hid (Below W.heap.size W wx ∧ Blk wx W.heap.size 74 #[.int .i64 kd, .string t, .slice A1 L m1, kv1] ∧ Blk wx (W.heap.size + 1) 43 #[.int .i64 kd, .string t, .slice A2 L m2, kv2]))
    case atStart => exact ⟨0, rfl, by omega, HB1.out, HY1.out, HY2.out⟩
    case round =>
      obtain ⟨k, rfl, hk, HW⟩ := hrel
      cases gk with
      | zero =>
        have hkn : ¬ ((k : Int) < L) := by omega
        go_wp2_with fail
        go_ret
        exact ⟨rfl, HW.out.1⟩
      | succ g' =>
        have hkn : k < L := by omega
        have hkn' : (k : Int) < L := by omega
        have hk0 : (0 : Int) ≤ (k : Int) := by omega
        obtain ⟨x, hx⟩ : ∃ x, items[k]? = some x := ⟨_, List.getElem?_eq_getElem (by rw [HL.out]; exact hkn)⟩
        have hsp : items = items.take k ++ x :: items.drop (k + 1) := by
          have h1 := List.getElem?_eq_some_iff.1 hx
          obtain ⟨h2, h3⟩ := h1
          rw [← h3]
          simp
        have htl : (items.take k).length = k := by have := HL.out; simp; omega
        have hsx : SizeOf.sizeOf x < n := size_mem HSZ2.out hsp
        have hr1 : Row (fun _ => True) wr 74 4 (.slice A1 L m1) L ic1 := Row.move HR1.out (fun g t c _ h2 => ⟨trivial, h2.below HW.out.1 h2.lt⟩)
        have hr2 : Row (fun _ => True) wr 43 4 (.slice A2 L m2) L ic2 := Row.move HR2.out (fun g t c _ h2 => ⟨trivial, h2.below HW.out.1 h2.lt⟩)
        have hj1 : ItemsIs (fun _ => True) wr 74 items ic1 := ItemsIs.move (fun g t c _ h2 => ⟨trivial, h2.below HW.out.1 h2.lt⟩) _ HI1.out
        have hj2 : ItemsIs (fun _ => True) wr 43 items ic2 := ItemsIs.move (fun g t c _ h2 => ⟨trivial, h2.below HW.out.1 h2.lt⟩) _ HI2.out
        rw [hsp] at hj1 hj2
        obtain ⟨xc1, hn1, hc1⟩ := items_at hj1
        obtain ⟨xc2, hn2, hc2⟩ := items_at hj2
        rw [htl] at hc1 hc2
        obtain ⟨g1, cap1, e1, _, _, _, hgl1, hcl1⟩ := Row.cells hr1 (by omega)
        injection e1 with e1 _ e1'
        subst e1
        subst e1'
        obtain ⟨g2, cap2, e2, _, _, _, hgl2, hcl2⟩ := Row.cells hr2 (by omega)
        injection e2 with e2 _ e2'
        subst e2
        subst e2'
        obtain ⟨yi1, yk1, ycs1, rfl, _⟩ := hn1.cells
        obtain ⟨yi2, yk2, ycs2, rfl, _⟩ := hn2.cells
        have b0 : wr.cell? ⟨g1, k * 4, none⟩ = some (.int .i64 x.kind) := by rw [hcl1 (k * 4) (by omega)]; exact hc1 0 (by omega)
        have b1 : wr.cell? ⟨g1, k * 4 + 1, none⟩ = some (.string ⟨x.text.toArray⟩) := by rw [hcl1 (k * 4 + 1) (by omega)]; exact hc1 1 (by omega)
        have b2 : wr.cell? ⟨g1, k * 4 + 2, none⟩ = some yi1 := by rw [hcl1 (k * 4 + 2) (by omega)]; exact hc1 2 (by omega)
        have b3 : wr.cell? ⟨g1, k * 4 + 3, none⟩ = some yk1 := by rw [hcl1 (k * 4 + 3) (by omega)]; exact hc1 3 (by omega)
        have c0 : wr.cell? ⟨g2, k * 4, none⟩ = some (.int .i64 x.kind) := by rw [hcl2 (k * 4) (by omega)]; exact hc2 0 (by omega)
        have c1 : wr.cell? ⟨g2, k * 4 + 1, none⟩ = some (.string ⟨x.text.toArray⟩) := by rw [hcl2 (k * 4 + 1) (by omega)]; exact hc2 1 (by omega)
        have c2 : wr.cell? ⟨g2, k * 4 + 2, none⟩ = some yi2 := by rw [hcl2 (k * 4 + 2) (by omega)]; exact hc2 2 (by omega)
        have c3 : wr.cell? ⟨g2, k * 4 + 3, none⟩ = some yk2 := by rw [hcl2 (k * 4 + 3) (by omega)]; exact hc2 3 (by omega)
        have d1 : wr.cell? ⟨W.heap.size, 2, none⟩ = some (.slice (some ⟨g1, 0, none⟩) L m1) := by have := HW.out.2.1.cell 2; simpa using this
        have d2 : wr.cell? ⟨W.heap.size + 1, 2, none⟩ = some (.slice (some ⟨g2, 0, none⟩) L m2) := by have := HW.out.2.2.cell 2; simpa using this
        have HC : Hid (Calls Try.prog 33 #[.agg #[.int .i64 x.kind, .string ⟨x.text.toArray⟩, yi1, yk1], .agg #[.int .i64 x.kind, .string ⟨x.text.toArray⟩, yi2, yk2]] wr.drew (TrueBel wr.drew)) := HIH.out x hsx wr.drew _ _ (NodeIs.move (P := fun _ => True) (P' := fun _ => True) (w := wr) (w' := wr.drew) (fun g t c _ h => ⟨trivial, h⟩) x hn1) (NodeIs.move (P := fun _ => True) (P' := fun _ => True) (w := wr) (w' := wr.drew) (fun g t c _ h => ⟨trivial, h⟩) x hn2)
        have hw1l := HW.out.2.1.lt
        have hw2l := HW.out.2.2.lt
        have hmm1 : (L : Int) ≤ (m1 : Int) := by omega
        have hmm2 : (L : Int) ≤ (m2 : Int) := by omega
        clear hcl1 hcl2 hc1 hc2 hn1 hn2 hj1 hj2 hr1 hr2 htl hsp hx hsx
        go_wp2_with fail
        go_region_held3 (fun w' => w'.cell? ⟨W.heap.size, 2, none⟩ = some (.slice (some ⟨g1, 0, none⟩) L m1) ∧ w'.cell? ⟨W.heap.size + 1, 2, none⟩ = some (.slice (some ⟨g2, 0, none⟩) L m2) ∧ w'.cell? ⟨g1, k * 4, none⟩ = some (.int .i64 x.kind) ∧ w'.cell? ⟨g1, k * 4 + 1, none⟩ = some (.string ⟨x.text.toArray⟩) ∧ w'.cell? ⟨g1, k * 4 + 2, none⟩ = some yi1 ∧ w'.cell? ⟨g1, k * 4 + 3, none⟩ = some yk1 ∧ w'.cell? ⟨g2, k * 4, none⟩ = some (.int .i64 x.kind) ∧ w'.cell? ⟨g2, k * 4 + 1, none⟩ = some (.string ⟨x.text.toArray⟩) ∧ w'.cell? ⟨g2, k * 4 + 2, none⟩ = some yi2 ∧ w'.cell? ⟨g2, k * 4 + 3, none⟩ = some yk2)
          (first
            | assumption
            | (refine ⟨?_, ?_, ?_, ?_, ?_, ?_, ?_, ?_, ?_, ?_⟩ <;> assumption)
            | go_keep)
          (first
            | (go_at_call 33
               refine HC.out.mono ?_
               rintro e w2 ⟨rfl, hb2⟩
               have HB2 : Hid (Below wr.heap.size wr w2) := Fr.drewN wr 1 |>.1.trans hb2
               have q1 : w2.cell? ⟨W.heap.size, 2, none⟩ = some (.slice (some ⟨g1, 0, none⟩) L m1) := (hb2.cell (p := ⟨W.heap.size, 2, none⟩) hw1l).trans d1
               have q2 : w2.cell? ⟨W.heap.size + 1, 2, none⟩ = some (.slice (some ⟨g2, 0, none⟩) L m2) := (hb2.cell (p := ⟨W.heap.size + 1, 2, none⟩) hw2l).trans d2
               have q3 : w2.cell? ⟨g1, k * 4, none⟩ = some (.int .i64 x.kind) := (hb2.cell (p := ⟨g1, k * 4, none⟩) hgl1).trans b0
               have q4 : w2.cell? ⟨g1, k * 4 + 1, none⟩ = some (.string ⟨x.text.toArray⟩) := (hb2.cell (p := ⟨g1, k * 4 + 1, none⟩) hgl1).trans b1
               have q5 : w2.cell? ⟨g1, k * 4 + 2, none⟩ = some yi1 := (hb2.cell (p := ⟨g1, k * 4 + 2, none⟩) hgl1).trans b2
               have q6 : w2.cell? ⟨g1, k * 4 + 3, none⟩ = some yk1 := (hb2.cell (p := ⟨g1, k * 4 + 3, none⟩) hgl1).trans b3
               have q7 : w2.cell? ⟨g2, k * 4, none⟩ = some (.int .i64 x.kind) := (hb2.cell (p := ⟨g2, k * 4, none⟩) hgl2).trans c0
               have q8 : w2.cell? ⟨g2, k * 4 + 1, none⟩ = some (.string ⟨x.text.toArray⟩) := (hb2.cell (p := ⟨g2, k * 4 + 1, none⟩) hgl2).trans c1
               have q9 : w2.cell? ⟨g2, k * 4 + 2, none⟩ = some yi2 := (hb2.cell (p := ⟨g2, k * 4 + 2, none⟩) hgl2).trans c2
               have q10 : w2.cell? ⟨g2, k * 4 + 3, none⟩ = some yk2 := (hb2.cell (p := ⟨g2, k * 4 + 3, none⟩) hgl2).trans c3
               clear hb2))
        all_goals
          go_wp2_with fail
          go_roundg g'
          case measure => omega
          case rel =>
            have hbw : Below W.heap.size W w2 := HW.out.1.trans (HB2.out.mono HW.out.1.size)
            exact ⟨k + 1, by go_num, by omega, hbw, HW.out.2.1.below HB2.out hw1l, HW.out.2.2.below HB2.out hw2l⟩
theorem nodeEq_all : ∀ n, NodeEq n
  | 0 => fun v h => absurd h (Nat.not_lt_zero _)
  | n + 1 => nodeEq_step (nodeEq_all n)
end Go.Proofs.Ytnlkbbpmpgdmiaa
namespace Go.Proofs.Ytnlkbbpmpgdmiaa
open Go.RowKit
set_option linter.unusedVariables false
set_option linter.unusedSimpArgs false
theorem exsIs_at {P : Nat → Prop} {w : World} {T : TypeId} {x : Ex} {rest : List Ex} : ∀ {dn : List Ex} {cs : List Value}, ExsIs P w T (dn ++ x :: rest) cs → ∃ kv c4, StrRow P w kv x.keys ∧ c4.length = 4 ∧ (x.kind = 0 → NodeIs P w T x.value c4) ∧ cs[dn.length * 6]? = some (.int .i64 x.kind) ∧ cs[dn.length * 6 + 1]? = some kv ∧ ∀ i, i < 4 → cs[dn.length * 6 + 2 + i]? = c4[i]?
  | [], cs, ⟨a, b, h0, ⟨kv, c4, h1, h2, h3, h4⟩, _⟩ => by
    subst h0
    subst h1
    refine ⟨kv, c4, h2, h3, h4, rfl, rfl, fun i hi => ?_⟩
    simp only [List.length_nil, Nat.zero_mul, Nat.zero_add, List.cons_append]
    rw [show 2 + i = i + 1 + 1 from by omega, List.getElem?_cons_succ, List.getElem?_cons_succ, List.getElem?_append_left (by omega)]
  | d :: dn, cs, ⟨a, b, h0, h1, h2⟩ => by
    subst h0
    obtain ⟨kv, c4, g1, g2, g3, g4, g5, g6⟩ := exsIs_at (dn := dn) h2
    have hl : a.length = 6 := by
      obtain ⟨_, c4', e, _, e2, _⟩ := h1
      rw [e]
      simp [e2]
    have hsh : ∀ j, (a ++ b)[(d :: dn).length * 6 + j]? = b[dn.length * 6 + j]? := by
      intro j
      rw [List.getElem?_append_right (by simp only [List.length_cons]; omega)]
      congr 1
      simp only [List.length_cons]
      omega
    refine ⟨kv, c4, g1, g2, g3, (hsh 0).trans g4, (hsh 1).trans g5, fun i hi => ?_⟩
    rw [← g6 i hi, Nat.add_assoc, Nat.add_assoc]
    exact hsh (2 + i)
theorem cell_below {w w' : World} {g o : Nat} {u : Value} (h : w.cell? ⟨g, o, none⟩ = some u) (hb : Below w.heap.size w w') : w'.cell? ⟨g, o, none⟩ = some u :=
  (hb.cell (p := ⟨g, o, none⟩) (World.block_lt_of_cell? w ⟨g, o, none⟩ h)).trans h
set_option maxRecDepth 100000 in
set_option maxHeartbeats 4000000 in
theorem exprsAre_yes {W : World} {va vb : Value} {es : List Ex} {ca cb : List Value} (hra : Row (fun _ => True) W 77 6 va es.length ca) (hea : ExsIs (fun _ => True) W 74 es ca) (hrb : Row (fun _ => True) W 45 6 vb es.length cb) (heb : ExsIs (fun _ => True) W 43 es cb) (hkinds : ∀ x ∈ es, x.kind ≤ 2) :
    Calls Try.prog 15 #[va, vb] W (TrueBel W) := by
  obtain ⟨A1, m1, rfl, hm1, hm1'⟩ := Row.slice hra
  obtain ⟨A2, m2, rfl, hm2, hm2'⟩ := Row.slice hrb
  have HRA := Lib.hid hra
  have HRB := Lib.hid hrb
  have HEA := Lib.hid hea
  have HEB := Lib.hid heb
  simp only [maxLen] at hm1' hm2'
  obtain ⟨L, hL⟩ : ∃ L, es.length = L := ⟨_, rfl⟩
  rw [hL] at HRA HRB hm1 hm2 ⊢
  have hlen : L ≤ 9223372036854775807 := by omega
  have HL := Lib.hid hL
  clear hra hrb hea heb hL
  go_enter Try.func15, Try.ntmps15
  go_wp2_with fail
  go_loopg [5, 13] L (fun g s5 s13 wx => ∃ k : Nat, s13 = .int .i64 k ∧ k + g = L ∧ Hid (Below W.heap.size W wx))
  case atStart => exact ⟨0, rfl, by omega, Below.refl _ _⟩
  case round =>
    obtain ⟨k, rfl, hk, HW⟩ := hrel
    cases gk with
    | zero =>
      have hkn : ¬ ((k : Int) < L) := by omega
      go_wp2_with fail
      go_ret
      exact ⟨rfl, HW.out⟩
    | succ g' =>
      have hkn : k < L := by omega
      have hkn' : (k : Int) < L := by omega
      have hk0 : (0 : Int) ≤ (k : Int) := by omega
      obtain ⟨x, hx⟩ : ∃ x, es[k]? = some x := ⟨_, List.getElem?_eq_getElem (by rw [HL.out]; exact hkn)⟩
      have hsp : es = es.take k ++ x :: es.drop (k + 1) := by
        obtain ⟨h2, h3⟩ := List.getElem?_eq_some_iff.1 hx
        rw [← h3]
        simp
      have htl : (es.take k).length = k := by have := HL.out; simp; omega
      have hea := HEA.out
      have heb := HEB.out
      rw [hsp] at hea heb
      obtain ⟨kva, ca4, hka, hla, hna, pa0, pa1, pa2⟩ := exsIs_at hea
      obtain ⟨kvb, cb4, hkb, hlb, hnb, pb0, pb1, pb2⟩ := exsIs_at heb
      rw [htl] at pa0 pa1 pa2 pb0 pb1 pb2
      obtain ⟨g1, cap1, e1, _, _, _, hgl1, hcl1⟩ := Row.cells HRA.out (by omega)
      injection e1 with e1 _ e1'
      subst e1
      subst e1'
      obtain ⟨g2, cap2, e2, _, _, _, hgl2, hcl2⟩ := Row.cells HRB.out (by omega)
      injection e2 with e2 _ e2'
      subst e2
      subst e2'
      have HS1 := Lib.hid ((hka.strs).below HW.out)
      have HS2 := Lib.hid ((hkb.strs).below HW.out)
      have a0 : wr.cell? ⟨g1, k * 6, none⟩ = some (.int .i64 x.kind) := cell_below (by rw [hcl1 (k * 6) (by omega)]; exact pa0) HW.out
      have a1 : wr.cell? ⟨g1, k * 6 + 1, none⟩ = some kva := cell_below (by rw [hcl1 (k * 6 + 1) (by omega)]; exact pa1) HW.out
      have b0 : wr.cell? ⟨g2, k * 6, none⟩ = some (.int .i64 x.kind) := cell_below (by rw [hcl2 (k * 6) (by omega)]; exact pb0) HW.out
      have b1 : wr.cell? ⟨g2, k * 6 + 1, none⟩ = some kvb := cell_below (by rw [hcl2 (k * 6 + 1) (by omega)]; exact pb1) HW.out
      have hmm1 : (L : Int) ≤ (m1 : Int) := by omega
      have hmm2 : (L : Int) ≤ (m2 : Int) := by omega
      have hg1w : g1 < wr.heap.size := by have := HW.out.size; omega
      have hg2w : g2 < wr.heap.size := by have := HW.out.size; omega
      by_cases hkd : x.kind = 0
      · obtain ⟨ya, za, wa, rfl, _⟩ := (hna hkd).cells
        obtain ⟨yb, zb, wb, rfl, _⟩ := (hnb hkd).cells
        have a2 : wr.cell? ⟨g1, k * 6 + 2, none⟩ = some (.int .i64 x.value.kind) := cell_below (by rw [hcl1 (k * 6 + 2) (by omega)]; exact pa2 0 (by omega)) HW.out
        have a3 : wr.cell? ⟨g1, k * 6 + 3, none⟩ = some (.string ⟨x.value.text.toArray⟩) := cell_below (by rw [hcl1 (k * 6 + 3) (by omega)]; exact pa2 1 (by omega)) HW.out
        have a4 : wr.cell? ⟨g1, k * 6 + 4, none⟩ = some ya := cell_below (by rw [hcl1 (k * 6 + 4) (by omega)]; exact pa2 2 (by omega)) HW.out
        have a5 : wr.cell? ⟨g1, k * 6 + 5, none⟩ = some za := cell_below (by rw [hcl1 (k * 6 + 5) (by omega)]; exact pa2 3 (by omega)) HW.out
        have b2 : wr.cell? ⟨g2, k * 6 + 2, none⟩ = some (.int .i64 x.value.kind) := cell_below (by rw [hcl2 (k * 6 + 2) (by omega)]; exact pb2 0 (by omega)) HW.out
        have b3 : wr.cell? ⟨g2, k * 6 + 3, none⟩ = some (.string ⟨x.value.text.toArray⟩) := cell_below (by rw [hcl2 (k * 6 + 3) (by omega)]; exact pb2 1 (by omega)) HW.out
        have b4 : wr.cell? ⟨g2, k * 6 + 4, none⟩ = some yb := cell_below (by rw [hcl2 (k * 6 + 4) (by omega)]; exact pb2 2 (by omega)) HW.out
        have b5 : wr.cell? ⟨g2, k * 6 + 5, none⟩ = some zb := cell_below (by rw [hcl2 (k * 6 + 5) (by omega)]; exact pb2 3 (by omega)) HW.out
        have HC : Hid (∀ w', Below W.heap.size W w' → Calls Try.prog 33 #[.agg #[.int .i64 x.value.kind, .string ⟨x.value.text.toArray⟩, ya, za], .agg #[.int .i64 x.value.kind, .string ⟨x.value.text.toArray⟩, yb, zb]] w' (TrueBel w')) :=
          fun w' h => nodeEq_all _ x.value (Nat.lt_succ_self _) w' _ _ (nodes_below (hna hkd) h) (nodes_below (hnb hkd) h)
        have hkd' : (x.kind : Int) = 0 := by omega
        rw [hkd'] at a0 b0
        clear hna hnb hka hkb hea heb hcl1 hcl2 hsp hx htl pa0 pa1 pa2 pb0 pb1 pb2 hkd hkd' hla hlb
        go_wp2_with fail
        go_region_held3 (fun w' => w'.cell? ⟨g1, k * 6, none⟩ = some (.int .i64 0) ∧ w'.cell? ⟨g1, k * 6 + 1, none⟩ = some kva ∧ w'.cell? ⟨g1, k * 6 + 2, none⟩ = some (.int .i64 x.value.kind) ∧ w'.cell? ⟨g1, k * 6 + 3, none⟩ = some (.string ⟨x.value.text.toArray⟩) ∧ w'.cell? ⟨g1, k * 6 + 4, none⟩ = some ya ∧ w'.cell? ⟨g1, k * 6 + 5, none⟩ = some za ∧ w'.cell? ⟨g2, k * 6, none⟩ = some (.int .i64 0) ∧ w'.cell? ⟨g2, k * 6 + 1, none⟩ = some kvb ∧ w'.cell? ⟨g2, k * 6 + 2, none⟩ = some (.int .i64 x.value.kind) ∧ w'.cell? ⟨g2, k * 6 + 3, none⟩ = some (.string ⟨x.value.text.toArray⟩) ∧ w'.cell? ⟨g2, k * 6 + 4, none⟩ = some yb ∧ w'.cell? ⟨g2, k * 6 + 5, none⟩ = some zb)
          (first | assumption | (refine ⟨?_, ?_, ?_, ?_, ?_, ?_, ?_, ?_, ?_, ?_, ?_, ?_⟩ <;> assumption) | go_keep)
          (first
            | (go_at_call 11
               refine (keysAre_yes (w := wr.drew) HS1.out HS2.out).mono ?_
               rintro e w2 ⟨rfl, nk, hw2⟩
               have ya0 : w2.cell? ⟨g1, k * 6, none⟩ = some (.int .i64 0) := by rw [hw2]; exact a0
               have ya1 : w2.cell? ⟨g1, k * 6 + 1, none⟩ = some (kva) := by rw [hw2]; exact a1
               have ya2 : w2.cell? ⟨g1, k * 6 + 2, none⟩ = some (.int .i64 x.value.kind) := by rw [hw2]; exact a2
               have ya3 : w2.cell? ⟨g1, k * 6 + 3, none⟩ = some (.string ⟨x.value.text.toArray⟩) := by rw [hw2]; exact a3
               have ya4 : w2.cell? ⟨g1, k * 6 + 4, none⟩ = some (ya) := by rw [hw2]; exact a4
               have ya5 : w2.cell? ⟨g1, k * 6 + 5, none⟩ = some (za) := by rw [hw2]; exact a5
               have yb0 : w2.cell? ⟨g2, k * 6, none⟩ = some (.int .i64 0) := by rw [hw2]; exact b0
               have yb1 : w2.cell? ⟨g2, k * 6 + 1, none⟩ = some (kvb) := by rw [hw2]; exact b1
               have yb2 : w2.cell? ⟨g2, k * 6 + 2, none⟩ = some (.int .i64 x.value.kind) := by rw [hw2]; exact b2
               have yb3 : w2.cell? ⟨g2, k * 6 + 3, none⟩ = some (.string ⟨x.value.text.toArray⟩) := by rw [hw2]; exact b3
               have yb4 : w2.cell? ⟨g2, k * 6 + 4, none⟩ = some (yb) := by rw [hw2]; exact b4
               have yb5 : w2.cell? ⟨g2, k * 6 + 5, none⟩ = some (zb) := by rw [hw2]; exact b5
               have HBW2 : Hid (Below W.heap.size W w2) := by rw [hw2]; exact (HW.out.trans (Fr.drewN wr 1).1).trans (Fr.drewN wr.drew nk).1
               clear hw2)
            | (go_at_call 33
               refine (HC.out _ HBW2.out).mono ?_
               rintro e w3 ⟨rfl, hb3⟩
               have za0 : w3.cell? ⟨g1, k * 6, none⟩ = some (.int .i64 0) := cell_below ya0 hb3
               have za1 : w3.cell? ⟨g1, k * 6 + 1, none⟩ = some (kva) := cell_below ya1 hb3
               have za2 : w3.cell? ⟨g1, k * 6 + 2, none⟩ = some (.int .i64 x.value.kind) := cell_below ya2 hb3
               have za3 : w3.cell? ⟨g1, k * 6 + 3, none⟩ = some (.string ⟨x.value.text.toArray⟩) := cell_below ya3 hb3
               have za4 : w3.cell? ⟨g1, k * 6 + 4, none⟩ = some (ya) := cell_below ya4 hb3
               have za5 : w3.cell? ⟨g1, k * 6 + 5, none⟩ = some (za) := cell_below ya5 hb3
               have zb0 : w3.cell? ⟨g2, k * 6, none⟩ = some (.int .i64 0) := cell_below yb0 hb3
               have zb1 : w3.cell? ⟨g2, k * 6 + 1, none⟩ = some (kvb) := cell_below yb1 hb3
               have zb2 : w3.cell? ⟨g2, k * 6 + 2, none⟩ = some (.int .i64 x.value.kind) := cell_below yb2 hb3
               have zb3 : w3.cell? ⟨g2, k * 6 + 3, none⟩ = some (.string ⟨x.value.text.toArray⟩) := cell_below yb3 hb3
               have zb4 : w3.cell? ⟨g2, k * 6 + 4, none⟩ = some (yb) := cell_below yb4 hb3
               have zb5 : w3.cell? ⟨g2, k * 6 + 5, none⟩ = some (zb) := cell_below yb5 hb3
               have HBW3 : Hid (Below W.heap.size W w3) := HBW2.out.trans (hb3.mono HBW2.out.size)
               clear hb3))
        all_goals
          go_wp2_with fail
          go_roundg g'
          case measure => omega
          case rel => exact ⟨k + 1, by go_num, by omega, HBW3.out⟩
      · have hk12 : (x.kind : Int) = 1 ∨ (x.kind : Int) = 2 := by have := hkinds x (List.mem_of_getElem? hx); omega
        clear hna hnb hka hkb hea heb hcl1 hcl2 hsp hx htl pa0 pa1 pa2 pb0 pb1 pb2 hkd hla hlb hkinds
        rcases hk12 with hk12 | hk12
        · rw [hk12] at a0 b0
          clear hk12
          have HKA : Hid (∀ n, Calls Try.prog 11 #[kva, kvb] (wr.drewN n) (PtrIs (.bool true) (wr.drewN n))) := fun n => keysAre_yes (HS1.out.below (Fr.drewN wr n).1) (HS2.out.below (Fr.drewN wr n).1)
          go_wp2_with fail
          go_quiet ((go_at_call 11; exact Calls.quiet_of ((HKA.out _).mono fun e w h => h)))
          go_wp2_with fail
          go_roundg g'
          case measure => omega
          case rel => exact ⟨k + 1, by go_num, by omega, HW.out.trans (Fr.drewN wr _).1⟩
        · rw [hk12] at a0 b0
          clear hk12
          have HKA : Hid (∀ n, Calls Try.prog 11 #[kva, kvb] (wr.drewN n) (PtrIs (.bool true) (wr.drewN n))) := fun n => keysAre_yes (HS1.out.below (Fr.drewN wr n).1) (HS2.out.below (Fr.drewN wr n).1)
          go_wp2_with fail
          go_quiet ((go_at_call 11; exact Calls.quiet_of ((HKA.out _).mono fun e w h => h)))
          go_wp2_with fail
          go_roundg g'
          case measure => omega
          case rel => exact ⟨k + 1, by go_num, by omega, HW.out.trans (Fr.drewN wr _).1⟩
end Go.Proofs.Ytnlkbbpmpgdmiaa
namespace Go.Proofs.Ytnlkbbpmpgdmiaa
open Go.RowKit
set_option linter.unusedVariables false
set_option linter.unusedSimpArgs false
theorem ArgNums.u32s {w : World} {v : Value} {z : List Nat} (h : ArgNums w v z) : U32s w w.heap.size v z.length := by
  obtain ⟨⟨A, c, rfl, h1, h2, h3⟩, hb⟩ := h
  simp only [List.length_map] at h1 h3
  refine ⟨A, c, by simp, h1, h2, fun h0 => ?_⟩
  obtain ⟨b, off, e, hlt, hc⟩ := h3 h0
  refine ⟨b, off, e, hlt, fun k hk => ?_⟩
  have hz : z[k]? = some z[k] := List.getElem?_eq_getElem hk
  refine ⟨z[k], ?_, hc k _ (by rw [List.getElem?_map, hz]; rfl)⟩
  have := hb z[k] (List.getElem_mem hk)
  omega
theorem ArgNums.form {w : World} {v : Value} {z : List Nat} (h : ArgNums w v z) : ∃ A c, v = .slice A z.length c ∧ z.length ≤ c := by
  obtain ⟨⟨A, c, rfl, h1, h2, h3⟩, hb⟩ := h
  exact ⟨A, c, by simp, by simpa using h1⟩
theorem ArgBytes.form {w : World} {v : Value} {z : List UInt8} (h : ArgBytes w v z) : ∃ A c, v = .slice A z.length c ∧ z.length ≤ c := by
  obtain ⟨A, c, rfl, h1, h2, h3⟩ := h
  exact ⟨A, c, by simp, by simpa using h1⟩
/-- the expressions of a document, in memory -/
def DocAt (es : List Ex) (w : World) (v : Value) : Prop := ∃ cs, Row (fun _ => True) w 45 6 v es.length cs ∧ ExsF (fun _ => True) w 43 es cs
def DocOk (es : List Ex) : Prop := es.length ≤ 12 ∧ ∀ x ∈ es, ExOk x
theorem DocAt.below {es : List Ex} {w w' : World} {v : Value} (h : DocAt es w v) (hb : Below w.heap.size w w') : DocAt es w' v := by
  obtain ⟨cs, h1, h2⟩ := h
  exact ⟨cs, h1.move fun g t c _ h => ⟨trivial, h.below hb h.lt⟩, h2.moveT fun g t c _ _ h => ⟨trivial, h.below hb h.lt⟩⟩
theorem DocAt.form {es : List Ex} {w : World} {v : Value} (h : DocAt es w v) : ∃ A c, v = .slice A es.length c := by
  obtain ⟨cs, h1, _⟩ := h
  obtain ⟨A, c, e, _⟩ := h1.slice
  exact ⟨A, c, e⟩
def DocMade (w : World) (e : Ending) (w' : World) : Prop := ∃ es A c, e = .returned (.slice A es.length c) ∧ DocAt es w' (.slice A es.length c) ∧ DocOk es ∧ Below w.heap.size w w'
theorem doc_made {w w0 : World} {v : Value} {z : List Nat} (h : ArgNums w0 v z) (hz : z.length ≤ 100) (hb : Below w0.heap.size w0 w) : Calls Try.prog 12 #[v] w (DocMade w) := by
  refine (doc_any ((h.u32s.keep hb).mono hb.size) hz).mono ?_
  rintro e w' ⟨es, v', cs, rfl, h1, h2, h3, h4, h5⟩
  obtain ⟨A, c, rfl, _⟩ := h1.slice
  exact ⟨es, A, c, rfl, ⟨cs, h1.move fun g t c _ h => ⟨trivial, h⟩, h2.moveT fun g t c _ _ h => ⟨trivial, h⟩⟩, ⟨h3, h4⟩, h5⟩
/-- a document written -/
def DocWritten (es : List Ex) (w : World) (e : Ending) (w' : World) : Prop := ∃ s A c, e = .returned (.slice A s.length c) ∧ MRow w' w.heap.size (.slice A s.length c) s ∧ DocTxt [] es s ∧ s.length ≤ 730000 ∧ Below w.heap.size w w'
theorem ArgBytes.keep {w w' : World} {v : Value} {z : List UInt8} (h : ArgBytes w v z) (hb : Below w.heap.size w w') : ArgBytes w' v z := ArgBytes.below h hb
theorem doc_written {w w0 : World} {v C : Value} {es : List Ex} {cd : List UInt8} (h : DocAt es w v) (ho : DocOk es) (hc : ArgBytes w0 C cd) (hcd : cd.length ≤ 1000) (hb : Below w0.heap.size w0 w) : Calls Try.prog 14 #[v, C] w (DocWritten es w) := by
  obtain ⟨cs, h1, h2⟩ := h
  refine (write_any h1 h2 (fun x hx => (ho.2 x hx).w) ho.1 (hc.keep hb) hcd).mono ?_
  rintro e w' ⟨s, v', rfl, h3, h4, h5, h6⟩
  have hw : ∀ l : List Ex, (∀ x ∈ l, ExOk x) → ewts l ≤ l.length * 60000 := by
    intro l
    induction l with
    | nil => intro _; simp [ewts]
    | cons x l ih =>
      intro h
      have h1 := ih (fun y hy => h y (by simp [hy]))
      have h2 := (h x (by simp)).w.2.1
      simp only [ewts, List.length_cons]
      omega
  have h7 := hw es ho.2
  have h8 := ho.1
  obtain ⟨g, cap, cur, fz, rfl, h9⟩ := h3
  exact ⟨s, _, _, rfl, ⟨g, cap, cur, fz, rfl, h9⟩, h4, by omega, h6⟩
/-- a document read -/
theorem doc_read {w : World} {v : Value} {es : List Ex} {z s : List UInt8} (h : RdIs w v s) (hz : LastTxt z) (hd : DocTxt z es s) (hl : es.length ≤ 1000) (hs : s.length ≤ 4000000) : Calls Try.prog 13 #[v] w fun e w' => ∃ A c cs, e = .returned (.tuple #[.slice A es.length c, .bool true]) ∧ Row (fun _ => True) w' 77 6 (.slice A es.length c) es.length cs ∧ ExsIs (fun _ => True) w' 74 es cs ∧ Below w.heap.size w w' := by
  refine (read_any h hz hd hl hs).mono ?_
  rintro e w' ⟨v', cs, rfl, h1, h2, h3⟩
  obtain ⟨A, c, rfl, _⟩ := h1.slice
  exact ⟨A, c, cs, rfl, h1.move fun g t c _ h => ⟨trivial, h⟩, h2.moveT fun g t c _ _ h => ⟨trivial, h⟩, h3⟩
theorem rows_below {w w' : World} {T E : TypeId} {v : Value} {es : List Ex} {cs : List Value} (h1 : Row (fun _ => True) w E 6 v es.length cs) (h2 : ExsIs (fun _ => True) w T es cs) (hb : Below w.heap.size w w') : Row (fun _ => True) w' E 6 v es.length cs ∧ ExsIs (fun _ => True) w' T es cs :=
  ⟨h1.move fun g t c _ h => ⟨trivial, h.below hb h.lt⟩, h2.moveT fun g t c _ _ h => ⟨trivial, h.below hb h.lt⟩⟩
/-- what was read is what was made -/
theorem doc_same {w : World} {va vb : Value} {es : List Ex} {ca : List Value} (h1 : Row (fun _ => True) w 77 6 va es.length ca) (h2 : ExsIs (fun _ => True) w 74 es ca) (h3 : DocAt es w vb) (ho : DocOk es) : Calls Try.prog 15 #[va, vb] w (TrueBel w) := by
  obtain ⟨cb, h4, h5⟩ := h3
  refine exprsAre_yes h1 h2 h4 h5.is fun x hx => ?_
  rcases (ho.2 x hx).2.1 with ⟨h, _⟩ | h | h <;> omega
theorem bel_mono {w w1 w2 : World} (h : Below w.heap.size w w1) (h2 : Below w1.heap.size w1 w2) : Below w.heap.size w w2 := h.trans (h2.mono h.size)
end Go.Proofs.Ytnlkbbpmpgdmiaa
