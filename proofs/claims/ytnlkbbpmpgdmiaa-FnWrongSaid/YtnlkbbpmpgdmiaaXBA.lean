/- FnWrong: the lines are refused; append onto bytes that were made of a string; FnWrong: the law's own walk. -/
import Derived.Test.YtnlkbbpmpgdmiaaXAZ
import Derived.Test.YtnlkbbpmpgdmiaaXAW
import Derived.Laws.CopyOwn
import Derived.Lib.AppendStr
namespace Go.Proofs.Ytnlkbbpmpgdmiaa
open Go.RowKit
set_option linter.unusedVariables false
set_option linter.unusedSimpArgs false
def wrongs : List (List UInt8) := [[97], [97, 32, 61], [61, 32, 49], [97, 32, 61, 32, 34, 120], [97, 32, 61, 32, 39, 120], [97, 32, 61, 32, 91, 49], [97, 32, 61, 32, 91, 49, 32, 50, 93], [97, 32, 61, 32, 123, 98, 32, 61, 32, 49], [97, 32, 61, 32, 123, 98, 32, 61, 32, 49, 44, 44, 32, 99, 32, 61, 32, 50, 125], [91, 97], [91, 97, 93, 93], [91, 91, 97, 93], [97, 46, 32, 61, 32, 49], [46, 97, 32, 61, 32, 49], [97, 46, 46, 98, 32, 61, 32, 49], [97, 32, 98, 32, 61, 32, 49], [97, 32, 61, 32, 49, 32, 50], [97, 32, 61, 32, 34, 92, 113, 34], [97, 32, 61, 32, 34, 92, 117, 49, 50, 34], [97, 32, 61, 32, 34, 92, 117, 68, 56, 48, 48, 34], [97, 32, 61, 32, 34, 1, 34], [97, 32, 61, 32, 39, 120, 127, 39], [91, 93], [91, 91, 93, 93], [97, 32, 61, 32, 116, 114, 117], [97, 32, 61, 32, 93], [35, 32, 1]]
theorem wrong_refused {t s : List UInt8} {es : List Ex} (ht : t ∈ wrongs) (hs : DocTxt [] es s) : Refused (t ++ 10 :: s) := by
 have hj := hs.junk
 have hj1 : Junk true (10 :: s) := .nl _ _ hj
 have h : t = [97] ∨ t = [97, 32, 61] ∨ t = [61, 32, 49] ∨ t = [97, 32, 61, 32, 34, 120] ∨ t = [97, 32, 61, 32, 39, 120] ∨ t = [97, 32, 61, 32, 91, 49] ∨ t = [97, 32, 61, 32, 91, 49, 32, 50, 93] ∨ t = [97, 32, 61, 32, 123, 98, 32, 61, 32, 49] ∨ t = [97, 32, 61, 32, 123, 98, 32, 61, 32, 49, 44, 44, 32, 99, 32, 61, 32, 50, 125] ∨ t = [91, 97] ∨ t = [91, 97, 93, 93] ∨ t = [91, 91, 97, 93] ∨ t = [97, 46, 32, 61, 32, 49] ∨ t = [46, 97, 32, 61, 32, 49] ∨ t = [97, 46, 46, 98, 32, 61, 32, 49] ∨ t = [97, 32, 98, 32, 61, 32, 49] ∨ t = [97, 32, 61, 32, 49, 32, 50] ∨ t = [97, 32, 61, 32, 34, 92, 113, 34] ∨ t = [97, 32, 61, 32, 34, 92, 117, 49, 50, 34] ∨ t = [97, 32, 61, 32, 34, 92, 117, 68, 56, 48, 48, 34] ∨ t = [97, 32, 61, 32, 34, 1, 34] ∨ t = [97, 32, 61, 32, 39, 120, 127, 39] ∨ t = [91, 93] ∨ t = [91, 91, 93, 93] ∨ t = [97, 32, 61, 32, 116, 114, 117] ∨ t = [97, 32, 61, 32, 93] ∨ t = [35, 32, 1] := by simpa [wrongs] using ht
 rcases h with rfl | rfl | rfl | rfl | rfl | rfl | rfl | rfl | rfl | rfl | rfl | rfl | rfl | rfl | rfl | rfl | rfl | rfl | rfl | rfl | rfl | rfl | rfl | rfl | rfl | rfl | rfl
 · exact wr_a _
 · exact wr_none _
 · exact wr_key _ 61 (.inr rfl)
 · exact wr_bas1 _
 · exact wr_lit1 _
 · exact wr_arr1 _ hj
 · exact wr_arr2 _
 · exact wr_tbl (10 :: s) hj1 (follow1 (by decide) (by decide))
 · exact wr_tbl (44 :: 44 :: _) (.comma _ (.comma2 _)) (follow1 (by decide) (by decide))
 · exact wr_open _
 · exact wr_close _
 · exact wr_open2 _
 · exact wr_key2 _ (32 :: 49 :: 10 :: s) 61 (by show skipWs (32 :: 61 :: 32 :: 49 :: 10 :: s) = _; rw [skipWs_yes (by decide)]; exact skipWs_no (by decide)) (by simp) (.inr rfl)
 · exact wr_key _ 46 (.inl rfl)
 · exact wr_key2 _ (98 :: 32 :: 61 :: 32 :: 49 :: 10 :: s) 46 (skipWs_no (by decide)) (by simp) (.inl rfl)
 · exact wr_ab _
 · exact wr_12 _
 · exact wr_q _
 · exact wr_u12 _
 · exact wr_uD8 _
 · exact wr_bas2 _
 · exact wr_lit2 _
 · exact wr_empty _
 · exact wr_empty2 _
 · exact wr_tru _
 · exact wr_93 _
 · exact wr_com _
theorem wrongs_len {t : List UInt8} (ht : t ∈ wrongs) : t.length ≤ 20 := by
 have h : ∀ t ∈ wrongs, t.length ≤ 20 := by decide
 exact h t ht
theorem world_any {P : World → Prop} {w : World} {o : Obj} (h : ∀ wl, Below w.heap.size w wl → P wl) : P (w.alloc o) := h _ ((Below.refl _ _).alloc (Nat.le_refl _) _)
end Go.Proofs.Ytnlkbbpmpgdmiaa
namespace Go.Proofs.Ytnlkbbpmpgdmiaa
open Go.RowKit
set_option linter.unusedVariables false
set_option linter.unusedSimpArgs false
theorem store_freeM (P : Program) (g o : Nat) (t : TypeId) (fz : Nat × Nat) : ∀ (vs : List Value) (i : Nat) (cur : Array Value) (w : World), w.heap[g]? = some (.cells cur t fz) → (∀ i, i < cur.size → ¬ (fz.1 ≤ i ∧ i < fz.2)) → o + i + vs.length ≤ cur.size → (∀ v ∈ vs, v.oneCell' = true) →
   (storeCells ⟨g, o, none⟩ vs i).run P w = .ok () (w.setRow g (cur.toList.take (o + i) ++ vs ++ cur.toList.drop (o + i + vs.length)).toArray)
 | [], i, cur, w, hg, _, _, _ => by
   simp only [storeCells, List.append_nil, List.length_nil, Nat.add_zero, List.take_append_drop, Array.toArray_toList]
   rw [setRow_self w g cur t fz hg]
   rfl
 | v :: rest, i, cur, w, hg, hfz, hl, h1 => by
   have hi : o + i < cur.size := by simp at hl; omega
   have hadd : (⟨g, o, none⟩ : Addr).add i = ⟨g, o + i, none⟩ := by unfold Addr.add; split <;> simp_all
   have hcell : w.cell? ⟨g, o + i, none⟩ = some cur[o + i] := by simp [World.cell?, hg, hi]
   have hfro : w.frozen? ⟨g, o + i, none⟩ = false := by
     have h := hfz (o + i) hi
     obtain ⟨lo, hi'⟩ := fz
     simp only [World.frozen?, hg, Bool.and_eq_false_iff, decide_eq_false_iff_not]
     simp only at h
     omega
   have hst : (store ((⟨g, o, none⟩ : Addr).add i) v).run P w = .ok () (w.setRow g (cur.setIfInBounds (o + i) v)) := by
     rw [hadd, run_store P w _ v _ (h1 v (by simp)), hcell]
     simp [hfro, setCell_eq_setRow w g (o + i) cur t fz v hg]
   have ih := store_freeM P g o t fz rest (i + 1) (cur.setIfInBounds (o + i) v) (w.setRow g (cur.setIfInBounds (o + i) v)) (setRow_heap w g cur _ t _ hg) (by simpa using hfz) (by simp at hl ⊢; omega) (fun x hx => h1 x (by simp [hx]))
   simp only [storeCells, Sem.run_bind, hst, Result.andThen_ok, ih, setRow_setRow]
   congr 3
   have e := list_seg_step cur.toList (o + i) v rest (by simp at hl ⊢; omega)
   simpa [Array.toList_setIfInBounds, Nat.add_assoc] using e
theorem news_of_rd {w : World} {v : Value} {s : List UInt8} (h : RdIs w v s) : ∃ a c, v = .slice (some a) s.length c ∧ ∀ j u, (s.map fun c => Value.int .u8 c.toNat)[j]? = some u → w.cell? (a.add j) = some u := by
 obtain ⟨blk, off, c, a, rfl, _, h⟩ := h
 refine ⟨a, c, rfl, fun j u hj => ?_⟩
 have hjl : j < s.length := by have := (List.getElem?_eq_some_iff.1 hj).1; simpa using this
 obtain ⟨rfl, hc⟩ := h (by omega)
 rw [Addr.add_lit, hc j hjl]
 simp [hjl] at hj
 rw [← hj]
 simp [List.getD, hjl]
theorem grown_row {w : World} {B : Nat} {l : List Value} {cap n : Nat} {s : List UInt8} (hB : B ≤ w.heap.size) (hl : l = s.map fun c => Value.int .u8 c.toNat) (hn : n = s.length) (hge : n ≤ cap) (hcm : cap ≤ maxLen) {cs : Array Value} (hcs : cs.size = cap) (ht : cs.toList.take n = l) :
   MRow (w.drew.alloc (.cells cs 5)) B (.slice (some ⟨w.heap.size, 0, none⟩) n cap) s ∧ Below B w (w.drew.alloc (.cells cs 5)) := by
 subst hn hl
 refine ⟨⟨w.heap.size, cap, cs, (0, 0), rfl, hB, heap_alloc_new w.drew _, fun i _ h => by omega, hge, hcm, hcs, ht⟩, ?_⟩
 exact (Fr.drewN w 1).1.trans ((Below.refl B w.drew).alloc (by show B ≤ w.heap.size; exact hB) _)
theorem append_m {w : World} {B : Nat} {v x : Value} {s1 s2 : List UInt8} (ty : TypeId) (h : MRow w B v s1) (hx : RdIs w x s2) (hB : B ≤ w.heap.size) (hl : s1.length + s2.length ≤ 1000000000) :
   ∃ A c w', (Builtin.append_ #[25, 25] ty #[v, x]).run Try.prog w = .ok (.slice (some A) (s1.length + s2.length) c) w' ∧ MRow w' B (.slice (some A) (s1.length + s2.length) c) (s1 ++ s2) ∧ Below B w w' ∧ (∀ k, v.ownBlock ≠ some k → k < w.heap.size → w'.heap[k]? = w.heap[k]?) := by
 obtain ⟨g, cap, cur, fz, rfl, hBg, hg, hfz, h1, h2, h3, h4⟩ := h
 obtain ⟨a, c, rfl, hnews⟩ := news_of_rd hx
 obtain ⟨i0, hi0, hz0, hz1, hz2⟩ := info_parts info5
 have hlen : (s1 ++ s2).map (fun c => Value.int .u8 c.toNat) = s1.map (fun c => Value.int .u8 c.toNat) ++ s2.map (fun c => Value.int .u8 c.toNat) := List.map_append
 have hone : ∀ u ∈ (s2.map fun c => Value.int .u8 c.toNat), u.oneCell' = true := by intro u hu; simp at hu; obtain ⟨_, _, rfl⟩ := hu; rfl
 by_cases hroom : s1.length + s2.length ≤ cap
 · have hf := run_firstCells_some (P := Try.prog) w i0.size s2.length a s2.length c (s2.map fun c => Value.int .u8 c.toNat) (by rw [hz1]; simp) hnews
   have hst := store_freeM Try.prog g s1.length 5 fz (s2.map fun c => Value.int .u8 c.toNat) 0 cur w hg hfz (by simp; omega) hone
   simp only [Nat.add_zero, List.length_map] at hst
   refine ⟨⟨g, 0, none⟩, cap, w.setRow g (cur.toList.take s1.length ++ (s2.map fun c => Value.int .u8 c.toNat) ++ cur.toList.drop (s1.length + s2.length)).toArray, ?_, ?_, ?_, ?_⟩
   · simp [Builtin.append_, run_underlying Try.underlying25, sizeOf, typeInfo, hi0, hz1, Builtin.lenOf, hroom, Addr.add_lit]
     rw [hz1] at hf
     simp [hf, hst]
   · refine ⟨g, cap, _, fz, by simp, hBg, setRow_heap w g cur _ 5 _ hg, ?_, by simpa using hroom, h2, ?_, ?_⟩
     · intro i hi
       refine hfz i ?_
       have : (cur.toList.take s1.length ++ (s2.map fun c => Value.int .u8 c.toNat) ++ cur.toList.drop (s1.length + s2.length)).toArray.size = cur.size := by
         simp; omega
       omega
     · simp; omega
     · rw [hlen, ← h4]
       simp only [List.length_append]
       have e : (List.take s1.length cur.toList ++ (s2.map fun c => Value.int .u8 c.toNat)).length = s1.length + s2.length := by simp; omega
       rw [← e]
       exact List.take_left
   · exact below_setRow (Below.refl _ _) hBg _
   · intro k hk hkl
     exact setRow_other w g k _ (fun e => hk (by simp [Value.ownBlock, e]))
 · have holds : ∀ j u, (s1.map fun c => Value.int .u8 c.toNat)[j]? = some u → w.cell? ((⟨g, 0, none⟩ : Addr).add j) = some u := by
     intro j u hj
     have hjl : j < s1.length := by have := (List.getElem?_eq_some_iff.1 hj).1; simpa using this
     rw [Addr.add_lit, Nat.zero_add]
     have hc : w.cell? ⟨g, j, none⟩ = cur[j]? := by simp [World.cell?, hg]
     rw [hc, ← Array.getElem?_toList, ← List.getElem?_take_of_lt hjl, h4, hj]
   have hr := run_append_grow (P := Try.prog) w 25 ty 5 i0 _ Try.underlying25 hi0 hz0 ⟨g, 0, none⟩ s1.length cap (s1.map fun c => Value.int .u8 c.toNat) (by rw [hz1]; simp) holds a s2.length c (s2.map fun c => Value.int .u8 c.toNat) (by rw [hz1]; simp) hnews (by omega) (by omega) (growslice_fits (by omega) (by rw [hz2]; omega))
   have hge := grownCap_ge w (s1.length + s2.length) cap 5
   have hle := grownCap_le_maxLen w (s1.length + s2.length) cap 5 (by simp only [maxLen]; omega)
   have hrow := grown_row (w := w) (B := B) (s := s1 ++ s2) (l := (s1 ++ s2).map fun c => Value.int .u8 c.toNat) (n := s1.length + s2.length) hB rfl (by simp) hge hle (cs := (s1.map fun c => Value.int .u8 c.toNat).toArray ++ (s2.map fun c => Value.int .u8 c.toNat).toArray ++ Builtin.zeroCells (Value.int .u8 0).cells (grownCap w (s1.length + s2.length) cap 5 - (s1.length + s2.length))) (by
     have hz : (Value.int IntKind.u8 0).cells.size = 1 := rfl
     simp only [Array.size_append, List.size_toArray, size_zeroCells, hz, List.length_map]
     omega) (by
     rw [hlen]
     simp only [Array.toList_append, List.append_assoc]
     rw [← List.append_assoc]
     have e : ((s1.map fun c => Value.int .u8 c.toNat) ++ (s2.map fun c => Value.int .u8 c.toNat)).length = s1.length + s2.length := by simp
     rw [← e]
     exact List.take_left)
   exact ⟨_, _, _, hr, hrow.1, hrow.2, fun k _ hkl => Below.heap_alloc w.drew _ k hkl⟩
theorem wpList_append_m {ops : Array Oper} {rest : List Oper} {o : Oper} {a : Act} {Q : Exit → Act → World → Prop} {w : World} (hgd : o.guard = none) (s x : Operand)
   (ho : o.op = .call { callee := .builtin .append, args := #[s, x], argTypes := #[25, 25] }) {B : Nat} {v xv : Value} {s1 s2 : List UInt8} (hs : a.eval s = v) (hx : a.eval x = xv) (hM : MRow w B v s1) (hX : RdIs w xv s2) (hB : B ≤ w.heap.size) (hl : s1.length + s2.length ≤ 1000000000)
   (h : ∀ A c w', MRow w' B (.slice (some A) (s1.length + s2.length) c) (s1 ++ s2) → Below B w w' → (∀ k, v.ownBlock ≠ some k → k < w.heap.size → w'.heap[k]? = w.heap[k]?) → wpList Try.prog ops Q rest (a.put o.dst (.slice (some A) (s1.length + s2.length) c)) w') : wpList Try.prog ops Q (o :: rest) a w := by
 refine wpList_plain hgd fun K hK => ?_
 obtain ⟨A, c, w', hr, h2, h3, h4⟩ := append_m o.type hM hX hB hl
 unfold Oper.wp execOp
 simp only [ho, resolve, invoke, builtin, Sem.run_bind, Sem.run_pure, Result.andThen_ok, List.map_toArray, List.map_cons, List.map_nil, hs, hx, hr]
 exact hK _ _ (h A c w' h2 h3 h4)
end Go.Proofs.Ytnlkbbpmpgdmiaa
namespace Go.Proofs.Ytnlkbbpmpgdmiaa
open Go.RowKit
set_option linter.unusedVariables false
set_option linter.unusedSimpArgs false
theorem MRow.below' {w w' : World} {B : Nat} {v : Value} {s : List UInt8} (h : MRow w B v s) (hb : Below w.heap.size w w') : MRow w' B v s := by
 obtain ⟨g, cap, cur, fz, h1, h2, h3, h4⟩ := h
 exact ⟨g, cap, cur, fz, h1, h2, (hb.block g (heap_lt h3)).trans h3, h4⟩
theorem MRow.lt' {w : World} {B : Nat} {v : Value} {s : List UInt8} (h : MRow w B v s) : ∃ g, v.ownBlock = some g ∧ B ≤ g ∧ g < w.heap.size := by
 obtain ⟨g, cap, cur, fz, rfl, h2, h3, h4⟩ := h
 exact ⟨g, rfl, h2, heap_lt h3⟩
set_option maxRecDepth 100000 in
set_option maxHeartbeats 8000000 in
theorem fnWrong_walk {w : World} {v0 v1 : Value} {a : Int} {z0 : List Nat} {z1 : List UInt8} (h0 : ArgNums w v0 z0) (h1 : ArgBytes w v1 z1) (ha0 : 0 ≤ a) (ha1 : a ≤ 255) : Calls Try.prog 8 #[v0, v1, .int .u8 a] w (TrueBel w) := by
 have H0 := Lib.hid h0
 have H1 := Lib.hid h1
 obtain ⟨A0, c0, rfl, hc0⟩ := h0.form
 obtain ⟨A1, c1, rfl, hc1⟩ := h1.form
 obtain ⟨n0, hn0⟩ : ∃ n0, z0.length = n0 := ⟨_, rfl⟩
 obtain ⟨n1, hn1⟩ : ∃ n1, z1.length = n1 := ⟨_, rfl⟩
 obtain ⟨n, rfl⟩ : ∃ n : Nat, a = n := ⟨a.toNat, by omega⟩
 rw [hn0] at H0 hc0 ⊢
 rw [hn1] at H1 hc1 ⊢
 have HN0 := Lib.hid hn0
 have HN1 := Lib.hid hn1
 clear h0 h1 hn0 hn1
 have hcase : 100 < n0 ∨ (n0 ≤ 100 ∧ 1000 < n1) ∨ (n0 ≤ 100 ∧ n1 ≤ 1000) := by omega
 rcases hcase with ha | ⟨ha, hb⟩ | ⟨ha, hb⟩
 · go_enter Try.func8, Try.ntmps8
   go_wp2_with fail
   all_goals
     go_ret
     exact ⟨rfl, Below.refl _ _⟩
 · go_enter Try.func8, Try.ntmps8
   go_wp2_with fail
   all_goals
     go_ret
     exact ⟨rfl, Below.refl _ _⟩
 · obtain ⟨i, hi⟩ : ∃ i, n % 27 = i := ⟨_, rfl⟩
   have hiN : i < 27 := by omega
   obtain ⟨t, ht⟩ : ∃ t, wrongs[i]? = some t := ⟨_, List.getElem?_eq_getElem (by simpa [wrongs] using hiN)⟩
   have HT := Lib.hid (List.mem_of_getElem? ht)
   have hget2 : ∀ h, (wrongs.map fun t => Value.string ⟨t.toArray⟩)[i]'h = .string ⟨t.toArray⟩ := fun h => by
     simp only [List.getElem_map]
     have h' : i < wrongs.length := by simpa using h
     rw [List.getElem?_eq_getElem h'] at ht
     injection ht with ht
     rw [ht]
   simp only [wrongs, List.map_cons, List.map_nil] at hget2
   clear ht
   go_enter Try.func8, Try.ntmps8
   go_upto_region 7 with (fail)
   clear hget2
   refine world_any (P := fun wl => Code.wp _ _ _ _ wl) (fun wl hbl => ?_)
   have HBL := Lib.hid hbl
   clear hbl
   have hcat : (⟨t.toArray⟩ : ByteArray) ++ ⟨#[10]⟩ = ⟨(t ++ [10]).toArray⟩ := by rw [show (⟨#[10]⟩ : ByteArray) = ⟨([10] : List UInt8).toArray⟩ from rfl, str2]
   have htl := wrongs_len HT.out
   have hT1l : (t ++ [10]).length ≤ 21 := by simp; omega
   have hsum1 : ¬ (9223372036854775807 < t.length + 1) := by omega
   have HRF : Hid (∀ es s, DocTxt [] es s → Refused ((t ++ [10]) ++ s)) := fun es s h => by rw [List.append_assoc]; exact wrong_refused HT.out h
   generalize t ++ [10] = T1 at *
   obtain ⟨vb, w2, hcv, hmr, hb2⟩ := conv_bytes wl T1 (by omega)
   obtain ⟨g5, cap5, cur5, fz5, rfl, hmr'⟩ := hmr
   have HMR : Hid (MRow w2 wl.heap.size (.slice (some ⟨g5, 0, none⟩) T1.length cap5) T1) := ⟨g5, cap5, cur5, fz5, rfl, hmr'⟩
   have HB2 := Lib.hid (bel_mono HBL.out hb2)
   have HS2 : Hid (wl.heap.size ≤ w2.heap.size) := hb2.size
   have HSL : Hid (w.heap.size ≤ wl.heap.size) := HBL.out.size
   clear hb2 hmr'
   go_wp2_with fail
   refine (doc_made H0.out (by rw [HN0.out]; exact ha) HB2.out).mono ?_
   rintro e w3 ⟨es, A, c, rfl, hdoc, hok, hb3⟩
   have HDOC := Lib.hid hdoc
   have HOK := Lib.hid hok
   have HB3 := Lib.hid (bel_mono HB2.out hb3)
   have HMR3 := Lib.hid (HMR.out.below' hb3)
   clear hdoc hok hb3 hcv hcat
   go_wp2_with fail
   refine (doc_written HDOC.out HOK.out H1.out (by rw [HN1.out]; exact hb) HB3.out).mono ?_
   rintro e w4 ⟨s, A4, c4, rfl, hmr4, htx, hsl, hb4⟩
   have HMRA := Lib.hid (HMR3.out.below' hb4)
   have HMRB := Lib.hid hmr4
   have HB4 := Lib.hid (bel_mono HB3.out hb4)
   have HRFS := Lib.hid (HRF.out _ _ htx)
   have hs24 : wl.heap.size ≤ w4.heap.size := by have h1 := hb4.size; have h2 := HB3.out.size; obtain ⟨g, h3, h4, h5⟩ := HMRA.out.lt'; omega
   clear hmr4 htx hb4 HMR HMR3
   go_wp2_with (first
     | (at_builtin; refine wpList_append_m rfl (.tmp 41) (.tmp 45) (by rfl) (by rfl) (by rfl) HMRA.out HMRB.out.rd hs24 (by omega) ?_
        intro A6 c6 w5 hm5 hb5 _hk5
        have HM5 := Lib.hid hm5
        have HB5 := Lib.hid (HB4.out.trans (hb5.mono HSL.out))
        clear hm5 hb5 _hk5))
   have HM6 : Hid (RdIs w5 (.slice (some A6) (T1.length + s.length) c6) (T1 ++ s)) := HM5.out.rd
   refine (read_bad HM6.out (by rw [List.length_append]; omega) HRFS.out).mono ?_
   rintro e w6 ⟨rfl, hb6⟩
   have HB6 := Lib.hid (bel_mono HB5.out hb6)
   clear hb6 HM6 HM5 HMRA HMRB HRFS
   go_wp2_with fail
   refine (doc_made H0.out (by rw [HN0.out]; exact ha) HB6.out).mono ?_
   rintro e w7 ⟨es2, A7, c7, rfl, hdoc, hok, hb7⟩
   have HDOC2 := Lib.hid hdoc
   have HOK2 := Lib.hid hok
   have HB7 := Lib.hid (bel_mono HB6.out hb7)
   clear hdoc hok hb7
   go_wp2_with fail
   refine (doc_written HDOC2.out HOK2.out H1.out (by rw [HN1.out]; exact hb) HB7.out).mono ?_
   rintro e w8 ⟨s2, A8, c8, rfl, hmr8, htx8, hsl8, hb8⟩
   have HM8 := Lib.hid hmr8.rd
   have HTX8 := Lib.hid htx8
   have HB8 := Lib.hid (bel_mono HB7.out hb8)
   have hel : es2.length ≤ 1000 := by have := HOK2.out.1; omega
   clear hmr8 htx8 hb8
   go_wp2_with fail
   refine (doc_read HM8.out (.inl rfl) HTX8.out hel (by omega)).mono ?_
   rintro e w9 ⟨A9, c9, cs9, rfl, -, -, hb9⟩
   have HB9 := Lib.hid (bel_mono HB8.out hb9)
   clear hb9
   go_wp2_with fail
   go_ret
   exact ⟨rfl, HB9.out⟩
end Go.Proofs.Ytnlkbbpmpgdmiaa
