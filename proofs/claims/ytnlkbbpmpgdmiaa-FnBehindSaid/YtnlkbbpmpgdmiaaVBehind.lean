/- For every input the law FnBehind returns true and leaves its arguments as they were. No condition. -/
import Derived.Test.YtnlkbbpmpgdmiaaVAW
import Derived.Laws.CopyOwn
import Derived.Lib.AppendStr
import Derived.Test.YtnlkbbpmpgdmiaaVAX
import Derived.Test.YtnlkbbpmpgdmiaaVAC
import Derived.ChangeOld
namespace Go.Proofs.Ytnlkbbpmpgdmiaa
open Go.RowKit
set_option linter.unusedVariables false
set_option linter.unusedSimpArgs false
/-- cells are stored where none is frozen -/
theorem store_freeM (P : Program) (g o : Nat) (t : TypeId) (fz : Nat × Nat) : ∀ (vs : List Value) (i : Nat) (cur : Array Value) (w : World), w.heap[g]? = some (.cells cur t fz) → (∀ i, i < cur.size → ¬ (fz.1 ≤ i ∧ i < fz.2)) → o + i + vs.length ≤ cur.size → (∀ v ∈ vs, v.oneCell' = true) →
    (storeCells ⟨g, o, none⟩ vs i).run P w = .ok () (w.setRow g (cur.toList.take (o + i) ++ vs ++ cur.toList.drop (o + i + vs.length)).toArray)
  | [], i, cur, w, hg, _, _, _ => by
    simp only [storeCells, List.append_nil, List.length_nil, Nat.add_zero, List.take_append_drop, Array.toArray_toList]
    rw [setRow_self w g cur t fz hg]
    rfl
  | v :: rest, i, cur, w, hg, hfz, hl, h1 => by
    have hi : o + i < cur.size := by simp at hl; omega
    have hadd : (⟨g, o, none⟩ : Addr).add i = ⟨g, o + i, none⟩ := by unfold Addr.add; split <;> simp_all
    have hcell : w.cell? ⟨g, o + i, none⟩ = some cur[o + i] := by simp [World.cell?, hg, hi]
    have hfro : w.frozen? ⟨g, o + i, none⟩ = false := by
      have h := hfz (o + i) hi
      obtain ⟨lo, hi'⟩ := fz
      simp only [World.frozen?, hg, Bool.and_eq_false_iff, decide_eq_false_iff_not]
      simp only at h
      omega
    have hst : (store ((⟨g, o, none⟩ : Addr).add i) v).run P w = .ok () (w.setRow g (cur.setIfInBounds (o + i) v)) := by
      rw [hadd, run_store P w _ v _ (h1 v (by simp)), hcell]
      simp [hfro, setCell_eq_setRow w g (o + i) cur t fz v hg]
    have ih := store_freeM P g o t fz rest (i + 1) (cur.setIfInBounds (o + i) v) (w.setRow g (cur.setIfInBounds (o + i) v)) (setRow_heap w g cur _ t _ hg) (by simpa using hfz) (by simp at hl ⊢; omega) (fun x hx => h1 x (by simp [hx]))
    simp only [storeCells, Sem.run_bind, hst, Result.andThen_ok, ih, setRow_setRow]
    congr 3
    have e := list_seg_step cur.toList (o + i) v rest (by simp at hl ⊢; omega)
    simpa [Array.toList_setIfInBounds, Nat.add_assoc] using e
theorem news_of_rd {w : World} {v : Value} {s : List UInt8} (h : RdIs w v s) : ∃ a c, v = .slice (some a) s.length c ∧ ∀ j u, (s.map fun c => Value.int .u8 c.toNat)[j]? = some u → w.cell? (a.add j) = some u := by
  obtain ⟨blk, off, c, a, rfl, _, h⟩ := h
  refine ⟨a, c, rfl, fun j u hj => ?_⟩
  have hjl : j < s.length := by have := (List.getElem?_eq_some_iff.1 hj).1; simpa using this
  obtain ⟨rfl, hc⟩ := h (by omega)
  rw [Addr.add_lit, hc j hjl]
  simp [hjl] at hj
  rw [← hj]
  simp [List.getD, hjl]
theorem grown_row {w : World} {B : Nat} {l : List Value} {cap n : Nat} {s : List UInt8} (hB : B ≤ w.heap.size) (hl : l = s.map fun c => Value.int .u8 c.toNat) (hn : n = s.length) (hge : n ≤ cap) (hcm : cap ≤ maxLen) {cs : Array Value} (hcs : cs.size = cap) (ht : cs.toList.take n = l) :
    MRow (w.drew.alloc (.cells cs 5)) B (.slice (some ⟨w.heap.size, 0, none⟩) n cap) s ∧ Below B w (w.drew.alloc (.cells cs 5)) := by
  subst hn hl
  refine ⟨⟨w.heap.size, cap, cs, (0, 0), rfl, hB, heap_alloc_new w.drew _, fun i _ h => by omega, hge, hcm, hcs, ht⟩, ?_⟩
  exact (Fr.drewN w 1).1.trans ((Below.refl B w.drew).alloc (by show B ≤ w.heap.size; exact hB) _)
/-- bytes appended to bytes: some row of the call's own that holds both -/
theorem append_m {w : World} {B : Nat} {v x : Value} {s1 s2 : List UInt8} (ty : TypeId) (h : MRow w B v s1) (hx : RdIs w x s2) (hB : B ≤ w.heap.size) (hl : s1.length + s2.length ≤ 1000000000) :
    ∃ A c w', (Builtin.append_ #[25, 25] ty #[v, x]).run Try.prog w = .ok (.slice (some A) (s1.length + s2.length) c) w' ∧ MRow w' B (.slice (some A) (s1.length + s2.length) c) (s1 ++ s2) ∧ Below B w w' ∧ (∀ k, v.ownBlock ≠ some k → k < w.heap.size → w'.heap[k]? = w.heap[k]?) := by
  obtain ⟨g, cap, cur, fz, rfl, hBg, hg, hfz, h1, h2, h3, h4⟩ := h
  obtain ⟨a, c, rfl, hnews⟩ := news_of_rd hx
  obtain ⟨i0, hi0, hz0, hz1, hz2⟩ := info_parts info5
  have hlen : (s1 ++ s2).map (fun c => Value.int .u8 c.toNat) = s1.map (fun c => Value.int .u8 c.toNat) ++ s2.map (fun c => Value.int .u8 c.toNat) := List.map_append
  have hone : ∀ u ∈ (s2.map fun c => Value.int .u8 c.toNat), u.oneCell' = true := by intro u hu; simp at hu; obtain ⟨_, _, rfl⟩ := hu; rfl
  by_cases hroom : s1.length + s2.length ≤ cap
  · have hf := run_firstCells_some (P := Try.prog) w i0.size s2.length a s2.length c (s2.map fun c => Value.int .u8 c.toNat) (by rw [hz1]; simp) hnews
    have hst := store_freeM Try.prog g s1.length 5 fz (s2.map fun c => Value.int .u8 c.toNat) 0 cur w hg hfz (by simp; omega) hone
    simp only [Nat.add_zero, List.length_map] at hst
    refine ⟨⟨g, 0, none⟩, cap, w.setRow g (cur.toList.take s1.length ++ (s2.map fun c => Value.int .u8 c.toNat) ++ cur.toList.drop (s1.length + s2.length)).toArray, ?_, ?_, ?_, ?_⟩
    · simp [Builtin.append_, run_underlying Try.underlying25, sizeOf, typeInfo, hi0, hz1, Builtin.lenOf, hroom, Addr.add_lit]
      rw [hz1] at hf
      simp [hf, hst]
    · refine ⟨g, cap, _, fz, by simp, hBg, setRow_heap w g cur _ 5 _ hg, ?_, by simpa using hroom, h2, ?_, ?_⟩
      · intro i hi
        refine hfz i ?_
        have : (cur.toList.take s1.length ++ (s2.map fun c => Value.int .u8 c.toNat) ++ cur.toList.drop (s1.length + s2.length)).toArray.size = cur.size := by
          simp; omega
        omega
      · simp; omega
      · rw [hlen, ← h4]
        simp only [List.length_append]
        have e : (List.take s1.length cur.toList ++ (s2.map fun c => Value.int .u8 c.toNat)).length = s1.length + s2.length := by simp; omega
        rw [← e]
        exact List.take_left
    · exact below_setRow (Below.refl _ _) hBg _
    · intro k hk hkl
      exact setRow_other w g k _ (fun e => hk (by simp [Value.ownBlock, e]))
  · have holds : ∀ j u, (s1.map fun c => Value.int .u8 c.toNat)[j]? = some u → w.cell? ((⟨g, 0, none⟩ : Addr).add j) = some u := by
      intro j u hj
      have hjl : j < s1.length := by have := (List.getElem?_eq_some_iff.1 hj).1; simpa using this
      rw [Addr.add_lit, Nat.zero_add]
      have hc : w.cell? ⟨g, j, none⟩ = cur[j]? := by simp [World.cell?, hg]
      rw [hc, ← Array.getElem?_toList, ← List.getElem?_take_of_lt hjl, h4, hj]
    have hr := run_append_grow (P := Try.prog) w 25 ty 5 i0 _ Try.underlying25 hi0 hz0 ⟨g, 0, none⟩ s1.length cap (s1.map fun c => Value.int .u8 c.toNat) (by rw [hz1]; simp) holds a s2.length c (s2.map fun c => Value.int .u8 c.toNat) (by rw [hz1]; simp) hnews (by omega) (by omega) (growslice_fits (by omega) (by rw [hz2]; omega))
    have hge := grownCap_ge w (s1.length + s2.length) cap 5
    have hle := grownCap_le_maxLen w (s1.length + s2.length) cap 5 (by simp only [maxLen]; omega)
    have hrow := grown_row (w := w) (B := B) (s := s1 ++ s2) (l := (s1 ++ s2).map fun c => Value.int .u8 c.toNat) (n := s1.length + s2.length) hB rfl (by simp) hge hle (cs := (s1.map fun c => Value.int .u8 c.toNat).toArray ++ (s2.map fun c => Value.int .u8 c.toNat).toArray ++ Builtin.zeroCells (Value.int .u8 0).cells (grownCap w (s1.length + s2.length) cap 5 - (s1.length + s2.length))) (by
      have hz : (Value.int IntKind.u8 0).cells.size = 1 := rfl
      simp only [Array.size_append, List.size_toArray, size_zeroCells, hz, List.length_map]
      omega) (by
      rw [hlen]
      simp only [Array.toList_append, List.append_assoc]
      rw [← List.append_assoc]
      have e : ((s1.map fun c => Value.int .u8 c.toNat) ++ (s2.map fun c => Value.int .u8 c.toNat)).length = s1.length + s2.length := by simp
      rw [← e]
      exact List.take_left)
    exact ⟨_, _, _, hr, hrow.1, hrow.2, fun k _ hkl => Below.heap_alloc w.drew _ k hkl⟩
/-- a text appended to bytes -/
theorem append_ms {w : World} {B : Nat} {v : Value} {s1 s2 : List UInt8} (ty : TypeId) (h : MRow w B v s1) (hB : B ≤ w.heap.size) (hl : s1.length + s2.length ≤ 1000000000) :
    ∃ A c w', (Builtin.append_ #[25, 9] ty #[v, .string ⟨s2.toArray⟩]).run Try.prog w = .ok (.slice (some A) (s1.length + s2.length) c) w' ∧ MRow w' B (.slice (some A) (s1.length + s2.length) c) (s1 ++ s2) ∧ Below B w w' ∧ (∀ k, v.ownBlock ≠ some k → k < w.heap.size → w'.heap[k]? = w.heap[k]?) := by
  obtain ⟨g, cap, cur, fz, rfl, hBg, hg, hfz, h1, h2, h3, h4⟩ := h
  obtain ⟨i0, hi0, hz0, hz1, hz2⟩ := info_parts info5
  have hlen : (s1 ++ s2).map (fun c => Value.int .u8 c.toNat) = s1.map (fun c => Value.int .u8 c.toNat) ++ s2.map (fun c => Value.int .u8 c.toNat) := List.map_append
  have hsc : Lib.strCells ⟨s2.toArray⟩ = s2.map fun c => Value.int .u8 c.toNat := by simp [Lib.strCells]
  have hss : (ByteArray.mk s2.toArray).size = s2.length := rfl
  have hone : ∀ u ∈ (s2.map fun c => Value.int .u8 c.toNat), u.oneCell' = true := by intro u hu; simp at hu; obtain ⟨_, _, rfl⟩ := hu; rfl
  by_cases hroom : s1.length + s2.length ≤ cap
  · have hf := Lib.run_firstCells_string (P := Try.prog) w 1 ⟨s2.toArray⟩
    rw [hss, hsc] at hf
    have hst := store_freeM Try.prog g s1.length 5 fz (s2.map fun c => Value.int .u8 c.toNat) 0 cur w hg hfz (by simp; omega) hone
    simp only [Nat.add_zero, List.length_map] at hst
    refine ⟨⟨g, 0, none⟩, cap, w.setRow g (cur.toList.take s1.length ++ (s2.map fun c => Value.int .u8 c.toNat) ++ cur.toList.drop (s1.length + s2.length)).toArray, ?_, ?_, ?_, ?_⟩
    · simp [Builtin.append_, run_underlying Try.underlying25, run_underlying Try.underlying9, sizeOf, typeInfo, hi0, hz1, Builtin.lenOf, hss, hroom, Addr.add_lit, hf, hst]
    · refine ⟨g, cap, _, fz, by simp, hBg, setRow_heap w g cur _ 5 _ hg, ?_, by simpa using hroom, h2, ?_, ?_⟩
      · intro i hi
        refine hfz i ?_
        have : (cur.toList.take s1.length ++ (s2.map fun c => Value.int .u8 c.toNat) ++ cur.toList.drop (s1.length + s2.length)).toArray.size = cur.size := by
          simp; omega
        omega
      · simp; omega
      · rw [hlen, ← h4]
        simp only [List.length_append]
        have e : (List.take s1.length cur.toList ++ (s2.map fun c => Value.int .u8 c.toNat)).length = s1.length + s2.length := by simp; omega
        rw [← e]
        exact List.take_left
    · exact below_setRow (Below.refl _ _) hBg _
    · intro k hk hkl
      exact setRow_other w g k _ (fun e => hk (by simp [Value.ownBlock, e]))
  · have holds : ∀ j u, (s1.map fun c => Value.int .u8 c.toNat)[j]? = some u → w.cell? ((⟨g, 0, none⟩ : Addr).add j) = some u := by
      intro j u hj
      have hjl : j < s1.length := by have := (List.getElem?_eq_some_iff.1 hj).1; simpa using this
      rw [Addr.add_lit, Nat.zero_add]
      have hc : w.cell? ⟨g, j, none⟩ = cur[j]? := by simp [World.cell?, hg]
      rw [hc, ← Array.getElem?_toList, ← List.getElem?_take_of_lt hjl, h4, hj]
    have hr := Lib.run_append_grow_string (P := Try.prog) w 25 9 ty 5 i0 _ Try.underlying25 Try.underlying9 hi0 hz0 ⟨g, 0, none⟩ s1.length cap (s1.map fun c => Value.int .u8 c.toNat) (by rw [hz1]; simp) holds ⟨s2.toArray⟩ (by rw [hss]; omega) (by rw [hss]; omega) (by rw [hss]; exact growslice_fits (by omega) (by rw [hz2]; omega))
    rw [hss, hsc] at hr
    have hge := grownCap_ge w (s1.length + s2.length) cap 5
    have hle := grownCap_le_maxLen w (s1.length + s2.length) cap 5 (by simp only [maxLen]; omega)
    have hrow := grown_row (w := w) (B := B) (s := s1 ++ s2) (l := (s1 ++ s2).map fun c => Value.int .u8 c.toNat) (n := s1.length + s2.length) hB rfl (by simp) hge hle (cs := (s1.map fun c => Value.int .u8 c.toNat).toArray ++ (s2.map fun c => Value.int .u8 c.toNat).toArray ++ Builtin.zeroCells (Value.int .u8 0).cells (grownCap w (s1.length + s2.length) cap 5 - (s1.length + s2.length))) (by
      have hz : (Value.int IntKind.u8 0).cells.size = 1 := rfl
      simp only [Array.size_append, List.size_toArray, size_zeroCells, hz, List.length_map]
      omega) (by
      rw [hlen]
      simp only [Array.toList_append, List.append_assoc]
      rw [← List.append_assoc]
      have e : ((s1.map fun c => Value.int .u8 c.toNat) ++ (s2.map fun c => Value.int .u8 c.toNat)).length = s1.length + s2.length := by simp
      rw [← e]
      exact List.take_left)
    exact ⟨_, _, _, hr, hrow.1, hrow.2, fun k _ hkl => Below.heap_alloc w.drew _ k hkl⟩
theorem wpList_append_m {ops : Array Oper} {rest : List Oper} {o : Oper} {a : Act} {Q : Exit → Act → World → Prop} {w : World} (hgd : o.guard = none) (s x : Operand)
    (ho : o.op = .call { callee := .builtin .append, args := #[s, x], argTypes := #[25, 25] }) {B : Nat} {v xv : Value} {s1 s2 : List UInt8} (hs : a.eval s = v) (hx : a.eval x = xv) (hM : MRow w B v s1) (hX : RdIs w xv s2) (hB : B ≤ w.heap.size) (hl : s1.length + s2.length ≤ 1000000000)
    (h : ∀ A c w', MRow w' B (.slice (some A) (s1.length + s2.length) c) (s1 ++ s2) → Below B w w' → (∀ k, v.ownBlock ≠ some k → k < w.heap.size → w'.heap[k]? = w.heap[k]?) → wpList Try.prog ops Q rest (a.put o.dst (.slice (some A) (s1.length + s2.length) c)) w') : wpList Try.prog ops Q (o :: rest) a w := by
  refine wpList_plain hgd fun K hK => ?_
  obtain ⟨A, c, w', hr, h2, h3, h4⟩ := append_m o.type hM hX hB hl
  unfold Oper.wp execOp
  simp only [ho, resolve, invoke, builtin, Sem.run_bind, Sem.run_pure, Result.andThen_ok, List.map_toArray, List.map_cons, List.map_nil, hs, hx, hr]
  exact hK _ _ (h A c w' h2 h3 h4)
theorem wpList_append_ms {ops : Array Oper} {rest : List Oper} {o : Oper} {a : Act} {Q : Exit → Act → World → Prop} {w : World} (hgd : o.guard = none) (s x : Operand)
    (ho : o.op = .call { callee := .builtin .append, args := #[s, x], argTypes := #[25, 9] }) {B : Nat} {v : Value} {s1 s2 : List UInt8} (hs : a.eval s = v) (hx : a.eval x = .string ⟨s2.toArray⟩) (hM : MRow w B v s1) (hB : B ≤ w.heap.size) (hl : s1.length + s2.length ≤ 1000000000)
    (h : ∀ A c w', MRow w' B (.slice (some A) (s1.length + s2.length) c) (s1 ++ s2) → Below B w w' → (∀ k, v.ownBlock ≠ some k → k < w.heap.size → w'.heap[k]? = w.heap[k]?) → wpList Try.prog ops Q rest (a.put o.dst (.slice (some A) (s1.length + s2.length) c)) w') : wpList Try.prog ops Q (o :: rest) a w := by
  refine wpList_plain hgd fun K hK => ?_
  obtain ⟨A, c, w', hr, h2, h3, h4⟩ := append_ms (s2 := s2) o.type hM hB hl
  unfold Oper.wp execOp
  simp only [ho, resolve, invoke, builtin, Sem.run_bind, Sem.run_pure, Result.andThen_ok, List.map_toArray, List.map_cons, List.map_nil, hs, hx, hr]
  exact hK _ _ (h A c w' h2 h3 h4)
end Go.Proofs.Ytnlkbbpmpgdmiaa
namespace Go.Proofs.Ytnlkbbpmpgdmiaa
open Go.RowKit
set_option linter.unusedVariables false
set_option linter.unusedSimpArgs false
/-- an operation that is wanted, whether guarded or not -/
theorem wpList_wanted {ops : Array Oper} {rest : List Oper} {o : Oper} {a : Act} {Q : Exit → Act → World → Prop} {w : World} (hw : Region.wanted o (yielded ops a.tmps) = true) (h : ∀ K : Act → World → Prop, (∀ a w, wpList Try.prog ops Q rest a w → K a w) → o.wp Try.prog a w K Q) : wpList Try.prog ops Q (o :: rest) a w :=
  wpList_step fun K hK => by simp only [hw, if_true]; exact h K hK
theorem NodeIs.one {P : Nat → Prop} {w : World} {T : TypeId} {v : N} {cs : List Value} (h : NodeIs P w T v cs) : ∀ u ∈ cs, u.oneCell' = true := by
  obtain ⟨iv, kv, cs', rfl, h2, h3, _⟩ := h.cells
  intro u hu
  simp only [List.mem_cons, List.not_mem_nil, or_false] at hu
  rcases hu with rfl | rfl | rfl | rfl
  · rfl
  · rfl
  · exact h3.one'
  · exact Row.one' h2
theorem ExsF.one {P : Nat → Prop} {w : World} {T : TypeId} : ∀ {l : List Ex} {cs : List Value}, ExsF P w T l cs → ∀ u ∈ cs, u.oneCell' = true
  | [], cs, h, u, hu => by
    have h0 : cs = [] := h
    subst h0
    cases hu
  | x :: xs, _, ⟨a, b, h1, ⟨kv, c4, h2, h3, h4⟩, h5⟩, u, hu => by
    subst h1
    rcases List.mem_append.1 hu with hu | hu
    · subst h2
      rcases List.mem_cons.1 hu with rfl | hu
      · rfl
      · rcases List.mem_cons.1 hu with rfl | hu
        · exact Row.one' h3
        · exact h4.one u hu
    · exact ExsF.one h5 u hu
/-- expressions appended to a row of the call's own -/
theorem append_exs {w : World} {B : Nat} {v x : Value} {n m : Nat} {xs news : List Value} (ty : TypeId) (hown : w.ownsRow B 45 6 v n xs) (hx : Row (fun _ => True) w 45 6 x m news) (h1 : ∀ u ∈ news, u.oneCell' = true) (hB : B ≤ w.heap.size) (hl : n + m ≤ 1000000) :
    ∃ v' w', (Builtin.append_ #[32, 32] ty #[v, x]).run Try.prog w = .ok v' w' ∧ w'.ownsRow B 45 6 v' (n + m) (xs ++ news) ∧ w.grownBy w' v.ownBlock := by
  obtain ⟨i0, hi0, hz0, hz1, hz2⟩ := info_parts info45
  obtain ⟨hxl, hx⟩ := hx
  rcases hx with ⟨rfl, rfl⟩ | ⟨g, cap, cur, rfl, _, hc, hn, hcm, hcs, ht⟩
  · have hn0 : news = [] := List.eq_nil_of_length_eq_zero (by simpa using hxl)
    subst hn0
    refine ⟨v, w, ?_, by simpa using hown, ⟨rfl, rfl, rfl, Nat.le_refl _, fun _ _ _ => rfl⟩⟩
    rcases hown.2 with ⟨rfl, rfl⟩ | ⟨g, cap, cur, rfl, _, _, hnc, _⟩
    · simp [Builtin.append_, run_underlying Try.underlying32, sizeOf, typeInfo, hi0, Builtin.lenOf, Builtin.firstCells]
    · simp [Builtin.append_, run_underlying Try.underlying32, sizeOf, typeInfo, hi0, Builtin.lenOf, Builtin.firstCells, hnc, storeCells]
  · have hnews : ∀ j u, news[j]? = some u → w.cell? ((⟨g, 0, none⟩ : Addr).add j) = some u := by
      intro j u hj
      have hjl : j < news.length := (List.getElem?_eq_some_iff.1 hj).1
      rw [Addr.add_lit, Nat.zero_add, hc.cell, ← Array.getElem?_toList, ← List.getElem?_take_of_lt (show j < m * 6 by omega), ht, hj]
    obtain ⟨v', w', h2, h3, h4, _⟩ := run_append_own (P := Try.prog) w B 32 ty 45 i0 _ 6 104 Try.underlying32 hi0 hz0 hz1 hz2 rfl (by decide) v n xs hown ⟨g, 0, none⟩ m cap news hxl hnews h1 (by simp only [maxLen]; omega) (by omega) hB
    exact ⟨v', w', h2, h3, h4⟩
theorem wpList_append_exs {ops : Array Oper} {rest : List Oper} {o : Oper} {a : Act} {Q : Exit → Act → World → Prop} {w : World} (hw : Region.wanted o (yielded ops a.tmps) = true) (s x : Operand)
    (ho : o.op = .call { callee := .builtin .append, args := #[s, x], argTypes := #[32, 32] }) {B : Nat} {v xv : Value} {n m : Nat} {xs news : List Value} (hs : a.eval s = v) (hx : a.eval x = xv) (hown : w.ownsRow B 45 6 v n xs) (hrow : Row (fun _ => True) w 45 6 xv m news) (h1 : ∀ u ∈ news, u.oneCell' = true) (hB : B ≤ w.heap.size) (hl : n + m ≤ 1000000)
    (h : ∀ v' w', w'.ownsRow B 45 6 v' (n + m) (xs ++ news) → w.grownBy w' v.ownBlock → wpList Try.prog ops Q rest (a.put o.dst v') w') : wpList Try.prog ops Q (o :: rest) a w := by
  refine wpList_wanted hw fun K hK => ?_
  obtain ⟨v', w', hr, h2, h3⟩ := append_exs o.type hown hrow h1 hB hl
  unfold Oper.wp execOp
  simp only [ho, resolve, invoke, builtin, Sem.run_bind, Sem.run_pure, Result.andThen_ok, List.map_toArray, List.map_cons, List.map_nil, hs, hx, hr]
  exact hK _ _ (h v' w' h2 h3)
theorem MRow.below {w w' : World} {B : Nat} {v : Value} {s : List UInt8} (h : MRow w B v s) (hb : Below w.heap.size w w') : MRow w' B v s := by
  obtain ⟨g, cap, cur, fz, h1, h2, h3, h4⟩ := h
  exact ⟨g, cap, cur, fz, h1, h2, (hb.block g (heap_lt h3)).trans h3, h4⟩
theorem MRow.lt {w : World} {B : Nat} {v : Value} {s : List UInt8} (h : MRow w B v s) : ∃ g, v.ownBlock = some g ∧ B ≤ g ∧ g < w.heap.size := by
  obtain ⟨g, cap, cur, fz, rfl, h2, h3, h4⟩ := h
  exact ⟨g, rfl, h2, heap_lt h3⟩
/-- a row of expressions that grows leaves the expressions' values as they were -/
theorem exsF_grown {P : Nat → Prop} {w w' : World} {B n : Nat} {v : Value} {xs : List Value} {es : List Ex} {cs : List Value} (hown : w.ownsRow B 45 6 v n xs) (hg : w.grownBy w' v.ownBlock) (h : ExsF P w 43 es cs) : ExsF (fun _ => True) w' 43 es cs := by
  refine h.moveT fun g t c ht _ hb => ⟨trivial, (hg.block g hb.lt ?_).trans hb⟩
  intro he
  rcases hown.2 with ⟨rfl, _⟩ | ⟨g', cap, cur, rfl, _, hc, _⟩
  · cases he
  · injection he with he
    subst he
    have hc' : Blk w g 45 cur := hc
    exact hc'.ne_ hb (by rcases ht with rfl | rfl <;> decide) rfl
end Go.Proofs.Ytnlkbbpmpgdmiaa
namespace Go.Proofs.Ytnlkbbpmpgdmiaa
open Go.RowKit
set_option linter.unusedVariables false
set_option linter.unusedSimpArgs false
set_option maxRecDepth 100000 in
set_option maxHeartbeats 4000000 in
theorem fnBehind_walk {w : World} {v0 v1 v2 v3 : Value} {z0 z1 : List Nat} {z2 z3 : List UInt8} (h0 : ArgNums w v0 z0) (h1 : ArgNums w v1 z1) (h2 : ArgBytes w v2 z2) (h3 : ArgBytes w v3 z3) : Calls Try.prog 4 #[v0, v1, v2, v3] w (TrueBel w) := by
  have H0 := Lib.hid h0
  have H1 := Lib.hid h1
  have H2 := Lib.hid h2
  have H3 := Lib.hid h3
  obtain ⟨A0, c0, rfl, hc0⟩ := h0.form
  obtain ⟨A1, c1, rfl, hc1⟩ := h1.form
  obtain ⟨A2, c2, rfl, hc2⟩ := h2.form
  obtain ⟨A3, c3, rfl, hc3⟩ := h3.form
  obtain ⟨n0, hn0⟩ : ∃ n0, z0.length = n0 := ⟨_, rfl⟩
  obtain ⟨n1, hn1⟩ : ∃ n1, z1.length = n1 := ⟨_, rfl⟩
  obtain ⟨n2, hn2⟩ : ∃ n2, z2.length = n2 := ⟨_, rfl⟩
  obtain ⟨n3, hn3⟩ : ∃ n3, z3.length = n3 := ⟨_, rfl⟩
  rw [hn0] at H0 hc0 ⊢
  rw [hn1] at H1 hc1 ⊢
  rw [hn2] at H2 hc2 ⊢
  rw [hn3] at H3 hc3 ⊢
  have HN0 := Lib.hid hn0
  have HN1 := Lib.hid hn1
  have HN2 := Lib.hid hn2
  have HN3 := Lib.hid hn3
  clear h0 h1 h2 h3 hn0 hn1 hn2 hn3
  have hcase : 100 < n0 ∨ (n0 ≤ 100 ∧ 100 < n1) ∨ (n0 ≤ 100 ∧ n1 ≤ 100 ∧ 1000 < n2) ∨ (n0 ≤ 100 ∧ n1 ≤ 100 ∧ n2 ≤ 1000 ∧ 1000 < n3) ∨ (n0 ≤ 100 ∧ n1 ≤ 100 ∧ n2 ≤ 1000 ∧ n3 ≤ 1000) := by omega
  rcases hcase with ha | ⟨ha, hb⟩ | ⟨ha, hb, hc⟩ | ⟨ha, hb, hc, hd⟩ | ⟨ha, hb, hc, hd⟩
  · go_enter Try.func4, Try.ntmps4
    go_wp2_with fail
    all_goals
      go_ret
      exact ⟨rfl, Below.refl _ _⟩
  · go_enter Try.func4, Try.ntmps4
    go_wp2_with fail
    all_goals
      go_ret
      exact ⟨rfl, Below.refl _ _⟩
  · go_enter Try.func4, Try.ntmps4
    go_wp2_with fail
    all_goals
      go_ret
      exact ⟨rfl, Below.refl _ _⟩
  · go_enter Try.func4, Try.ntmps4
    go_wp2_with fail
    all_goals
      go_ret
      exact ⟨rfl, Below.refl _ _⟩
  · go_enter Try.func4, Try.ntmps4
    go_wp2_with fail
    refine (doc_made H0.out (by rw [HN0.out]; exact ha) (Below.refl _ w)).mono ?_
    rintro e w1 ⟨es, A, c, rfl, hdoc, hok, hb1⟩
    have HDOC := Lib.hid hdoc
    have HOK := Lib.hid hok
    have HB1 := Lib.hid hb1
    have hel := hok.1
    clear hdoc hok hb1
    go_wp2_with fail
    refine (doc_made H1.out (by rw [HN1.out]; exact hb) HB1.out).mono ?_
    rintro e w2 ⟨fs, A', c', rfl, hdoc2, hok2, hb2⟩
    have HDOCX := Lib.hid (HDOC.out.below hb2)
    have HDOCY := Lib.hid hdoc2
    have HOK2 := Lib.hid hok2
    have HB2 := Lib.hid (bel_mono HB1.out hb2)
    have hfl := hok2.1
    clear hdoc2 hok2 hb2
    go_wp2_with fail
    refine (doc_written HDOCX.out HOK.out H2.out (by rw [HN2.out]; exact hc) HB2.out).mono ?_
    rintro e w3 ⟨s, A4, c4, rfl, hmr, htx, hsl, hb3⟩
    have HMR := Lib.hid hmr
    have HTX := Lib.hid htx
    have HBS := Lib.hid hb3
    have hs23 := hb3.size
    have HDOCY3 := Lib.hid (HDOCY.out.below hb3)
    have HB3 := Lib.hid (bel_mono HB2.out hb3)
    clear hmr htx hb3
    go_wp2_with fail
    refine (doc_written HDOCY3.out HOK2.out H3.out (by rw [HN3.out]; exact hd) HB3.out).mono ?_
    rintro e w4 ⟨t, A5, c5, rfl, hmr2, htx2, htl, hb4⟩
    have HMRA := Lib.hid (HMR.out.below hb4)
    have HMRB := Lib.hid hmr2
    have HTX2 := Lib.hid htx2
    have HB4 := Lib.hid (bel_mono HBS.out hb4)
    have hs24 : w2.heap.size ≤ w4.heap.size := by have := hb4.size; omega
    clear hmr2 htx2 hb4
    go_wp2_with (first
      | (at_builtin; refine wpList_append_m rfl (.tmp 56) (.tmp 59) (by rfl) (by rfl) (by rfl) HMRA.out HMRB.out.rd hs24 (by omega) ?_
         intro A6 c6 w5 hm5 hb5 _hk5
         have HM5 := Lib.hid hm5
         have HB5 := Lib.hid (HB4.out.trans hb5)
         clear hm5 hb5 _hk5))
    have hdl : (s ++ t).length ≤ 4000000 := by simp; omega
    have hesl : (es ++ fs).length ≤ 1000 := by simp; omega
    have HM6 : Hid (RdIs w5 (.slice (some A6) (s.length + t.length) c6) (s ++ t)) := HM5.out.rd
    refine (doc_read HM6.out (.inl rfl) (HTX.out.append HTX2.out) hesl hdl).mono ?_
    rintro e w6 ⟨A7, c7, cs7, rfl, hr7, he7, hb7⟩
    have HR7 := Lib.hid hr7
    have HE7 := Lib.hid he7
    have HB7 := Lib.hid (HB5.out.trans (hb7.mono HB5.out.size))
    clear hr7 he7 hb7
    obtain ⟨csx, hrx, hex⟩ := HDOCX.out.below HB7.out
    obtain ⟨csy, hry, hey⟩ := HDOCY.out.below HB7.out
    have HRX := Lib.hid hrx
    have HEX := Lib.hid hex
    have HRY := Lib.hid hry
    have HEY := Lib.hid hey
    have HBW := Lib.hid (HB2.out.trans (HB7.out.mono HB2.out.size))
    clear hrx hex hry hey
    have HO : Hid ((w6.alloc (.cells #[] 45)).ownsRow w6.heap.size 45 6 (.slice (some ⟨w6.heap.size, 0, none⟩) 0 0) 0 []) := ⟨rfl, .inr ⟨w6.heap.size, 0, #[], rfl, Nat.le_refl _, Blk.new w6 45 #[], Nat.le_refl _, by simp [maxLen], rfl, rfl⟩⟩
    have HBA : Hid (Below w6.heap.size w6 (w6.alloc (.cells #[] 45))) := (Below.refl _ w6).alloc (Nat.le_refl _) _
    have HRX1 : Hid (Row (fun _ => True) (w6.alloc (.cells #[] 45)) 45 6 (.slice A es.length c) es.length csx) := Row.move HRX.out fun g t c _ h => ⟨trivial, h.alloc _⟩
    have HEX1 : Hid (ExsF (fun _ => True) (w6.alloc (.cells #[] 45)) 43 es csx) := HEX.out.moveT fun g t c _ _ h => ⟨trivial, h.alloc _⟩
    have hel1 : es.length ≤ 12 := hel
    have HKX : Hid (∀ x ∈ es ++ fs, x.kind ≤ 2) := by
      intro x hx
      have h : ExOk x := by
        rcases List.mem_append.1 hx with hx | hx
        · exact HOK.out.2 x hx
        · exact HOK2.out.2 x hx
      rcases h.2.1 with ⟨h, _⟩ | h | h <;> omega
    have hefl : (es ++ fs).length = es.length + fs.length := by simp
    rw [hefl] at HR7 ⊢
    have HEFL := Lib.hid hefl
    clear hefl hesl hdl
    generalize hEL : es.length = el at *
    generalize hFL : fs.length = fl at *
    have HEL := Lib.hid hEL
    have HFL := Lib.hid hFL
    clear hEL hFL
    go_wp2_with (first
      | (at_builtin; refine wpList_append_exs (by rfl) (.tmp 67) (.tmp 68) (by rfl) (by rfl) (by rfl) HO.out HRX1.out HEX1.out.one (by simp) (by omega) ?_
         intro v8 w8 hown8 hgrow8
         have HBX8 : Hid (Below w6.heap.size w6 w8) := HBA.out.grown hgrow8 (by simp) (fun k hk => (own_lt HO.out hk).1)
         have HEX8 := Lib.hid (exsF_grown HO.out hgrow8 HEX1.out)
         have HEY8 : Hid (ExsF (fun _ => True) w8 43 fs csy) := exsF_grown HO.out hgrow8 (HEY.out.moveT (P' := fun _ => True) fun g t c _ _ h => ⟨trivial, h.alloc _⟩)
         have HRY8 : Hid (Row (fun _ => True) w8 45 6 (.slice A' fl c') fl csy) := Row.move HRY.out fun g t c _ h => ⟨trivial, h.below HBX8.out h.lt⟩
         have hs68 : w6.heap.size ≤ w8.heap.size := HBX8.out.size
         obtain ⟨a8, m8, c8, rfl⟩ := own_slice hown8
         rw [Nat.zero_add, List.nil_append] at hown8
         have HOWN8 := Lib.hid hown8
         clear hown8 hgrow8)
      | (at_builtin; refine wpList_append_exs (by rfl) (.tmp 69) (.tmp 70) (by rfl) (by rfl) (by rfl) HOWN8.out HRY8.out HEY8.out.one hs68 (by omega) ?_
         intro v9 w9 hown9 hgrow9
         have HBX9 : Hid (Below w6.heap.size w6 w9) := HBX8.out.grown hgrow9 hs68 (fun k hk => (own_lt HOWN8.out hk).1)
         have HEX9 := Lib.hid (exsF_grown HOWN8.out hgrow9 HEX8.out)
         have HEY9 := Lib.hid (exsF_grown HOWN8.out hgrow9 HEY8.out)
         have HRW9 : Hid (Row (fun _ => True) w9 45 6 v9 (el + fl) (csx ++ csy)) := Row.of_own hown9 fun _ _ _ => trivial
         clear hown9 hgrow9))
    have hrr : Row (fun _ => True) w9 77 6 (.slice A7 (el + fl) c7) (es ++ fs).length cs7 ∧ ExsIs (fun _ => True) w9 74 (es ++ fs) cs7 := by
      refine rows_below ?_ HE7.out HBX9.out
      rw [HEFL.out]
      exact HR7.out
    have hrn : Row (fun _ => True) w9 45 6 v9 (es ++ fs).length (csx ++ csy) := by
      rw [HEFL.out]
      exact HRW9.out
    have HRR := Lib.hid hrr
    have HRN := Lib.hid hrn
    clear hrr hrn
    refine (exprsAre_yes HRR.out.1 HRR.out.2 HRN.out (ExsF.append HEX9.out HEY9.out).is HKX.out).mono ?_
    rintro e w10 ⟨rfl, hb10⟩
    have HB10 : Hid (Below w.heap.size w w10) := by
      have h1 := bel_mono HBX9.out hb10
      exact bel_mono HBW.out h1
    clear hb10
    go_wp2_with fail
    go_ret
    exact ⟨rfl, HB10.out⟩
end Go.Proofs.Ytnlkbbpmpgdmiaa
namespace Go.Proofs.Ytnlkbbpmpgdmiaa.fnBehind
open Go.ChangeShapes Go.WideShapes Go.ChangeAt Go.RowKit
set_option linter.unusedVariables false
set_option linter.unusedSimpArgs false
theorem own : ownKnob Try.prog.godebug = none := by kernel_rfl
theorem laidOut : laidOutB Try.prog = true := by kernel_rfl
set_option maxRecDepth 100000 in
theorem lifted (os : Os) (started : os.Started) (H : Type) (enc : TypeId × Value → H) :
    ReturnsInHanded {} Try.checked os 4 .any (Rows.fnBehindSpec.pre6 enc Try.prog Try.f4 Rows.fnBehindRow.domain false) (Rows.fnBehindSpec.post enc Try.prog Try.f4 false true false false) := by
  refine returnsInHanded_of_change (C := Try.checked) own started (by kernel_rfl) Try.func4
    (ChangeSpec.witness6 (enc := enc) (C := Try.checked) false ⟨#[], #[.slice none 0 0, .slice none 0 0, .slice none 0 0, .slice none 0 0], []⟩ 8 (by kernel_rfl) (by kernel_rfl) (by kernel_rfl) (by kernel_rfl)) ?_
  intro W base args ds gs before hval0 hW hcnd _
  have hval : ∀ (j : Nat) t v, Try.f4.params[j]? = some t → args[j]? = some v → Value.okWide Try.prog W .any base t v := hval0
  have hW' := hW
  obtain ⟨p, q, hA0, hV, rfl, hfz, hnd⟩ := hW
  have hA : DataW.TrodAll enc Try.prog W 0 (fun _ => true) true Try.f4.params.toList args.toList ds p := hA0
  rw [Try.params4] at hA hval
  obtain ⟨v0, vs0, d0, ds0, p0, q0, hargs, rfl, rfl, h0, r0⟩ := trodAll_cons hA
  obtain ⟨v1, vs1, d1, ds1, p1, q1, rfl, rfl, rfl, h1, r1⟩ := trodAll_cons r0
  obtain ⟨v2, vs2, d2, ds2, p2, q2, rfl, rfl, rfl, h2, r2⟩ := trodAll_cons r1
  obtain ⟨v3, vs3, d3, ds3, p3, q3, rfl, rfl, rfl, h3, r3⟩ := trodAll_cons r2
  obtain ⟨rfl, rfl, rfl⟩ := trodAll_nil r3
  obtain rfl : args = #[v0, v1, v2, v3] := by cases args; simp_all
  obtain ⟨rfl, rfl⟩ := trodVars_none hV
  obtain ⟨a0, len0, cap0, rfl⟩ := okWide_slice Try.underlying31 (hval 0 31 v0 rfl rfl)
  have k0 := h0
  have lt0 : ∀ x ∈ p0, x.block < W.heap.size := by obtain ⟨m, hm⟩ := k0; exact DataW.trod_lt m _ _ _ hm
  obtain ⟨z0, w0⟩ : ∃ z, ArgNums W (.slice a0 len0 cap0) z := by
    obtain ⟨fuel, hf⟩ := h0
    exact args_nums hf ⟨_, _, _, rfl⟩
  obtain ⟨a1, len1, cap1, rfl⟩ := okWide_slice Try.underlying31 (hval 1 31 v1 rfl rfl)
  have k1 := h1
  have lt1 : ∀ x ∈ p1, x.block < W.heap.size := by obtain ⟨m, hm⟩ := k1; exact DataW.trod_lt m _ _ _ hm
  obtain ⟨z1, w1⟩ : ∃ z, ArgNums W (.slice a1 len1 cap1) z := by
    obtain ⟨fuel, hf⟩ := h1
    exact args_nums hf ⟨_, _, _, rfl⟩
  obtain ⟨a2, len2, cap2, rfl⟩ := okWide_slice Try.underlying25 (hval 2 25 v2 rfl rfl)
  have k2 := h2
  have lt2 : ∀ x ∈ p2, x.block < W.heap.size := by obtain ⟨m, hm⟩ := k2; exact DataW.trod_lt m _ _ _ hm
  obtain ⟨z2, w2⟩ : ∃ z, ArgBytes W (.slice a2 len2 cap2) z := by
    obtain ⟨fuel, hf⟩ := h2
    exact args_bytes hf ⟨_, _, _, rfl⟩
  obtain ⟨a3, len3, cap3, rfl⟩ := okWide_slice Try.underlying25 (hval 3 25 v3 rfl rfl)
  have k3 := h3
  have lt3 : ∀ x ∈ p3, x.block < W.heap.size := by obtain ⟨m, hm⟩ := k3; exact DataW.trod_lt m _ _ _ hm
  obtain ⟨z3, w3⟩ : ∃ z, ArgBytes W (.slice a3 len3 cap3) z := by
    obtain ⟨fuel, hf⟩ := h3
    exact args_bytes hf ⟨_, _, _, rfl⟩
  clear hA0 hval0
  refine (fnBehind_walk w0 w1 w2 w3).mono fun e W' ⟨he, bel⟩ => ?_
  subst he
  exact ⟨_, rfl, _, _, _, [], _, [], hW', trodAll_mk1 (shut_bool Try.underlying4 _), (trodAll_cons_mk (Below.trod laidOut (by kernel_rfl) (of_decide_eq_true (by kernel_rfl)) k0 bel lt0) (trodAll_cons_mk (Below.trod laidOut (by kernel_rfl) (of_decide_eq_true (by kernel_rfl)) k1 bel lt1) (trodAll_cons_mk (Below.trod laidOut (by kernel_rfl) (of_decide_eq_true (by kernel_rfl)) k2 bel lt2) (trodAll_cons_mk (Below.trod laidOut (by kernel_rfl) (of_decide_eq_true (by kernel_rfl)) k3 bel lt3) trodAll_mk0)))), rfl, bel.frame _, fun h => by cases h⟩
theorem over : Rows.fnBehindRow.holds Try.pinned (OpenSpec.ofChange Rows.fnBehindSpec) :=
  OpenClaim.holds_of_wide 4 Try.f4 rfl rfl rfl rfl rfl rfl rfl ⟨rfl, rfl, rfl, rfl, rfl⟩ rfl rfl rfl rfl rfl (by kernel_rfl) Try.func4 (by kernel_rfl)
    (of_decide_eq_true (by kernel_rfl)) (by unfold Func.isWrapper; first | (rw [if_pos (by decide +kernel)]; kernel_rfl) | (rw [if_neg (by decide +kernel)]; exact ⟨rfl, rfl⟩))
    (fun os started H enc _ => lifted os started H enc)
/-- the statement -/
theorem proved : Rows.FnBehindSaid :=
  over
#print axioms proved
end Go.Proofs.Ytnlkbbpmpgdmiaa.fnBehind
