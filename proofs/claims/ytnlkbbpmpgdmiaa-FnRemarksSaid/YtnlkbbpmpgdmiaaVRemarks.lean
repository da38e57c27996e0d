/- For every input the law FnRemarks returns true and leaves its arguments as they were. No condition. -/
import Derived.Test.YtnlkbbpmpgdmiaaVAW
import Derived.Laws.CopyOwn
import Derived.Lib.AppendStr
import Derived.Test.YtnlkbbpmpgdmiaaVAX
import Derived.Test.YtnlkbbpmpgdmiaaVAC
import Derived.ChangeOld
namespace Go.Proofs.Ytnlkbbpmpgdmiaa
open Go.RowKit
set_option linter.unusedVariables false
set_option linter.unusedSimpArgs false
/-- cells are stored where none is frozen -/
theorem store_freeM (P : Program) (g o : Nat) (t : TypeId) (fz : Nat × Nat) : ∀ (vs : List Value) (i : Nat) (cur : Array Value) (w : World), w.heap[g]? = some (.cells cur t fz) → (∀ i, i < cur.size → ¬ (fz.1 ≤ i ∧ i < fz.2)) → o + i + vs.length ≤ cur.size → (∀ v ∈ vs, v.oneCell' = true) →
    (storeCells ⟨g, o, none⟩ vs i).run P w = .ok () (w.setRow g (cur.toList.take (o + i) ++ vs ++ cur.toList.drop (o + i + vs.length)).toArray)
  | [], i, cur, w, hg, _, _, _ => by
    simp only [storeCells, List.append_nil, List.length_nil, Nat.add_zero, List.take_append_drop, Array.toArray_toList]
    rw [setRow_self w g cur t fz hg]
    rfl
  | v :: rest, i, cur, w, hg, hfz, hl, h1 => by
    have hi : o + i < cur.size := by simp at hl; omega
    have hadd : (⟨g, o, none⟩ : Addr).add i = ⟨g, o + i, none⟩ := by unfold Addr.add; split <;> simp_all
    have hcell : w.cell? ⟨g, o + i, none⟩ = some cur[o + i] := by simp [World.cell?, hg, hi]
    have hfro : w.frozen? ⟨g, o + i, none⟩ = false := by
      have h := hfz (o + i) hi
      obtain ⟨lo, hi'⟩ := fz
      simp only [World.frozen?, hg, Bool.and_eq_false_iff, decide_eq_false_iff_not]
      simp only at h
      omega
    have hst : (store ((⟨g, o, none⟩ : Addr).add i) v).run P w = .ok () (w.setRow g (cur.setIfInBounds (o + i) v)) := by
      rw [hadd, run_store P w _ v _ (h1 v (by simp)), hcell]
      simp [hfro, setCell_eq_setRow w g (o + i) cur t fz v hg]
    have ih := store_freeM P g o t fz rest (i + 1) (cur.setIfInBounds (o + i) v) (w.setRow g (cur.setIfInBounds (o + i) v)) (setRow_heap w g cur _ t _ hg) (by simpa using hfz) (by simp at hl ⊢; omega) (fun x hx => h1 x (by simp [hx]))
    simp only [storeCells, Sem.run_bind, hst, Result.andThen_ok, ih, setRow_setRow]
    congr 3
    have e := list_seg_step cur.toList (o + i) v rest (by simp at hl ⊢; omega)
    simpa [Array.toList_setIfInBounds, Nat.add_assoc] using e
theorem news_of_rd {w : World} {v : Value} {s : List UInt8} (h : RdIs w v s) : ∃ a c, v = .slice (some a) s.length c ∧ ∀ j u, (s.map fun c => Value.int .u8 c.toNat)[j]? = some u → w.cell? (a.add j) = some u := by
  obtain ⟨blk, off, c, a, rfl, _, h⟩ := h
  refine ⟨a, c, rfl, fun j u hj => ?_⟩
  have hjl : j < s.length := by have := (List.getElem?_eq_some_iff.1 hj).1; simpa using this
  obtain ⟨rfl, hc⟩ := h (by omega)
  rw [Addr.add_lit, hc j hjl]
  simp [hjl] at hj
  rw [← hj]
  simp [List.getD, hjl]
theorem grown_row {w : World} {B : Nat} {l : List Value} {cap n : Nat} {s : List UInt8} (hB : B ≤ w.heap.size) (hl : l = s.map fun c => Value.int .u8 c.toNat) (hn : n = s.length) (hge : n ≤ cap) (hcm : cap ≤ maxLen) {cs : Array Value} (hcs : cs.size = cap) (ht : cs.toList.take n = l) :
    MRow (w.drew.alloc (.cells cs 5)) B (.slice (some ⟨w.heap.size, 0, none⟩) n cap) s ∧ Below B w (w.drew.alloc (.cells cs 5)) := by
  subst hn hl
  refine ⟨⟨w.heap.size, cap, cs, (0, 0), rfl, hB, heap_alloc_new w.drew _, fun i _ h => by omega, hge, hcm, hcs, ht⟩, ?_⟩
  exact (Fr.drewN w 1).1.trans ((Below.refl B w.drew).alloc (by show B ≤ w.heap.size; exact hB) _)
/-- bytes appended to bytes: some row of the call's own that holds both -/
theorem append_m {w : World} {B : Nat} {v x : Value} {s1 s2 : List UInt8} (ty : TypeId) (h : MRow w B v s1) (hx : RdIs w x s2) (hB : B ≤ w.heap.size) (hl : s1.length + s2.length ≤ 1000000000) :
    ∃ A c w', (Builtin.append_ #[25, 25] ty #[v, x]).run Try.prog w = .ok (.slice (some A) (s1.length + s2.length) c) w' ∧ MRow w' B (.slice (some A) (s1.length + s2.length) c) (s1 ++ s2) ∧ Below B w w' ∧ (∀ k, v.ownBlock ≠ some k → k < w.heap.size → w'.heap[k]? = w.heap[k]?) := by
  obtain ⟨g, cap, cur, fz, rfl, hBg, hg, hfz, h1, h2, h3, h4⟩ := h
  obtain ⟨a, c, rfl, hnews⟩ := news_of_rd hx
  obtain ⟨i0, hi0, hz0, hz1, hz2⟩ := info_parts info5
  have hlen : (s1 ++ s2).map (fun c => Value.int .u8 c.toNat) = s1.map (fun c => Value.int .u8 c.toNat) ++ s2.map (fun c => Value.int .u8 c.toNat) := List.map_append
  have hone : ∀ u ∈ (s2.map fun c => Value.int .u8 c.toNat), u.oneCell' = true := by intro u hu; simp at hu; obtain ⟨_, _, rfl⟩ := hu; rfl
  by_cases hroom : s1.length + s2.length ≤ cap
  · have hf := run_firstCells_some (P := Try.prog) w i0.size s2.length a s2.length c (s2.map fun c => Value.int .u8 c.toNat) (by rw [hz1]; simp) hnews
    have hst := store_freeM Try.prog g s1.length 5 fz (s2.map fun c => Value.int .u8 c.toNat) 0 cur w hg hfz (by simp; omega) hone
    simp only [Nat.add_zero, List.length_map] at hst
    refine ⟨⟨g, 0, none⟩, cap, w.setRow g (cur.toList.take s1.length ++ (s2.map fun c => Value.int .u8 c.toNat) ++ cur.toList.drop (s1.length + s2.length)).toArray, ?_, ?_, ?_, ?_⟩
    · simp [Builtin.append_, run_underlying Try.underlying25, sizeOf, typeInfo, hi0, hz1, Builtin.lenOf, hroom, Addr.add_lit]
      rw [hz1] at hf
      simp [hf, hst]
    · refine ⟨g, cap, _, fz, by simp, hBg, setRow_heap w g cur _ 5 _ hg, ?_, by simpa using hroom, h2, ?_, ?_⟩
      · intro i hi
        refine hfz i ?_
        have : (cur.toList.take s1.length ++ (s2.map fun c => Value.int .u8 c.toNat) ++ cur.toList.drop (s1.length + s2.length)).toArray.size = cur.size := by
          simp; omega
        omega
      · simp; omega
      · rw [hlen, ← h4]
        simp only [List.length_append]
        have e : (List.take s1.length cur.toList ++ (s2.map fun c => Value.int .u8 c.toNat)).length = s1.length + s2.length := by simp; omega
        rw [← e]
        exact List.take_left
    · exact below_setRow (Below.refl _ _) hBg _
    · intro k hk hkl
      exact setRow_other w g k _ (fun e => hk (by simp [Value.ownBlock, e]))
  · have holds : ∀ j u, (s1.map fun c => Value.int .u8 c.toNat)[j]? = some u → w.cell? ((⟨g, 0, none⟩ : Addr).add j) = some u := by
      intro j u hj
      have hjl : j < s1.length := by have := (List.getElem?_eq_some_iff.1 hj).1; simpa using this
      rw [Addr.add_lit, Nat.zero_add]
      have hc : w.cell? ⟨g, j, none⟩ = cur[j]? := by simp [World.cell?, hg]
      rw [hc, ← Array.getElem?_toList, ← List.getElem?_take_of_lt hjl, h4, hj]
    have hr := run_append_grow (P := Try.prog) w 25 ty 5 i0 _ Try.underlying25 hi0 hz0 ⟨g, 0, none⟩ s1.length cap (s1.map fun c => Value.int .u8 c.toNat) (by rw [hz1]; simp) holds a s2.length c (s2.map fun c => Value.int .u8 c.toNat) (by rw [hz1]; simp) hnews (by omega) (by omega) (growslice_fits (by omega) (by rw [hz2]; omega))
    have hge := grownCap_ge w (s1.length + s2.length) cap 5
    have hle := grownCap_le_maxLen w (s1.length + s2.length) cap 5 (by simp only [maxLen]; omega)
    have hrow := grown_row (w := w) (B := B) (s := s1 ++ s2) (l := (s1 ++ s2).map fun c => Value.int .u8 c.toNat) (n := s1.length + s2.length) hB rfl (by simp) hge hle (cs := (s1.map fun c => Value.int .u8 c.toNat).toArray ++ (s2.map fun c => Value.int .u8 c.toNat).toArray ++ Builtin.zeroCells (Value.int .u8 0).cells (grownCap w (s1.length + s2.length) cap 5 - (s1.length + s2.length))) (by
      have hz : (Value.int IntKind.u8 0).cells.size = 1 := rfl
      simp only [Array.size_append, List.size_toArray, size_zeroCells, hz, List.length_map]
      omega) (by
      rw [hlen]
      simp only [Array.toList_append, List.append_assoc]
      rw [← List.append_assoc]
      have e : ((s1.map fun c => Value.int .u8 c.toNat) ++ (s2.map fun c => Value.int .u8 c.toNat)).length = s1.length + s2.length := by simp
      rw [← e]
      exact List.take_left)
    exact ⟨_, _, _, hr, hrow.1, hrow.2, fun k _ hkl => Below.heap_alloc w.drew _ k hkl⟩
/-- a text appended to bytes -/
theorem append_ms {w : World} {B : Nat} {v : Value} {s1 s2 : List UInt8} (ty : TypeId) (h : MRow w B v s1) (hB : B ≤ w.heap.size) (hl : s1.length + s2.length ≤ 1000000000) :
    ∃ A c w', (Builtin.append_ #[25, 9] ty #[v, .string ⟨s2.toArray⟩]).run Try.prog w = .ok (.slice (some A) (s1.length + s2.length) c) w' ∧ MRow w' B (.slice (some A) (s1.length + s2.length) c) (s1 ++ s2) ∧ Below B w w' ∧ (∀ k, v.ownBlock ≠ some k → k < w.heap.size → w'.heap[k]? = w.heap[k]?) := by
  obtain ⟨g, cap, cur, fz, rfl, hBg, hg, hfz, h1, h2, h3, h4⟩ := h
  obtain ⟨i0, hi0, hz0, hz1, hz2⟩ := info_parts info5
  have hlen : (s1 ++ s2).map (fun c => Value.int .u8 c.toNat) = s1.map (fun c => Value.int .u8 c.toNat) ++ s2.map (fun c => Value.int .u8 c.toNat) := List.map_append
  have hsc : Lib.strCells ⟨s2.toArray⟩ = s2.map fun c => Value.int .u8 c.toNat := by simp [Lib.strCells]
  have hss : (ByteArray.mk s2.toArray).size = s2.length := rfl
  have hone : ∀ u ∈ (s2.map fun c => Value.int .u8 c.toNat), u.oneCell' = true := by intro u hu; simp at hu; obtain ⟨_, _, rfl⟩ := hu; rfl
  by_cases hroom : s1.length + s2.length ≤ cap
  · have hf := Lib.run_firstCells_string (P := Try.prog) w 1 ⟨s2.toArray⟩
    rw [hss, hsc] at hf
    have hst := store_freeM Try.prog g s1.length 5 fz (s2.map fun c => Value.int .u8 c.toNat) 0 cur w hg hfz (by simp; omega) hone
    simp only [Nat.add_zero, List.length_map] at hst
    refine ⟨⟨g, 0, none⟩, cap, w.setRow g (cur.toList.take s1.length ++ (s2.map fun c => Value.int .u8 c.toNat) ++ cur.toList.drop (s1.length + s2.length)).toArray, ?_, ?_, ?_, ?_⟩
    · simp [Builtin.append_, run_underlying Try.underlying25, run_underlying Try.underlying9, sizeOf, typeInfo, hi0, hz1, Builtin.lenOf, hss, hroom, Addr.add_lit, hf, hst]
    · refine ⟨g, cap, _, fz, by simp, hBg, setRow_heap w g cur _ 5 _ hg, ?_, by simpa using hroom, h2, ?_, ?_⟩
      · intro i hi
        refine hfz i ?_
        have : (cur.toList.take s1.length ++ (s2.map fun c => Value.int .u8 c.toNat) ++ cur.toList.drop (s1.length + s2.length)).toArray.size = cur.size := by
          simp; omega
        omega
      · simp; omega
      · rw [hlen, ← h4]
        simp only [List.length_append]
        have e : (List.take s1.length cur.toList ++ (s2.map fun c => Value.int .u8 c.toNat)).length = s1.length + s2.length := by simp; omega
        rw [← e]
        exact List.take_left
    · exact below_setRow (Below.refl _ _) hBg _
    · intro k hk hkl
      exact setRow_other w g k _ (fun e => hk (by simp [Value.ownBlock, e]))
  · have holds : ∀ j u, (s1.map fun c => Value.int .u8 c.toNat)[j]? = some u → w.cell? ((⟨g, 0, none⟩ : Addr).add j) = some u := by
      intro j u hj
      have hjl : j < s1.length := by have := (List.getElem?_eq_some_iff.1 hj).1; simpa using this
      rw [Addr.add_lit, Nat.zero_add]
      have hc : w.cell? ⟨g, j, none⟩ = cur[j]? := by simp [World.cell?, hg]
      rw [hc, ← Array.getElem?_toList, ← List.getElem?_take_of_lt hjl, h4, hj]
    have hr := Lib.run_append_grow_string (P := Try.prog) w 25 9 ty 5 i0 _ Try.underlying25 Try.underlying9 hi0 hz0 ⟨g, 0, none⟩ s1.length cap (s1.map fun c => Value.int .u8 c.toNat) (by rw [hz1]; simp) holds ⟨s2.toArray⟩ (by rw [hss]; omega) (by rw [hss]; omega) (by rw [hss]; exact growslice_fits (by omega) (by rw [hz2]; omega))
    rw [hss, hsc] at hr
    have hge := grownCap_ge w (s1.length + s2.length) cap 5
    have hle := grownCap_le_maxLen w (s1.length + s2.length) cap 5 (by simp only [maxLen]; omega)
    have hrow := grown_row (w := w) (B := B) (s := s1 ++ s2) (l := (s1 ++ s2).map fun c => Value.int .u8 c.toNat) (n := s1.length + s2.length) hB rfl (by simp) hge hle (cs := (s1.map fun c => Value.int .u8 c.toNat).toArray ++ (s2.map fun c => Value.int .u8 c.toNat).toArray ++ Builtin.zeroCells (Value.int .u8 0).cells (grownCap w (s1.length + s2.length) cap 5 - (s1.length + s2.length))) (by
      have hz : (Value.int IntKind.u8 0).cells.size = 1 := rfl
      simp only [Array.size_append, List.size_toArray, size_zeroCells, hz, List.length_map]
      omega) (by
      rw [hlen]
      simp only [Array.toList_append, List.append_assoc]
      rw [← List.append_assoc]
      have e : ((s1.map fun c => Value.int .u8 c.toNat) ++ (s2.map fun c => Value.int .u8 c.toNat)).length = s1.length + s2.length := by simp
      rw [← e]
      exact List.take_left)
    exact ⟨_, _, _, hr, hrow.1, hrow.2, fun k _ hkl => Below.heap_alloc w.drew _ k hkl⟩
theorem wpList_append_m {ops : Array Oper} {rest : List Oper} {o : Oper} {a : Act} {Q : Exit → Act → World → Prop} {w : World} (hgd : o.guard = none) (s x : Operand)
    (ho : o.op = .call { callee := .builtin .append, args := #[s, x], argTypes := #[25, 25] }) {B : Nat} {v xv : Value} {s1 s2 : List UInt8} (hs : a.eval s = v) (hx : a.eval x = xv) (hM : MRow w B v s1) (hX : RdIs w xv s2) (hB : B ≤ w.heap.size) (hl : s1.length + s2.length ≤ 1000000000)
    (h : ∀ A c w', MRow w' B (.slice (some A) (s1.length + s2.length) c) (s1 ++ s2) → Below B w w' → (∀ k, v.ownBlock ≠ some k → k < w.heap.size → w'.heap[k]? = w.heap[k]?) → wpList Try.prog ops Q rest (a.put o.dst (.slice (some A) (s1.length + s2.length) c)) w') : wpList Try.prog ops Q (o :: rest) a w := by
  refine wpList_plain hgd fun K hK => ?_
  obtain ⟨A, c, w', hr, h2, h3, h4⟩ := append_m o.type hM hX hB hl
  unfold Oper.wp execOp
  simp only [ho, resolve, invoke, builtin, Sem.run_bind, Sem.run_pure, Result.andThen_ok, List.map_toArray, List.map_cons, List.map_nil, hs, hx, hr]
  exact hK _ _ (h A c w' h2 h3 h4)
theorem wpList_append_ms {ops : Array Oper} {rest : List Oper} {o : Oper} {a : Act} {Q : Exit → Act → World → Prop} {w : World} (hgd : o.guard = none) (s x : Operand)
    (ho : o.op = .call { callee := .builtin .append, args := #[s, x], argTypes := #[25, 9] }) {B : Nat} {v : Value} {s1 s2 : List UInt8} (hs : a.eval s = v) (hx : a.eval x = .string ⟨s2.toArray⟩) (hM : MRow w B v s1) (hB : B ≤ w.heap.size) (hl : s1.length + s2.length ≤ 1000000000)
    (h : ∀ A c w', MRow w' B (.slice (some A) (s1.length + s2.length) c) (s1 ++ s2) → Below B w w' → (∀ k, v.ownBlock ≠ some k → k < w.heap.size → w'.heap[k]? = w.heap[k]?) → wpList Try.prog ops Q rest (a.put o.dst (.slice (some A) (s1.length + s2.length) c)) w') : wpList Try.prog ops Q (o :: rest) a w := by
  refine wpList_plain hgd fun K hK => ?_
  obtain ⟨A, c, w', hr, h2, h3, h4⟩ := append_ms (s2 := s2) o.type hM hB hl
  unfold Oper.wp execOp
  simp only [ho, resolve, invoke, builtin, Sem.run_bind, Sem.run_pure, Result.andThen_ok, List.map_toArray, List.map_cons, List.map_nil, hs, hx, hr]
  exact hK _ _ (h A c w' h2 h3 h4)
end Go.Proofs.Ytnlkbbpmpgdmiaa
namespace Go.Proofs.Ytnlkbbpmpgdmiaa
open Go.RowKit
set_option linter.unusedVariables false
set_option linter.unusedSimpArgs false
/-- an operation that is wanted, whether guarded or not -/
theorem wpList_wanted {ops : Array Oper} {rest : List Oper} {o : Oper} {a : Act} {Q : Exit → Act → World → Prop} {w : World} (hw : Region.wanted o (yielded ops a.tmps) = true) (h : ∀ K : Act → World → Prop, (∀ a w, wpList Try.prog ops Q rest a w → K a w) → o.wp Try.prog a w K Q) : wpList Try.prog ops Q (o :: rest) a w :=
  wpList_step fun K hK => by simp only [hw, if_true]; exact h K hK
theorem NodeIs.one {P : Nat → Prop} {w : World} {T : TypeId} {v : N} {cs : List Value} (h : NodeIs P w T v cs) : ∀ u ∈ cs, u.oneCell' = true := by
  obtain ⟨iv, kv, cs', rfl, h2, h3, _⟩ := h.cells
  intro u hu
  simp only [List.mem_cons, List.not_mem_nil, or_false] at hu
  rcases hu with rfl | rfl | rfl | rfl
  · rfl
  · rfl
  · exact h3.one'
  · exact Row.one' h2
theorem ExsF.one {P : Nat → Prop} {w : World} {T : TypeId} : ∀ {l : List Ex} {cs : List Value}, ExsF P w T l cs → ∀ u ∈ cs, u.oneCell' = true
  | [], cs, h, u, hu => by
    have h0 : cs = [] := h
    subst h0
    cases hu
  | x :: xs, _, ⟨a, b, h1, ⟨kv, c4, h2, h3, h4⟩, h5⟩, u, hu => by
    subst h1
    rcases List.mem_append.1 hu with hu | hu
    · subst h2
      rcases List.mem_cons.1 hu with rfl | hu
      · rfl
      · rcases List.mem_cons.1 hu with rfl | hu
        · exact Row.one' h3
        · exact h4.one u hu
    · exact ExsF.one h5 u hu
/-- expressions appended to a row of the call's own -/
theorem append_exs {w : World} {B : Nat} {v x : Value} {n m : Nat} {xs news : List Value} (ty : TypeId) (hown : w.ownsRow B 45 6 v n xs) (hx : Row (fun _ => True) w 45 6 x m news) (h1 : ∀ u ∈ news, u.oneCell' = true) (hB : B ≤ w.heap.size) (hl : n + m ≤ 1000000) :
    ∃ v' w', (Builtin.append_ #[32, 32] ty #[v, x]).run Try.prog w = .ok v' w' ∧ w'.ownsRow B 45 6 v' (n + m) (xs ++ news) ∧ w.grownBy w' v.ownBlock := by
  obtain ⟨i0, hi0, hz0, hz1, hz2⟩ := info_parts info45
  obtain ⟨hxl, hx⟩ := hx
  rcases hx with ⟨rfl, rfl⟩ | ⟨g, cap, cur, rfl, _, hc, hn, hcm, hcs, ht⟩
  · have hn0 : news = [] := List.eq_nil_of_length_eq_zero (by simpa using hxl)
    subst hn0
    refine ⟨v, w, ?_, by simpa using hown, ⟨rfl, rfl, rfl, Nat.le_refl _, fun _ _ _ => rfl⟩⟩
    rcases hown.2 with ⟨rfl, rfl⟩ | ⟨g, cap, cur, rfl, _, _, hnc, _⟩
    · simp [Builtin.append_, run_underlying Try.underlying32, sizeOf, typeInfo, hi0, Builtin.lenOf, Builtin.firstCells]
    · simp [Builtin.append_, run_underlying Try.underlying32, sizeOf, typeInfo, hi0, Builtin.lenOf, Builtin.firstCells, hnc, storeCells]
  · have hnews : ∀ j u, news[j]? = some u → w.cell? ((⟨g, 0, none⟩ : Addr).add j) = some u := by
      intro j u hj
      have hjl : j < news.length := (List.getElem?_eq_some_iff.1 hj).1
      rw [Addr.add_lit, Nat.zero_add, hc.cell, ← Array.getElem?_toList, ← List.getElem?_take_of_lt (show j < m * 6 by omega), ht, hj]
    obtain ⟨v', w', h2, h3, h4, _⟩ := run_append_own (P := Try.prog) w B 32 ty 45 i0 _ 6 104 Try.underlying32 hi0 hz0 hz1 hz2 rfl (by decide) v n xs hown ⟨g, 0, none⟩ m cap news hxl hnews h1 (by simp only [maxLen]; omega) (by omega) hB
    exact ⟨v', w', h2, h3, h4⟩
theorem wpList_append_exs {ops : Array Oper} {rest : List Oper} {o : Oper} {a : Act} {Q : Exit → Act → World → Prop} {w : World} (hw : Region.wanted o (yielded ops a.tmps) = true) (s x : Operand)
    (ho : o.op = .call { callee := .builtin .append, args := #[s, x], argTypes := #[32, 32] }) {B : Nat} {v xv : Value} {n m : Nat} {xs news : List Value} (hs : a.eval s = v) (hx : a.eval x = xv) (hown : w.ownsRow B 45 6 v n xs) (hrow : Row (fun _ => True) w 45 6 xv m news) (h1 : ∀ u ∈ news, u.oneCell' = true) (hB : B ≤ w.heap.size) (hl : n + m ≤ 1000000)
    (h : ∀ v' w', w'.ownsRow B 45 6 v' (n + m) (xs ++ news) → w.grownBy w' v.ownBlock → wpList Try.prog ops Q rest (a.put o.dst v') w') : wpList Try.prog ops Q (o :: rest) a w := by
  refine wpList_wanted hw fun K hK => ?_
  obtain ⟨v', w', hr, h2, h3⟩ := append_exs o.type hown hrow h1 hB hl
  unfold Oper.wp execOp
  simp only [ho, resolve, invoke, builtin, Sem.run_bind, Sem.run_pure, Result.andThen_ok, List.map_toArray, List.map_cons, List.map_nil, hs, hx, hr]
  exact hK _ _ (h v' w' h2 h3)
theorem MRow.below {w w' : World} {B : Nat} {v : Value} {s : List UInt8} (h : MRow w B v s) (hb : Below w.heap.size w w') : MRow w' B v s := by
  obtain ⟨g, cap, cur, fz, h1, h2, h3, h4⟩ := h
  exact ⟨g, cap, cur, fz, h1, h2, (hb.block g (heap_lt h3)).trans h3, h4⟩
theorem MRow.lt {w : World} {B : Nat} {v : Value} {s : List UInt8} (h : MRow w B v s) : ∃ g, v.ownBlock = some g ∧ B ≤ g ∧ g < w.heap.size := by
  obtain ⟨g, cap, cur, fz, rfl, h2, h3, h4⟩ := h
  exact ⟨g, rfl, h2, heap_lt h3⟩
/-- a row of expressions that grows leaves the expressions' values as they were -/
theorem exsF_grown {P : Nat → Prop} {w w' : World} {B n : Nat} {v : Value} {xs : List Value} {es : List Ex} {cs : List Value} (hown : w.ownsRow B 45 6 v n xs) (hg : w.grownBy w' v.ownBlock) (h : ExsF P w 43 es cs) : ExsF (fun _ => True) w' 43 es cs := by
  refine h.moveT fun g t c ht _ hb => ⟨trivial, (hg.block g hb.lt ?_).trans hb⟩
  intro he
  rcases hown.2 with ⟨rfl, _⟩ | ⟨g', cap, cur, rfl, _, hc, _⟩
  · cases he
  · injection he with he
    subst he
    have hc' : Blk w g 45 cur := hc
    exact hc'.ne_ hb (by rcases ht with rfl | rfl <;> decide) rfl
end Go.Proofs.Ytnlkbbpmpgdmiaa
namespace Go.Proofs.Ytnlkbbpmpgdmiaa
open Go.RowKit
set_option linter.unusedVariables false
set_option linter.unusedSimpArgs false
/-- a letter or a blank of a number of eight bits -/
def remC (v : UInt8) : UInt8 := UInt8.ofNat (32 + v.toNat % 95)
theorem remC_toNat (v : UInt8) : (remC v).toNat = 32 + v.toNat % 95 := by unfold remC; simp; omega
theorem remC_plain (v : UInt8) : Plain (remC v) := by unfold Plain; rw [remC_toNat]; omega
theorem remC_enc (v : UInt8) : Utf8.encode (32 + (v.toNat : Int) % 95) = ⟨#[remC v]⟩ := by
  rw [show (32 + (v.toNat : Int) % 95) = ((32 + v.toNat % 95 : Nat) : Int) from by omega]
  have hn : 32 + v.toNat % 95 < 128 := by omega
  have hA : Alpha (32 + v.toNat % 95) := .inl hn
  rw [encode_enc hA]
  unfold encN
  rw [if_pos hn]
  rfl
/-- a document of one expression, written -/
theorem doc_written1 {w w0 : World} {v C : Value} {x : Ex} {cd : List UInt8} (h : DocAt [x] w v) (ho : ExOk x) (hc : ArgBytes w0 C cd) (hcd : cd.length ≤ 1000) (hb : Below w0.heap.size w0 w) : Calls Try.prog 14 #[v, C] w fun e w' => ∃ s A c, e = .returned (.slice A s.length c) ∧ MRow w' w.heap.size (.slice A s.length c) s ∧ DocTxt [] [x] s ∧ s.length ≤ 65000 ∧ Below w.heap.size w w' := by
  obtain ⟨cs, h1, h2⟩ := h
  have hw : ∀ y ∈ [x], ExW y := by intro y hy; rw [List.mem_singleton.1 hy]; exact ho.w
  refine (write_any h1 h2 hw (by simp) (hc.keep hb) hcd).mono ?_
  rintro e w' ⟨s, v', rfl, h3, h4, h5, h6⟩
  have h7 := ho.w.2.1
  simp only [ewts] at h5
  obtain ⟨g, cap, cur, fz, rfl, h9⟩ := h3
  exact ⟨s, _, _, rfl, ⟨g, cap, cur, fz, rfl, h9⟩, h4, by omega, h6⟩
/-- a remark's line -/
theorem rem_line {p : List UInt8} (hp : ∀ c ∈ p, Plain c) : DocTxt [] [] ((35 :: p) ++ [10]) := by
  rw [List.cons_append]
  exact .com [] p [10] hp (.inl ⟨[], rfl⟩) (.nl [] [] .nil)
def RmRel (es : List Ex) (T : List UInt8) (B : Nat) (wB : World) (g : Nat) (s11 s63 : Value) (wx : World) : Prop :=
  ∃ (dn rest : List Ex) (L : List UInt8) (A : Addr) (m c : Nat), es = dn ++ rest ∧ g = rest.length ∧ s63 = .int .i64 dn.length ∧ s11 = .slice (some A) m c ∧ MRow wx B (.slice (some A) m c) L ∧ DocTxt [] dn L ∧ L.length ≤ 1002 + dn.length * 67000 ∧ Below B wB wx
set_option maxRecDepth 100000 in
set_option maxHeartbeats 8000000 in
theorem fnRemarks_walk {w : World} {v0 v1 v2 : Value} {z0 : List Nat} {z1 z2 : List UInt8} (h0 : ArgNums w v0 z0) (h1 : ArgBytes w v1 z1) (h2 : ArgBytes w v2 z2) : Calls Try.prog 6 #[v0, v1, v2] w (TrueBel w) := by
  have H0 := Lib.hid h0
  have H1 := Lib.hid h1
  have H2 := Lib.hid h2
  obtain ⟨A0, c0, rfl, hc0⟩ := h0.form
  obtain ⟨A1, c1, rfl, hc1⟩ := h1.form
  obtain ⟨A2, c2, rfl, hc2⟩ := h2.form
  obtain ⟨n0, hn0⟩ : ∃ n0, z0.length = n0 := ⟨_, rfl⟩
  obtain ⟨n1, hn1⟩ : ∃ n1, z1.length = n1 := ⟨_, rfl⟩
  obtain ⟨n2, hn2⟩ : ∃ n2, z2.length = n2 := ⟨_, rfl⟩
  rw [hn0] at H0 hc0 ⊢
  rw [hn1] at H1 hc1 ⊢
  rw [hn2] at H2 hc2 ⊢
  have HN0 := Lib.hid hn0
  have HN1 := Lib.hid hn1
  have HN2 := Lib.hid hn2
  clear h0 h1 h2 hn0 hn1 hn2
  have hcase : 100 < n0 ∨ (n0 ≤ 100 ∧ 1000 < n1) ∨ (n0 ≤ 100 ∧ n1 ≤ 1000 ∧ 1000 < n2) ∨ (n0 ≤ 100 ∧ n1 ≤ 1000 ∧ n2 ≤ 1000) := by omega
  rcases hcase with ha | ⟨ha, hb⟩ | ⟨ha, hb, hc⟩ | ⟨ha, hb, hc⟩
  · go_enter Try.func6, Try.ntmps6
    go_wp2_with fail
    all_goals
      go_ret
      exact ⟨rfl, Below.refl _ _⟩
  · go_enter Try.func6, Try.ntmps6
    go_wp2_with fail
    all_goals
      go_ret
      exact ⟨rfl, Below.refl _ _⟩
  · go_enter Try.func6, Try.ntmps6
    go_wp2_with fail
    all_goals
      go_ret
      exact ⟨rfl, Below.refl _ _⟩
  · go_enter Try.func6, Try.ntmps6
    go_wp2_with fail
    go_loopg [7, 9, 44] n2 (fun gg s7 s9 s44 wx => ∃ k : Nat, s44 = .int .i64 k ∧ k + gg = n2 ∧ s7 = .string ⟨(35 :: (z2.take k).map remC).toArray⟩ ∧ wx = w)
    case atStart => exact ⟨0, rfl, by omega, rfl, rfl⟩
    case round =>
      obtain ⟨k, rfl, hk, rfl, rfl⟩ := hrel
      cases gk with
      | succ g' =>
        have hkM : k < n2 := by omega
        obtain ⟨A3, c3, he3, _, _, hz3⟩ := H2.out
        simp only [List.length_map] at he3 hz3
        injection he3 with e1 _ e2
        subst e1
        obtain ⟨b2, off2, rfl, hb2, hcell2⟩ := hz3 (by have := HN2.out; omega)
        have hkz : k < z2.length := by have := HN2.out; omega
        obtain ⟨zc, hzc⟩ : ∃ zc, z2[k]? = some zc := ⟨_, List.getElem?_eq_getElem hkz⟩
        have hc2' := hcell2 k (.int .u8 zc.toNat) (by simp [hzc])
        have HS9 : Hid ((⟨(35 :: (z2.take k).map remC).toArray⟩ : ByteArray) ++ ⟨#[remC zc]⟩ = ⟨(35 :: (z2.take (k + 1)).map remC).toArray⟩) := by
          show _ = _
          rw [List.take_add_one, hzc]
          apply ByteArray.ext
          simp [ByteArray.data_append]
        have he := remC_enc zc
        have hz0 : (0 : Int) ≤ (zc.toNat : Int) := by omega
        have hz255 : (zc.toNat : Int) ≤ 255 := by have := zc.toNat_lt; omega
        clear hcell2 hzc hkz hz3
        generalize remC zc = pc at *
        generalize (zc.toNat : Int) = x at *
        clear zc
        have hTl : (35 :: (z2.take k).map remC).length ≤ 1001 := by simp; omega
        generalize (35 :: (z2.take k).map remC) = T at *
        go_wp2_with fail
        go_roundg g'
        case measure => omega
        case rel => exact ⟨k + 1, by go_num, by omega, by rw [HS9.out], rfl⟩
      | zero =>
        have HTX : Hid ((35 :: (z2.take k).map remC) = 35 :: z2.map remC) := by
          show _ = _
          rw [List.take_of_length_le (by have := HN2.out; omega)]
        have hTl : (35 :: (z2.take k).map remC).length ≤ 1001 := by simp; omega
        have HPL : Hid (∀ c ∈ z2.map remC, Plain c) := by
          intro c hc
          obtain ⟨y, _, rfl⟩ := List.mem_map.1 hc
          exact remC_plain y
        generalize (35 :: (z2.take k).map remC) = T at *
        generalize z2.map remC = p at *
        go_wp2_with fail
        refine (doc_made H0.out (by rw [HN0.out]; exact ha) (Below.refl _ _)).mono ?_
        rintro e w1 ⟨es, A, c, rfl, hdoc, hok, hb1⟩
        have hel := hok.1
        obtain ⟨T1, hT1⟩ : ∃ T1, T ++ [10] = T1 := ⟨_, rfl⟩
        have hcat : (⟨T.toArray⟩ : ByteArray) ++ ⟨#[10]⟩ = ⟨T1.toArray⟩ := by rw [← hT1, show (⟨#[10]⟩ : ByteArray) = ⟨([10] : List UInt8).toArray⟩ from rfl, str2]
        have hT1l : T1.length = T.length + 1 := by rw [← hT1]; simp
        obtain ⟨vb, w2, hcv, hmr, hb2⟩ := conv_bytes w1 T1 (by omega)
        obtain ⟨g5, cap5, cur5, fz5, rfl, hmr'⟩ := hmr
        have HMR : Hid (MRow w2 w1.heap.size (.slice (some ⟨g5, 0, none⟩) T1.length cap5) T1) := ⟨g5, cap5, cur5, fz5, rfl, hmr'⟩
        have HDOC := Lib.hid hdoc
        have HOK := Lib.hid hok
        have HB1 := Lib.hid hb1
        have HB2 := Lib.hid hb2
        have HT1 := Lib.hid hT1
        have hT1m : T1.length ≤ 1002 := by omega
        have hsum1 : ¬ (9223372036854775807 < T.length + 1) := by omega
        clear hdoc hok hb1 hb2 hmr' hT1 hT1l
        obtain ⟨el, hEL⟩ : ∃ el, es.length = el := ⟨_, rfl⟩
        rw [hEL] at HDOC hel ⊢
        have HEL := Lib.hid hEL
        clear hEL
        go_wp2_with fail
        clear hcv hcat
        go_loopg [11, 63] el (fun g s11 s63 wx => Hid (RmRel es T w1.heap.size w1 g s11 s63 wx))
        case atStart =>
          refine ⟨[], es, T1, ⟨g5, 0, none⟩, _, cap5, rfl, HEL.out.symm, rfl, rfl, HMR.out, ?_, by simp; omega, HB2.out⟩
          rw [← HT1.out, HTX.out]
          exact rem_line HPL.out
        case round =>
          obtain ⟨dn, rest, L, A7, mm, c7, he, hgk, rfl, rfl, hm, hdt, hLl, hbw⟩ := hrel.out
          clear hrel
          have HM := Lib.hid hm
          have HDT := Lib.hid hdt
          have HBW := Lib.hid hbw
          have hsB := hbw.size
          cases rest with
          | nil =>
            have hdn : dn = es := by rw [he]; simp
            have hnl : ¬ ((dn.length : Int) < el) := by have := HEL.out; rw [← hdn] at this; omega
            have hdl : dn.length ≤ 12 := by have := HEL.out; rw [← hdn] at this; omega
            have hLm : L.length ≤ 900000 := by omega
            have HDN := Lib.hid hdn
            clear hm hdt hbw hdn he HMR HB2
            go_wp2_with (first
              | (at_builtin; refine wpList_append_ms rfl (.tmp 81) (.tmp 82) (by rfl) (by rfl) (by rfl) HM.out hsB (by omega) ?_
                 intro A8 c8 w3 hm8 hb8 _hk8
                 have HM8 := Lib.hid hm8
                 have HB8 := Lib.hid (HBW.out.trans hb8)
                 clear hm8 hb8 _hk8))
            have hdl2 : (L ++ T).length ≤ 4000000 := by simp; omega
            have hesl : es.length ≤ 1000 := by have := HEL.out; omega
            have HRD : Hid (RdIs w3 (.slice (some A8) (L.length + T.length) c8) (L ++ T)) := HM8.out.rd
            have HTL : Hid (LastTxt T) := .inr ⟨p, HPL.out, HTX.out⟩
            have HDD : Hid (DocTxt T es (L ++ T)) := by rw [← HDN.out]; exact HDT.out.last
            refine (doc_read HRD.out HTL.out HDD.out hesl hdl2).mono ?_
            rintro e w4 ⟨A9, c9, cs9, rfl, hr9, he9, hb9⟩
            have HBX : Hid (Below w1.heap.size w1 w4) := HB8.out.trans (hb9.mono HB8.out.size)
            have HDOC4 := Lib.hid (HDOC.out.below HBX.out)
            have HR9 := Lib.hid hr9
            have HE9 := Lib.hid he9
            have HB9 := Lib.hid (bel_mono HB1.out HBX.out)
            clear hr9 he9 hb9
            go_wp2_with fail
            refine (doc_same HR9.out HE9.out HDOC4.out HOK.out).mono ?_
            rintro e w5 ⟨rfl, hb5⟩
            have HB5 := Lib.hid (bel_mono HB9.out hb5)
            clear hb5
            go_wp2_with fail
            go_ret
            exact ⟨rfl, HB5.out⟩
          | cons x rest =>
            have hnl : dn.length < el := by have := HEL.out; rw [he] at this; simp at this; omega
            obtain ⟨cs, hrow0, hexs0⟩ := HDOC.out.below hbw
            rw [show es.length = el from HEL.out] at hrow0
            have hexs := hexs0
            rw [he] at hexs
            obtain ⟨xc, hx, hxc⟩ := exsF_at hexs
            have HX := Lib.hid hx
            obtain ⟨kv, c4, rfl, hsk, hnode⟩ := hx
            obtain ⟨xi, xk, xcs, rfl, hvk, hri, _⟩ := hnode.cells
            obtain ⟨ak, ck, rfl, _, _⟩ := Row.slice hsk
            obtain ⟨A6, m1, rfl, _, _⟩ := Row.slice hvk
            obtain ⟨A5, m2, rfl, _, _⟩ := Row.slice hri
            obtain ⟨lA, lc, he1, _, _⟩ := hrow0.slice
            injection he1 with he1 _ he2
            subst he1
            subst he2
            generalize x.keys.length = nk at *
            generalize x.value.keys.length = k1 at *
            generalize x.value.items.length = k2 at *
            obtain ⟨g, cap', e1, _, _, _, hgl, hcl⟩ := Row.cells hrow0 (by omega)
            injection e1 with e1 _ e2
            subst e1
            subst e2
            obtain ⟨j, hj⟩ : ∃ j, dn.length = j := ⟨_, rfl⟩
            rw [hj] at hnl hxc ⊢
            have q0 : wr.cell? ⟨g, j * 6, none⟩ = some (.int .i64 x.kind) := by rw [hcl (j * 6) (by omega)]; exact hxc 0 (by omega)
            have q1 : wr.cell? ⟨g, j * 6 + 1, none⟩ = some (.slice ak nk ck) := by rw [hcl (j * 6 + 1) (by omega)]; exact hxc 1 (by omega)
            have q2 : wr.cell? ⟨g, j * 6 + 2, none⟩ = some (.int .i64 x.value.kind) := by rw [hcl (j * 6 + 2) (by omega)]; exact hxc 2 (by omega)
            have q3 : wr.cell? ⟨g, j * 6 + 3, none⟩ = some (.string ⟨x.value.text.toArray⟩) := by rw [hcl (j * 6 + 3) (by omega)]; exact hxc 3 (by omega)
            have q4 : wr.cell? ⟨g, j * 6 + 4, none⟩ = some (.slice A5 k2 m2) := by rw [hcl (j * 6 + 4) (by omega)]; exact hxc 4 (by omega)
            have q5 : wr.cell? ⟨g, j * 6 + 5, none⟩ = some (.slice A6 k1 m1) := by rw [hcl (j * 6 + 5) (by omega)]; exact hxc 5 (by omega)
            have HXO : Hid (ExOk x) := HOK.out.2 x (by rw [he]; simp)
            have HE0 := Lib.hid he
            have HJ := Lib.hid hj
            have hnl' : (j : Int) < el := by omega
            have hj0 : (0 : Int) ≤ (j : Int) := by omega
            have hj12 : j ≤ 11 := by omega
            have hLm : L.length ≤ 900000 := by omega
            have HLL : Hid (L.length ≤ 1002 + j * 67000) := by rw [← hj]; exact hLl
            have HBS : Hid (Below wr.heap.size wr ((wr.alloc (.cells #[.int .i64 x.kind, .slice ak nk ck, .int .i64 x.value.kind, .string ⟨x.value.text.toArray⟩, .slice A5 k2 m2, .slice A6 k1 m1] 45)).alloc (.cells #[.int .i64 x.kind, .slice ak nk ck, .int .i64 x.value.kind, .string ⟨x.value.text.toArray⟩, .slice A5 k2 m2, .slice A6 k1 m1] 45))) := ((Below.refl _ wr).alloc (Nat.le_refl _) _).alloc (by simp) _
            have HD1 : Hid (DocAt [x] ((wr.alloc (.cells #[.int .i64 x.kind, .slice ak nk ck, .int .i64 x.value.kind, .string ⟨x.value.text.toArray⟩, .slice A5 k2 m2, .slice A6 k1 m1] 45)).alloc (.cells #[.int .i64 x.kind, .slice ak nk ck, .int .i64 x.value.kind, .string ⟨x.value.text.toArray⟩, .slice A5 k2 m2, .slice A6 k1 m1] 45)) (.slice (some ⟨wr.heap.size + 1, 0, none⟩) 1 1)) := by
              have hb := Blk.new (wr.alloc (.cells #[.int .i64 x.kind, .slice ak nk ck, .int .i64 x.value.kind, .string ⟨x.value.text.toArray⟩, .slice A5 k2 m2, .slice A6 k1 m1] 45)) 45 #[.int .i64 x.kind, .slice ak nk ck, .int .i64 x.value.kind, .string ⟨x.value.text.toArray⟩, .slice A5 k2 m2, .slice A6 k1 m1]
              rw [size_alloc'] at hb
              refine ⟨[.int .i64 x.kind, .slice ak nk ck, .int .i64 x.value.kind, .string ⟨x.value.text.toArray⟩, .slice A5 k2 m2, .slice A6 k1 m1], ⟨rfl, .inr ⟨wr.heap.size + 1, 1, _, rfl, trivial, hb, Nat.le_refl _, by simp [maxLen], rfl, rfl⟩⟩, ?_⟩
              exact ⟨[.int .i64 x.kind, .slice ak nk ck, .int .i64 x.value.kind, .string ⟨x.value.text.toArray⟩, .slice A5 k2 m2, .slice A6 k1 m1], [], by simp, HX.out.moveT fun g t c _ _ h => ⟨trivial, (h.alloc _).alloc _⟩, rfl⟩
            clear hm hdt hbw he hrow0 hexs0 hexs hsk hnode hvk hri hcl hxc hj HMR HB2 hLl
            go_wp2_with fail
            refine (doc_written1 HD1.out HXO.out H1.out (by rw [HN1.out]; exact hb) (bel_mono HB1.out (HBW.out.trans (HBS.out.mono hsB)))).mono ?_
            rintro e w3 ⟨s, A8, c8, rfl, hmr8, htx8, hsl8, hb8⟩
            have HBT : Hid (Below wr.heap.size wr w3) := bel_mono HBS.out hb8
            have hs3 : w1.heap.size ≤ w3.heap.size := by have := HBT.out.size; omega
            have HM3 := Lib.hid (HM.out.below HBT.out)
            have HMS := Lib.hid hmr8
            have HTX8 := Lib.hid htx8
            clear hmr8 htx8 hb8
            generalize hsn : s.length = sn at *
            have HSN := Lib.hid hsn
            clear hsn
            go_wp2_with (first
              | (at_builtin; refine wpList_append_m rfl (.tmp 67) (.tmp 71) (by rfl) (by rfl) (by rfl) HM3.out HMS.out.rd hs3 (by have := HSN.out; omega) ?_
                 intro A9 c9 w4 hm9 hb9 _hk9
                 have HM9 := Lib.hid hm9
                 have HB9 := Lib.hid hb9
                 have hs4 : w1.heap.size ≤ w4.heap.size := by have := hb9.size; omega
                 have hl9 : (L ++ s).length ≤ 1000000 := by have := HSN.out; simp; omega
                 generalize L.length + s.length = m9 at *
                 clear hm9 hb9 _hk9)
              | (at_builtin; refine wpList_append_ms rfl (.tmp 73) (.tmp 74) (by rfl) (by rfl) (by rfl) HM9.out hs4 (by omega) ?_
                 intro A10 c10 w5 hm10 hb10 _hk10
                 have HM10 := Lib.hid (hm10.below ((Below.refl _ w5).alloc (Nat.le_refl _) (.cells #[.int .u8 10] 5)))
                 have HB10 := Lib.hid hb10
                 have hs5 : w1.heap.size ≤ (w5.alloc (.cells #[.int .u8 10] 5)).heap.size := by have := hb10.size; simp; omega
                 have hl10 : (L ++ s ++ T).length ≤ 1100000 := by simp at hl9 ⊢; omega
                 have HRN : Hid (RdIs (w5.alloc (.cells #[.int .u8 10] 5)) (.slice (some ⟨w5.heap.size, 0, none⟩) 1 1) [10]) := ⟨w5.heap.size, 0, 1, ⟨w5.heap.size, 0, none⟩, rfl, Nat.le_refl _, fun _ => ⟨rfl, fun k hk => by
                   have hk0 : k = 0 := by simp at hk; omega
                   subst hk0
                   exact (Blk.new w5 5 #[.int .u8 10]).cell 0⟩⟩
                 generalize (L ++ s).length + T.length = m10 at *
                 clear hm10 hb10 _hk10)
              | (at_builtin; refine wpList_append_m rfl (.tmp 76) (.tmp 77) (by rfl) (by rfl) (by rfl) HM10.out HRN.out hs5 (by simp only [List.length_cons, List.length_nil]; omega) ?_
                 intro A11 c11 w6 hm11 hb11 _hk11
                 have HM11 := Lib.hid hm11
                 have HB11 := Lib.hid hb11
                 generalize (L ++ s ++ T).length + [(10 : UInt8)].length = m11 at *
                 clear hm11 hb11 _hk11))
            go_roundg rest.length
            case measure => (rw [hgk]; simp)
            case rel =>
              have hjj := HJ.out
              refine ⟨dn ++ [x], rest, L ++ s ++ T ++ [10], A11, _, c11, by rw [HE0.out]; simp, rfl, by simp [hjj], rfl, HM11.out, ?_, ?_, ?_⟩
              · have h1 := (HDT.out.append HTX8.out).append (rem_line HPL.out)
                rw [← HTX.out] at h1
                simpa using h1
              · have h1 := HLL.out
                have h2 := HSN.out
                simp only [List.length_append, List.length_cons, List.length_nil, hjj]
                omega
              · have h1 : Below w1.heap.size w1 w3 := HBW.out.trans (HBT.out.mono hsB)
                have h2 := ((h1.trans HB9.out).trans HB10.out).alloc (by have := HB10.out.size; have := HB9.out.size; omega) (.cells #[.int .u8 10] 5)
                exact h2.trans HB11.out
end Go.Proofs.Ytnlkbbpmpgdmiaa
namespace Go.Proofs.Ytnlkbbpmpgdmiaa.fnRemarks
open Go.ChangeShapes Go.WideShapes Go.ChangeAt Go.RowKit
set_option linter.unusedVariables false
set_option linter.unusedSimpArgs false
theorem own : ownKnob Try.prog.godebug = none := by kernel_rfl
theorem laidOut : laidOutB Try.prog = true := by kernel_rfl
set_option maxRecDepth 100000 in
theorem lifted (os : Os) (started : os.Started) (H : Type) (enc : TypeId × Value → H) :
    ReturnsInHanded {} Try.checked os 6 .any (Rows.fnRemarksSpec.pre6 enc Try.prog Try.f6 Rows.fnRemarksRow.domain false) (Rows.fnRemarksSpec.post enc Try.prog Try.f6 false true false false) := by
  refine returnsInHanded_of_change (C := Try.checked) own started (by kernel_rfl) Try.func6
    (ChangeSpec.witness6 (enc := enc) (C := Try.checked) false ⟨#[], #[.slice none 0 0, .slice none 0 0, .slice none 0 0], []⟩ 8 (by kernel_rfl) (by kernel_rfl) (by kernel_rfl) (by kernel_rfl)) ?_
  intro W base args ds gs before hval0 hW hcnd _
  have hval : ∀ (j : Nat) t v, Try.f6.params[j]? = some t → args[j]? = some v → Value.okWide Try.prog W .any base t v := hval0
  have hW' := hW
  obtain ⟨p, q, hA0, hV, rfl, hfz, hnd⟩ := hW
  have hA : DataW.TrodAll enc Try.prog W 0 (fun _ => true) true Try.f6.params.toList args.toList ds p := hA0
  rw [Try.params6] at hA hval
  obtain ⟨v0, vs0, d0, ds0, p0, q0, hargs, rfl, rfl, h0, r0⟩ := trodAll_cons hA
  obtain ⟨v1, vs1, d1, ds1, p1, q1, rfl, rfl, rfl, h1, r1⟩ := trodAll_cons r0
  obtain ⟨v2, vs2, d2, ds2, p2, q2, rfl, rfl, rfl, h2, r2⟩ := trodAll_cons r1
  obtain ⟨rfl, rfl, rfl⟩ := trodAll_nil r2
  obtain rfl : args = #[v0, v1, v2] := by cases args; simp_all
  obtain ⟨rfl, rfl⟩ := trodVars_none hV
  obtain ⟨a0, len0, cap0, rfl⟩ := okWide_slice Try.underlying31 (hval 0 31 v0 rfl rfl)
  have k0 := h0
  have lt0 : ∀ x ∈ p0, x.block < W.heap.size := by obtain ⟨m, hm⟩ := k0; exact DataW.trod_lt m _ _ _ hm
  obtain ⟨z0, w0⟩ : ∃ z, ArgNums W (.slice a0 len0 cap0) z := by
    obtain ⟨fuel, hf⟩ := h0
    exact args_nums hf ⟨_, _, _, rfl⟩
  obtain ⟨a1, len1, cap1, rfl⟩ := okWide_slice Try.underlying25 (hval 1 25 v1 rfl rfl)
  have k1 := h1
  have lt1 : ∀ x ∈ p1, x.block < W.heap.size := by obtain ⟨m, hm⟩ := k1; exact DataW.trod_lt m _ _ _ hm
  obtain ⟨z1, w1⟩ : ∃ z, ArgBytes W (.slice a1 len1 cap1) z := by
    obtain ⟨fuel, hf⟩ := h1
    exact args_bytes hf ⟨_, _, _, rfl⟩
  obtain ⟨a2, len2, cap2, rfl⟩ := okWide_slice Try.underlying25 (hval 2 25 v2 rfl rfl)
  have k2 := h2
  have lt2 : ∀ x ∈ p2, x.block < W.heap.size := by obtain ⟨m, hm⟩ := k2; exact DataW.trod_lt m _ _ _ hm
  obtain ⟨z2, w2⟩ : ∃ z, ArgBytes W (.slice a2 len2 cap2) z := by
    obtain ⟨fuel, hf⟩ := h2
    exact args_bytes hf ⟨_, _, _, rfl⟩
  clear hA0 hval0
  refine (fnRemarks_walk w0 w1 w2).mono fun e W' ⟨he, bel⟩ => ?_
  subst he
  exact ⟨_, rfl, _, _, _, [], _, [], hW', trodAll_mk1 (shut_bool Try.underlying4 _), (trodAll_cons_mk (Below.trod laidOut (by kernel_rfl) (of_decide_eq_true (by kernel_rfl)) k0 bel lt0) (trodAll_cons_mk (Below.trod laidOut (by kernel_rfl) (of_decide_eq_true (by kernel_rfl)) k1 bel lt1) (trodAll_cons_mk (Below.trod laidOut (by kernel_rfl) (of_decide_eq_true (by kernel_rfl)) k2 bel lt2) trodAll_mk0))), rfl, bel.frame _, fun h => by cases h⟩
theorem over : Rows.fnRemarksRow.holds Try.pinned (OpenSpec.ofChange Rows.fnRemarksSpec) :=
  OpenClaim.holds_of_wide 6 Try.f6 rfl rfl rfl rfl rfl rfl rfl ⟨rfl, rfl, rfl, rfl, rfl⟩ rfl rfl rfl rfl rfl (by kernel_rfl) Try.func6 (by kernel_rfl)
    (of_decide_eq_true (by kernel_rfl)) (by unfold Func.isWrapper; first | (rw [if_pos (by decide +kernel)]; kernel_rfl) | (rw [if_neg (by decide +kernel)]; exact ⟨rfl, rfl⟩))
    (fun os started H enc _ => lifted os started H enc)
/-- the statement -/
theorem proved : Rows.FnRemarksSaid :=
  over
#print axioms proved
end Go.Proofs.Ytnlkbbpmpgdmiaa.fnRemarks
