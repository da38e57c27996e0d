/- FnComments: the law's own walk. -/
import Derived.Test.YtnlkbbpmpgdmiaaAD
namespace Go.Proofs.Ytnlkbbpmpgdmiaa
open Go.RowKit
set_option linter.unusedVariables false
set_option linter.unusedSimpArgs false

theorem Own8.app {B : Nat} {w : World} {v : Value} {l m : List UInt8} (h : w.ownsRow B 5 1 v (l.length + m.length) (l.map (fun c => Value.int .u8 c.toNat) ++ m.map fun c => Value.int .u8 c.toNat)) : Own8 B w v (l ++ m) := by
  unfold Own8
  rw [List.length_append, List.map_append]
  exact h

/-- between two remarks: what has been written, what has been listed -/
def FRel (B : Nat) (R : List (List UInt8)) (L : List Bool) (w0 : World) (k : Nat) (s5 s6 : Value) (wx : World) : Prop :=
  Own8 B wx s5 (docOf (lns R L k)) ∧ s5 ≠ .slice none 0 0 ∧ OutIs B wx s6 ((lns R L k).map remOf) ∧ Below B w0 wx

def Yes (B : Nat) (w : World) (e : Ending) (w' : World) : Prop := e = .returned (.bool true) ∧ Below B w w'

set_option maxRecDepth 100000 in
set_option maxHeartbeats 2000000 in
theorem fnComments_walk {w : World} {v v2 : Value} {R : List (List UInt8)} {L : List Bool} (h : ArgRows w v R) (h2 : ArgBools w v2 L) : Calls Try.prog 3 #[v, v2] w (Yes w.heap.size w) := by
  have H := Lib.hid h
  have H2 := Lib.hid h2
  obtain ⟨vs, hl, ⟨A, c, hv, hc, hcb, -⟩, -⟩ := h
  obtain ⟨A2, c2, hv2, hc2, hcb2, -⟩ := h2
  subst hv hv2
  simp only [List.length_map] at hc2
  generalize hLL : L.length = m at *
  have HLL := Lib.hid hLL
  have HVS := Lib.hid hl
  have e2 : (L.map fun c => Value.bool c).length = m := by simp [HLL.out]
  rw [e2] at H2 ⊢
  clear hLL hl e2
  generalize hvl : vs.length = n at *
  clear hvl vs
  by_cases hbig : 20 < n
  · by_cases hq : 2147483647 < m
    all_goals
      go_enter Try.func3, Try.ntmps3
      go_wp2_with fail
      refine (fits_any H.out).mono ?_
      rintro e w1 ⟨t, rfl, rfl⟩
      cases t with
      | false =>
        go_wp2_with fail
        go_ret
        exact ⟨rfl, Below.refl _ _⟩
      | true =>
        go_wp2_with fail
        go_ret
        exact ⟨rfl, Below.refl _ _⟩
  · by_cases hbig2 : 20 < m
    · by_cases hq : 2147483647 < m
      all_goals
        go_enter Try.func3, Try.ntmps3
        go_wp2_with fail
        refine (fits_any H.out).mono ?_
        rintro e w1 ⟨t, rfl, rfl⟩
        cases t with
        | false =>
          go_wp2_with fail
          go_ret
          exact ⟨rfl, Below.refl _ _⟩
        | true =>
          go_wp2_with fail
          go_ret
          exact ⟨rfl, Below.refl _ _⟩
    · go_enter Try.func3, Try.ntmps3
      go_wp2_with fail
      refine (fits_any H.out).mono ?_
      rintro e w1 ⟨t, rfl, rfl⟩
      cases t with
      | false =>
        go_wp2_with fail
        go_ret
        exact ⟨rfl, Below.refl _ _⟩
      | true =>
        go_wp2_with fail
        have HS : Hid (FRel w.heap.size R L w 0 (.slice (some ⟨w.heap.size, 0, none⟩) 0 0) (.slice (some ⟨w.heap.size + 1, 0, none⟩) 0 0) ((w.alloc (Obj.cells #[] 5)).alloc (Obj.cells #[] 9))) := by
          have a1 := World.ownsRow_made (base := w.heap.size) (e := 5) (size := 1) w #[] 0 (Nat.le_refl _) (by simp [maxLen]) (by simp)
          have a2 := World.ownsRow_made (base := w.heap.size) (e := 9) (size := 1) (w.alloc (Obj.cells #[] 5)) #[] 0 (by simp) (by simp [maxLen]) (by simp)
          refine ⟨own_keep a1 (fun g cs hb => hb.alloc _), by simp, ?_, ((Below.refl _ w).alloc (Nat.le_refl _) _).alloc (by simp) _⟩
          rw [show (w.alloc (Obj.cells #[] 5)).heap.size = w.heap.size + 1 from by simp] at a2
          exact a2
        generalize ((w.alloc (Obj.cells #[] 5)).alloc (Obj.cells #[] 9)) = ws at *
        generalize hB : w.heap.size = B at *
        have HB := Lib.hid hB
        obtain ⟨i5, hi5, hz5, hs5, hb5⟩ := info_parts info5
        obtain ⟨i9, hi9, hz9, hs9, hb9⟩ := info_parts info9
        have HI5 := Lib.hid hi5
        have HZ5 := Lib.hid hz5
        have HS5 := Lib.hid hs5
        have HB5 := Lib.hid hb5
        have HI9 := Lib.hid hi9
        have HZ9 := Lib.hid hz9
        have HS9 := Lib.hid hs9
        have HB9 := Lib.hid hb9
        clear hB hi5 hz5 hs5 hb5 hi9 hz9 hs9 hb9
        go_loopg [5, 6, 34] n (fun gg s5 s6 s34 wx => ∃ k : Nat, s34 = .int .i64 k ∧ k + gg = n ∧ Hid (FRel B R L w k s5 s6 wx))
        case atStart => exact ⟨0, rfl, by omega, HS.out⟩
        case round =>
          clear HS
          obtain ⟨k, rfl, hk, HF⟩ := hrel
          cases gk with
          | zero =>
            have HE : Hid (k = R.length) := by have := HVS.out; show _ = _; omega
            obtain ⟨ho, hnn, hl, hb⟩ := HF.out
            have hd := ho.data hnn
            have HD := Lib.hid hd
            have HL := Lib.hid hl
            have HBL := Lib.hid hb
            clear ho hnn hl hb hd
            go_wp2_with fail
            refine (comments_any HD.out ?_ ?_ ?_).mono ?_
            · intro x hx c hc
              obtain ⟨i, hi, rfl⟩ := List.mem_iff_getElem.1 hx
              simp only [lns, List.getElem_mapIdx, remText] at hc
              obtain ⟨y, _, rfl⟩ := List.mem_map.1 hc
              exact plainOf_plain y
            · rw [lns_length _ _ _ (by have := HE.out; omega)]; omega
            · have := doc_length R L k (by have := HE.out; omega); omega
            rintro e w1 ⟨v1, rfl, ho1, hb1⟩
            have h1 := ho1.strs
            have h2 := (HL.out.below hb1).strs
            have h3 := HBL.out.trans (hb1.mono (by have h := HBL.out.size; have h2 := HB.out; omega))
            have HO1 := Lib.hid h1
            have HO2 := Lib.hid h2
            have HO3 := Lib.hid h3
            clear ho1 hb1 h1 h2 h3
            go_wp2_with fail
            refine (keysAre_yes HO1.out HO2.out).mono ?_
            rintro e w2 ⟨rfl, nd, rfl⟩
            go_wp2_with fail
            go_ret
            exact ⟨rfl, HO3.out.trans (Fr.drewN _ nd).1⟩
          | succ g =>
            have hkn : k < n := by omega
            have hkR : k < R.length := by have := HVS.out; omega
            obtain ⟨ho, hnn, hl, hb⟩ := HF.out
            have hbw : Below w.heap.size w wr := by rw [HB.out]; exact hb
            obtain ⟨vs, hl', ⟨A', c', hv', hc', hcb', hcells⟩, hrow⟩ := H.out.below hbw
            injection hv' with e1 e2 e3
            subst e1 e3
            obtain ⟨b, off, rfl, hbl, hcell⟩ := hcells (by omega)
            have hx : vs[k]? = some (vs[k]'(by omega)) := List.getElem?_eq_getElem _
            have hck := hcell k _ hx
            obtain ⟨A3, c3, hu, hz1, hz2, hz3⟩ := hrow k _ R[k] hx (List.getElem?_eq_getElem hkR)
            rw [hu] at hck
            have HL1 : Hid (Own8 B wr u5 (docOf (lns R L k))) := ho
            have HL2 := Lib.hid hnn
            have HL3 := Lib.hid hl
            have HL4 := Lib.hid hb
            have HL5 : Hid (docOf (lns R L (k + 1)) = docOf (lns R L k) ++ Ln.text ⟨L.getD k false, remText R[k]⟩ []) := by rw [lns_succ hkR, docOf_snoc]; exact rfl
            have HL6 : Hid ((lns R L (k + 1)).map remOf = (lns R L k).map remOf ++ [⟨(35 :: remText R[k]).toArray⟩]) := by rw [lns_succ hkR, List.map_append]; exact rfl
            have hdl : (docOf (lns R L k)).length ≤ 58 * k := doc_length R L k (by omega)
            have hll : (lns R L k).length = k := lns_length R L k (by omega)
            have hll2 : (lns R L k).length ≤ 20 := by omega
            have HB2 := (H2.out.below hbw)
            have HB3 := Lib.hid HB2
            generalize hz : R[k] = z at *
            clear ho hnn hl hb hl' hcells hrow hu hcell hx hz HF hll
            simp only [List.length_map] at hz1 hz2 hz3 hck
            have HZ3 := Lib.hid hz3
            clear hz3 HB2
            generalize hzl : z.length = N at *
            have HZL := Lib.hid hzl
            clear hzl
            have hM : ∃ M, (N ≤ 50 ∧ M = N ∨ 50 < N ∧ M = 50) := by
              rcases Nat.lt_or_ge 50 N with h | h
              · exact ⟨50, .inr ⟨h, rfl⟩⟩
              · exact ⟨N, .inl ⟨h, rfl⟩⟩
            obtain ⟨M, hM⟩ := hM
            have HTK : Hid (∀ q, q = M → z.take q = z.take 50) := by
              intro q hq
              subst hq
              have := HZL.out
              rcases hM with ⟨h1, h2⟩ | ⟨h1, h2⟩
              · rw [List.take_of_length_le (by omega), List.take_of_length_le (by omega)]
              · rw [h2]
            have HSZ : Hid (B ≤ wr.heap.size) := by have := HL4.out.size; have := HB.out; show _ ≤ _; omega
            have E2 := Lib.hid e2
            clear e2
            rcases hM with ⟨hM1, rfl⟩ | ⟨hM1, rfl⟩
            · go_wp2_with fail
              go_loopg [9, 45] M (fun gg s9 s45 wx => ∃ k' : Nat, s45 = .int .i64 k' ∧ k' + gg = M ∧ s9 = .string ⟨(35 :: (z.take k').map plainOf).toArray⟩ ∧ wx = wr)
              case atStart => exact ⟨0, rfl, by omega, rfl, rfl⟩
              case round =>
                obtain ⟨k', rfl, hk', rfl, rfl⟩ := hrel
                cases gk with
                | succ g' =>
                  have hkM : k' < M := by omega
                  have hkN : k' < M := by omega
                  obtain ⟨b2, off2, rfl, hb2, hcell2⟩ := HZ3.out (by omega)
                  have hkz : k' < z.length := by have := HZL.out; omega
                  obtain ⟨zc, hzc⟩ : ∃ zc, z[k']? = some zc := ⟨_, List.getElem?_eq_getElem hkz⟩
                  have hc2 := hcell2 k' (.int .u8 zc.toNat) (by simp [hzc])
                  have HS9 : Hid ((⟨(35 :: (z.take k').map plainOf).toArray⟩ : ByteArray) ++ ⟨#[plainOf zc]⟩ = ⟨(35 :: (z.take (k' + 1)).map plainOf).toArray⟩) := by
                    rw [str_snoc, List.take_add_one, hzc]
                    exact congrArg (fun l : List UInt8 => (⟨l.toArray⟩ : ByteArray)) (by rw [List.map_append]; rfl)
                  have he := encode_plain zc
                  have hz0 : (0 : Int) ≤ (zc.toNat : Int) := by omega
                  have hz255 : (zc.toNat : Int) ≤ 255 := by have := zc.toNat_lt; omega
                  clear hcell2 hzc hkz
                  generalize plainOf zc = pc at *
                  generalize (zc.toNat : Int) = x at *
                  clear zc
                  have hTl : (35 :: (z.take k').map plainOf).length ≤ 51 := by simp; omega
                  generalize (35 :: (z.take k').map plainOf) = T at *
                  go_wp2_with fail
                  go_roundg g'
                  case measure => omega
                  case rel => exact ⟨k' + 1, by go_num, by omega, by rw [HS9.out], rfl⟩
                | zero =>
                  have HTT : Hid ((⟨(35 :: (z.take k').map plainOf).toArray⟩ : ByteArray) = ⟨(35 :: remText z).toArray⟩) := by
                    show _ = _
                    rw [HTK.out k' (by omega)]
                    rfl
                  have HTX0 : Hid ((35 :: (z.take k').map plainOf) = 35 :: remText z) := by
                    show _ = _
                    rw [HTK.out k' (by omega)]
                    rfl
                  have hTl : ((35 :: (z.take k').map plainOf)).length ≤ 51 := by simp; omega
                  generalize hT : (35 :: (z.take k').map plainOf) = T at *
                  clear hT
                  by_cases hbm : k < m
                  · obtain ⟨A5, c5, h5a, h5b, h5c, h5⟩ := HB3.out
                    have hLk : k < (L.map fun c => Value.bool c).length := by have := HLL.out; simp; omega
                    obtain ⟨b5, off5, hA5, hb5, hcell5⟩ := h5 (by omega)
                    have hc5 := hcell5 k (.bool (L.getD k false)) (by simp only [List.length_map] at hLk; simp [List.getD, hLk])
                    injection h5a with e1 e2 e3
                    rw [hA5] at e1
                    subst e1 
                    clear h5 hcell5 e2 e3 hA5 h5b h5c hLk
                    cases hLb : L.getD k false with
                    | true =>
                      rw [hLb] at hc5
                      have HTX : Hid (docOf (lns R L k) ++ [97, 32, 61, 32, 53, 32] ++ T ++ [10] = docOf (lns R L k) ++ Ln.text ⟨L.getD k false, remText z⟩ []) := by
                        show _ = _
                        rw [hLb, HTX0.out]
                        simp [Ln.text]
                      clear hLb
                      go_wp2_with (first
                        | (at_builtin
                           refine Lib.wpList_append_own_string _ rfl (.tmp 67) (.const (.string ⟨#[97, 32, 61, 32, 53, 32]⟩)) 25 9 rfl B 5 i5 Try.underlying25 Try.underlying9 HI5.out HZ5.out HS5.out HB5.out u5 _ _ rfl HL1.out ⟨#[97, 32, 61, 32, 53, 32]⟩ rfl ?pa ?pb ?pc ?_
                           case pa => (show _ + 6 ≤ maxLen; simp [maxLen]; omega)
                           case pb => (show _ + 6 ≤ _; omega)
                           case pc => exact HSZ.out
                           intro q1 w1 hown1 hgrow1 hnil1
                           have ho1 : Own8 B w1 q1 (docOf (lns R L k) ++ [97, 32, 61, 32, 53, 32]) := Own8.app hown1
                           have hk1 : Ke 5 B wr w1 := ke_grown HL1.out hgrow1 HSZ.out
                           have hnn1 : q1 ≠ .slice none 0 0 := fun e => HL2.out (hnil1.1 e).1
                           have hsz1 : B ≤ w1.heap.size := Nat.le_trans HSZ.out hk1.1.size
                           have HO1 := Lib.hid ho1
                           have HK1 := Lib.hid hk1
                           have HL3a : Hid (OutIs B w1 u6 ((lns R L k).map remOf)) := HL3.out.ke HK1.out (by decide)
                           have HL4a : Hid (Below B w w1) := HL4.out.trans HK1.out.1
                           clear hown1 hgrow1 hnil1 ho1 hk1)
                        | (at_builtin; refine Lib.wpList_append_own_string _ rfl (.tmp 69) (.tmp 70) 25 9 rfl B 5 i5 Try.underlying25 Try.underlying9 HI5.out HZ5.out HS5.out HB5.out q1 _ _ rfl (HO1.out) ⟨T.toArray⟩ rfl ?ta ?tb ?tc ?_
                           case ta => (show _ + T.toArray.size ≤ maxLen; simp [maxLen]; omega)
                           case tb => (show _ + T.toArray.size ≤ _; simp; omega)
                           case tc => omega
                           intro q2 w2 hown2 hgrow2 hnil2
                           have ho2 : Own8 B w2 q2 ((docOf (lns R L k) ++ [97, 32, 61, 32, 53, 32]) ++ T) := by rw [strCells_mk] at hown2; exact Own8.app hown2
                           have hk2 : Ke 5 B w1 w2 := ke_grown (HO1.out) hgrow2 hsz1
                           have hnn2 : q2 ≠ .slice none 0 0 := fun e => hnn1 (hnil2.1 e).1
                           have hsz2 : B ≤ w2.heap.size := Nat.le_trans hsz1 hk2.1.size
                           have HO2 := Lib.hid ho2
                           have HK2 := Lib.hid hk2
                           have HN2 := Lib.hid hnn2
                           clear hown2 hgrow2 hnil2 ho2 hk2 hnn2)
                        | (at_builtin; refine wpList_append_own _ rfl (.tmp 71) (.tmp 72) 25 rfl B 5 i5 _ 1 1 Try.underlying25 HI5.out HZ5.out HS5.out HB5.out rfl (by decide) q2 _ _ rfl (own_keep HO2.out (fun g cs hb => hb.alloc _)) ⟨w2.heap.size, 0, none⟩ 1 1 [.int .u8 10] rfl rfl ?sa ?sb ?sc ?sd ?se ?_
                           case sa => exact (Blk.add (l := [.int .u8 10]) (Blk.new w2 5 _))
                           case sb => intro u hu; simp at hu; subst hu; rfl
                           case sc => simp [maxLen]; omega
                           case sd => simp; omega
                           case se => simp; omega
                           intro q3 w3 hown3 hgrow3 hnil3
                           have hk3 : Ke 5 B w2 w3 := (Ke.alloc hsz2 _).trans (ke_grown (own_keep HO2.out (fun g cs hb => hb.alloc _)) hgrow3 (by simp; omega))
                           have ho3 : Own8 B w3 q3 (((docOf (lns R L k) ++ [97, 32, 61, 32, 53, 32]) ++ T) ++ [10]) := Own8.app hown3
                           have hnn3 : q3 ≠ .slice none 0 0 := fun e => HN2.out (hnil3.1 e).1
                           have hsz3 : B ≤ w3.heap.size := Nat.le_trans hsz2 hk3.1.size
                           have hli : OutIs B w3 u6 ((lns R L k).map remOf) := (HL3a.out.ke HK2.out (by decide)).ke hk3 (by decide)
                           have HO3 := Lib.hid ho3
                           have HK3 := Lib.hid hk3
                           have HN3 := Lib.hid hnn3
                           have HLI := Lib.hid hli
                           clear hown3 hgrow3 hnil3 ho3 hk3 hnn3 hli)
                        | (at_builtin; refine wpList_append_own _ rfl (.tmp 74) (.tmp 76) 26 rfl B 9 i9 _ 1 16 Try.underlying26 HI9.out HZ9.out HS9.out HB9.out rfl (by decide) u6 _ _ rfl (own_keep HLI.out (fun g cs hb => hb.alloc _)) ⟨w3.heap.size, 0, none⟩ 1 1 [.string ⟨T.toArray⟩] rfl rfl ?ra ?rb ?rc ?rd ?re ?_
                           case ra => exact (Blk.add (l := [.string ⟨T.toArray⟩]) (Blk.new w3 9 _))
                           case rb => intro u hu; simp at hu; subst hu; rfl
                           case rc => simp [maxLen]; omega
                           case rd => simp; omega
                           case re => simp; omega
                           intro q4 w4 hown4 hgrow4 hnil4
                           have hk4 : Ke 9 B w3 w4 := (Ke.alloc hsz3 _).trans (ke_grown (own_keep HLI.out (fun g cs hb => hb.alloc _)) hgrow4 (by simp; omega))
                           have ho4 : OutIs B w4 q4 ((lns R L k).map remOf ++ [⟨T.toArray⟩]) := by unfold OutIs; rw [List.length_append, List.map_append]; exact hown4
                           have HO4 := Lib.hid ho4
                           have HK4 := Lib.hid hk4
                           clear hown4 hgrow4 hnil4 ho4 hk4))
                      go_roundg g
                      case measure => omega
                      case rel =>
                        refine ⟨k + 1, by go_num, by omega, ?_, HN3.out, ?_, ((HL4a.out.trans HK2.out.1).trans HK3.out.1).trans HK4.out.1⟩
                        · rw [HL5.out]
                          have h3 := HO3.out.ke HK4.out (by decide)
                          rw [show (docOf (lns R L k) ++ [97, 32, 61, 32, 53, 32]) ++ T ++ [10] = docOf (lns R L k) ++ Ln.text ⟨L.getD k false, remText z⟩ [] from HTX.out] at h3
                          exact h3
                        · rw [HL6.out, ← HTT.out]
                          exact HO4.out
                    | false =>
                      rw [hLb] at hc5
                      have HTX : Hid (docOf (lns R L k) ++ T ++ [10] = docOf (lns R L k) ++ Ln.text ⟨L.getD k false, remText z⟩ []) := by
                        show _ = _
                        rw [hLb, HTX0.out]
                        simp [Ln.text]
                      clear hLb
                      generalize wr = w1 at *
                      have HL3a := HL3
                      have HL4a := HL4
                      have hsz1 := HSZ.out
                      have hnn1 := HL2.out
                      go_wp2_with (first
                        | (fail)
                        | (at_builtin; refine Lib.wpList_append_own_string _ rfl (.tmp 69) (.tmp 70) 25 9 rfl B 5 i5 Try.underlying25 Try.underlying9 HI5.out HZ5.out HS5.out HB5.out u5 _ _ rfl (HL1.out) ⟨T.toArray⟩ rfl ?ta ?tb ?tc ?_
                           case ta => (show _ + T.toArray.size ≤ maxLen; simp [maxLen]; omega)
                           case tb => (show _ + T.toArray.size ≤ _; simp; omega)
                           case tc => omega
                           intro q2 w2 hown2 hgrow2 hnil2
                           have ho2 : Own8 B w2 q2 ((docOf (lns R L k)) ++ T) := by rw [strCells_mk] at hown2; exact Own8.app hown2
                           have hk2 : Ke 5 B w1 w2 := ke_grown (HL1.out) hgrow2 hsz1
                           have hnn2 : q2 ≠ .slice none 0 0 := fun e => hnn1 (hnil2.1 e).1
                           have hsz2 : B ≤ w2.heap.size := Nat.le_trans hsz1 hk2.1.size
                           have HO2 := Lib.hid ho2
                           have HK2 := Lib.hid hk2
                           have HN2 := Lib.hid hnn2
                           clear hown2 hgrow2 hnil2 ho2 hk2 hnn2)
                        | (at_builtin; refine wpList_append_own _ rfl (.tmp 71) (.tmp 72) 25 rfl B 5 i5 _ 1 1 Try.underlying25 HI5.out HZ5.out HS5.out HB5.out rfl (by decide) q2 _ _ rfl (own_keep HO2.out (fun g cs hb => hb.alloc _)) ⟨w2.heap.size, 0, none⟩ 1 1 [.int .u8 10] rfl rfl ?sa ?sb ?sc ?sd ?se ?_
                           case sa => exact (Blk.add (l := [.int .u8 10]) (Blk.new w2 5 _))
                           case sb => intro u hu; simp at hu; subst hu; rfl
                           case sc => simp [maxLen]; omega
                           case sd => simp; omega
                           case se => simp; omega
                           intro q3 w3 hown3 hgrow3 hnil3
                           have hk3 : Ke 5 B w2 w3 := (Ke.alloc hsz2 _).trans (ke_grown (own_keep HO2.out (fun g cs hb => hb.alloc _)) hgrow3 (by simp; omega))
                           have ho3 : Own8 B w3 q3 (((docOf (lns R L k)) ++ T) ++ [10]) := Own8.app hown3
                           have hnn3 : q3 ≠ .slice none 0 0 := fun e => HN2.out (hnil3.1 e).1
                           have hsz3 : B ≤ w3.heap.size := Nat.le_trans hsz2 hk3.1.size
                           have hli : OutIs B w3 u6 ((lns R L k).map remOf) := (HL3a.out.ke HK2.out (by decide)).ke hk3 (by decide)
                           have HO3 := Lib.hid ho3
                           have HK3 := Lib.hid hk3
                           have HN3 := Lib.hid hnn3
                           have HLI := Lib.hid hli
                           clear hown3 hgrow3 hnil3 ho3 hk3 hnn3 hli)
                        | (at_builtin; refine wpList_append_own _ rfl (.tmp 74) (.tmp 76) 26 rfl B 9 i9 _ 1 16 Try.underlying26 HI9.out HZ9.out HS9.out HB9.out rfl (by decide) u6 _ _ rfl (own_keep HLI.out (fun g cs hb => hb.alloc _)) ⟨w3.heap.size, 0, none⟩ 1 1 [.string ⟨T.toArray⟩] rfl rfl ?ra ?rb ?rc ?rd ?re ?_
                           case ra => exact (Blk.add (l := [.string ⟨T.toArray⟩]) (Blk.new w3 9 _))
                           case rb => intro u hu; simp at hu; subst hu; rfl
                           case rc => simp [maxLen]; omega
                           case rd => simp; omega
                           case re => simp; omega
                           intro q4 w4 hown4 hgrow4 hnil4
                           have hk4 : Ke 9 B w3 w4 := (Ke.alloc hsz3 _).trans (ke_grown (own_keep HLI.out (fun g cs hb => hb.alloc _)) hgrow4 (by simp; omega))
                           have ho4 : OutIs B w4 q4 ((lns R L k).map remOf ++ [⟨T.toArray⟩]) := by unfold OutIs; rw [List.length_append, List.map_append]; exact hown4
                           have HO4 := Lib.hid ho4
                           have HK4 := Lib.hid hk4
                           clear hown4 hgrow4 hnil4 ho4 hk4))
                      go_roundg g
                      case measure => omega
                      case rel =>
                        refine ⟨k + 1, by go_num, by omega, ?_, HN3.out, ?_, ((HL4a.out.trans HK2.out.1).trans HK3.out.1).trans HK4.out.1⟩
                        · rw [HL5.out]
                          have h3 := HO3.out.ke HK4.out (by decide)
                          rw [show (docOf (lns R L k)) ++ T ++ [10] = docOf (lns R L k) ++ Ln.text ⟨L.getD k false, remText z⟩ [] from HTX.out] at h3
                          exact h3
                        · rw [HL6.out, ← HTT.out]
                          exact HO4.out
                  · have hLf : L.getD k false = false := by
                      rw [List.getD_eq_getElem?_getD, List.getElem?_eq_none (by have := HLL.out; omega)]
                      rfl
                    have HTX : Hid (docOf (lns R L k) ++ T ++ [10] = docOf (lns R L k) ++ Ln.text ⟨L.getD k false, remText z⟩ []) := by
                      show _ = _
                      rw [hLf, HTX0.out]
                      simp [Ln.text]
                    clear hLf
                    generalize wr = w1 at *
                    have HL3a := HL3
                    have HL4a := HL4
                    have hsz1 := HSZ.out
                    have hnn1 := HL2.out
                    go_wp2_with (first
                      | (fail)
                      | (at_builtin; refine Lib.wpList_append_own_string _ rfl (.tmp 69) (.tmp 70) 25 9 rfl B 5 i5 Try.underlying25 Try.underlying9 HI5.out HZ5.out HS5.out HB5.out u5 _ _ rfl (HL1.out) ⟨T.toArray⟩ rfl ?ta ?tb ?tc ?_
                         case ta => (show _ + T.toArray.size ≤ maxLen; simp [maxLen]; omega)
                         case tb => (show _ + T.toArray.size ≤ _; simp; omega)
                         case tc => omega
                         intro q2 w2 hown2 hgrow2 hnil2
                         have ho2 : Own8 B w2 q2 ((docOf (lns R L k)) ++ T) := by rw [strCells_mk] at hown2; exact Own8.app hown2
                         have hk2 : Ke 5 B w1 w2 := ke_grown (HL1.out) hgrow2 hsz1
                         have hnn2 : q2 ≠ .slice none 0 0 := fun e => hnn1 (hnil2.1 e).1
                         have hsz2 : B ≤ w2.heap.size := Nat.le_trans hsz1 hk2.1.size
                         have HO2 := Lib.hid ho2
                         have HK2 := Lib.hid hk2
                         have HN2 := Lib.hid hnn2
                         clear hown2 hgrow2 hnil2 ho2 hk2 hnn2)
                      | (at_builtin; refine wpList_append_own _ rfl (.tmp 71) (.tmp 72) 25 rfl B 5 i5 _ 1 1 Try.underlying25 HI5.out HZ5.out HS5.out HB5.out rfl (by decide) q2 _ _ rfl (own_keep HO2.out (fun g cs hb => hb.alloc _)) ⟨w2.heap.size, 0, none⟩ 1 1 [.int .u8 10] rfl rfl ?sa ?sb ?sc ?sd ?se ?_
                         case sa => exact (Blk.add (l := [.int .u8 10]) (Blk.new w2 5 _))
                         case sb => intro u hu; simp at hu; subst hu; rfl
                         case sc => simp [maxLen]; omega
                         case sd => simp; omega
                         case se => simp; omega
                         intro q3 w3 hown3 hgrow3 hnil3
                         have hk3 : Ke 5 B w2 w3 := (Ke.alloc hsz2 _).trans (ke_grown (own_keep HO2.out (fun g cs hb => hb.alloc _)) hgrow3 (by simp; omega))
                         have ho3 : Own8 B w3 q3 (((docOf (lns R L k)) ++ T) ++ [10]) := Own8.app hown3
                         have hnn3 : q3 ≠ .slice none 0 0 := fun e => HN2.out (hnil3.1 e).1
                         have hsz3 : B ≤ w3.heap.size := Nat.le_trans hsz2 hk3.1.size
                         have hli : OutIs B w3 u6 ((lns R L k).map remOf) := (HL3a.out.ke HK2.out (by decide)).ke hk3 (by decide)
                         have HO3 := Lib.hid ho3
                         have HK3 := Lib.hid hk3
                         have HN3 := Lib.hid hnn3
                         have HLI := Lib.hid hli
                         clear hown3 hgrow3 hnil3 ho3 hk3 hnn3 hli)
                      | (at_builtin; refine wpList_append_own _ rfl (.tmp 74) (.tmp 76) 26 rfl B 9 i9 _ 1 16 Try.underlying26 HI9.out HZ9.out HS9.out HB9.out rfl (by decide) u6 _ _ rfl (own_keep HLI.out (fun g cs hb => hb.alloc _)) ⟨w3.heap.size, 0, none⟩ 1 1 [.string ⟨T.toArray⟩] rfl rfl ?ra ?rb ?rc ?rd ?re ?_
                         case ra => exact (Blk.add (l := [.string ⟨T.toArray⟩]) (Blk.new w3 9 _))
                         case rb => intro u hu; simp at hu; subst hu; rfl
                         case rc => simp [maxLen]; omega
                         case rd => simp; omega
                         case re => simp; omega
                         intro q4 w4 hown4 hgrow4 hnil4
                         have hk4 : Ke 9 B w3 w4 := (Ke.alloc hsz3 _).trans (ke_grown (own_keep HLI.out (fun g cs hb => hb.alloc _)) hgrow4 (by simp; omega))
                         have ho4 : OutIs B w4 q4 ((lns R L k).map remOf ++ [⟨T.toArray⟩]) := by unfold OutIs; rw [List.length_append, List.map_append]; exact hown4
                         have HO4 := Lib.hid ho4
                         have HK4 := Lib.hid hk4
                         clear hown4 hgrow4 hnil4 ho4 hk4))
                    go_roundg g
                    case measure => omega
                    case rel =>
                      refine ⟨k + 1, by go_num, by omega, ?_, HN3.out, ?_, ((HL4a.out.trans HK2.out.1).trans HK3.out.1).trans HK4.out.1⟩
                      · rw [HL5.out]
                        have h3 := HO3.out.ke HK4.out (by decide)
                        rw [show (docOf (lns R L k)) ++ T ++ [10] = docOf (lns R L k) ++ Ln.text ⟨L.getD k false, remText z⟩ [] from HTX.out] at h3
                        exact h3
                      · rw [HL6.out, ← HTT.out]
                        exact HO4.out
            · go_wp2_with fail
              go_loopg [9, 45] 50 (fun gg s9 s45 wx => ∃ k' : Nat, s45 = .int .i64 k' ∧ k' + gg = 50 ∧ s9 = .string ⟨(35 :: (z.take k').map plainOf).toArray⟩ ∧ wx = wr)
              case atStart => exact ⟨0, rfl, by omega, rfl, rfl⟩
              case round =>
                obtain ⟨k', rfl, hk', rfl, rfl⟩ := hrel
                cases gk with
                | succ g' =>
                  have hkM : k' < 50 := by omega
                  have hkN : k' < N := by omega
                  obtain ⟨b2, off2, rfl, hb2, hcell2⟩ := HZ3.out (by omega)
                  have hkz : k' < z.length := by have := HZL.out; omega
                  obtain ⟨zc, hzc⟩ : ∃ zc, z[k']? = some zc := ⟨_, List.getElem?_eq_getElem hkz⟩
                  have hc2 := hcell2 k' (.int .u8 zc.toNat) (by simp [hzc])
                  have HS9 : Hid ((⟨(35 :: (z.take k').map plainOf).toArray⟩ : ByteArray) ++ ⟨#[plainOf zc]⟩ = ⟨(35 :: (z.take (k' + 1)).map plainOf).toArray⟩) := by
                    rw [str_snoc, List.take_add_one, hzc]
                    exact congrArg (fun l : List UInt8 => (⟨l.toArray⟩ : ByteArray)) (by rw [List.map_append]; rfl)
                  have he := encode_plain zc
                  have hz0 : (0 : Int) ≤ (zc.toNat : Int) := by omega
                  have hz255 : (zc.toNat : Int) ≤ 255 := by have := zc.toNat_lt; omega
                  clear hcell2 hzc hkz
                  generalize plainOf zc = pc at *
                  generalize (zc.toNat : Int) = x at *
                  clear zc
                  have hTl : (35 :: (z.take k').map plainOf).length ≤ 51 := by simp; omega
                  generalize (35 :: (z.take k').map plainOf) = T at *
                  go_wp2_with fail
                  go_roundg g'
                  case measure => omega
                  case rel => exact ⟨k' + 1, by go_num, by omega, by rw [HS9.out], rfl⟩
                | zero =>
                  have HTT : Hid ((⟨(35 :: (z.take k').map plainOf).toArray⟩ : ByteArray) = ⟨(35 :: remText z).toArray⟩) := by
                    show _ = _
                    rw [HTK.out k' (by omega)]
                    rfl
                  have HTX0 : Hid ((35 :: (z.take k').map plainOf) = 35 :: remText z) := by
                    show _ = _
                    rw [HTK.out k' (by omega)]
                    rfl
                  have hTl : ((35 :: (z.take k').map plainOf)).length ≤ 51 := by simp; omega
                  generalize hT : (35 :: (z.take k').map plainOf) = T at *
                  clear hT
                  by_cases hbm : k < m
                  · obtain ⟨A5, c5, h5a, h5b, h5c, h5⟩ := HB3.out
                    have hLk : k < (L.map fun c => Value.bool c).length := by have := HLL.out; simp; omega
                    obtain ⟨b5, off5, hA5, hb5, hcell5⟩ := h5 (by omega)
                    have hc5 := hcell5 k (.bool (L.getD k false)) (by simp only [List.length_map] at hLk; simp [List.getD, hLk])
                    injection h5a with e1 e2 e3
                    rw [hA5] at e1
                    subst e1 
                    clear h5 hcell5 e2 e3 hA5 h5b h5c hLk
                    cases hLb : L.getD k false with
                    | true =>
                      rw [hLb] at hc5
                      have HTX : Hid (docOf (lns R L k) ++ [97, 32, 61, 32, 53, 32] ++ T ++ [10] = docOf (lns R L k) ++ Ln.text ⟨L.getD k false, remText z⟩ []) := by
                        show _ = _
                        rw [hLb, HTX0.out]
                        simp [Ln.text]
                      clear hLb
                      go_wp2_with (first
                        | (at_builtin
                           refine Lib.wpList_append_own_string _ rfl (.tmp 67) (.const (.string ⟨#[97, 32, 61, 32, 53, 32]⟩)) 25 9 rfl B 5 i5 Try.underlying25 Try.underlying9 HI5.out HZ5.out HS5.out HB5.out u5 _ _ rfl HL1.out ⟨#[97, 32, 61, 32, 53, 32]⟩ rfl ?pa ?pb ?pc ?_
                           case pa => (show _ + 6 ≤ maxLen; simp [maxLen]; omega)
                           case pb => (show _ + 6 ≤ _; omega)
                           case pc => exact HSZ.out
                           intro q1 w1 hown1 hgrow1 hnil1
                           have ho1 : Own8 B w1 q1 (docOf (lns R L k) ++ [97, 32, 61, 32, 53, 32]) := Own8.app hown1
                           have hk1 : Ke 5 B wr w1 := ke_grown HL1.out hgrow1 HSZ.out
                           have hnn1 : q1 ≠ .slice none 0 0 := fun e => HL2.out (hnil1.1 e).1
                           have hsz1 : B ≤ w1.heap.size := Nat.le_trans HSZ.out hk1.1.size
                           have HO1 := Lib.hid ho1
                           have HK1 := Lib.hid hk1
                           have HL3a : Hid (OutIs B w1 u6 ((lns R L k).map remOf)) := HL3.out.ke HK1.out (by decide)
                           have HL4a : Hid (Below B w w1) := HL4.out.trans HK1.out.1
                           clear hown1 hgrow1 hnil1 ho1 hk1)
                        | (at_builtin; refine Lib.wpList_append_own_string _ rfl (.tmp 69) (.tmp 70) 25 9 rfl B 5 i5 Try.underlying25 Try.underlying9 HI5.out HZ5.out HS5.out HB5.out q1 _ _ rfl (HO1.out) ⟨T.toArray⟩ rfl ?ta ?tb ?tc ?_
                           case ta => (show _ + T.toArray.size ≤ maxLen; simp [maxLen]; omega)
                           case tb => (show _ + T.toArray.size ≤ _; simp; omega)
                           case tc => omega
                           intro q2 w2 hown2 hgrow2 hnil2
                           have ho2 : Own8 B w2 q2 ((docOf (lns R L k) ++ [97, 32, 61, 32, 53, 32]) ++ T) := by rw [strCells_mk] at hown2; exact Own8.app hown2
                           have hk2 : Ke 5 B w1 w2 := ke_grown (HO1.out) hgrow2 hsz1
                           have hnn2 : q2 ≠ .slice none 0 0 := fun e => hnn1 (hnil2.1 e).1
                           have hsz2 : B ≤ w2.heap.size := Nat.le_trans hsz1 hk2.1.size
                           have HO2 := Lib.hid ho2
                           have HK2 := Lib.hid hk2
                           have HN2 := Lib.hid hnn2
                           clear hown2 hgrow2 hnil2 ho2 hk2 hnn2)
                        | (at_builtin; refine wpList_append_own _ rfl (.tmp 71) (.tmp 72) 25 rfl B 5 i5 _ 1 1 Try.underlying25 HI5.out HZ5.out HS5.out HB5.out rfl (by decide) q2 _ _ rfl (own_keep HO2.out (fun g cs hb => hb.alloc _)) ⟨w2.heap.size, 0, none⟩ 1 1 [.int .u8 10] rfl rfl ?sa ?sb ?sc ?sd ?se ?_
                           case sa => exact (Blk.add (l := [.int .u8 10]) (Blk.new w2 5 _))
                           case sb => intro u hu; simp at hu; subst hu; rfl
                           case sc => simp [maxLen]; omega
                           case sd => simp; omega
                           case se => simp; omega
                           intro q3 w3 hown3 hgrow3 hnil3
                           have hk3 : Ke 5 B w2 w3 := (Ke.alloc hsz2 _).trans (ke_grown (own_keep HO2.out (fun g cs hb => hb.alloc _)) hgrow3 (by simp; omega))
                           have ho3 : Own8 B w3 q3 (((docOf (lns R L k) ++ [97, 32, 61, 32, 53, 32]) ++ T) ++ [10]) := Own8.app hown3
                           have hnn3 : q3 ≠ .slice none 0 0 := fun e => HN2.out (hnil3.1 e).1
                           have hsz3 : B ≤ w3.heap.size := Nat.le_trans hsz2 hk3.1.size
                           have hli : OutIs B w3 u6 ((lns R L k).map remOf) := (HL3a.out.ke HK2.out (by decide)).ke hk3 (by decide)
                           have HO3 := Lib.hid ho3
                           have HK3 := Lib.hid hk3
                           have HN3 := Lib.hid hnn3
                           have HLI := Lib.hid hli
                           clear hown3 hgrow3 hnil3 ho3 hk3 hnn3 hli)
                        | (at_builtin; refine wpList_append_own _ rfl (.tmp 74) (.tmp 76) 26 rfl B 9 i9 _ 1 16 Try.underlying26 HI9.out HZ9.out HS9.out HB9.out rfl (by decide) u6 _ _ rfl (own_keep HLI.out (fun g cs hb => hb.alloc _)) ⟨w3.heap.size, 0, none⟩ 1 1 [.string ⟨T.toArray⟩] rfl rfl ?ra ?rb ?rc ?rd ?re ?_
                           case ra => exact (Blk.add (l := [.string ⟨T.toArray⟩]) (Blk.new w3 9 _))
                           case rb => intro u hu; simp at hu; subst hu; rfl
                           case rc => simp [maxLen]; omega
                           case rd => simp; omega
                           case re => simp; omega
                           intro q4 w4 hown4 hgrow4 hnil4
                           have hk4 : Ke 9 B w3 w4 := (Ke.alloc hsz3 _).trans (ke_grown (own_keep HLI.out (fun g cs hb => hb.alloc _)) hgrow4 (by simp; omega))
                           have ho4 : OutIs B w4 q4 ((lns R L k).map remOf ++ [⟨T.toArray⟩]) := by unfold OutIs; rw [List.length_append, List.map_append]; exact hown4
                           have HO4 := Lib.hid ho4
                           have HK4 := Lib.hid hk4
                           clear hown4 hgrow4 hnil4 ho4 hk4))
                      go_roundg g
                      case measure => omega
                      case rel =>
                        refine ⟨k + 1, by go_num, by omega, ?_, HN3.out, ?_, ((HL4a.out.trans HK2.out.1).trans HK3.out.1).trans HK4.out.1⟩
                        · rw [HL5.out]
                          have h3 := HO3.out.ke HK4.out (by decide)
                          rw [show (docOf (lns R L k) ++ [97, 32, 61, 32, 53, 32]) ++ T ++ [10] = docOf (lns R L k) ++ Ln.text ⟨L.getD k false, remText z⟩ [] from HTX.out] at h3
                          exact h3
                        · rw [HL6.out, ← HTT.out]
                          exact HO4.out
                    | false =>
                      rw [hLb] at hc5
                      have HTX : Hid (docOf (lns R L k) ++ T ++ [10] = docOf (lns R L k) ++ Ln.text ⟨L.getD k false, remText z⟩ []) := by
                        show _ = _
                        rw [hLb, HTX0.out]
                        simp [Ln.text]
                      clear hLb
                      generalize wr = w1 at *
                      have HL3a := HL3
                      have HL4a := HL4
                      have hsz1 := HSZ.out
                      have hnn1 := HL2.out
                      go_wp2_with (first
                        | (fail)
                        | (at_builtin; refine Lib.wpList_append_own_string _ rfl (.tmp 69) (.tmp 70) 25 9 rfl B 5 i5 Try.underlying25 Try.underlying9 HI5.out HZ5.out HS5.out HB5.out u5 _ _ rfl (HL1.out) ⟨T.toArray⟩ rfl ?ta ?tb ?tc ?_
                           case ta => (show _ + T.toArray.size ≤ maxLen; simp [maxLen]; omega)
                           case tb => (show _ + T.toArray.size ≤ _; simp; omega)
                           case tc => omega
                           intro q2 w2 hown2 hgrow2 hnil2
                           have ho2 : Own8 B w2 q2 ((docOf (lns R L k)) ++ T) := by rw [strCells_mk] at hown2; exact Own8.app hown2
                           have hk2 : Ke 5 B w1 w2 := ke_grown (HL1.out) hgrow2 hsz1
                           have hnn2 : q2 ≠ .slice none 0 0 := fun e => hnn1 (hnil2.1 e).1
                           have hsz2 : B ≤ w2.heap.size := Nat.le_trans hsz1 hk2.1.size
                           have HO2 := Lib.hid ho2
                           have HK2 := Lib.hid hk2
                           have HN2 := Lib.hid hnn2
                           clear hown2 hgrow2 hnil2 ho2 hk2 hnn2)
                        | (at_builtin; refine wpList_append_own _ rfl (.tmp 71) (.tmp 72) 25 rfl B 5 i5 _ 1 1 Try.underlying25 HI5.out HZ5.out HS5.out HB5.out rfl (by decide) q2 _ _ rfl (own_keep HO2.out (fun g cs hb => hb.alloc _)) ⟨w2.heap.size, 0, none⟩ 1 1 [.int .u8 10] rfl rfl ?sa ?sb ?sc ?sd ?se ?_
                           case sa => exact (Blk.add (l := [.int .u8 10]) (Blk.new w2 5 _))
                           case sb => intro u hu; simp at hu; subst hu; rfl
                           case sc => simp [maxLen]; omega
                           case sd => simp; omega
                           case se => simp; omega
                           intro q3 w3 hown3 hgrow3 hnil3
                           have hk3 : Ke 5 B w2 w3 := (Ke.alloc hsz2 _).trans (ke_grown (own_keep HO2.out (fun g cs hb => hb.alloc _)) hgrow3 (by simp; omega))
                           have ho3 : Own8 B w3 q3 (((docOf (lns R L k)) ++ T) ++ [10]) := Own8.app hown3
                           have hnn3 : q3 ≠ .slice none 0 0 := fun e => HN2.out (hnil3.1 e).1
                           have hsz3 : B ≤ w3.heap.size := Nat.le_trans hsz2 hk3.1.size
                           have hli : OutIs B w3 u6 ((lns R L k).map remOf) := (HL3a.out.ke HK2.out (by decide)).ke hk3 (by decide)
                           have HO3 := Lib.hid ho3
                           have HK3 := Lib.hid hk3
                           have HN3 := Lib.hid hnn3
                           have HLI := Lib.hid hli
                           clear hown3 hgrow3 hnil3 ho3 hk3 hnn3 hli)
                        | (at_builtin; refine wpList_append_own _ rfl (.tmp 74) (.tmp 76) 26 rfl B 9 i9 _ 1 16 Try.underlying26 HI9.out HZ9.out HS9.out HB9.out rfl (by decide) u6 _ _ rfl (own_keep HLI.out (fun g cs hb => hb.alloc _)) ⟨w3.heap.size, 0, none⟩ 1 1 [.string ⟨T.toArray⟩] rfl rfl ?ra ?rb ?rc ?rd ?re ?_
                           case ra => exact (Blk.add (l := [.string ⟨T.toArray⟩]) (Blk.new w3 9 _))
                           case rb => intro u hu; simp at hu; subst hu; rfl
                           case rc => simp [maxLen]; omega
                           case rd => simp; omega
                           case re => simp; omega
                           intro q4 w4 hown4 hgrow4 hnil4
                           have hk4 : Ke 9 B w3 w4 := (Ke.alloc hsz3 _).trans (ke_grown (own_keep HLI.out (fun g cs hb => hb.alloc _)) hgrow4 (by simp; omega))
                           have ho4 : OutIs B w4 q4 ((lns R L k).map remOf ++ [⟨T.toArray⟩]) := by unfold OutIs; rw [List.length_append, List.map_append]; exact hown4
                           have HO4 := Lib.hid ho4
                           have HK4 := Lib.hid hk4
                           clear hown4 hgrow4 hnil4 ho4 hk4))
                      go_roundg g
                      case measure => omega
                      case rel =>
                        refine ⟨k + 1, by go_num, by omega, ?_, HN3.out, ?_, ((HL4a.out.trans HK2.out.1).trans HK3.out.1).trans HK4.out.1⟩
                        · rw [HL5.out]
                          have h3 := HO3.out.ke HK4.out (by decide)
                          rw [show (docOf (lns R L k)) ++ T ++ [10] = docOf (lns R L k) ++ Ln.text ⟨L.getD k false, remText z⟩ [] from HTX.out] at h3
                          exact h3
                        · rw [HL6.out, ← HTT.out]
                          exact HO4.out
                  · have hLf : L.getD k false = false := by
                      rw [List.getD_eq_getElem?_getD, List.getElem?_eq_none (by have := HLL.out; omega)]
                      rfl
                    have HTX : Hid (docOf (lns R L k) ++ T ++ [10] = docOf (lns R L k) ++ Ln.text ⟨L.getD k false, remText z⟩ []) := by
                      show _ = _
                      rw [hLf, HTX0.out]
                      simp [Ln.text]
                    clear hLf
                    generalize wr = w1 at *
                    have HL3a := HL3
                    have HL4a := HL4
                    have hsz1 := HSZ.out
                    have hnn1 := HL2.out
                    go_wp2_with (first
                      | (fail)
                      | (at_builtin; refine Lib.wpList_append_own_string _ rfl (.tmp 69) (.tmp 70) 25 9 rfl B 5 i5 Try.underlying25 Try.underlying9 HI5.out HZ5.out HS5.out HB5.out u5 _ _ rfl (HL1.out) ⟨T.toArray⟩ rfl ?ta ?tb ?tc ?_
                         case ta => (show _ + T.toArray.size ≤ maxLen; simp [maxLen]; omega)
                         case tb => (show _ + T.toArray.size ≤ _; simp; omega)
                         case tc => omega
                         intro q2 w2 hown2 hgrow2 hnil2
                         have ho2 : Own8 B w2 q2 ((docOf (lns R L k)) ++ T) := by rw [strCells_mk] at hown2; exact Own8.app hown2
                         have hk2 : Ke 5 B w1 w2 := ke_grown (HL1.out) hgrow2 hsz1
                         have hnn2 : q2 ≠ .slice none 0 0 := fun e => hnn1 (hnil2.1 e).1
                         have hsz2 : B ≤ w2.heap.size := Nat.le_trans hsz1 hk2.1.size
                         have HO2 := Lib.hid ho2
                         have HK2 := Lib.hid hk2
                         have HN2 := Lib.hid hnn2
                         clear hown2 hgrow2 hnil2 ho2 hk2 hnn2)
                      | (at_builtin; refine wpList_append_own _ rfl (.tmp 71) (.tmp 72) 25 rfl B 5 i5 _ 1 1 Try.underlying25 HI5.out HZ5.out HS5.out HB5.out rfl (by decide) q2 _ _ rfl (own_keep HO2.out (fun g cs hb => hb.alloc _)) ⟨w2.heap.size, 0, none⟩ 1 1 [.int .u8 10] rfl rfl ?sa ?sb ?sc ?sd ?se ?_
                         case sa => exact (Blk.add (l := [.int .u8 10]) (Blk.new w2 5 _))
                         case sb => intro u hu; simp at hu; subst hu; rfl
                         case sc => simp [maxLen]; omega
                         case sd => simp; omega
                         case se => simp; omega
                         intro q3 w3 hown3 hgrow3 hnil3
                         have hk3 : Ke 5 B w2 w3 := (Ke.alloc hsz2 _).trans (ke_grown (own_keep HO2.out (fun g cs hb => hb.alloc _)) hgrow3 (by simp; omega))
                         have ho3 : Own8 B w3 q3 (((docOf (lns R L k)) ++ T) ++ [10]) := Own8.app hown3
                         have hnn3 : q3 ≠ .slice none 0 0 := fun e => HN2.out (hnil3.1 e).1
                         have hsz3 : B ≤ w3.heap.size := Nat.le_trans hsz2 hk3.1.size
                         have hli : OutIs B w3 u6 ((lns R L k).map remOf) := (HL3a.out.ke HK2.out (by decide)).ke hk3 (by decide)
                         have HO3 := Lib.hid ho3
                         have HK3 := Lib.hid hk3
                         have HN3 := Lib.hid hnn3
                         have HLI := Lib.hid hli
                         clear hown3 hgrow3 hnil3 ho3 hk3 hnn3 hli)
                      | (at_builtin; refine wpList_append_own _ rfl (.tmp 74) (.tmp 76) 26 rfl B 9 i9 _ 1 16 Try.underlying26 HI9.out HZ9.out HS9.out HB9.out rfl (by decide) u6 _ _ rfl (own_keep HLI.out (fun g cs hb => hb.alloc _)) ⟨w3.heap.size, 0, none⟩ 1 1 [.string ⟨T.toArray⟩] rfl rfl ?ra ?rb ?rc ?rd ?re ?_
                         case ra => exact (Blk.add (l := [.string ⟨T.toArray⟩]) (Blk.new w3 9 _))
                         case rb => intro u hu; simp at hu; subst hu; rfl
                         case rc => simp [maxLen]; omega
                         case rd => simp; omega
                         case re => simp; omega
                         intro q4 w4 hown4 hgrow4 hnil4
                         have hk4 : Ke 9 B w3 w4 := (Ke.alloc hsz3 _).trans (ke_grown (own_keep HLI.out (fun g cs hb => hb.alloc _)) hgrow4 (by simp; omega))
                         have ho4 : OutIs B w4 q4 ((lns R L k).map remOf ++ [⟨T.toArray⟩]) := by unfold OutIs; rw [List.length_append, List.map_append]; exact hown4
                         have HO4 := Lib.hid ho4
                         have HK4 := Lib.hid hk4
                         clear hown4 hgrow4 hnil4 ho4 hk4))
                    go_roundg g
                    case measure => omega
                    case rel =>
                      refine ⟨k + 1, by go_num, by omega, ?_, HN3.out, ?_, ((HL4a.out.trans HK2.out.1).trans HK3.out.1).trans HK4.out.1⟩
                      · rw [HL5.out]
                        have h3 := HO3.out.ke HK4.out (by decide)
                        rw [show (docOf (lns R L k)) ++ T ++ [10] = docOf (lns R L k) ++ Ln.text ⟨L.getD k false, remText z⟩ [] from HTX.out] at h3
                        exact h3
                      · rw [HL6.out, ← HTT.out]
                        exact HO4.out
end Go.Proofs.Ytnlkbbpmpgdmiaa
