/- remarks of a line's root, and of a remark. -/
import Derived.Test.YtnlkbbpmpgdmiaaW
namespace Go.Proofs.Ytnlkbbpmpgdmiaa
open Go.RowKit
set_option linter.unusedVariables false
set_option linter.unusedSimpArgs false

def RootRel (w : World) (g gn it : Nat) (ns : List Nd) (v : Value) (gg : Nat) (s0 : Value) (wx : World) : Prop :=
  s0 = v ∧ Below w.heap.size w wx ∧ PN wx g gn ns ∧ ((gg = 2 ∧ Blk wx it 99 #[.bool false, ndOpt gn 3]) ∨ (gg = 1 ∧ Blk wx it 99 #[.bool true, ndPtr gn 2]) ∨ (gg = 0 ∧ Blk wx it 99 #[.bool true, ndPtr gn 1]))

set_option maxRecDepth 100000 in
set_option maxHeartbeats 2000000 in
theorem remarks_root {w : World} {g gn : Nat} {r0 r1 r2 r3 r4 r5 r6 r7 : Int} {dk dv dc : Value} (h : PN w g gn (lineNodes r0 r1 r2 r3 r4 r5 r6 r7 dk dv dc)) (v : Value) :
    Calls Try.prog 20 #[v, ndPtr gn 0] w (LeafIs v w) := by
  have c0 : w.cell? ⟨gn, 7 * 0, none⟩ = some (.int .i64 5) := h.kind (i := 0) (x := ⟨5, r0, r1, .slice none 0 0, 4, 3⟩) rfl
  have hk : ∀ x ∈ lineNodes r0 r1 r2 r3 r4 r5 r6 r7 dk dv dc, x.kind ≠ 0 := by
    intro x hx
    simp only [lineNodes, List.mem_cons, List.not_mem_nil, or_false] at hx
    rcases hx with rfl | rfl | rfl | rfl <;> simp
  have h0 : (lineNodes r0 r1 r2 r3 r4 r5 r6 r7 dk dv dc)[0]? = some ⟨5, r0, r1, .slice none 0 0, 4, 3⟩ := rfl
  have h1 : (lineNodes r0 r1 r2 r3 r4 r5 r6 r7 dk dv dc)[1]? = some ⟨2, r2, r3, dk, 0, 0⟩ := rfl
  have h2 : (lineNodes r0 r1 r2 r3 r4 r5 r6 r7 dk dv dc)[2]? = some ⟨11, r4, r5, dv, 2, 0⟩ := rfl
  have hlen : (lineNodes r0 r1 r2 r3 r4 r5 r6 r7 dk dv dc).length = 4 := rfl
  generalize lineNodes r0 r1 r2 r3 r4 r5 r6 r7 dk dv dc = ns at *
  have H := Lib.hid h
  have HK := Lib.hid hk
  have H0 := Lib.hid h0
  have H1 := Lib.hid h1
  have H2 := Lib.hid h2
  have HL := Lib.hid hlen
  have hgl : g < w.heap.size ∧ gn < w.heap.size := by obtain ⟨_, _, _, h3, h4, _⟩ := h; exact ⟨h3, h4⟩
  obtain ⟨hgl, hgnl⟩ := hgl
  clear h hk h0 h1 h2 hlen
  go_enter Try.func20, Try.ntmps20
  go_wp2_with fail
  refine (children_any H.out H0.out (by rw [HL.out]; simp) (by rw [HL.out]; simp)).mono ?_
  rintro e w1 ⟨rfl, hb1⟩
  have hsz := hb1.size
  have HB1 := Lib.hid hb1
  clear hb1
  go_wp2_with fail
  have HP2 : Hid (PN (w1.alloc (.cells #[.bool false, ndOpt gn 3] 99)) g gn ns) := (H.out.below HB1.out).alloc _
  generalize hw2 : w1.alloc (.cells #[.bool false, ndOpt gn 3] 99) = w2 at *
  have BI : Blk w2 w1.heap.size 99 #[.bool false, ndOpt gn 3] := by rw [← hw2]; exact Blk.new _ _ _
  have HB2 : Hid (Below w.heap.size w w2) := by rw [← hw2]; exact HB1.out.alloc hsz _
  generalize hit : w1.heap.size = it at *
  have hgi : g ≠ it := by omega
  have hgni : gn ≠ it := by omega
  clear hw2 hit
  go_loopg [0] 2 (fun gg s0 wx => RootRel w g gn it ns v gg s0 wx)
  case atStart => exact ⟨rfl, HB2.out, HP2.out, .inl ⟨rfl, BI⟩⟩
  case round =>
    obtain ⟨rfl, hbx, hpn, hst⟩ := hrel
    have HBX := Lib.hid hbx
    have HPX := Lib.hid hpn
    clear hbx hpn BI
    rcases hst with ⟨rfl, BI⟩ | ⟨rfl, BI⟩ | ⟨rfl, BI⟩
    · go_wp2_with fail
      refine (it_first HPX.out HK.out 3 (by rw [HL.out]; simp) BI hgi hgni).mono ?_
      rintro e w3 ⟨rfl, hw3⟩
      have B3 : Blk w3 it 99 #[.bool true, ndPtr gn 2] := by rw [← hw3]; exact BI.set_ 0 _
      have HP3 : Hid (PN w3 g gn ns) := by rw [← hw3]; exact HPX.out.set hgi hgni _
      have HB3 : Hid (Below w.heap.size w w3) := by rw [← hw3]; exact HBX.out.setCell (by show _ ≤ it; omega) _
      clear hw3 BI
      go_wp2_with fail
      refine (itNode_any B3).mono ?_
      rintro e w4 ⟨rfl, rfl⟩
      go_wp2_with fail
      refine (remarks_leaf HP3.out HK.out H2.out rfl (by simp) (by rw [HL.out]; simp) _).mono ?_
      rintro e w4 ⟨rfl, hb4⟩
      have B4 := B3.below hb4 B3.lt
      have HP4 : Hid (PN w4 g gn ns) := HP3.out.below hb4
      have HB4 : Hid (Below w.heap.size w w4) := HB3.out.trans (hb4.mono HB3.out.size)
      clear hb4
      go_wp2_with fail
      go_roundg 1
      case measure => omega
      case rel => exact ⟨rfl, HB4.out, HP4.out, .inr (.inl ⟨rfl, B4⟩)⟩
    · go_wp2_with fail
      refine (it_next HPX.out HK.out 2 _ H2.out (by rw [HL.out]; simp) (by rw [HL.out]; simp) BI hgi hgni).mono ?_
      rintro e w3 ⟨rfl, n, hw3⟩
      have B3 : Blk w3 it 99 #[.bool true, ndPtr gn 1] := by rw [hw3]; exact Blk.set_ (w := wr.drewN n) BI 1 _
      have HP3 : Hid (PN w3 g gn ns) := by rw [hw3]; exact PN.set (w := wr.drewN n) HPX.out hgi hgni _
      have HB3 : Hid (Below w.heap.size w w3) := by rw [hw3]; exact (HBX.out.trans (Fr.drewN wr n).1).setCell (by show _ ≤ it; omega) _
      clear hw3 BI
      go_wp2_with fail
      refine (itNode_any B3).mono ?_
      rintro e w4 ⟨rfl, rfl⟩
      go_wp2_with fail
      refine (remarks_leaf HP3.out HK.out H1.out rfl (by simp) (by rw [HL.out]; simp) _).mono ?_
      rintro e w4 ⟨rfl, hb4⟩
      have B4 := B3.below hb4 B3.lt
      have HP4 : Hid (PN w4 g gn ns) := HP3.out.below hb4
      have HB4 : Hid (Below w.heap.size w w4) := HB3.out.trans (hb4.mono HB3.out.size)
      clear hb4
      go_wp2_with fail
      go_roundg 0
      case measure => omega
      case rel => exact ⟨rfl, HB4.out, HP4.out, .inr (.inr ⟨rfl, B4⟩)⟩
    · go_wp2_with fail
      refine (it_next HPX.out HK.out 1 _ H1.out (by rw [HL.out]; simp) (by rw [HL.out]; simp) BI hgi hgni).mono ?_
      rintro e w3 ⟨rfl, n, hw3⟩
      have HB3 : Hid (Below w.heap.size w w3) := by rw [hw3]; exact (HBX.out.trans (Fr.drewN wr n).1).setCell (by show _ ≤ it; omega) _
      clear hw3 BI
      go_wp2_with fail
      go_ret
      exact ⟨rfl, HB3.out⟩
end Go.Proofs.Ytnlkbbpmpgdmiaa
