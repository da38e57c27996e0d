/- NextExpression at "a = 5 # ..". -/
import Derived.Test.YtnlkbbpmpgdmiaaT
namespace Go.Proofs.Ytnlkbbpmpgdmiaa
open Go.RowKit
set_option linter.unusedVariables false
set_option linter.unusedSimpArgs false

set_option maxRecDepth 100000 in
set_option maxHeartbeats 2000000 in
theorem next_line {B g b cap k : Nat} {D p rest : List UInt8} {ns : List Nd} {w : World} {a : Addr} (m : Nat) (hm : m = (aIs5 (35 :: (p ++ 10 :: rest))).length) (hps : PS B w g b cap true D (.slice (some a) m k) ns .nilIface 0) (hi : Inp w b cap D) (hp : Pos b cap D (aIs5 (35 :: (p ++ 10 :: rest))) a k) (hpl : ∀ c ∈ p, Plain c) :
    Calls Try.prog 18 #[.pointer (some ⟨g, 0, none⟩)] w (NextLine B g b cap D p rest w) := by
  have hfits := hi.fits
  have hbound := hi.bound
  have HPL := Lib.hid hpl
  have ha1 : 0 < m := by rw [hm]; simp
  have HM := Lib.hid hm
  clear hpl hm
  obtain ⟨V, V0, c3, hV, hT⟩ := hps.trunc
  obtain ⟨c2, c4, hfr, hgl⟩ := hps.cells
  have f3 := hfr 3
  have HP := Lib.hid hp
  have HI := Lib.hid hi
  have HPS := Lib.hid hps
  have HT := Lib.hid hT
  clear hp hi hps hT hfr
  rcases hV with ⟨rfl, rfl⟩ | ⟨gn, n, c, rfl, hnc, rfl, hcb⟩
  · go_enter Try.func18, Try.ntmps18
    go_wp2_with fail
    clear c2 c3 c4 f3 hgl
    generalize hw0 : w.setCell ⟨g, 3, none⟩ (.slice none 0 0) = w0
    obtain ⟨hps0, hf0⟩ := HT.out w0 hw0
    obtain ⟨c2, c4, hfr, hgl⟩ := hps0.cells
    have f2 := hfr 2
    have HPS0 := Lib.hid hps0
    have HF0 := Lib.hid hf0
    clear hps0 hf0 hfr hw0
    go_loopg [3] 0 (fun gg s3 wx => wx = w0)
    case atStart => rfl
    case round => (
                    subst hrel
                    go_wp2_with fail
                    refine (skip_at m (HI.out.kp HF0.out.2) HP.out HM.out).mono ?_
                    rintro e w1 ⟨a1, k1, he, hp1, rfl⟩
                    rw [show skipWs (aIs5 (35 :: (p ++ 10 :: rest))) = aIs5 (35 :: (p ++ 10 :: rest)) from by simp [skipWs]] at he hp1
                    rw [← HM.out] at he
                    subst he
                    have x1 : wr.cell? a1 = some (.int .u8 97) := by rw [hp1.addr (by simp)]; exact ((HI.out.kp HF0.out.2).doc.suffix hp1.suf).head.1
                    have HP1 := Lib.hid hp1
                    clear hp1
                    go_wp2_with fail
                    refine (exprLine HPS0.out (HI.out.kp HF0.out.2) HP1.out HPL.out m HM.out).mono ?_
                    rintro e w2 ⟨r0, r1, r2, r3, r4, r5, r6, r7, dk, dv, dc, a2, k2, he, hp2, hps2, hdc, hf2⟩
                    subst he
                    obtain ⟨d2, d4, dfr, dgl⟩ := hps2.cells
                    have df2 := dfr 2
                    have HP2 := Lib.hid hp2
                    have HPS2 := Lib.hid hps2
                    have HDC := Lib.hid hdc
                    have HF2 := Lib.hid hf2
                    clear hp2 hps2 hdc hf2 dfr x1
                    go_wp2_with fail
                    go_ret
                    exact ⟨rfl, r0, r1, r2, r3, r4, r5, r6, r7, dk, dv, dc, a2, k2, HP2.out, (HPS2.out.leftOk _).1, HDC.out.kp (HPS2.out.leftOk _).2.2, (HF0.out.trans HF2.out).trans (HPS2.out.leftOk _).2⟩)
  · go_enter Try.func18, Try.ntmps18
    go_wp2_with fail
    clear c2 c3 c4 f3 hgl
    generalize hw0 : w.setCell ⟨g, 3, none⟩ (.slice (some ⟨gn, 0, none⟩) 0 c) = w0
    obtain ⟨hps0, hf0⟩ := HT.out w0 hw0
    obtain ⟨c2, c4, hfr, hgl⟩ := hps0.cells
    have f2 := hfr 2
    have HPS0 := Lib.hid hps0
    have HF0 := Lib.hid hf0
    clear hps0 hf0 hfr hw0
    go_loopg [3] 0 (fun gg s3 wx => wx = w0)
    case atStart => rfl
    case round => (
                    subst hrel
                    go_wp2_with fail
                    refine (skip_at m (HI.out.kp HF0.out.2) HP.out HM.out).mono ?_
                    rintro e w1 ⟨a1, k1, he, hp1, rfl⟩
                    rw [show skipWs (aIs5 (35 :: (p ++ 10 :: rest))) = aIs5 (35 :: (p ++ 10 :: rest)) from by simp [skipWs]] at he hp1
                    rw [← HM.out] at he
                    subst he
                    have x1 : wr.cell? a1 = some (.int .u8 97) := by rw [hp1.addr (by simp)]; exact ((HI.out.kp HF0.out.2).doc.suffix hp1.suf).head.1
                    have HP1 := Lib.hid hp1
                    clear hp1
                    go_wp2_with fail
                    refine (exprLine HPS0.out (HI.out.kp HF0.out.2) HP1.out HPL.out m HM.out).mono ?_
                    rintro e w2 ⟨r0, r1, r2, r3, r4, r5, r6, r7, dk, dv, dc, a2, k2, he, hp2, hps2, hdc, hf2⟩
                    subst he
                    obtain ⟨d2, d4, dfr, dgl⟩ := hps2.cells
                    have df2 := dfr 2
                    have HP2 := Lib.hid hp2
                    have HPS2 := Lib.hid hps2
                    have HDC := Lib.hid hdc
                    have HF2 := Lib.hid hf2
                    clear hp2 hps2 hdc hf2 dfr x1
                    go_wp2_with fail
                    go_ret
                    exact ⟨rfl, r0, r1, r2, r3, r4, r5, r6, r7, dk, dv, dc, a2, k2, HP2.out, (HPS2.out.leftOk _).1, HDC.out.kp (HPS2.out.leftOk _).2.2, (HF0.out.trans HF2.out).trans (HPS2.out.leftOk _).2⟩)
end Go.Proofs.Ytnlkbbpmpgdmiaa
