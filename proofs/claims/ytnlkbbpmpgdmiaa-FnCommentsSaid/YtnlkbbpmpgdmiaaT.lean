/- NextExpression where remarks are kept. -/
import Derived.Test.YtnlkbbpmpgdmiaaS
namespace Go.Proofs.Ytnlkbbpmpgdmiaa
open Go.RowKit
set_option linter.unusedVariables false
set_option linter.unusedSimpArgs false

def NextEnd (B g b cap : Nat) (D : List UInt8) (w : World) (e : Ending) (w' : World) : Prop :=
  e = .returned (.bool false) ∧ (∃ left, PS B w' g b cap true D left [] .nilIface 0) ∧ Fr B w w'

def NextCom (B g b cap : Nat) (D p rest : List UInt8) (w : World) (e : Ending) (w' : World) : Prop :=
  e = .returned (.bool true) ∧ ∃ ro rl dv a' k', Pos b cap D rest a' k' ∧ PS B w' g b cap true D (.slice (some a') rest.length k') [⟨1, ro, rl, dv, 0, 0⟩] .nilIface 0 ∧ DataIs w' dv (35 :: p) ∧ Fr B w w'

def NextLine (B g b cap : Nat) (D p rest : List UInt8) (w : World) (e : Ending) (w' : World) : Prop :=
  e = .returned (.bool true) ∧ ∃ r0 r1 r2 r3 r4 r5 r6 r7 dk dv dc a' k', Pos b cap D rest a' k' ∧
    PS B w' g b cap true D (.slice (some a') rest.length k') (lineNodes r0 r1 r2 r3 r4 r5 r6 r7 dk dv dc) .nilIface 0 ∧ DataIs w' dc (35 :: p) ∧ Fr B w w'

theorem PS.leftOk {B g b cap : Nat} {kc : Bool} {D : List UInt8} {left err : Value} {nest : Nat} {ns : List Nd} {w : World} (h : PS B w g b cap kc D left ns err nest) (v : Value) :
    PS B (w.setCell ⟨g, 2, none⟩ v) g b cap kc D v ns err nest ∧ Fr B w (w.setCell ⟨g, 2, none⟩ v) := h.left v rfl

set_option maxRecDepth 100000 in
set_option maxHeartbeats 1000000 in
theorem next_end {B g b cap k : Nat} {D : List UInt8} {ns : List Nd} {w : World} {a : Addr} (hps : PS B w g b cap true D (.slice (some a) 0 k) ns .nilIface 0) (hi : Inp w b cap D) (hp : Pos b cap D [] a k) :
    Calls Try.prog 18 #[.pointer (some ⟨g, 0, none⟩)] w (NextEnd B g b cap D w) := by
  obtain ⟨V, V0, c3, hV, hT⟩ := hps.trunc
  obtain ⟨c2, c4, hfr, hgl⟩ := hps.cells
  have f3 := hfr 3
  have HP := Lib.hid hp
  have HI := Lib.hid hi
  have HPS := Lib.hid hps
  have HT := Lib.hid hT
  clear hp hi hps hT hfr
  rcases hV with ⟨rfl, rfl⟩ | ⟨gn, n, c, rfl, hnc, rfl, hcb⟩
  all_goals
    go_enter Try.func18, Try.ntmps18
    go_wp2_with fail
    clear c2 c3 c4 f3 hgl
  · generalize hw0 : w.setCell ⟨g, 3, none⟩ (.slice none 0 0) = w0
    obtain ⟨hps0, hf0⟩ := HT.out w0 hw0
    obtain ⟨c2, c4, hfr, hgl⟩ := hps0.cells
    have f2 := hfr 2
    have HPS0 := Lib.hid hps0
    have HF0 := Lib.hid hf0
    clear hps0 hf0 hfr hw0
    go_loopg [3] 0 (fun gg s3 wx => wx = w0)
    case atStart => rfl
    case round =>
      subst hrel
      go_wp2_with fail
      refine (skip_at 0 (HI.out.kp HF0.out.2) HP.out rfl).mono ?_
      rintro e w1 ⟨a1, k1, he, hp1, rfl⟩
      rw [show skipWs [] = [] from rfl] at he hp1
      simp only [List.length_nil] at he
      subst he
      clear hp1
      go_wp2_with fail
      go_ret
      exact ⟨rfl, ⟨_, (HPS0.out.leftOk _).1⟩, HF0.out.trans (HPS0.out.leftOk _).2⟩
  · generalize hw0 : w.setCell ⟨g, 3, none⟩ (.slice (some ⟨gn, 0, none⟩) 0 c) = w0
    obtain ⟨hps0, hf0⟩ := HT.out w0 hw0
    obtain ⟨c2, c4, hfr, hgl⟩ := hps0.cells
    have f2 := hfr 2
    have HPS0 := Lib.hid hps0
    have HF0 := Lib.hid hf0
    clear hps0 hf0 hfr hw0
    go_loopg [3] 0 (fun gg s3 wx => wx = w0)
    case atStart => rfl
    case round =>
      subst hrel
      go_wp2_with fail
      refine (skip_at 0 (HI.out.kp HF0.out.2) HP.out rfl).mono ?_
      rintro e w1 ⟨a1, k1, he, hp1, rfl⟩
      rw [show skipWs [] = [] from rfl] at he hp1
      simp only [List.length_nil] at he
      subst he
      clear hp1
      go_wp2_with fail
      go_ret
      exact ⟨rfl, ⟨_, (HPS0.out.leftOk _).1⟩, HF0.out.trans (HPS0.out.leftOk _).2⟩

set_option maxRecDepth 100000 in
set_option maxHeartbeats 2000000 in
theorem next_com {B g b cap k : Nat} {D p rest : List UInt8} {ns : List Nd} {w : World} {a : Addr} (m : Nat) (hm : m = p.length + rest.length + 2) (hps : PS B w g b cap true D (.slice (some a) m k) ns .nilIface 0) (hi : Inp w b cap D) (hp : Pos b cap D (35 :: (p ++ 10 :: rest)) a k) (hpl : ∀ c ∈ p, Plain c) :
    Calls Try.prog 18 #[.pointer (some ⟨g, 0, none⟩)] w (NextCom B g b cap D p rest w) := by
  have hfits := hi.fits
  have hbound := hi.bound
  have HPL := Lib.hid hpl
  have HM := Lib.hid hm
  have ha1 : 0 < m := by omega
  clear hpl hm
  obtain ⟨V, V0, c3, hV, hT⟩ := hps.trunc
  obtain ⟨c2, c4, hfr, hgl⟩ := hps.cells
  have f3 := hfr 3
  have HP := Lib.hid hp
  have HI := Lib.hid hi
  have HPS := Lib.hid hps
  have HT := Lib.hid hT
  clear hp hi hps hT hfr
  rcases hV with ⟨rfl, rfl⟩ | ⟨gn, n, c, rfl, hnc, rfl, hcb⟩
  · go_enter Try.func18, Try.ntmps18
    go_wp2_with fail
    clear c2 c3 c4 f3 hgl
    generalize hw0 : w.setCell ⟨g, 3, none⟩ (.slice none 0 0) = w0
    obtain ⟨hps0, hf0⟩ := HT.out w0 hw0
    obtain ⟨c2, c4, hfr, hgl⟩ := hps0.cells
    have f2 := hfr 2
    have HPS0 := Lib.hid hps0
    have HF0 := Lib.hid hf0
    clear hps0 hf0 hfr hw0
    go_loopg [3] 0 (fun gg s3 wx => wx = w0)
    case atStart => rfl
    case round => (
                    subst hrel
                    go_wp2_with fail
                    refine (skip_at m (HI.out.kp HF0.out.2) HP.out (by rw [HM.out]; simp; omega)).mono ?_
                    rintro e w1 ⟨a1, k1, he, hp1, rfl⟩
                    rw [show skipWs (35 :: (p ++ 10 :: rest)) = 35 :: (p ++ 10 :: rest) from by simp [skipWs]] at he hp1
                    have he' : e = .returned (.slice (some a1) (p.length + rest.length + 2) k1) := by
                      rw [he]
                      congr 2
                      simp
                      omega
                    clear he
                    subst he'
                    have x1 : wr.cell? a1 = some (.int .u8 35) := by rw [hp1.addr (by simp)]; exact ((HI.out.kp HF0.out.2).doc.suffix hp1.suf).head.1
                    have HP1 := Lib.hid hp1
                    clear hp1
                    go_wp2_with fail
                    refine (scan_at (p.length + rest.length + 2) (HI.out.kp HF0.out.2) HP1.out HPL.out (.inr (.inl ⟨rest, rfl⟩)) (by simp; omega)).mono ?_
                    rintro e w2 ⟨a2, k2, n2, a3, k3, he, hp3, hp2, hd, rfl⟩
                    simp only [List.length_cons] at he
                    subst he
                    have HP3 := Lib.hid hp3
                    have HP2 := Lib.hid hp2
                    have HD := Lib.hid hd
                    clear hp3 hp2 hd x1
                    go_wp2_with fail
                    refine (eol_at (rest.length + 1) ((HI.out.kp HF0.out.2).drewN n2) HP3.out (rest := rest) (eol_lf (by decide)) (by simp)).mono ?_
                    rintro e w6 ⟨a6, k6, rfl, hp6, rfl⟩
                    have HP6 := Lib.hid hp6
                    have hps2 := HPS0.out.drewN n2
                    obtain ⟨ck, hgl2⟩ := hps2.kcell
                    have HPS2 := Lib.hid hps2
                    clear hp6 hps2
                    go_wp2_with fail
                    refine (range_at HPS2.out hfits hbound HP2.out (p.length + 1) (by simp)).mono ?_
                    rintro e w3 ⟨ro, rl, rfl, hb3⟩
                    have hps3 := HPS2.out.kp hb3
                    have hf3 : Fr B w w3 := (HF0.out.trans (Fr.drewN _ n2)).trans (Fr.of_below hb3 HPS2.out.le)
                    have HPS3 := Lib.hid hps3
                    have HF3 := Lib.hid hf3
                    have HDk : Hid (DataIs w3 (.slice (some a2) (p.length + 1) k2) (35 :: p)) := (HD.out.kp (Kp.drewN _ n2)).kp (Kp.of_below hb3)
                    clear hb3 hps3 hf3 ck hgl2
                    go_wp2_with fail
                    refine (push_any HPS3.out 1 ro rl _ HD.out.one (by simp)).mono ?_
                    rintro e w4 ⟨rfl, hps4, hf4⟩
                    obtain ⟨d2, d4, dfr, dgl⟩ := hps4.cells
                    have df2 := dfr 2
                    have HPS4 := Lib.hid hps4
                    have HF4 := Lib.hid hf4
                    clear hps4 hf4 dfr
                    go_wp2_with fail
                    go_ret
                    exact ⟨rfl, ro, rl, _, a6, k6, HP6.out, (HPS4.out.leftOk _).1, (HDk.out.kp HF4.out.2).kp (HPS4.out.leftOk _).2.2, (HF3.out.trans HF4.out).trans (HPS4.out.leftOk _).2⟩)
  · go_enter Try.func18, Try.ntmps18
    go_wp2_with fail
    clear c2 c3 c4 f3 hgl
    generalize hw0 : w.setCell ⟨g, 3, none⟩ (.slice (some ⟨gn, 0, none⟩) 0 c) = w0
    obtain ⟨hps0, hf0⟩ := HT.out w0 hw0
    obtain ⟨c2, c4, hfr, hgl⟩ := hps0.cells
    have f2 := hfr 2
    have HPS0 := Lib.hid hps0
    have HF0 := Lib.hid hf0
    clear hps0 hf0 hfr hw0
    go_loopg [3] 0 (fun gg s3 wx => wx = w0)
    case atStart => rfl
    case round => (
                    subst hrel
                    go_wp2_with fail
                    refine (skip_at m (HI.out.kp HF0.out.2) HP.out (by rw [HM.out]; simp; omega)).mono ?_
                    rintro e w1 ⟨a1, k1, he, hp1, rfl⟩
                    rw [show skipWs (35 :: (p ++ 10 :: rest)) = 35 :: (p ++ 10 :: rest) from by simp [skipWs]] at he hp1
                    have he' : e = .returned (.slice (some a1) (p.length + rest.length + 2) k1) := by
                      rw [he]
                      congr 2
                      simp
                      omega
                    clear he
                    subst he'
                    have x1 : wr.cell? a1 = some (.int .u8 35) := by rw [hp1.addr (by simp)]; exact ((HI.out.kp HF0.out.2).doc.suffix hp1.suf).head.1
                    have HP1 := Lib.hid hp1
                    clear hp1
                    go_wp2_with fail
                    refine (scan_at (p.length + rest.length + 2) (HI.out.kp HF0.out.2) HP1.out HPL.out (.inr (.inl ⟨rest, rfl⟩)) (by simp; omega)).mono ?_
                    rintro e w2 ⟨a2, k2, n2, a3, k3, he, hp3, hp2, hd, rfl⟩
                    simp only [List.length_cons] at he
                    subst he
                    have HP3 := Lib.hid hp3
                    have HP2 := Lib.hid hp2
                    have HD := Lib.hid hd
                    clear hp3 hp2 hd x1
                    go_wp2_with fail
                    refine (eol_at (rest.length + 1) ((HI.out.kp HF0.out.2).drewN n2) HP3.out (rest := rest) (eol_lf (by decide)) (by simp)).mono ?_
                    rintro e w6 ⟨a6, k6, rfl, hp6, rfl⟩
                    have HP6 := Lib.hid hp6
                    have hps2 := HPS0.out.drewN n2
                    obtain ⟨ck, hgl2⟩ := hps2.kcell
                    have HPS2 := Lib.hid hps2
                    clear hp6 hps2
                    go_wp2_with fail
                    refine (range_at HPS2.out hfits hbound HP2.out (p.length + 1) (by simp)).mono ?_
                    rintro e w3 ⟨ro, rl, rfl, hb3⟩
                    have hps3 := HPS2.out.kp hb3
                    have hf3 : Fr B w w3 := (HF0.out.trans (Fr.drewN _ n2)).trans (Fr.of_below hb3 HPS2.out.le)
                    have HPS3 := Lib.hid hps3
                    have HF3 := Lib.hid hf3
                    have HDk : Hid (DataIs w3 (.slice (some a2) (p.length + 1) k2) (35 :: p)) := (HD.out.kp (Kp.drewN _ n2)).kp (Kp.of_below hb3)
                    clear hb3 hps3 hf3 ck hgl2
                    go_wp2_with fail
                    refine (push_any HPS3.out 1 ro rl _ HD.out.one (by simp)).mono ?_
                    rintro e w4 ⟨rfl, hps4, hf4⟩
                    obtain ⟨d2, d4, dfr, dgl⟩ := hps4.cells
                    have df2 := dfr 2
                    have HPS4 := Lib.hid hps4
                    have HF4 := Lib.hid hf4
                    clear hps4 hf4 dfr
                    go_wp2_with fail
                    go_ret
                    exact ⟨rfl, ro, rl, _, a6, k6, HP6.out, (HPS4.out.leftOk _).1, (HDk.out.kp HF4.out.2).kp (HPS4.out.leftOk _).2.2, (HF3.out.trans HF4.out).trans (HPS4.out.leftOk _).2⟩)
end Go.Proofs.Ytnlkbbpmpgdmiaa
