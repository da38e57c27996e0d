/- impl.Comments. -/
import Derived.Test.YtnlkbbpmpgdmiaaU
import Derived.Test.YtnlkbbpmpgdmiaaY
import Derived.Test.YtnlkbbpmpgdmiaaZ
namespace Go.Proofs.Ytnlkbbpmpgdmiaa
open Go.RowKit
set_option linter.unusedVariables false
set_option linter.unusedSimpArgs false

/-- a line of the document: behind a value or not, its remark without the sign -/
structure Ln where
  behind : Bool
  p : List UInt8

def Ln.text (x : Ln) (r : List UInt8) : List UInt8 := if x.behind then aIs5 (35 :: (x.p ++ 10 :: r)) else 35 :: (x.p ++ 10 :: r)
def docOf : List Ln → List UInt8
  | [] => []
  | x :: t => x.text (docOf t)
def remOf (x : Ln) : ByteArray := ⟨(35 :: x.p).toArray⟩

/-- between two nodes behind a line's root -/
def InRel (g b cap : Nat) (D : List UInt8) (gn : Nat) (ns : List Nd) (left : Value) (p : List UInt8) (dn : List Ln) (w : World) (gg : Nat) (s5 s7 : Value) (wx : World) : Prop :=
  PS g wx g b cap true D left ns .nilIface 0 ∧ Inp wx b cap D ∧ Below g w wx ∧
  ((gg = 1 ∧ s7 = ndPtr gn 3 ∧ OutIs g wx s5 (dn.map remOf) ∧ PN wx g gn ns ∧ ∃ dc, DataIs wx dc (35 :: p) ∧ ∃ r6 r7, ns[3]? = some ⟨1, r6, r7, dc, 0, 0⟩) ∨
   (gg = 0 ∧ s7 = .pointer none ∧ OutIs g wx s5 ((dn ++ [(⟨true, p⟩ : Ln)]).map remOf)))

def ComsIs (ls : List Ln) (w : World) (e : Ending) (w' : World) : Prop := ∃ v', e = .returned (.tuple #[v', .bool true]) ∧ OutIs w.heap.size w' v' (ls.map remOf) ∧ Below w.heap.size w w'

theorem PS.kq {B g b cap : Nat} {kc : Bool} {D : List UInt8} {left err : Value} {nest : Nat} {ns : List Nd} {w w' : World} (h : PS B w g b cap kc D left ns err nest) (hk : Kq B w w') : PS B w' g b cap kc D left ns err nest := by
  obtain ⟨A, V, hg, hBg, harn, hBw⟩ := h
  refine ⟨A, V, hk.2 _ _ _ (by decide) hg, hBg, ?_, Nat.le_trans hBw hk.1.size⟩
  rcases harn with h | ⟨gn, ncap, cur, junk, h1, hgn, h2⟩
  · exact .inl h
  · exact .inr ⟨gn, ncap, cur, junk, h1, hk.2 _ _ _ (by decide) hgn, h2⟩

theorem PS.pnAt {B g b cap : Nat} {kc : Bool} {D : List UInt8} {left err : Value} {nest : Nat} {ns : List Nd} {w w' : World} (h : PS B w g b cap kc D left ns err nest) {gn : Nat} (hpn : PN w g gn ns) (hne : ns ≠ []) (hk : Kq B w w') : PN w' g gn ns := by
  have h' := h.kq hk
  obtain ⟨gn', hpn'⟩ := h'.pn hne
  have e : gn' = gn := by
    obtain ⟨A, V, hg, _⟩ := h
    obtain ⟨c, h1, _⟩ := hpn
    obtain ⟨c', h1', _⟩ := hpn'
    have k3 := hg.cell 3
    have k3' := (hk.2 _ _ _ (by decide) hg).cell 3
    rw [h1] at k3
    rw [h1'] at k3'
    rw [← k3] at k3'
    injection k3' with k
    injection k with k
    injection k with k
    injection k with k
  subst e
  exact hpn'

theorem Inp.kq {B : Nat} {w w' : World} {b cap : Nat} {D : List UInt8} (h : Inp w b cap D) (hk : Kq B w w') : Inp w' b cap D := by
  refine ⟨?_, h.fits, h.bound⟩
  rcases h.doc with h | ⟨cs, h1, h2⟩
  · exact .inl h
  · exact .inr ⟨cs, hk.2 _ _ _ (by decide) h1, h2⟩

/-- between two lines -/
def CRel (B g b cap : Nat) (D : List UInt8) (ls : List Ln) (w : World) (gg : Nat) (s5 : Value) (wx : World) : Prop :=
  ∃ (dn t : List Ln) (a : Addr) (k : Nat) (ns : List Nd), gg = t.length ∧ dn ++ t = ls ∧ OutIs B wx s5 (dn.map remOf) ∧ PS B wx g b cap true D (.slice (some a) (docOf t).length k) ns .nilIface 0 ∧ Pos b cap D (docOf t) a k ∧ Inp wx b cap D ∧ Below B w wx

set_option maxRecDepth 100000 in
set_option maxHeartbeats 2000000 in
theorem comments_any {w : World} {v : Value} {ls : List Ln} (hd : DataIs w v (docOf ls)) (hp : ∀ x ∈ ls, ∀ c ∈ x.p, Plain c) (hl : ls.length ≤ 900) (hb : (docOf ls).length ≤ 1000000) : Calls Try.prog 10 #[v] w (ComsIs ls w) := by
  have HD := Lib.hid hd
  have HPL := Lib.hid hp
  clear hd hp
  obtain ⟨blk, off, c, cs, a, hv, -⟩ := HD.out
  have HV := Lib.hid hv
  go_enter Try.func10, Try.ntmps10
  go_wp2_with fail
  have hd2 : DataIs (w.alloc (.cells #[.bool true, .slice none 0 0, .slice none 0 0, .slice none 0 0, .nilIface, .int .i64 0] 52)) (.slice (some a) (docOf ls).length c) (docOf ls) := by rw [← hv]; exact HD.out.kp (Kp.alloc w _)
  have HD2 := Lib.hid hd2
  clear hd2 hv
  have hsz : (w.alloc (.cells #[.bool true, .slice none 0 0, .slice none 0 0, .slice none 0 0, .nilIface, .int .i64 0] 52)).heap.size = w.heap.size + 1 := by simp
  have HSZ := Lib.hid hsz
  clear hsz
  refine (clone_any HD2.out hb).mono ?_
  rintro e w1 ⟨b, cap, A, rfl, hin, hps, hb1⟩
  have HIN := Lib.hid hin
  have HPS := Lib.hid hps
  have hg1 : Blk w1 w.heap.size 52 #[.bool true, .slice none 0 0, .slice none 0 0, .slice none 0 0, .nilIface, .int .i64 0] := (Blk.new w 52 _).below hb1 (by rw [HSZ.out]; omega)
  have HG1 := Lib.hid hg1
  have HB1 : Hid (Below w.heap.size w w1) := ((Below.refl _ w).alloc (Nat.le_refl _) _).trans (hb1.mono (by rw [HSZ.out]; omega))
  clear hin hps hg1 hb1
  go_wp2_with fail
  refine (reset_new HG1.out (some A) (docOf ls).length cap).mono ?_
  rintro e w2 ⟨rfl, hg2, hbl, hkp⟩
  generalize hg : w.heap.size = g at *
  have HG := Lib.hid hg
  have HR : Hid (CRel g g b cap (docOf ls) ls w ls.length (.slice none 0 0) w2) := ⟨[], ls, A, cap, [], rfl, rfl, ⟨rfl, .inl ⟨rfl, rfl⟩⟩, ⟨A, _, hg2, Nat.le_refl _, .inl ⟨rfl, rfl⟩, by have := hg2.lt; omega⟩, HPS.out, HIN.out.kp hkp, HB1.out.trans (hbl g (Nat.le_refl _))⟩
  clear hg2 hbl hkp
  go_wp2_with fail
  go_loopg [5, 6, 7] ls.length (fun gg s5 s6 s7 wx => CRel g g b cap (docOf ls) ls w gg s5 wx)
  case atStart => exact HR.out
  case round =>
    obtain ⟨dn, t, a', k, ns, rfl, hdn, ho, hps, hpos, hin, hbw⟩ := hrel
    have HDN := Lib.hid hdn
    have HO := Lib.hid ho
    have HP := Lib.hid hps
    have HPO := Lib.hid hpos
    have HIN2 := Lib.hid hin
    have HBW := Lib.hid hbw
    have hdl : dn.length ≤ 900 := by have := congrArg List.length hdn; simp at this; omega
    clear hdn ho hps hpos hin hbw hg HD2
    cases t with
    | nil =>
      have hps0 : PS g wr g b cap true (docOf ls) (.slice (some a') 0 k) ns .nilIface 0 := HP.out
      have HPS0 := Lib.hid hps0
      clear hps0
      go_wp2_with fail
      refine (next_end HPS0.out HIN2.out HPO.out).mono ?_
      rintro e w3 ⟨rfl, ⟨left, hps3⟩, hf3⟩
      have HPS3 := Lib.hid hps3
      have HF3 := Lib.hid hf3
      clear hps3 hf3
      go_wp2_with fail
      refine (error_any HPS3.out).mono ?_
      rintro e w4 ⟨rfl, rfl⟩
      go_wp2_with fail
      go_ret2
      refine ⟨u5, rfl, ?_, ?_⟩
      · have h1 := HO.out.kp HF3.out.2
        have h2 := HDN.out
        rw [List.append_nil] at h2
        subst h2
        rw [HG.out]
        exact h1
      · rw [HG.out]; exact HBW.out.trans HF3.out.1
    | cons x t =>
      have hxp : ∀ c ∈ x.p, Plain c := HPL.out x (by rw [← HDN.out]; simp)
      have HXP := Lib.hid hxp
      clear hxp
      obtain ⟨bh, p⟩ := x
      cases bh with
      | false =>
        have hps0 : PS g wr g b cap true (docOf ls) (.slice (some a') (p.length + (docOf t).length + 2) k) ns .nilIface 0 := by
          have h1 := HP.out
          rw [show (docOf (⟨false, p⟩ :: t)).length = p.length + (docOf t).length + 2 from by simp [docOf, Ln.text]; omega] at h1
          exact h1
        have HPS0 := Lib.hid hps0
        clear hps0
        go_wp2_with fail
        refine (next_com (p := p) (rest := docOf t) _ rfl HPS0.out HIN2.out HPO.out HXP.out).mono ?_
        rintro e w3 ⟨rfl, ro, rl, dv, a3, k3, hp3, hps3, hd3, hf3⟩
        obtain ⟨gn, hpn⟩ := hps3.pn (by simp)
        have HP3 := Lib.hid hp3
        have HPS3 := Lib.hid hps3
        have HD3 := Lib.hid hd3
        have HF3 := Lib.hid hf3
        have HPN := Lib.hid hpn
        clear hp3 hps3 hd3 hf3 hpn
        go_wp2_with fail
        refine (expr_any HPN.out (by simp)).mono ?_
        rintro e w4 ⟨rfl, rfl⟩
        go_wp2_with fail
        refine (remarks_com (B := g) HPN.out (i := 0) (x := ⟨1, ro, rl, dv, 0, 0⟩) rfl rfl HD3.out (HO.out.kp HF3.out.2) (by simp; omega) HPS3.out.le).mono ?_
        rintro e w4 ⟨v4, rfl, ho4, hk4⟩
        have hpn4 := HPS3.out.pnAt HPN.out (by simp) hk4
        have c0 : w4.cell? ⟨gn, 0, none⟩ = some (.int .i64 1) := hpn4.kind (i := 0) (x := ⟨1, ro, rl, dv, 0, 0⟩) rfl
        have HO4 := Lib.hid ho4
        have HK4 := Lib.hid hk4
        clear ho4 hk4 hpn4
        go_wp2_with fail
        go_roundg t.length
        case measure => simp
        case rel => exact ⟨dn ++ [⟨false, p⟩], t, a3, k3, _, rfl, by rw [← HDN.out]; simp, by rw [List.map_append]; exact HO4.out, HPS3.out.kq HK4.out, HP3.out, (HIN2.out.kp HF3.out.2).kq HK4.out, (HBW.out.trans HF3.out.1).trans HK4.out.1⟩
      | true =>
        have hps0 : PS g wr g b cap true (docOf ls) (.slice (some a') (aIs5 (35 :: (p ++ 10 :: docOf t))).length k) ns .nilIface 0 := HP.out
        have HPS0 := Lib.hid hps0
        clear hps0
        go_wp2_with fail
        refine (next_line (p := p) (rest := docOf t) _ rfl HPS0.out HIN2.out HPO.out HXP.out).mono ?_
        rintro e w3 ⟨rfl, r0, r1, r2, r3, r4, r5, r6, r7, dk, dv, dc, a3, k3, hp3, hps3, hd3, hf3⟩
        obtain ⟨gn, hpn⟩ := hps3.pn (by simp [lineNodes])
        have HP3 := Lib.hid hp3
        have HPS3 := Lib.hid hps3
        have HD3 := Lib.hid hd3
        have HF3 := Lib.hid hf3
        have HPN := Lib.hid hpn
        clear hp3 hps3 hd3 hf3 hpn
        go_wp2_with fail
        refine (expr_any HPN.out (by simp [lineNodes])).mono ?_
        rintro e w4 ⟨rfl, rfl⟩
        go_wp2_with fail
        refine (remarks_root HPN.out u5).mono ?_
        rintro e w4 ⟨rfl, hb4⟩
        have hpn4 := HPN.out.below hb4
        have hps4 := HPS3.out.kp hb4
        have hf4 : Fr g w3 w4 := Fr.of_below hb4 HPS3.out.le
        have c0 : w4.cell? ⟨gn, 0, none⟩ = some (.int .i64 5) := hpn4.kind (i := 0) (x := ⟨5, r0, r1, .slice none 0 0, 4, 3⟩) rfl
        have HPN4 := Lib.hid hpn4
        have HPS4 := Lib.hid hps4
        have HF4 := Lib.hid hf4
        clear hb4 hpn4 hps4 hf4
        go_wp2_with fail
        refine (next_some HPN4.out (i := 0) (x := ⟨5, r0, r1, .slice none 0 0, 4, 3⟩) rfl 3 rfl (by simp [lineNodes]) (by simp [lineNodes])).mono ?_
        rintro e w5 ⟨rfl, n5, rfl⟩
        go_wp2_with fail
        have hps5 := HPS4.out.drewN n5
        have hpn5 : PN (w4.drewN n5) g gn (lineNodes r0 r1 r2 r3 r4 r5 r6 r7 dk dv dc) := HPN4.out
        have hf5 : Fr g wr (w4.drewN n5) := (HF3.out.trans HF4.out).trans (Fr.drewN _ n5)
        have hd5 : DataIs (w4.drewN n5) dc (35 :: p) := (HD3.out.kp HF4.out.2).kp (Kp.drewN _ n5)
        have HR5 : Hid (InRel g b cap (docOf ls) gn (lineNodes r0 r1 r2 r3 r4 r5 r6 r7 dk dv dc) (.slice (some a3) (docOf t).length k3) p dn w 1 u5 (ndPtr gn 3) (w4.drewN n5)) :=
          ⟨hps5, HIN2.out.kp hf5.2, HBW.out.trans hf5.1, .inl ⟨rfl, rfl, HO.out.kp hf5.2, hpn5, dc, hd5, r6, r7, rfl⟩⟩
        clear hps5 hpn5 hf5 hd5
        go_loopg [5, 7] 1 (fun gg s5 s7 wx => InRel g b cap (docOf ls) gn (lineNodes r0 r1 r2 r3 r4 r5 r6 r7 dk dv dc) (.slice (some a3) (docOf t).length k3) p dn w gg s5 s7 wx)
        case atStart => exact HR5.out
        case round =>
          obtain ⟨hps6, hin6, hbw6, hst⟩ := hrel
          have HPS6 := Lib.hid hps6
          have HIN6 := Lib.hid hin6
          have HBW6 := Lib.hid hbw6
          clear hps6 hin6 hbw6 HR5
          rcases hst with ⟨rfl, rfl, ho6, hpn6, dc6, hd6, r6', r7', hx6⟩ | ⟨rfl, rfl, ho6⟩
          · have HO6 := Lib.hid ho6
            have HPN6 := Lib.hid hpn6
            have HD6 := Lib.hid hd6
            have HX6 := Lib.hid hx6
            clear ho6 hpn6 hd6 hx6
            go_wp2_with fail
            refine (remarks_com (B := g) HPN6.out (i := 3) (x := ⟨1, r6', r7', dc6, 0, 0⟩) HX6.out rfl HD6.out HO6.out (by simp; omega) HPS6.out.le).mono ?_
            rintro e w7 ⟨v7, rfl, ho7, hk7⟩
            have hpn7 := HPS6.out.pnAt HPN6.out (by simp [lineNodes]) hk7
            have HO7 := Lib.hid ho7
            have HK7 := Lib.hid hk7
            have HPN7 := Lib.hid hpn7
            clear ho7 hk7 hpn7
            go_wp2_with fail
            refine (next_nil HPN7.out (i := 3) (x := ⟨1, r6', r7', dc6, 0, 0⟩) HX6.out rfl).mono ?_
            rintro e w8 ⟨rfl, rfl⟩
            go_wp2_with fail
            go_roundg 0
            case measure => omega
            case rel => exact ⟨HPS6.out.kq HK7.out, HIN6.out.kq HK7.out, HBW6.out.trans HK7.out.1, .inr ⟨rfl, rfl, by rw [List.map_append]; exact HO7.out⟩⟩
          · have HO6 := Lib.hid ho6
            clear ho6
            go_wp2_with fail
            go_roundg t.length
            case measure => simp
            case rel => exact ⟨dn ++ [⟨true, p⟩], t, a3, k3, _, rfl, by rw [← HDN.out]; simp, HO6.out, HPS6.out, HP3.out, HIN6.out, HBW6.out⟩
end Go.Proofs.Ytnlkbbpmpgdmiaa
