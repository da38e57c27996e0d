/- An expression "a = 5 # ..", and NextExpression where remarks are kept. -/
import Derived.Test.YtnlkbbpmpgdmiaaQ
namespace Go.Proofs.Ytnlkbbpmpgdmiaa
open Go.RowKit
set_option linter.unusedVariables false
set_option linter.unusedSimpArgs false

/-- the nodes of the line -/
def lineNodes (r0 r1 r2 r3 r4 r5 r6 r7 : Int) (dk dv dc : Value) : List Nd := [⟨5, r0, r1, .slice none 0 0, 4, 3⟩, ⟨2, r2, r3, dk, 0, 0⟩, ⟨11, r4, r5, dv, 2, 0⟩, ⟨1, r6, r7, dc, 0, 0⟩]

def LineRead (B g b cap : Nat) (D : List UInt8) (left : Value) (err : Value) (nest : Nat) (p rest : List UInt8) (w : World) (e : Ending) (w' : World) : Prop :=
  ∃ r0 r1 r2 r3 r4 r5 r6 r7 dk dv dc a' k', e = .returned (.tuple #[.slice (some a') rest.length k', .nilIface]) ∧ Pos b cap D rest a' k' ∧
    PS B w' g b cap true D left (lineNodes r0 r1 r2 r3 r4 r5 r6 r7 dk dv dc) err nest ∧ DataIs w' dc (35 :: p) ∧ Fr B w w'

theorem kv_at (m : Nat) {B g b cap k : Nat} {kc : Bool} {D r : List UInt8} {left err : Value} {nest : Nat} {ns : List Nd} {w : World} {a : Addr} (hps : PS B w g b cap kc D left ns err nest) (hi : Inp w b cap D) (hp : Pos b cap D (aIs5 r) a k) (hn : ns.length ≤ 300000) (hm : m = r.length + 6) :
    Calls Try.prog 63 #[.pointer (some ⟨g, 0, none⟩), .slice (some a) m k] w (KvRead B g b cap kc D left ns err nest (32 :: r) w) := by
  subst hm
  exact parseKeyval_5 hps hi hp hn

set_option maxRecDepth 100000 in
set_option maxHeartbeats 400000 in
theorem exprLine {B g b cap k : Nat} {D p rest : List UInt8} {left err : Value} {nest : Nat} {w : World} {a : Addr} (hps : PS B w g b cap true D left [] err nest) (hi : Inp w b cap D) (hp : Pos b cap D (aIs5 (35 :: (p ++ 10 :: rest))) a k)
    (hpl : ∀ c ∈ p, Plain c) (m : Nat) (hm : m = (aIs5 (35 :: (p ++ 10 :: rest))).length) :
    Calls Try.prog 41 #[.pointer (some ⟨g, 0, none⟩), .slice (some a) m k] w (LineRead B g b cap D left err nest p rest w) := by
  have HP := Lib.hid hp
  have HI := Lib.hid hi
  have HPS := Lib.hid hps
  have HPL := Lib.hid hpl
  have HM := Lib.hid hm
  clear hp hi hps hpl hm
  go_enter Try.func41, Try.ntmps41
  go_wp2_with fail
  refine (kv_at m HPS.out HI.out HP.out (by simp) (by rw [HM.out]; simp)).mono ?_
  rintro e w1 ⟨r0, r1, r2, r3, r4, r5, dk, dv, a1, k1, he, hp1, hps1, hf1⟩
  simp only [List.length_nil, List.nil_append] at hps1
  have he' : e = .returned (.tuple #[.int .i32 1, .slice (some a1) (p.length + rest.length + 3) k1, .nilIface]) := by
    rw [he]
    simp
    omega
  clear he
  subst he'
  have HP1 := Lib.hid hp1
  have HPS1 := Lib.hid hps1
  have HF1 := Lib.hid hf1
  clear hp1 hps1 hf1
  go_wp2_with fail
  refine (finish_com (p := p) (rest := rest) HPS1.out (HI.out.kp HF1.out.2) (32 :: 35 :: (p ++ 10 :: rest)) (by simp [skipWs]) HP1.out HPL.out (by simp) 0 ⟨5, r0, r1, .slice none 0 0, 0, 0 + 3⟩ rfl rfl (p.length + rest.length + 3) (by simp; omega) 1 (by simp)).mono ?_
  rintro e w2 ⟨r6, r7, dc, a2, k2, he, hp2, hps2, hdc, hf2⟩
  subst he
  have HP2 := Lib.hid hp2
  have HPS2 := Lib.hid hps2
  have HF2 := Lib.hid hf2
  have HDC := Lib.hid hdc
  clear hp2 hps2 hf2 hdc
  go_wp2_with fail
  go_ret2
  exact ⟨r0, r1, r2, r3, r4, r5, r6, r7, dk, dv, dc, a2, k2, rfl, HP2.out, HPS2.out, HDC.out, HF1.out.trans HF2.out⟩

/-- what is left is written down anew -/
theorem PS.left {B g b cap : Nat} {kc : Bool} {D : List UInt8} {left err : Value} {nest : Nat} {ns : List Nd} {w w' : World} (h : PS B w g b cap kc D left ns err nest) (v : Value) (hw : w.setCell ⟨g, 2, none⟩ v = w') :
    PS B w' g b cap kc D v ns err nest ∧ Fr B w w' := by
  subst hw
  obtain ⟨A, V, hg, hBg, harn, hBw⟩ := h
  refine ⟨⟨A, V, hg.set_ 2 v, hBg, ?_, by simpa using hBw⟩, (Below.refl B w).setCell hBg _, Kp.set52 hg 2 v⟩
  rcases harn with h | ⟨gn, ncap, cur, junk, h1, hgn, h2⟩
  · exact .inl h
  · exact .inr ⟨gn, ncap, cur, junk, h1, hgn.far (Ne.symm (hg.ne_ hgn (by decide))) v, h2⟩

theorem PS.cells {B g b cap : Nat} {kc : Bool} {D : List UInt8} {left err : Value} {nest : Nat} {ns : List Nd} {w : World} (h : PS B w g b cap kc D left ns err nest) :
    w.cell? ⟨g, 2, none⟩ = some left ∧ w.cell? ⟨g, 4, none⟩ = some err ∧ (∀ i, w.frozen? ⟨g, i, none⟩ = false) ∧ g < w.heap.size := by
  obtain ⟨A, V, hg, hBg, harn, hBw⟩ := h
  exact ⟨by have := hg.cell 2; simpa using this, by have := hg.cell 4; simpa using this, fun i => hg.frozen i, hg.lt⟩

/-- the nodes are forgotten -/
theorem PS.trunc {B g b cap : Nat} {kc : Bool} {D : List UInt8} {left err : Value} {nest : Nat} {ns : List Nd} {w : World} (h : PS B w g b cap kc D left ns err nest) :
    ∃ (V V0 : Value), w.cell? ⟨g, 3, none⟩ = some V ∧ ((V = .slice none 0 0 ∧ V0 = .slice none 0 0) ∨ ∃ gn n c, V = .slice (some ⟨gn, 0, none⟩) n c ∧ n ≤ c ∧ V0 = .slice (some ⟨gn, 0, none⟩) 0 c ∧ c ≤ 1000000) ∧
      ∀ w', w.setCell ⟨g, 3, none⟩ V0 = w' → PS B w' g b cap kc D left [] err nest ∧ Fr B w w' := by
  obtain ⟨A, V, hg, hBg, harn, hBw⟩ := h
  have c3 : w.cell? ⟨g, 3, none⟩ = some V := by have := hg.cell 3; simpa using this
  rcases harn with ⟨rfl, rfl⟩ | ⟨gn, ncap, cur, junk, rfl, hgn, hcl, hcs, hBn, h64, hbig, hone⟩
  · refine ⟨_, _, c3, .inl ⟨rfl, rfl⟩, ?_⟩
    rintro w' rfl
    exact ⟨⟨A, _, hg.set_ 3 _, hBg, .inl ⟨rfl, rfl⟩, by simpa using hBw⟩, (Below.refl B w).setCell hBg _, Kp.set52 hg 3 _⟩
  · have hle : ns.length ≤ ncap := by
      have h1 : cur.toList.length = 7 * ncap := by rw [Array.length_toList]; exact hcs
      have hfl := flat_length g ns
      rw [hcl, List.length_append] at h1
      omega
    refine ⟨_, _, c3, .inr ⟨gn, ns.length, ncap, rfl, hle, rfl, hbig⟩, ?_⟩
    rintro w' rfl
    exact ⟨⟨A, _, hg.set_ 3 _, hBg, .inr ⟨gn, ncap, cur, cur.toList, rfl, hgn.far (Ne.symm (hg.ne_ hgn (by decide))) _, rfl, hcs, hBn, h64, hbig, fun x hx => by cases hx⟩, by simpa using hBw⟩, (Below.refl B w).setCell hBg _, Kp.set52 hg 3 _⟩
end Go.Proofs.Ytnlkbbpmpgdmiaa
