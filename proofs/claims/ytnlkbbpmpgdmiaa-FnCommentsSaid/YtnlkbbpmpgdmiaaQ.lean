/- The end of a line with a remark. -/
import Derived.Test.YtnlkbbpmpgdmiaaP
namespace Go.Proofs.Ytnlkbbpmpgdmiaa
open Go.RowKit
set_option linter.unusedVariables false
set_option linter.unusedSimpArgs false

/-- scanComment at a place of the document -/
def ComIs (b cap : Nat) (D p rest : List UInt8) (w : World) (e : Ending) (w' : World) : Prop :=
  ∃ a k n a' k', e = .returned (.tuple #[.slice (some a) (p.length + 1) k, .slice (some a') rest.length k', .nilIface]) ∧ Pos b cap D rest a' k' ∧ Pos b cap D (35 :: (p ++ rest)) a k ∧ DataIs w (.slice (some a) (p.length + 1) k) (35 :: p) ∧ w' = w.drewN n

theorem scan_at (m : Nat) {b cap k : Nat} {D p rest : List UInt8} {a : Addr} {w : World} (hi : Inp w b cap D) (hp : Pos b cap D (35 :: (p ++ rest)) a k) (hpl : ∀ c ∈ p, Plain c) (hr : LineEnd rest) (hm : m = p.length + rest.length + 1) :
    Calls Try.prog 36 #[.slice (some a) m k] w (ComIs b cap D p rest w) := by
  subst hm
  have h1 := hp.room
  have h2 := hp.le
  have h3 := hi.fits
  have h4 := hi.bound
  have h5 := hp.addr (by simp)
  simp only [List.length_cons, List.length_append] at h1 h2
  subst h5
  refine (scanComment_any 35 p rest hpl hr b _ k w (hi.doc.suffix hp.suf) (by omega) (by omega)).mono ?_
  rintro e w' ⟨v, rfl, hv, n, rfl⟩
  obtain ⟨a', k', rfl, hp2⟩ := hp.rest rfl h3 hv
  have hd := hi.doc.data (p := []) (s := 35 :: p) (q := rest) hp rfl h3 (a' := ⟨b, D.length - (35 :: (p ++ rest)).length, none⟩) (c := k) (fun _ => rfl) (by simp; omega)
  exact ⟨_, k, n, a', k', rfl, hp2, hp, hd, rfl⟩

/-- consumeEOL at a place of the document, ahead of a line's end -/
def EolIs (b cap : Nat) (D rest : List UInt8) (w : World) (e : Ending) (w' : World) : Prop :=
  ∃ a' k', e = .returned (.tuple #[.slice (some a') rest.length k', .nilIface]) ∧ Pos b cap D rest a' k' ∧ w = w'

theorem eol_at (m : Nat) {b cap k : Nat} {D l rest : List UInt8} {a : Addr} {w : World} (hi : Inp w b cap D) (hp : Pos b cap D l a k) (hl : eol l = some rest) (hm : m = l.length) :
    Calls Try.prog 37 #[.slice (some a) m k] w (EolIs b cap D rest w) := by
  subst hm
  have h1 := hp.room
  have h2 := hp.le
  have h3 := hi.fits
  have h4 := hi.bound
  refine (eol_any l b (D.length - l.length) k a w (hi.doc.suffix hp.suf) (by omega) (by omega) hp.addr).mono ?_
  intro e w' h
  rw [hl] at h
  obtain ⟨v, rfl, hv, rfl⟩ := h
  obtain ⟨a', k', rfl, hp'⟩ := hp.rest rfl h3 hv
  exact ⟨a', k', rfl, hp', rfl⟩

/-- a line is ended, with a remark that is kept -/
def FinRead (B g b cap : Nat) (D : List UInt8) (left : Value) (ns : List Nd) (i : Nat) (x : Nd) (err : Value) (nest : Nat) (p rest : List UInt8) (w : World) (e : Ending) (w' : World) : Prop :=
  ∃ ro rl dv a' k', e = .returned (.tuple #[.slice (some a') rest.length k', .nilIface]) ∧ Pos b cap D rest a' k' ∧
    PS B w' g b cap true D left (ns.set i { x with next := ns.length + 1 } ++ [⟨1, ro, rl, dv, 0, 0⟩]) err nest ∧ DataIs w' dv (35 :: p) ∧ Fr B w w'

theorem range_at {B g b cap : Nat} {kc : Bool} {D l : List UInt8} {left err : Value} {nest : Nat} {ns : List Nd} {w : World} (hps : PS B w g b cap kc D left ns err nest) (hf : D.length ≤ cap) (hb : D.length ≤ 140737488351232 ∧ cap ≤ 9223372036854775807) {a : Addr} {k : Nat} (hp : Pos b cap D l a k) (m : Nat) (hm : m ≤ l.length) :
    Calls Try.prog 39 #[.pointer (some ⟨g, 0, none⟩), .slice (some a) m k] w (RangeIs w) := by
  obtain ⟨A, V, hg, -, -, -⟩ := hps
  have h1 := hp.room
  have h2 := hp.le
  exact Range_any hg a m k (by omega) (by omega) hb.2 hf

theorem PS.le {B g b cap : Nat} {kc : Bool} {D : List UInt8} {left err : Value} {nest : Nat} {ns : List Nd} {w : World} (hps : PS B w g b cap kc D left ns err nest) : B ≤ w.heap.size := by
  obtain ⟨_, _, _, _, _, h⟩ := hps
  exact h
theorem PS.kcell {B g b cap : Nat} {kc : Bool} {D : List UInt8} {left err : Value} {nest : Nat} {ns : List Nd} {w : World} (hps : PS B w g b cap kc D left ns err nest) : w.cell? ⟨g, 0, none⟩ = some (.bool kc) ∧ g < w.heap.size := by
  obtain ⟨_, _, hg, _⟩ := hps
  exact ⟨by have := hg.cell 0; simpa using this, hg.lt⟩

set_option maxRecDepth 100000 in
set_option maxHeartbeats 8000000 in
theorem finish_com {B g b cap k : Nat} {D p rest : List UInt8} {left err : Value} {nest : Nat} {ns : List Nd} {w : World} {a : Addr} (hps : PS B w g b cap true D left ns err nest) (hi : Inp w b cap D) (l : List UInt8) (hl : skipWs l = 35 :: (p ++ 10 :: rest)) (hp : Pos b cap D l a k)
    (hpl : ∀ c ∈ p, Plain c) (hn : ns.length ≤ 300000) (i : Nat) (x : Nd) (hx : ns[i]? = some x) (hxd : x.data.oneCell' = true) (m : Nat) (hm : m = l.length) (h : Int) (hh : h = (i : Int) + 1) :
    Calls Try.prog 62 #[.pointer (some ⟨g, 0, none⟩), .int .i32 h, .slice (some a) m k] w (FinRead B g b cap D left ns i x err nest p rest w) := by
  have hfits := hi.fits
  have hbound := hi.bound
  have hin : i < ns.length := by
    rcases Nat.lt_or_ge i ns.length with h | h
    · exact h
    · rw [List.getElem?_eq_none h] at hx; cases hx
  have HP := Lib.hid hp
  have HI := Lib.hid hi
  have HPS := Lib.hid hps
  have HX := Lib.hid hx
  have HXD := Lib.hid hxd
  have HPL := Lib.hid hpl
  have HL := Lib.hid hl
  have HM := Lib.hid hm
  have HH := Lib.hid hh
  clear hp hi hps hx hxd hpl hl hm hh
  go_enter Try.func62, Try.ntmps62
  go_wp2_with fail
  refine (skip_at m HI.out HP.out HM.out).mono ?_
  rintro e w1 ⟨a1, k1, he, hp1, rfl⟩
  rw [HL.out] at he hp1
  have he' : e = .returned (.slice (some a1) (p.length + rest.length + 2) k1) := by
    rw [he]
    congr 2
    simp
    omega
  clear he
  subst he'
  have HP1 := Lib.hid hp1
  have x1 : w.cell? a1 = some (.int .u8 35) := by rw [hp1.addr (by simp)]; exact (HI.out.doc.suffix hp1.suf).head.1
  clear hp1
  go_wp2_with fail
  refine (scan_at (p.length + rest.length + 2) HI.out HP1.out HPL.out (.inr (.inl ⟨rest, rfl⟩)) (by simp; omega)).mono ?_
  rintro e w2 ⟨a2, k2, n, a3, k3, he, hp3, hp2, hd, rfl⟩
  simp only [List.length_cons] at he
  subst he
  have HP3 := Lib.hid hp3
  have HP2 := Lib.hid hp2
  have HD := Lib.hid hd
  have hps2 := HPS.out.drewN n
  obtain ⟨ck, hgl⟩ := hps2.kcell
  have HPS2 := Lib.hid hps2
  clear hp3 hp2 hd hps2 x1
  go_wp2_with fail
  refine (range_at HPS2.out hfits hbound HP2.out (p.length + 1) (by simp)).mono ?_
  rintro e w3 ⟨ro, rl, rfl, hb3⟩
  have hps3 := HPS2.out.kp hb3
  have hf3 : Fr B w w3 := (Fr.drewN w n).trans (Fr.of_below hb3 HPS2.out.le)
  have HPS3 := Lib.hid hps3
  have HF3 := Lib.hid hf3
  clear hb3 hps3 hf3 ck hgl
  go_wp2_with fail
  refine (push_any HPS3.out 1 ro rl _ HD.out.one (by omega)).mono ?_
  rintro e w4 ⟨rfl, hps4, hf4⟩
  obtain ⟨gn, hpn⟩ := hps4.pn (by simp)
  have hx4 : (ns ++ [(⟨1, ro, rl, .slice (some a2) (p.length + 1) k2, 0, 0⟩ : Nd)])[i]? = some x := by
    rw [List.getElem?_append_left hin]
    exact HX.out
  have cA := hpn.cellAt hx4 5 (by omega) (u := .int .i32 x.next) rfl
  have fA := hps4.nf hpn (7 * i + 5)
  have HPS4 := Lib.hid hps4
  have HF4 := Lib.hid hf4
  have HPN := Lib.hid hpn
  have HX4 := Lib.hid hx4
  clear hps4 hf4 hpn hx4
  go_wp2_with fail
  refine (at_at h HPN.out i (by simp; omega) (by simp; omega) HH.out).mono ?_
  rintro e w5 ⟨rfl, rfl⟩
  go_wp2_with fail
  generalize hw5 : w4.setCell ⟨gn, 7 * i + 5, none⟩ (.int .i32 ((ns.length : Int) + 1)) = w5
  obtain ⟨hps5, hf5, hpn5⟩ := PS.set' (ns' := ns.set i { x with next := ns.length + 1 } ++ [⟨1, ro, rl, .slice (some a2) (p.length + 1) k2, 0, 0⟩]) HPS4.out HPN.out { x with next := ns.length + 1 } HX4.out 5 (by omega) (.int .i32 ((ns.length : Int) + 1)) (by simp [Nd.cells]) HXD.out (by rw [List.set_append_left _ _ hin]) hw5
  have HPS5 := Lib.hid hps5
  have hf : Fr B w w5 := (HF3.out.trans HF4.out).trans hf5
  have HF := Lib.hid hf
  clear hps5 hf5 hpn5 hf hw5 cA fA
  refine (eol_at (rest.length + 1) (HI.out.kp HF.out.2) HP3.out (rest := rest) (eol_lf (by decide)) (by simp)).mono ?_
  rintro e w6 ⟨a6, k6, rfl, hp6, rfl⟩
  have HP6 := Lib.hid hp6
  clear hp6
  go_wp2_with fail
  go_ret2
  exact ⟨ro, rl, _, a6, k6, rfl, HP6.out, HPS5.out, HD.out.kp HF.out.2, HF.out⟩
end Go.Proofs.Ytnlkbbpmpgdmiaa
