/- The value 5; key and value. -/
import Derived.Test.YtnlkbbpmpgdmiaaN
namespace Go.Proofs.Ytnlkbbpmpgdmiaa
open Go.RowKit
set_option linter.unusedVariables false
set_option linter.unusedSimpArgs false

/-- a value without parts is read: a node more -/
def ValRead (kd : Nat) (B g b cap : Nat) (kc : Bool) (D : List UInt8) (left : Value) (ns : List Nd) (err : Value) (nest : Nat) (s rest : List UInt8) (w : World) (e : Ending) (w' : World) : Prop :=
  ∃ ro rl dv a' k', e = .returned (.tuple #[.int .i32 ((ns.length : Int) + 1), .slice (some a') rest.length k', .nilIface]) ∧ Pos b cap D rest a' k' ∧
    PS B w' g b cap kc D left (ns ++ [⟨kd, ro, rl, dv, 0, 0⟩]) err nest ∧ DataIs w' dv s ∧ Fr B w w'

set_option maxRecDepth 100000 in
set_option maxHeartbeats 4000000 in
theorem parseNum_5 {B g b cap k : Nat} {kc : Bool} {D r : List UInt8} {left err : Value} {nest : Nat} {ns : List Nd} {w : World} {a : Addr} (hps : PS B w g b cap kc D left ns err nest) (hi : Inp w b cap D) (hp : Pos b cap D (53 :: 32 :: r) a k) (hn : ns.length ≤ 400000) :
    Calls Try.prog 79 #[.pointer (some ⟨g, 0, none⟩), .slice (some a) (r.length + 2) k] w (ValRead 11 B g b cap kc D left ns err nest [53] (32 :: r) w) := by
  have ha := hp.addr (by simp)
  have hroom := hp.room
  have hle := hp.le
  have hfits := hi.fits
  have hbound := hi.bound
  simp only [List.length_cons] at hroom hle
  have HP := Lib.hid hp
  have HI := Lib.hid hi
  have HPS := Lib.hid hps
  generalize ho : D.length - (53 :: 32 :: r : List UInt8).length = o at *
  subst ha
  have HO := Lib.hid ho
  clear hp ho hi hps
  go_enter Try.func79, Try.ntmps79
  go_wp2_with fail
  refine (scanNum_5 r b o k w (by have := HI.out.doc.suffix HP.out.suf; rw [HO.out] at this; exact this) (by omega) (by omega)).mono ?_
  rintro e w1 ⟨v, rfl, hv, n, rfl⟩
  obtain ⟨a', k', rfl, hp2⟩ := HP.out.rest HO.out.symm hfits hv
  have HP2 := Lib.hid hp2
  clear hv hp2
  go_wp2_with fail
  obtain ⟨A, V, hg, -, -, -⟩ := HPS.out
  have hg2 : Blk (w.drewN n) g 52 _ := hg
  refine (Range_any hg2 ⟨b, o, none⟩ 1 k (by omega) (by have := HO.out; simp at this; omega) hbound.2 hfits).mono ?_
  rintro e w1 ⟨ro, rl, rfl, hb1⟩
  have hd : DataIs w (.slice (some ⟨b, o, none⟩) 1 k) [53] := HI.out.doc.data (p := []) (s := [53]) (q := 32 :: r) HP.out rfl hfits (fun _ => by rw [HO.out]; rfl) (by simp; omega)
  have HD := Lib.hid hd
  have hps1 := (HPS.out.drewN n).kp hb1
  have HB1 := Lib.hid hb1
  clear hg hg2 hd hb1
  go_wp2_with fail
  refine (push_any hps1 11 ro rl _ HD.out.one hn).mono ?_
  rintro e w2 ⟨rfl, hps2, hf2⟩
  have hf1 : Fr B w w1 := (Fr.drewN w n).trans (Fr.of_below HB1.out (by have := HPS.out; obtain ⟨_, _, _, _, _, h⟩ := this; exact h))
  have HPS2 := Lib.hid hps2
  have HF2 := Lib.hid hf2
  have HF1 := Lib.hid hf1
  clear hps1 hps2 hf2 hf1
  go_wp2_with fail
  go_ret3
  exact ⟨ro, rl, _, a', k', rfl, HP2.out, HPS2.out, (HD.out.kp HF1.out.2).kp HF2.out.2, HF1.out.trans HF2.out⟩

set_option maxRecDepth 100000 in
set_option maxHeartbeats 4000000 in
theorem parseVal_5 {B g b cap k : Nat} {kc : Bool} {D r : List UInt8} {left err : Value} {nest : Nat} {ns : List Nd} {w : World} {a : Addr} (hps : PS B w g b cap kc D left ns err nest) (hi : Inp w b cap D) (hp : Pos b cap D (53 :: 32 :: r) a k) (hn : ns.length ≤ 400000) :
    Calls Try.prog 69 #[.pointer (some ⟨g, 0, none⟩), .slice (some a) (r.length + 2) k] w (ValRead 11 B g b cap kc D left ns err nest [53] (32 :: r) w) := by
  have ha := hp.addr (by simp)
  have hroom := hp.room
  have hle := hp.le
  have hfits := hi.fits
  have hbound := hi.bound
  simp only [List.length_cons] at hroom hle
  have x0 : w.cell? a = some (.int .u8 53) := by rw [ha]; exact (hi.doc.suffix hp.suf).head.1
  have HB : Hid (Bts w b (D.length - (53 :: 32 :: r : List UInt8).length) (53 :: 32 :: r)) := hi.doc.suffix hp.suf
  have HP := Lib.hid hp
  have HI := Lib.hid hi
  have HPS := Lib.hid hps
  generalize ho : D.length - (53 :: 32 :: r : List UInt8).length = o at *
  subst ha
  have HO := Lib.hid ho
  clear hp ho hi hps
  go_enter Try.func69, Try.ntmps69
  go_wp2_with fail
  refine (dts_5 53 32 r b o k w (by decide) HB.out (by omega) (by omega)).mono ?_
  rintro e w1 ⟨rfl, rfl⟩
  go_wp2_with fail
  refine (parseNum_5 HPS.out HI.out HP.out hn).mono ?_
  rintro e w1 ⟨ro, rl, dv, a', k', rfl, hp1, hps1, hd1, hf1⟩
  have HP1 := Lib.hid hp1
  have HPS1 := Lib.hid hps1
  have HD1 := Lib.hid hd1
  have HF1 := Lib.hid hf1
  clear hp1 hps1 hd1 hf1
  go_wp2_with fail
  go_ret3
  exact ⟨ro, rl, dv, a', k', rfl, HP1.out, HPS1.out, HD1.out, HF1.out⟩
end Go.Proofs.Ytnlkbbpmpgdmiaa
