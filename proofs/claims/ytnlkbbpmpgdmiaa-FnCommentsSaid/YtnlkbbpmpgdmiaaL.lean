/- parseKey for one key without quotes. -/
import Derived.Test.YtnlkbbpmpgdmiaaK
namespace Go.Proofs.Ytnlkbbpmpgdmiaa
open Go.RowKit
set_option linter.unusedVariables false
set_option linter.unusedSimpArgs false

/-- skipWhitespace at a place of the document -/
def SkipIs (b cap : Nat) (D l : List UInt8) (w : World) (e : Ending) (w' : World) : Prop :=
  ∃ a' k', e = .returned (.slice (some a') (skipWs l).length k') ∧ Pos b cap D (skipWs l) a' k' ∧ w = w'

theorem skip_pos {b cap k : Nat} {D l : List UInt8} {a : Addr} {w : World} (hi : Inp w b cap D) (hp : Pos b cap D l a k) : Calls Try.prog 34 #[.slice (some a) l.length k] w (SkipIs b cap D l w) := by
  have h1 := hp.room
  have h2 := hp.le
  have h3 := hi.fits
  have h4 := hi.bound
  refine (skipWs_any l b (D.length - l.length) k a w (hi.doc.suffix hp.suf) (by omega) (by omega) hp.addr).mono ?_
  rintro e w' ⟨v, rfl, hr, rfl⟩
  obtain ⟨a', k', rfl, hp'⟩ := hp.rest rfl h3 hr
  exact ⟨a', k', rfl, hp', rfl⟩

set_option maxRecDepth 100000 in
set_option maxHeartbeats 4000000 in
theorem parseKey_one {B g b cap k : Nat} {kc : Bool} {D q rest0 : List UInt8} {left err : Value} {nest : Nat} {ns : List Nd} {w : World} {a : Addr} (hps : PS B w g b cap kc D left ns err nest) (hi : Inp w b cap D) (hp : Pos b cap D (q ++ rest0) a k)
    (hq : ∀ c ∈ q, Bare c) (hne : 0 < q.length) (hr : ∀ c r, rest0 = c :: r → ¬ Bare c) (hn : ns.length ≤ 400000) (c : UInt8) (r : List UInt8) (hs : skipWs rest0 = c :: r) (hc46 : c.toNat ≠ 46) :
    Calls Try.prog 66 #[.pointer (some ⟨g, 0, none⟩), .slice (some a) (q.length + rest0.length) k] w (KeyRead B g b cap kc D left ns err nest q (skipWs rest0) w) := by
  have HS := Lib.hid hs
  have HI := Lib.hid hi
  have HP := Lib.hid hp
  have t46 : ((c.toNat : Int) == 46) = false := by simp; omega
  have t1 : decide ((0 : Int) < (r.length : Int) + 1) = true := by simp
  have hnn : ¬ ((ns.length : Int) + 1 = 0) := by omega
  clear hs
  go_enter Try.func66, Try.ntmps66
  go_wp2_with fail
  go_loopg [1, 7, 8] 0 (fun g b1 f l wx => b1 = .slice (some a) (q.length + rest0.length) k ∧ f = .int .i32 0 ∧ l = .int .i32 0 ∧ wx = w)
  case atStart => exact ⟨rfl, rfl, rfl, rfl⟩
  case round =>
    obtain ⟨rfl, rfl, rfl, rfl⟩ := hrel
    clear hi hp
    go_wp2_with fail
    refine (parseSimpleKey_bare hps HI.out HP.out hq hne hr hn).mono ?_
    rintro e w1 ⟨ro, rl, dv, a1, k1, rfl, hp1, hps1, hd1, hf1⟩
    have HP1 := Lib.hid hp1
    have HPS1 := Lib.hid hps1
    have HD1 := Lib.hid hd1
    have HF1 := Lib.hid hf1
    clear hp1 hps1 hd1 hf1 hr hq
    go_wp2_with fail
    refine (skip_pos (HI.out.kp HF1.out.2) HP1.out).mono ?_
    rintro e w2 ⟨a2, k2, rfl, hp2, rfl⟩
    have hx : w1.cell? a2 = some (.int .u8 c.toNat) := by
      have h1 := hp2.addr (by rw [HS.out]; simp)
      have h2 := (HI.out.kp HF1.out.2).doc.suffix hp2.suf
      rw [HS.out] at h1 h2
      rw [h1]
      exact h2.head.1
    have hl : (skipWs rest0).length = r.length + 1 := by rw [HS.out]; rfl
    have HP2 := Lib.hid hp2
    clear hp2
    rw [hl]
    have HL := Lib.hid hl
    clear hl
    go_wp2_with fail
    go_ret3
    rw [← HL.out]
    exact ⟨ro, rl, dv, a2, k2, rfl, HP2.out, HPS1.out, HD1.out, HF1.out⟩
end Go.Proofs.Ytnlkbbpmpgdmiaa
