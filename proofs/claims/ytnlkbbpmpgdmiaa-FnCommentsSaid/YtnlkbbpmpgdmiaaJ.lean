/- Keys without quotes. -/
import Derived.Test.YtnlkbbpmpgdmiaaI
namespace Go.Proofs.Ytnlkbbpmpgdmiaa
open Go.RowKit
set_option linter.unusedVariables false
set_option linter.unusedSimpArgs false

def KeyOk (b off cap m : Nat) (l r : List UInt8) (w : World) (e : Ending) (w' : World) : Prop :=
  ∃ v, e = .returned (.tuple #[.slice (some ⟨b, off, none⟩) m cap, .slice (some ⟨b, off, none⟩) m cap, v, .nilIface]) ∧ Rest b off cap l r v ∧ ∃ n, w' = w.drewN n

theorem key_fin {w w' : World} {b off cap k R k2 c2 k3 c3' m c3 : Nat} {q rest : List UInt8} (hR : rest.length = R) (hk : k = q.length) (hc : q.length + R ≤ cap) {A : Addr} (hA : 0 < R → A = ⟨b, off + k, none⟩)
    (e1 : k2 = k) (e2 : c2 = cap) (e1' : k3 = k) (e2' : c3' = cap) (e3 : m = R) (e4 : c3 = cap - k) (hw : ∃ n, w' = w.drewN n) :
    KeyOk b off cap q.length (q ++ rest) rest w (.returned (.tuple #[.slice (some ⟨b, off, none⟩) k2 c2, .slice (some ⟨b, off, none⟩) k3 c3', .slice (some A) m c3, .nilIface])) w' := by
  subst hk hR e1 e2 e3 e4 e1' e2'
  refine ⟨_, rfl, Rest.drop q.length (by simp) (by simp) rfl (by simp) (fun h => hA (by simp at h; omega)), hw⟩

set_option maxRecDepth 100000 in
set_option maxHeartbeats 4000000 in
theorem scanKey_bare (q rest : List UInt8) (hq : ∀ c ∈ q, Bare c) (hne : 0 < q.length) (hr : ∀ c r, rest = c :: r → ¬ Bare c) (pv : Value) (b off cap : Nat) (w : World) (hm : Bts w b off (q ++ rest)) (hc : q.length + rest.length ≤ cap) (hcb : q.length + rest.length ≤ 140737488351232 ∧ cap ≤ 9223372036854775807) :
    Calls Try.prog 82 #[pv, .slice (some ⟨b, off, none⟩) (q.length + rest.length) cap] w (KeyOk b off cap q.length (q ++ rest) rest w) := by
  have h0 : ∃ c r, q = c :: r := by cases q with | nil => simp at hne | cons c r => exact ⟨c, r, rfl⟩
  obtain ⟨c0, r0, h0⟩ := h0
  have hb0 : Bare c0 := hq c0 (by rw [h0]; simp)
  have hc0 : w.cell? ⟨b, off, none⟩ = some (.int .u8 c0.toNat) := by rw [h0] at hm; exact hm.head.1
  have t39 : ((c0.toNat : Int) == 39) = false := by unfold Bare at hb0; simp; omega
  have t34 : ((c0.toNat : Int) == 34) = false := by unfold Bare at hb0; simp; omega
  have HM := Lib.hid hm
  have HQ := Lib.hid hq
  have HR := Lib.hid hr
  clear hm hq hr h0 hb0
  generalize hRl : rest.length = R at *
  have HRR := Lib.hid hRl
  generalize hQl : q.length = N at *
  have HNN := Lib.hid hQl
  clear hRl hQl
  have tz : ((N : Int) + (R : Int) == 0) = false := by simp; omega
  go_enter Try.func82, Try.ntmps82
  go_wp2_with fail
  clear hc0 t39 t34
  go_loopg [8] N (fun g i wr => ∃ k : Nat, i = .int .i64 k ∧ k + g = N ∧ wr = w)
  case atStart => exact ⟨0, rfl, by omega, rfl⟩
  case round =>
    obtain ⟨k, rfl, hk, rfl⟩ := hrel
    cases gk with
    | zero =>
      have hkN : k = N := by omega
      subst hkN
      clear hk
      by_cases h0 : R = 0
      · have tb : ¬ ((k : Int) < (k : Int) + R) := by omega
        by_cases hcap : cap = k
        · go_wp2_with fail
          go_quiet (fail)
          go_wp2
          refine bodyPost_ret (v := .tuple #[.slice (some ⟨b, off, none⟩) k k, .slice (some ⟨b, off, none⟩) k k, .slice (some ⟨b, off, none⟩) 0 0, .nilIface]) (by simp [results, Try.results82, go_sem]) rfl ?_
          rw [show KeyOk b off cap k = KeyOk b off cap q.length from by rw [HNN.out]]
          exact key_fin HRR.out HNN.out.symm (by have := HNN.out; omega) (fun h => by omega) rfl hcap.symm rfl hcap.symm h0.symm (by omega) ⟨_, rfl⟩
        · go_wp2_with fail
          go_quiet (fail)
          go_wp2
          refine bodyPost_ret (v := .tuple #[.slice (some ⟨b, off, none⟩) k cap, .slice (some ⟨b, off, none⟩) k cap, .slice (some ⟨b, off + k, none⟩) 0 (cap - k), .nilIface]) (by simp [results, Try.results82, go_sem]) rfl ?_
          rw [show KeyOk b off cap k = KeyOk b off cap q.length from by rw [HNN.out]]
          exact key_fin HRR.out HNN.out.symm (by have := HNN.out; omega) (fun h => rfl) rfl rfl rfl rfl h0.symm rfl ⟨_, rfl⟩
      · have hcap : ¬ cap = k := by omega
        have tb : (k : Int) < (k : Int) + R := by omega
        have hx : ∃ c r, rest = c :: r := by
          cases rest with
          | nil => have := HRR.out; simp at this; omega
          | cons c r => exact ⟨c, r, rfl⟩
        obtain ⟨c, r, rfl⟩ := hx
        have hcc : wr.cell? ⟨b, off + k, none⟩ = some (.int .u8 c.toNat) := by
          have := (Bts.post HM.out).head.1
          rw [HNN.out] at this
          exact this
        have hnb : decide (Bare c) = false := decide_eq_false (HR.out c r rfl)
        go_wp2_with fail
        refine (isBare_any c wr).mono ?_
        rintro e w1 ⟨rfl, rfl⟩
        go_wp2_with fail
        go_quiet (fail)
        go_wp2
        refine bodyPost_ret (v := .tuple #[.slice (some ⟨b, off, none⟩) k cap, .slice (some ⟨b, off, none⟩) k cap, .slice (some ⟨b, off + k, none⟩) R (cap - k), .nilIface]) (by simp [results, Try.results82, go_sem]) rfl ?_
        rw [show KeyOk b off cap k = KeyOk b off cap q.length from by rw [HNN.out]]
        exact key_fin HRR.out HNN.out.symm (by have := HNN.out; omega) (fun h => rfl) rfl rfl rfl rfl rfl rfl ⟨_, rfl⟩
    | succ g =>
      have hkN : k < N := by omega
      have tb : (k : Int) < (N : Int) + R := by omega
      have hx : ∃ c t, q.drop k = c :: t := by
        cases hd : q.drop k with
        | nil => have := congrArg List.length hd; have h2 := HNN.out; simp at this; omega
        | cons c r => exact ⟨c, r, rfl⟩
      obtain ⟨c, t, hd⟩ := hx
      have hcc : wr.cell? ⟨b, off + k, none⟩ = some (.int .u8 c.toNat) := by
        have h1 := (Bts.pre HM.out).drop k (by have := HNN.out; omega)
        rw [hd] at h1
        exact h1.head.1
      have hnb : decide (Bare c) = true := decide_eq_true (HQ.out c (List.mem_of_mem_drop (by rw [hd]; simp)))
      clear hd
      go_wp2_with fail
      refine (isBare_any c wr).mono ?_
      rintro e w1 ⟨rfl, rfl⟩
      go_wp2_with fail
      go_roundg g
      case measure => omega
      case rel => exact ⟨k + 1, by go_num, by omega, rfl⟩
end Go.Proofs.Ytnlkbbpmpgdmiaa
