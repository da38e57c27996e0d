/- keysAre of equal strings. -/
import Derived.Test.YtnlkbbpmpgdmiaaAA
namespace Go.Proofs.Ytnlkbbpmpgdmiaa
open Go.RowKit
set_option linter.unusedVariables false
set_option linter.unusedSimpArgs false

/-- strings, to be read -/
def StrsAt (w : World) (v : Value) (ss : List ByteArray) : Prop := ∃ (o : Option Addr) (c g : Nat), v = .slice o ss.length c ∧ ss.length ≤ c ∧ c ≤ 9223372036854775807 ∧ ∀ i s, ss[i]? = some s → o = some ⟨g, 0, none⟩ ∧ w.cell? ⟨g, i, none⟩ = some (.string s)

theorem OutIs.strs {B : Nat} {w : World} {v : Value} {ss : List ByteArray} (h : OutIs B w v ss) : StrsAt w v ss := by
  obtain ⟨_, h2⟩ := h
  rcases h2 with ⟨rfl, h0⟩ | ⟨g, cap, cur, rfl, b, c, hn, hm, hs, ht⟩
  · have : ss = [] := List.eq_nil_of_length_eq_zero h0
    subst this
    exact ⟨none, 0, 0, rfl, Nat.le_refl _, by omega, fun i s hi => by simp at hi⟩
  · simp only [maxLen] at hm
    refine ⟨_, cap, g, rfl, hn, hm, fun i s hi => ⟨rfl, ?_⟩⟩
    have hil : i < ss.length := (List.getElem?_eq_some_iff.1 hi).1
    have h1 : (cur.toList.take (ss.length * 1))[i]? = (ss.map Value.string)[i]? := by rw [ht]
    rw [List.getElem?_take_of_lt (by omega)] at h1
    have hb : Blk w g 9 cur := c
    rw [hb.cell, ← Array.getElem?_toList, h1]
    simp [hi]

set_option maxRecDepth 100000 in
set_option maxHeartbeats 1000000 in
theorem keysAre_yes {w : World} {v v2 : Value} {ss : List ByteArray} (h : StrsAt w v ss) (h2 : StrsAt w v2 ss) : Calls Try.prog 11 #[v, v2] w (PtrIs (.bool true) w) := by
  obtain ⟨o, c, g, rfl, hc, hcb, h⟩ := h
  obtain ⟨o2, c2, g2, rfl, hc2, hcb2, h2⟩ := h2
  have H := Lib.hid h
  have H2 := Lib.hid h2
  clear h h2
  generalize hN : ss.length = N at *
  have HN := Lib.hid hN
  clear hN
  go_enter Try.func11, Try.ntmps11
  go_wp2_with fail
  go_loopg [5, 13] N (fun gg s5 s13 wx => ∃ k : Nat, s13 = .int .i64 k ∧ k + gg = N ∧ Hid (∃ n, wx = w.drewN n))
  case atStart => exact ⟨0, rfl, by omega, 0, rfl⟩
  case round =>
    obtain ⟨k, rfl, hk, HW⟩ := hrel
    obtain ⟨n, rfl⟩ := HW.out
    clear HW
    cases gk with
    | zero =>
      have hkn : ¬ ((k : Int) < N) := by omega
      go_wp2_with fail
      go_ret
      exact ⟨rfl, n, rfl⟩
    | succ g' =>
      have hkn : k < N := by omega
      have hs : ss[k]? = some (ss[k]'(by have := HN.out; omega)) := List.getElem?_eq_getElem _
      obtain ⟨e1, x1⟩ := H.out k _ hs
      obtain ⟨e2, x2⟩ := H2.out k _ hs
      generalize ss[k]'(by have := HN.out; omega) = s at *
      clear hs
      subst e1 e2
      have y1 : (w.drewN n).cell? ⟨g, k, none⟩ = some (.string s) := x1
      have y2 : (w.drewN n).cell? ⟨g2, k, none⟩ = some (.string s) := x2
      go_wp2_with fail
      go_quiet (fail)
      go_wp2_with fail
      go_roundg g'
      case measure => omega
      case rel => exact ⟨k + 1, by go_num, by omega, _, rfl⟩
end Go.Proofs.Ytnlkbbpmpgdmiaa
