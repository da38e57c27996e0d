/- Walks of the parser's smallest functions. -/
import Derived.Test.YtnlkbbpmpgdmiaaM
namespace Go.Proofs.Ytnlkbbpmpgdmiaa
open Go.RowKit
set_option linter.unusedVariables false
set_option linter.unusedSimpArgs false

theorem skipWs_any (l : List UInt8) (b off cap : Nat) (a : Addr) (w : World) (hm : Bts w b off l) (hc : l.length ≤ cap) (hcb : l.length ≤ 140737488351232 ∧ cap ≤ 9223372036854775807) (ha : 0 < l.length → a = ⟨b, off, none⟩) :
    Calls Try.prog 34 #[.slice (some a) l.length cap] w fun e w' => ∃ v, e = .returned v ∧ Rest b off cap l (skipWs l) v ∧ w = w' := by
  have HM := Lib.hid hm
  have HA := Lib.hid ha
  clear hm ha
  go_enter Try.func34, Try.ntmps34
  go_wp2
  go_loop [0] (fun s => ∃ (q : List UInt8) (a' : Addr) (m k : Nat), s = .slice (some a') m k ∧ m = q.length ∧ q.length ≤ l.length ∧ k + l.length = cap + q.length ∧ Hid (q <:+ l ∧ skipWs l = skipWs q ∧ (0 < q.length → a' = ⟨b, off + (l.length - q.length), none⟩))) (fun s => slen s)
  case atStart => exact ⟨l, a, l.length, cap, rfl, rfl, by omega, by omega, List.suffix_refl _, rfl, fun h => by rw [HA.out h]; simp⟩
  case round =>
    obtain ⟨q, a', m, k, rfl, rfl, hq, hk, H⟩ := hrel
    cases q with
    | nil =>
      have HR : Hid (Rest b off cap l (skipWs l) (.slice (some a') 0 k)) := by
        obtain ⟨h1, h2, h3⟩ := H.out
        rw [h2]
        refine ⟨h1, a', ?_, fun h => by simp [skipWs] at h⟩
        simp [skipWs] at hk ⊢
        omega
      clear H
      go_wp2
      go_ret
      exact ⟨_, rfl, HR.out, rfl⟩
    | cons x r =>
      obtain ⟨h1, h2, h3⟩ := H.out
      have hx := (HM.out.suffix h1).head.1
      have ha' := h3 (by simp)
      have h4 := (List.suffix_cons x r).trans h1
      generalize hO : off + (l.length - (x :: r).length) = o at *
      subst ha'
      have hO1 : o + (r.length + 1) = off + l.length := by simp at hq hO; omega
      have hq' : r.length + 1 ≤ l.length := by simpa using hq
      have hk' : k + l.length = cap + (r.length + 1) := by simpa using hk
      have HO := Lib.hid hO
      have hk1 : 1 ≤ k := by omega
      have H1 := Lib.hid h1
      have H4 := Lib.hid h4
      have H2 := Lib.hid h2
      clear hO h1 h2 h3 h4 H hq hk
      by_cases e : x.toNat = 32 ∨ x.toNat = 9
      · have HS : Hid (skipWs l = skipWs r) := H2.out.trans (skipWs_yes e)
        have e2 : ((x.toNat : Int) == 32) = true ∨ ((x.toNat : Int) == 32) = false ∧ ((x.toNat : Int) == 9) = true := by
          rcases e with e | e
          · left; simp [e]
          · right; simp [e]
        clear e H2
        by_cases hk2 : k = 1
        · have hk3 := Lib.hid hk2
          rcases e2 with e2 | ⟨e2, e3⟩
          all_goals
            go_wp2
            go_round
            case rel => exact ⟨r, _, _, _, rfl, rfl, by omega, by have := hk3.out; omega, H4.out, HS.out, fun h => by have := hk3.out; omega⟩
            case measure => simp [slen]
        · rcases e2 with e2 | ⟨e2, e3⟩
          all_goals
            go_wp2
            go_round
            case rel => exact ⟨r, _, _, _, rfl, rfl, by omega, by omega, H4.out, HS.out, fun h => by rw [show o + 1 = off + (l.length - r.length) from by omega]⟩
            case measure => simp [slen]
      · have HR : Hid (Rest b off cap l (skipWs l) (.slice (some ⟨b, o, none⟩) (r.length + 1) k)) := by
          rw [H2.out, skipWs_no e]
          refine ⟨H1.out, ⟨b, o, none⟩, ?_, fun h => by rw [show off + (l.length - (x :: r).length) = o from HO.out]⟩
          rw [show cap - (l.length - (x :: r).length) = k from by simp; omega]
          rfl
        have e1 : ((x.toNat : Int) == 32) = false := by simp; omega
        have e2 : ((x.toNat : Int) == 9) = false := by simp; omega
        clear e H2
        go_wp2
        go_ret
        exact ⟨_, rfl, HR.out, rfl⟩

/-- the answer of a reader that takes a part of a line and hands the rest on -/
def RestOr (b off cap : Nat) (l : List UInt8) (o : Option (List UInt8)) (w : World) (e : Ending) (w' : World) : Prop :=
  match o with
  | some r => ∃ v, e = .returned (.tuple #[v, .nilIface]) ∧ Rest b off cap l r v ∧ w = w'
  | none => ∃ x, e = .returned (.tuple #[.slice none 0 0, x]) ∧ IsErr w' x ∧ Below w.heap.size w w'

theorem eol_any (l : List UInt8) (b off cap : Nat) (a : Addr) (w : World) (hm : Bts w b off l) (hc : l.length ≤ cap) (hcb : l.length ≤ 140737488351232 ∧ cap ≤ 9223372036854775807) (ha : 0 < l.length → a = ⟨b, off, none⟩) :
    Calls Try.prog 37 #[.slice (some a) l.length cap] w (RestOr b off cap l (eol l) w) := by
  cases l with
  | nil =>
    go_enter Try.func37, Try.ntmps37
    go_wp2
    go_ret2
    exact ⟨_, rfl, ⟨List.suffix_refl _, a, by simp, fun h => by simp at h⟩, rfl⟩
  | cons c r =>
    have ha1 := ha (by simp)
    subst ha1
    have h0 := hm.head.1
    have h1 := hm.head.2
    have hr : r.length + 1 ≤ cap := by simpa using hc
    clear hm hc ha
    by_cases e10 : c.toNat = 10
    · have t : ((c.toNat : Int) == 10) = true := by simp [e10]
      have HE := Lib.hid (eol_lf (r := r) e10)
      clear e10
      by_cases hk : cap = 1
      · go_enter Try.func37, Try.ntmps37
        go_wp2
        go_ret2
        rw [HE.out]
        exact ⟨_, rfl, Rest.drop 1 rfl (by simp) (by omega) (by simp) (fun h => by simp at h; omega), rfl⟩
      · go_enter Try.func37, Try.ntmps37
        go_wp2
        go_ret2
        rw [HE.out]
        exact ⟨_, rfl, Rest.drop 1 rfl (by simp) (by omega) (by simp) (fun h => rfl), rfl⟩
    · have t10 : ((c.toNat : Int) == 10) = false := by simp; omega
      by_cases e13 : c.toNat = 13
      · have t13 : ((c.toNat : Int) == 13) = true := by simp [e13]
        cases r with
        | nil =>
          have HE := Lib.hid (eol_cr (r := []) e13 (fun d q h => by cases h))
          clear e10 e13
          go_enter Try.func37, Try.ntmps37
          go_wp2_with fail
          refine (newErr_any _ _ _ _ _).mono ?_
          rintro e w1 ⟨v, rfl, hv, hb⟩
          go_wp2_with fail
          go_ret2
          rw [HE.out]
          exact ⟨_, rfl, hv, hb⟩
        | cons d q =>
          have h2 := h1.head.1
          by_cases d10 : d.toNat = 10
          · have HE := Lib.hid (eol_crlf (r := q) e13 d10)
            have u10 : ((d.toNat : Int) == 10) = true := by simp [d10]
            have hr2 : 2 ≤ cap := by simp at hr; omega
            have hr3 : q.length + 2 ≤ cap := by simp at hr; omega
            clear e10 e13 d10 h1 hr
            by_cases hk : cap = 2
            · go_enter Try.func37, Try.ntmps37
              go_wp2
              go_ret2
              rw [HE.out]
              exact ⟨_, rfl, Rest.drop 2 rfl (by simp) (by omega) (by simp) (fun h => by simp at h; omega), rfl⟩
            · go_enter Try.func37, Try.ntmps37
              go_wp2
              go_ret2
              rw [HE.out]
              exact ⟨_, rfl, Rest.drop 2 rfl (by simp) (by omega) (by simp) (fun h => rfl), rfl⟩
          · have HE := Lib.hid (eol_cr (r := d :: q) e13 (fun x y h => by injection h with h1 _; rw [← h1]; exact d10))
            have u10 : ((d.toNat : Int) == 10) = false := by simp; omega
            have hr2 : 2 ≤ cap := by simp at hr; omega
            clear e10 e13 d10 h1
            go_enter Try.func37, Try.ntmps37
            go_wp2_with fail
            refine (newErr_any _ _ _ _ _).mono ?_
            rintro e w1 ⟨v, rfl, hv, hb⟩
            go_wp2_with fail
            go_ret2
            rw [HE.out]
            exact ⟨_, rfl, hv, hb⟩
      · have t13 : ((c.toNat : Int) == 13) = false := by simp; omega
        have HE := Lib.hid (eol_other (r := r) e10 e13)
        clear e10 e13
        go_enter Try.func37, Try.ntmps37
        go_wp2_with fail
        refine (newErr_any _ _ _ _ _).mono ?_
        rintro e w1 ⟨v, rfl, hv, hb⟩
        go_wp2_with fail
        go_ret2
        rw [HE.out]
        exact ⟨_, rfl, hv, hb⟩
end Go.Proofs.Ytnlkbbpmpgdmiaa
