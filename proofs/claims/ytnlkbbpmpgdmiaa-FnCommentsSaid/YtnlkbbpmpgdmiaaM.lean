/- The parser as plain functions on lists of bytes (its text, told in Lean; no program in sight). -/
import Derived.Test.YtnlkbbpmpgdmiaaA
namespace Go.Proofs.Ytnlkbbpmpgdmiaa
open Go.RowKit
set_option linter.unusedVariables false
set_option linter.unusedSimpArgs false

/-- blanks ahead are left out -/
def skipWs : List UInt8 → List UInt8
  | [] => []
  | c :: r => if c.toNat = 32 ∨ c.toNat = 9 then skipWs r else c :: r

theorem skipWs_suffix (l : List UInt8) : skipWs l <:+ l := by
  induction l with
  | nil => exact List.suffix_refl _
  | cons c r ih =>
    unfold skipWs
    split
    · exact ih.trans (List.suffix_cons c r)
    · exact List.suffix_refl _

/-- the end of a line, or of the text -/
def eol : List UInt8 → Option (List UInt8)
  | [] => some []
  | c :: r => if c.toNat = 10 then some r else if c.toNat = 13 then (match r with | d :: q => if d.toNat = 10 then some q else none | [] => none) else none

theorem eol_suffix {l r : List UInt8} (h : eol l = some r) : r <:+ l := by
  unfold eol at h
  split at h
  · injection h with h; subst h; exact List.suffix_refl _
  · split at h
    · injection h with h; subst h; exact List.suffix_cons _ _
    · split at h
      · split at h
        · split at h
          · injection h with h; subst h; exact (List.suffix_cons _ _).trans (List.suffix_cons _ _)
          · cases h
        · cases h
      · cases h

/-- what is left of a part of the document: its slice -/
def Rest (b off cap : Nat) (l r : List UInt8) (v : Value) : Prop := r <:+ l ∧ SV b (off + (l.length - r.length)) (cap - (l.length - r.length)) r v
theorem Bts.suffix {w : World} {b off : Nat} {l q : List UInt8} (h : Bts w b off l) (hq : q <:+ l) : Bts w b (off + (l.length - q.length)) q := by
  obtain ⟨p, rfl⟩ := hq
  have h1 := h.post
  rw [List.length_append, Nat.add_sub_cancel]
  exact h1

theorem Rest.self {b off cap : Nat} {l : List UInt8} {a : Addr} (ha : 0 < l.length → a = ⟨b, off, none⟩) : Rest b off cap l l (.slice (some a) l.length cap) :=
  ⟨List.suffix_refl _, a, by simp, fun h => by rw [ha h]; simp⟩
theorem Rest.mk' {b off cap : Nat} {l r : List UInt8} (hs : r <:+ l) {a : Addr} {n k : Nat} (h1 : n = r.length) (h2 : k = cap - (l.length - r.length)) (h3 : 0 < r.length → a = ⟨b, off + (l.length - r.length), none⟩) :
    Rest b off cap l r (.slice (some a) n k) := by
  subst h1 h2
  exact ⟨hs, a, rfl, h3⟩

theorem Rest.drop {b off cap : Nat} {l r : List UInt8} (m : Nat) (hr : r = l.drop m) {a : Addr} {n k : Nat} (h1 : n = l.length - m) (h2 : k = cap - m) (hm : m ≤ l.length) (h3 : m < l.length → a = ⟨b, off + m, none⟩) :
    Rest b off cap l r (.slice (some a) n k) := by
  subst hr
  have e : l.length - (l.drop m).length = m := by rw [List.length_drop]; omega
  refine Rest.mk' (List.drop_suffix _ _) (by rw [List.length_drop]; exact h1) (by rw [e]; exact h2) (fun h => ?_)
  rw [e]
  rw [List.length_drop] at h
  exact h3 (by omega)

theorem eol_lf {c : UInt8} {r : List UInt8} (e : c.toNat = 10) : eol (c :: r) = some r := by simp [eol, e]
theorem eol_crlf {c d : UInt8} {r : List UInt8} (e : c.toNat = 13) (e2 : d.toNat = 10) : eol (c :: d :: r) = some r := by
  have h : c.toNat ≠ 10 := by omega
  simp [eol, e, e2]
theorem eol_cr {c : UInt8} {r : List UInt8} (e : c.toNat = 13) (h : ∀ d q, r = d :: q → d.toNat ≠ 10) : eol (c :: r) = none := by
  cases r with
  | nil => simp [eol, e]
  | cons d q => simp [eol, e, h d q rfl]
theorem eol_other {c : UInt8} {r : List UInt8} (e : c.toNat ≠ 10) (e2 : c.toNat ≠ 13) : eol (c :: r) = none := by simp [eol, e, e2]

/-- the length in a slot that holds a slice: for a loop's measure -/
def slen : Value → Nat | .slice _ n _ => n | _ => 0

theorem skipWs_yes {x : UInt8} {r : List UInt8} (e : x.toNat = 32 ∨ x.toNat = 9) : skipWs (x :: r) = skipWs r := by
  rw [skipWs, if_pos e]
theorem skipWs_no {x : UInt8} {r : List UInt8} (e : ¬ (x.toNat = 32 ∨ x.toNat = 9)) : skipWs (x :: r) = x :: r := by
  rw [skipWs, if_neg e]
end Go.Proofs.Ytnlkbbpmpgdmiaa
