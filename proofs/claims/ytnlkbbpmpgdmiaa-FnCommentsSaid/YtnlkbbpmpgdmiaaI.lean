/- The parser's nodes, read and written; Range, at, rangeFrom. -/
import Derived.Test.YtnlkbbpmpgdmiaaH
namespace Go.Proofs.Ytnlkbbpmpgdmiaa
open Go.RowKit
set_option linter.unusedVariables false
set_option linter.unusedSimpArgs false

/-- where the nodes ns of parser g lie, for reading -/
def PN (w : World) (g gn : Nat) (ns : List Nd) : Prop :=
  ∃ c, w.cell? ⟨g, 3, none⟩ = some (.slice (some ⟨gn, 0, none⟩) ns.length c) ∧ ns.length ≤ c ∧ g < w.heap.size ∧ gn < w.heap.size ∧ ∀ i x, ns[i]? = some x → ∀ j, j < 7 → w.cell? ⟨gn, 7 * i + j, none⟩ = (x.cells g)[j]?

theorem PN.below {w w' : World} {g gn : Nat} {ns : List Nd} (h : PN w g gn ns) (hb : Below w.heap.size w w') : PN w' g gn ns := by
  obtain ⟨c, h1, h2, h3, h4, h5⟩ := h
  exact ⟨c, (hb.cell (p := ⟨g, 3, none⟩) h3).trans h1, h2, Nat.lt_of_lt_of_le h3 hb.size, Nat.lt_of_lt_of_le h4 hb.size, fun i x hi j hj => (hb.cell (p := ⟨gn, 7 * i + j, none⟩) h4).trans (h5 i x hi j hj)⟩

theorem PS.pn {B g b cap : Nat} {kc : Bool} {D : List UInt8} {left err : Value} {nest : Nat} {ns : List Nd} {w : World} (h : PS B w g b cap kc D left ns err nest) (hne : ns ≠ []) : ∃ gn, PN w g gn ns := by
  obtain ⟨A, V, hg, hBg, harn, hBw⟩ := h
  rcases harn with ⟨rfl, _⟩ | ⟨gn, ncap, cur, junk, rfl, hgn, hcl, hcs, hBn, h64, hbig, hone⟩
  · exact absurd rfl hne
  · refine ⟨gn, ncap, by have := hg.cell 3; simpa using this, ?_, hg.lt, hgn.lt, ?_⟩
    · have h1 : cur.toList.length = 7 * ncap := by rw [Array.length_toList]; exact hcs
      have hfl := flat_length g ns
      rw [hcl, List.length_append] at h1
      omega
    · intro i x hi j hj
      rw [hgn.cell, ← Array.getElem?_toList, hcl]
      exact flat_get hi j hj junk

/-- a cell of a node is written -/
theorem PS.set {B g b cap : Nat} {kc : Bool} {D : List UInt8} {left err : Value} {nest : Nat} {ns : List Nd} {w : World} (h : PS B w g b cap kc D left ns err nest) {gn : Nat} (hpn : PN w g gn ns) {i : Nat} {x x' : Nd} (hi : ns[i]? = some x)
    (j : Nat) (hj : j < 7) (u : Value) (hx : (x.cells g).set j u = x'.cells g) (ho : x'.data.oneCell' = true) :
    PS B (w.setCell ⟨gn, 7 * i + j, none⟩ u) g b cap kc D left (ns.set i x') err nest ∧ Fr B w (w.setCell ⟨gn, 7 * i + j, none⟩ u) ∧ w.frozen? ⟨gn, 7 * i + j, none⟩ = false := by
  obtain ⟨A, V, hg, hBg, harn, hBw⟩ := h
  obtain ⟨c, h1, _⟩ := hpn
  have h2 := hg.cell 3
  rw [h1] at h2
  simp at h2
  rcases harn with ⟨rfl, rfl⟩ | ⟨gn', ncap, cur, junk, rfl, hgn, hcl, hcs, hBn, h64, hbig, hone⟩
  · simp at hi
  · injection h2 with h2 h3 h4
    injection h2 with h2
    injection h2 with h2
    subst h2
    have hne : g ≠ gn := hg.ne_ hgn (by decide)
    refine ⟨⟨A, _, hg.far hne u, hBg, .inr ⟨gn, ncap, _, junk, ?_, hgn.set_ _ u, ?_, by simpa using hcs, hBn, h64, hbig, ?_⟩, by simpa using hBw⟩, ⟨(Below.refl B w).setCell hBn _, Kp.set65 hgn _ _⟩, hgn.frozen _⟩
    · rw [List.length_set]
    · rw [Array.toList_setIfInBounds, hcl]
      exact flat_set hi j hj u hx junk
    · intro y hy
      rcases List.mem_or_eq_of_mem_set hy with h | h
      · exact hone y h
      · subst h; exact ho

/-- a Range comes back -/
def RangeIs (w : World) (e : Ending) (w' : World) : Prop := ∃ ro rl, e = .returned (.agg #[.int .u32 ro, .int .u32 rl]) ∧ Below w.heap.size w w'

theorem Range_any {w : World} {g dl dcap : Nat} {A : Addr} {kc : Bool} {left V err nv : Value} (hg : Blk w g 52 #[.bool kc, .slice (some A) dl dcap, left, V, err, nv]) (a : Addr) (n k : Nat) (h1 : k ≤ dcap) (h2 : dcap - k + n ≤ dl) (hb : dcap ≤ 9223372036854775807) (hd : dl ≤ dcap) :
    Calls Try.prog 39 #[.pointer (some ⟨g, 0, none⟩), .slice (some a) n k] w (RangeIs w) := by
  have c1 : w.cell? ⟨g, 1, none⟩ = some (.slice (some A) dl dcap) := by have := hg.cell 1; simpa using this
  have hlt := hg.lt
  have hz0 : ¬ ((dcap : Int) - k < 0) := by omega
  have hz1 : ¬ ((dl : Int) < (dcap : Int) - k + n) := by omega
  go_enter Try.func39, Try.ntmps39
  go_wp2_with fail
  refine bodyPost_ret (v := .agg #[.int .u32 (((dcap : Int) - k) % 4294967296), .int .u32 ((n : Int) % 4294967296)]) (by simp [results, Try.results39, go_sem]) rfl ⟨_, _, rfl, (Below.refl _ _).alloc (Nat.le_refl _) _⟩

theorem offsetOf_any {w : World} {g dl dcap : Nat} {A : Addr} {kc : Bool} {left V err nv : Value} (hg : Blk w g 52 #[.bool kc, .slice (some A) dl dcap, left, V, err, nv]) (a : Option Addr) (n k : Nat) (h1 : k ≤ dcap) (hb : dcap ≤ 9223372036854775807) :
    Calls Try.prog 42 #[.pointer (some ⟨g, 0, none⟩), .slice a n k] w fun e w' => e = .returned (.int .i64 ((dcap : Int) - k)) ∧ w = w' := by
  have c1 : w.cell? ⟨g, 1, none⟩ = some (.slice (some A) dl dcap) := by have := hg.cell 1; simpa using this
  have hlt := hg.lt
  go_enter Try.func42, Try.ntmps42
  go_wp2_with fail
  go_ret
  exact ⟨rfl, rfl⟩

theorem rangeFrom_any {w : World} {g dl dcap : Nat} {A : Addr} {kc : Bool} {left V err nv : Value} (hg : Blk w g 52 #[.bool kc, .slice (some A) dl dcap, left, V, err, nv]) (a a' : Option Addr) (n k n' k' : Nat) (h1 : k ≤ dcap) (h2 : k' ≤ dcap) (hb : dcap ≤ 9223372036854775807) :
    Calls Try.prog 70 #[.pointer (some ⟨g, 0, none⟩), .slice a n k, .slice a' n' k'] w (RangeIs w) := by
  have hg2 := hg.alloc (.cells #[.int .u32 0, .int .u32 0] 62)
  go_enter Try.func70, Try.ntmps70
  go_wp2_with fail
  refine (offsetOf_any hg2 a n k h1 hb).mono ?_
  rintro e w1 ⟨rfl, rfl⟩
  go_wp2_with fail
  refine (offsetOf_any hg2 a' n' k' h2 hb).mono ?_
  rintro e w1 ⟨rfl, rfl⟩
  go_wp2_with fail
  refine bodyPost_ret (v := .agg #[.int .u32 (((dcap : Int) - k) % 4294967296), .int .u32 (((dcap : Int) - k' - ((dcap : Int) - k)) % 4294967296)]) (by simp [results, Try.results70, go_sem]) rfl ⟨_, _, rfl, ?_⟩
  exact (Below.refl _ _).alloc (Nat.le_refl _) _

theorem at_any {w : World} {g gn : Nat} {ns : List Nd} (hpn : PN w g gn ns) (h : Nat) (h1 : h < ns.length) (hb : ns.length ≤ 1000000) :
    Calls Try.prog 67 #[.pointer (some ⟨g, 0, none⟩), .int .i32 ((h : Int) + 1)] w fun e w' => e = .returned (.pointer (some ⟨gn, 7 * h, none⟩)) ∧ w = w' := by
  obtain ⟨c, c3, hc, hlt, hltn, _⟩ := hpn
  generalize hN : ns.length = N at *
  clear hN
  go_enter Try.func67, Try.ntmps67
  go_wp2_with fail
  go_ret
  rw [Nat.mul_comm 7 h]
  exact ⟨rfl, rfl⟩

theorem ret_bool {a b : Bool} (h : a = b) : Ending.returned (.bool a) = .returned (.bool b) := by rw [h]

/-- signs that stand in keys without quotes -/
def Bare (c : UInt8) : Prop := (48 ≤ c.toNat ∧ c.toNat ≤ 57) ∨ (65 ≤ c.toNat ∧ c.toNat ≤ 90) ∨ (97 ≤ c.toNat ∧ c.toNat ≤ 122) ∨ c.toNat = 45 ∨ c.toNat = 95
instance (c : UInt8) : Decidable (Bare c) := by unfold Bare; infer_instance

theorem isBare_any (c : UInt8) (w : World) : Calls Try.prog 91 #[.int .u8 c.toNat] w fun e w' => e = .returned (.bool (decide (Bare c))) ∧ w = w' := by
  have yes : Bare c → decide (Bare c) = true := fun h => decide_eq_true h
  have no : ¬ Bare c → decide (Bare c) = false := fun h => decide_eq_false h
  have h0 := c.toNat_lt
  unfold Bare at yes no
  have cs : c.toNat < 45 ∨ c.toNat = 45 ∨ (46 ≤ c.toNat ∧ c.toNat < 48) ∨ (48 ≤ c.toNat ∧ c.toNat ≤ 57) ∨ (58 ≤ c.toNat ∧ c.toNat < 65) ∨ (65 ≤ c.toNat ∧ c.toNat ≤ 90) ∨ (91 ≤ c.toNat ∧ c.toNat < 95) ∨ c.toNat = 95 ∨ c.toNat = 96 ∨ (97 ≤ c.toNat ∧ c.toNat ≤ 122) ∨ 123 ≤ c.toNat := by omega
  have fin : ∀ v : Bool, v = decide (Bare c) → Ending.returned (Value.bool v) = Ending.returned (Value.bool (decide (Bare c))) := fun v h => by rw [h]
  have H : ∃ v, decide (Bare c) = v := ⟨_, rfl⟩
  obtain ⟨v, hv⟩ := H
  rw [hv]
  have HV := Lib.hid hv
  have HY : Hid (Bare c → v = true) := fun h => by rw [← hv]; exact decide_eq_true h
  have HN : Hid (¬ Bare c → v = false) := fun h => by rw [← hv]; exact decide_eq_false h
  clear yes no fin hv
  generalize hn : c.toNat = n at *
  have HC := Lib.hid hn
  clear hn
  rcases cs with h | h | ⟨h, h'⟩ | ⟨h, h'⟩ | ⟨h, h'⟩ | ⟨h, h'⟩ | ⟨h, h'⟩ | h | h | ⟨h, h'⟩ | h
  all_goals
    first
      | (have e : v = true := HY.out (by unfold Bare; rw [HC.out]; omega)
         subst e)
      | (have e : v = false := HN.out (by unfold Bare; rw [HC.out]; omega)
         subst e)
  all_goals try subst h
  all_goals
    clear HY HN HV HC
    go_enter Try.func91, Try.ntmps91
    go_wp2_with fail
    go_ret
    first | exact ⟨rfl, rfl⟩ | (refine ⟨ret_bool ?_, rfl⟩; simp; omega)
end Go.Proofs.Ytnlkbbpmpgdmiaa
