/- Nodes are read: Next, Child, Valid, the iterator, Expression, Error. -/
import Derived.Test.YtnlkbbpmpgdmiaaS
namespace Go.Proofs.Ytnlkbbpmpgdmiaa
open Go.RowKit
set_option linter.unusedVariables false
set_option linter.unusedSimpArgs false

abbrev ndPtr (gn i : Nat) : Value := .pointer (some ⟨gn, 7 * i, none⟩)

theorem PN.kind {w : World} {g gn : Nat} {ns : List Nd} (h : PN w g gn ns) {i : Nat} {x : Nd} (hi : ns[i]? = some x) : w.cell? ⟨gn, 7 * i, none⟩ = some (.int .i64 x.kind) :=
  h.cellAt hi 0 (by omega) rfl

theorem next_nil {w : World} {g gn : Nat} {ns : List Nd} (h : PN w g gn ns) {i : Nat} {x : Nd} (hi : ns[i]? = some x) (h0 : x.next = 0) :
    Calls Try.prog 21 #[ndPtr gn i] w fun e w' => e = .returned (.pointer none) ∧ w = w' := by
  have c5 := h.cellAt hi 5 (by omega) (u := .int .i32 x.next) rfl
  rw [h0] at c5
  clear h0 hi h
  go_enter Try.func21, Try.ntmps21
  go_wp2_with fail
  go_ret
  exact ⟨rfl, rfl⟩

theorem next_some {w : World} {g gn : Nat} {ns : List Nd} (h : PN w g gn ns) {i : Nat} {x : Nd} (hi : ns[i]? = some x) (j : Nat) (h0 : x.next = j + 1) (hj : j < ns.length) (hb : ns.length ≤ 1000000) :
    Calls Try.prog 21 #[ndPtr gn i] w fun e w' => e = .returned (ndPtr gn j) ∧ ∃ n, w' = w.drewN n := by
  have c5 := h.cellAt hi 5 (by omega) (u := .int .i32 x.next) rfl
  have c4 := h.cellAt hi 4 (by omega) (u := .pointer (some ⟨g, 0, none⟩)) rfl
  obtain ⟨c, c3, hc, hlt, hltn, _⟩ := h
  rw [h0] at c5
  generalize ns.length = N at *
  have hnz : ¬ ((j : Int) + 1 = 0) := by omega
  clear h0 hi
  go_enter Try.func21, Try.ntmps21
  go_wp2_with fail
  go_quiet (fail)
  go_wp2_with fail
  go_ret
  rw [show ndPtr gn j = .pointer (some ⟨gn, j * 7, none⟩) from by rw [Nat.mul_comm j 7]]
  exact ⟨rfl, nq, rfl⟩

theorem child_nil {w : World} {g gn : Nat} {ns : List Nd} (h : PN w g gn ns) {i : Nat} {x : Nd} (hi : ns[i]? = some x) (h0 : x.child = 0) :
    Calls Try.prog 50 #[ndPtr gn i] w fun e w' => e = .returned (.pointer none) ∧ w = w' := by
  have c5 := h.cellAt hi 6 (by omega) (u := .int .i32 x.child) rfl
  rw [h0] at c5
  clear h0 hi h
  go_enter Try.func50, Try.ntmps50
  go_wp2_with fail
  go_ret
  exact ⟨rfl, rfl⟩

theorem child_some {w : World} {g gn : Nat} {ns : List Nd} (h : PN w g gn ns) {i : Nat} {x : Nd} (hi : ns[i]? = some x) (j : Nat) (h0 : x.child = j + 1) (hj : j < ns.length) (hb : ns.length ≤ 1000000) :
    Calls Try.prog 50 #[ndPtr gn i] w fun e w' => e = .returned (ndPtr gn j) ∧ ∃ n, w' = w.drewN n := by
  have c5 := h.cellAt hi 6 (by omega) (u := .int .i32 x.child) rfl
  have c4 := h.cellAt hi 4 (by omega) (u := .pointer (some ⟨g, 0, none⟩)) rfl
  obtain ⟨c, c3, hc, hlt, hltn, _⟩ := h
  rw [h0] at c5
  generalize ns.length = N at *
  have hnz : ¬ ((j : Int) + 1 = 0) := by omega
  clear h0 hi
  go_enter Try.func50, Try.ntmps50
  go_wp2_with fail
  go_quiet (fail)
  go_wp2_with fail
  go_ret
  rw [show ndPtr gn j = .pointer (some ⟨gn, j * 7, none⟩) from by rw [Nat.mul_comm j 7]]
  exact ⟨rfl, nq, rfl⟩

theorem valid_nil (w : World) : Calls Try.prog 64 #[.pointer none] w fun e w' => e = .returned (.bool false) ∧ w = w' := by
  go_enter Try.func64, Try.ntmps64
  go_wp2_with fail
  go_ret
  exact ⟨rfl, rfl⟩

theorem valid_some {w : World} {g gn : Nat} {ns : List Nd} (h : PN w g gn ns) {i : Nat} {x : Nd} (hi : ns[i]? = some x) (hk : x.kind ≠ 0) :
    Calls Try.prog 64 #[ndPtr gn i] w fun e w' => e = .returned (.bool true) ∧ w = w' := by
  have c0 := h.kind hi
  have hb : ((x.kind : Int) != 0) = true := by simp; exact hk
  clear hi h
  go_enter Try.func64, Try.ntmps64
  go_wp2_with fail
  go_ret
  first | exact ⟨rfl, rfl⟩ | (refine ⟨ret_bool ?_, rfl⟩; simp [hk])

theorem expr_any {w : World} {g gn : Nat} {ns : List Nd} (h : PN w g gn ns) (hn : 0 < ns.length) :
    Calls Try.prog 19 #[.pointer (some ⟨g, 0, none⟩)] w fun e w' => e = .returned (ndPtr gn 0) ∧ w = w' := by
  obtain ⟨c, c3, hc, hlt, hltn, _⟩ := h
  generalize ns.length = N at *
  go_enter Try.func19, Try.ntmps19
  go_wp2_with fail
  go_ret
  exact ⟨rfl, rfl⟩

theorem error_any {B g b cap : Nat} {kc : Bool} {D : List UInt8} {left err : Value} {nest : Nat} {ns : List Nd} {w : World} (h : PS B w g b cap kc D left ns err nest) :
    Calls Try.prog 22 #[.pointer (some ⟨g, 0, none⟩)] w fun e w' => e = .returned err ∧ w = w' := by
  obtain ⟨c2, c4, hfr, hgl⟩ := h.cells
  clear c2 hfr h
  go_enter Try.func22, Try.ntmps22
  go_wp2_with fail
  go_ret
  exact ⟨rfl, rfl⟩

theorem itNode_any {w : World} {it : Nat} {s : Bool} {v : Value} (h : Blk w it 99 #[.bool s, v]) : Calls Try.prog 45 #[.pointer (some ⟨it, 0, none⟩)] w fun e w' => e = .returned v ∧ w = w' := by
  have c1 : w.cell? ⟨it, 1, none⟩ = some v := by have := h.cell 1; simpa using this
  have hl := h.lt
  clear h
  go_enter Try.func45, Try.ntmps45
  go_wp2_with fail
  go_ret
  exact ⟨rfl, rfl⟩
end Go.Proofs.Ytnlkbbpmpgdmiaa
