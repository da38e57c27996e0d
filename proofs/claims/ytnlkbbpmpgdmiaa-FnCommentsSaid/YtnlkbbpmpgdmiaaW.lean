/- The iterator over a node's children, and remarks of nodes without remarks. -/
import Derived.Test.YtnlkbbpmpgdmiaaV
namespace Go.Proofs.Ytnlkbbpmpgdmiaa
open Go.RowKit
set_option linter.unusedVariables false
set_option linter.unusedSimpArgs false

/-- a node by its number; 0: none -/
def ndAt (gn : Nat) : Nat → Option Addr
  | 0 => none
  | j + 1 => some ⟨gn, 7 * j, none⟩
abbrev ndOpt (gn k : Nat) : Value := .pointer (ndAt gn k)

def PtrIs (v : Value) (w : World) (e : Ending) (w' : World) : Prop := e = .returned v ∧ ∃ n, w' = w.drewN n

theorem next_any {w : World} {g gn : Nat} {ns : List Nd} (h : PN w g gn ns) {i : Nat} {x : Nd} (hi : ns[i]? = some x) (hx : x.next ≤ ns.length) (hb : ns.length ≤ 1000000) :
    Calls Try.prog 21 #[ndPtr gn i] w (PtrIs (ndOpt gn x.next) w) := by
  cases hn : x.next with
  | zero => exact (next_nil h hi hn).mono (fun e w' h => ⟨h.1, 0, h.2.symm⟩)
  | succ j => exact (next_some h hi j hn (by omega) hb).mono (fun e w' h => h)

theorem child_any {w : World} {g gn : Nat} {ns : List Nd} (h : PN w g gn ns) {i : Nat} {x : Nd} (hi : ns[i]? = some x) (hx : x.child ≤ ns.length) (hb : ns.length ≤ 1000000) :
    Calls Try.prog 50 #[ndPtr gn i] w (PtrIs (ndOpt gn x.child) w) := by
  cases hn : x.child with
  | zero => exact (child_nil h hi hn).mono (fun e w' h => ⟨h.1, 0, h.2.symm⟩)
  | succ j => exact (child_some h hi j hn (by omega) hb).mono (fun e w' h => h)

def ItIs (v : Value) (w : World) (e : Ending) (w' : World) : Prop := e = .returned (.agg #[.bool false, v]) ∧ Below w.heap.size w w'

theorem PN.alloc {w : World} {g gn : Nat} {ns : List Nd} (h : PN w g gn ns) (o : Obj) : PN (w.alloc o) g gn ns := h.below ((Below.refl _ _).alloc (Nat.le_refl _) o)

theorem children_any {w : World} {g gn : Nat} {ns : List Nd} (h : PN w g gn ns) {i : Nat} {x : Nd} (hi : ns[i]? = some x) (hx : x.child ≤ ns.length) (hb : ns.length ≤ 1000000) :
    Calls Try.prog 43 #[ndPtr gn i] w (ItIs (ndOpt gn x.child) w) := by
  have H := Lib.hid h
  have HI := Lib.hid hi
  clear h hi
  go_enter Try.func43, Try.ntmps43
  go_wp2_with fail
  refine (child_any (H.out.alloc _) HI.out hx hb).mono ?_
  rintro e w1 ⟨rfl, n, rfl⟩
  generalize hv : ndAt gn x.child = v
  go_wp2_with fail
  refine bodyPost_ret (v := .agg #[.bool false, .pointer v]) (by simp [results, Try.results43, go_sem]) rfl ⟨by rw [← hv], ?_⟩
  exact ((((Below.refl _ _).alloc (Nat.le_refl _) _).trans (Fr.drewN _ n).1).setCell (Nat.le_refl _) _).setCell (Nat.le_refl _) _

/-- is there a node -/
theorem valid_any {w : World} {g gn : Nat} {ns : List Nd} (h : PN w g gn ns) (hk : ∀ x ∈ ns, x.kind ≠ 0) (k : Nat) (hkn : k ≤ ns.length) :
    Calls Try.prog 64 #[ndOpt gn k] w fun e w' => e = .returned (.bool (k != 0)) ∧ w = w' := by
  cases k with
  | zero => exact valid_nil w
  | succ j =>
    have hj : j < ns.length := by omega
    have hx : ns[j]? = some ns[j] := List.getElem?_eq_getElem hj
    exact (valid_some h hx (hk _ (List.getElem_mem hj))).mono (fun e w' h => by obtain ⟨h1, h2⟩ := h; exact ⟨by rw [h1]; simp, h2⟩)

theorem PN.set {w : World} {g gn : Nat} {ns : List Nd} (h : PN w g gn ns) {p : Addr} (h1 : g ≠ p.block) (h2 : gn ≠ p.block) (u : Value) : PN (w.setCell p u) g gn ns := by
  obtain ⟨c, d1, d2, d3, d4, d5⟩ := h
  refine ⟨c, (World.cell?_setCell_other w p ⟨g, 3, none⟩ u (fun e => h1 (by subst e; rfl))).trans d1, d2, by simpa using d3, by simpa using d4, fun i x hi j hj => (World.cell?_setCell_other w p ⟨gn, 7 * i + j, none⟩ u (fun e => h2 (by subst e; rfl))).trans (d5 i x hi j hj)⟩

set_option maxRecDepth 100000 in
/-- the iterator's first step -/
theorem it_first {w : World} {g gn it : Nat} {ns : List Nd} (h : PN w g gn ns) (hk : ∀ x ∈ ns, x.kind ≠ 0) (k : Nat) (hkn : k ≤ ns.length) (hit : Blk w it 99 #[.bool false, ndOpt gn k]) (h1 : g ≠ it) (h2 : gn ≠ it) :
    Calls Try.prog 44 #[.pointer (some ⟨it, 0, none⟩)] w fun e w' => e = .returned (.bool (k != 0)) ∧ w.setCell ⟨it, 0, none⟩ (.bool true) = w' := by
  have c0 : w.cell? ⟨it, 0, none⟩ = some (.bool false) := by have := hit.cell 0; simpa using this
  have c1 : w.cell? ⟨it, 1, none⟩ = some (ndOpt gn k) := by have := hit.cell 1; simpa using this
  have f0 := hit.frozen 0
  have hl := hit.lt
  have H : Hid (PN (w.setCell ⟨it, 0, none⟩ (.bool true)) g gn ns) := h.set h1 h2 _
  have HK := Lib.hid hk
  clear h hk hit
  go_enter Try.func44, Try.ntmps44
  go_wp2_with fail
  refine (valid_any H.out HK.out k hkn).mono ?_
  rintro e w1 ⟨rfl, rfl⟩
  go_wp2_with fail
  go_ret
  exact ⟨rfl, rfl⟩

def ItNext (gn it k : Nat) (w : World) (e : Ending) (w' : World) : Prop := e = .returned (.bool (k != 0)) ∧ ∃ n, w' = (w.drewN n).setCell ⟨it, 1, none⟩ (ndOpt gn k)

set_option maxRecDepth 100000 in
/-- the iterator's next step -/
theorem it_next {w : World} {g gn it : Nat} {ns : List Nd} (h : PN w g gn ns) (hk : ∀ x ∈ ns, x.kind ≠ 0) (j : Nat) (x : Nd) (hx : ns[j]? = some x) (hn : x.next ≤ ns.length) (hb : ns.length ≤ 1000000) (hit : Blk w it 99 #[.bool true, ndPtr gn j]) (h1 : g ≠ it) (h2 : gn ≠ it) :
    Calls Try.prog 44 #[.pointer (some ⟨it, 0, none⟩)] w (ItNext gn it x.next w) := by
  have c0 : w.cell? ⟨it, 0, none⟩ = some (.bool true) := by have := hit.cell 0; simpa using this
  have c1 : w.cell? ⟨it, 1, none⟩ = some (ndPtr gn j) := by have := hit.cell 1; simpa using this
  have f1 := hit.frozen 1
  have hl := hit.lt
  have H := Lib.hid h
  have HK := Lib.hid hk
  have HX := Lib.hid hx
  clear h hk hit hx
  go_enter Try.func44, Try.ntmps44
  go_wp2_with fail
  refine (valid_some H.out HX.out (HK.out x (List.mem_of_getElem? HX.out))).mono ?_
  rintro e w1 ⟨rfl, rfl⟩
  go_wp2_with fail
  refine (next_any H.out HX.out hn hb).mono ?_
  rintro e w1 ⟨rfl, n, rfl⟩
  have HP2 : Hid (PN ((w.drewN n).setCell ⟨it, 1, none⟩ (ndOpt gn x.next)) g gn ns) := PN.set (w := w.drewN n) H.out h1 h2 _
  go_wp2_with fail
  refine (valid_any HP2.out HK.out x.next hn).mono ?_
  rintro e w1 ⟨rfl, rfl⟩
  go_wp2_with fail
  go_ret
  exact ⟨rfl, n, rfl⟩

/-- the remarks of a node without parts, that is no remark itself: none -/
def LeafIs (v : Value) (w : World) (e : Ending) (w' : World) : Prop := e = .returned v ∧ Below w.heap.size w w'

set_option maxRecDepth 100000 in
theorem remarks_leaf {w : World} {g gn : Nat} {ns : List Nd} (h : PN w g gn ns) (hk : ∀ x ∈ ns, x.kind ≠ 0) {i : Nat} {x : Nd} (hi : ns[i]? = some x) (hx : x.child = 0) (hx1 : x.kind ≠ 1) (hb : ns.length ≤ 1000000) (v : Value) :
    Calls Try.prog 20 #[v, ndPtr gn i] w (LeafIs v w) := by
  have c0 := h.kind hi
  have hb1 : ((x.kind : Int) == 1) = false := by simp; omega
  have H := Lib.hid h
  have HK := Lib.hid hk
  have HI := Lib.hid hi
  have hgl : g < w.heap.size ∧ gn < w.heap.size := by obtain ⟨_, _, _, h3, h4, _⟩ := h; exact ⟨h3, h4⟩
  obtain ⟨hgl, hgnl⟩ := hgl
  clear h hk hi
  go_enter Try.func20, Try.ntmps20
  go_wp2_with fail
  refine (children_any H.out HI.out (by omega) hb).mono ?_
  rintro e w1 ⟨rfl, hb1⟩
  rw [hx]
  have hsz := hb1.size
  have HB1 := Lib.hid hb1
  clear hb1
  go_wp2_with fail
  have HP2 : Hid (PN (w1.alloc (.cells #[.bool false, ndOpt gn 0] 99)) g gn ns) := (H.out.below HB1.out).alloc _
  generalize hw2 : w1.alloc (.cells #[.bool false, ndOpt gn 0] 99) = w2 at *
  have BI : Blk w2 w1.heap.size 99 #[.bool false, ndOpt gn 0] := by rw [← hw2]; exact Blk.new _ _ _
  have HB2 : Hid (Below w.heap.size w w2) := by rw [← hw2]; exact HB1.out.alloc hsz _
  generalize hit : w1.heap.size = it at *
  have hgi : g ≠ it := by omega
  have hgni : gn ≠ it := by omega
  clear hw2
  go_loopg [0] 0 (fun gg s0 wx => s0 = v ∧ wx = w2)
  case atStart => exact ⟨rfl, rfl⟩
  case round =>
    obtain ⟨rfl, rfl⟩ := hrel
    go_wp2_with fail
    refine (it_first HP2.out HK.out 0 (by omega) BI hgi hgni).mono ?_
    rintro e w3 ⟨rfl, rfl⟩
    go_wp2_with fail
    go_ret
    exact ⟨rfl, HB2.out.setCell (by show _ ≤ it; omega) _⟩
end Go.Proofs.Ytnlkbbpmpgdmiaa
