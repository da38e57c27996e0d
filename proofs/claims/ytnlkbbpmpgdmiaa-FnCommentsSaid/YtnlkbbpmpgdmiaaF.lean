/- The parser's memory: its struct, its nodes; push. -/
import Derived.Test.YtnlkbbpmpgdmiaaE
import Derived.ArgAppend
import Derived.Laws.AppendOwn
namespace Go.Proofs.Ytnlkbbpmpgdmiaa
open Go.RowKit
set_option linter.unusedVariables false
set_option linter.unusedSimpArgs false

/-- a node of the parser: its kind, its place, what it tells, the next one and the first child by their numbers (0: none) -/
structure Nd where
  kind : Nat
  ro : Int
  rl : Int
  data : Value
  next : Nat
  child : Nat

def Nd.cells (g : Nat) (x : Nd) : List Value := [.int .i64 x.kind, .int .u32 x.ro, .int .u32 x.rl, x.data, .pointer (some ⟨g, 0, none⟩), .int .i32 x.next, .int .i32 x.child]

def flat (g : Nat) (ns : List Nd) : List Value := ns.flatMap (Nd.cells g)

theorem flat_length (g : Nat) (ns : List Nd) : (flat g ns).length = 7 * ns.length := by
  induction ns with
  | nil => rfl
  | cons x r ih =>
    have : flat g (x :: r) = x.cells g ++ flat g r := rfl
    rw [this, List.length_append, ih]
    simp [Nd.cells]
    omega
theorem flat_cons (g : Nat) (x : Nd) (r : List Nd) : flat g (x :: r) = x.cells g ++ flat g r := rfl
theorem flat_append (g : Nat) (a b : List Nd) : flat g (a ++ b) = flat g a ++ flat g b := by simp [flat]

theorem flat_get {g : Nat} {ns : List Nd} {i : Nat} {x : Nd} (h : ns[i]? = some x) (j : Nat) (hj : j < 7) (t : List Value) : (flat g ns ++ t)[7 * i + j]? = (x.cells g)[j]? := by
  induction ns generalizing i with
  | nil => simp at h
  | cons y r ih =>
    rw [flat_cons]
    cases i with
    | zero =>
      simp at h
      subst h
      rw [List.append_assoc, List.getElem?_append_left (by simp [Nd.cells]; omega)]
      simp
    | succ i =>
      have h1 : (y.cells g).length = 7 := rfl
      rw [List.append_assoc, List.getElem?_append_right (by omega), h1, show 7 * (i + 1) + j - 7 = 7 * i + j from by omega]
      exact ih (by simpa using h)

theorem flat_set {g : Nat} {ns : List Nd} {i : Nat} {x x' : Nd} (h : ns[i]? = some x) (j : Nat) (hj : j < 7) (u : Value) (hx : (x.cells g).set j u = x'.cells g) (t : List Value) :
    (flat g ns ++ t).set (7 * i + j) u = flat g (ns.set i x') ++ t := by
  induction ns generalizing i with
  | nil => simp at h
  | cons y r ih =>
    rw [flat_cons]
    cases i with
    | zero =>
      simp at h
      subst h
      rw [List.append_assoc, List.set_append_left _ _ (by simp [Nd.cells]; omega)]
      simp [hx, flat_cons]
    | succ i =>
      have h1 : (y.cells g).length = 7 := rfl
      rw [List.append_assoc, List.set_append_right _ _ (by omega), h1, show 7 * (i + 1) + j - 7 = 7 * i + j from by omega, ih (by simpa using h)]
      simp [flat_cons]

/-- the nodes' memory: slice V of parser g holds the nodes ns -/
def Arn (B : Nat) (w : World) (g : Nat) (V : Value) (ns : List Nd) : Prop :=
  (ns = [] ∧ V = .slice none 0 0) ∨ ∃ (gn cap : Nat) (cur : Array Value) (junk : List Value), V = .slice (some ⟨gn, 0, none⟩) ns.length cap ∧ Blk w gn 65 cur ∧ cur.toList = flat g ns ++ junk ∧ cur.size = 7 * cap ∧ B ≤ gn ∧ 64 ≤ cap ∧ cap ≤ 1000000 ∧ ∀ x ∈ ns, x.data.oneCell' = true

/-- what a function of the parser leaves as it was: the memory that is neither a parser nor nodes -/
def Kp (w w' : World) : Prop := w.heap.size ≤ w'.heap.size ∧ ∀ g t cs, t ≠ 52 → t ≠ 65 → Blk w g t cs → Blk w' g t cs

theorem Kp.refl (w : World) : Kp w w := ⟨Nat.le_refl _, fun _ _ _ _ _ h => h⟩
theorem Kp.trans {w w1 w2 : World} (h : Kp w w1) (h2 : Kp w1 w2) : Kp w w2 := ⟨Nat.le_trans h.1 h2.1, fun g t cs a b c => h2.2 g t cs a b (h.2 g t cs a b c)⟩
theorem Kp.alloc (w : World) (o : Obj) : Kp w (w.alloc o) := ⟨by simp, fun g t cs a b c => c.alloc o⟩
theorem Kp.drewN (w : World) (n : Nat) : Kp w (w.drewN n) := ⟨Nat.le_refl _, fun _ _ _ _ _ h => h⟩
theorem Kp.drew (w : World) : Kp w w.drew := ⟨Nat.le_refl _, fun _ _ _ _ _ h => h⟩
theorem Kp.set52 {w : World} {g : Nat} {cs : Array Value} (h : Blk w g 52 cs) (i : Nat) (u : Value) : Kp w (w.setCell ⟨g, i, none⟩ u) :=
  ⟨by simp, fun k t c a b hk => hk.far (fun e => by subst e; exact (hk.ne_ h a) rfl) u⟩
theorem Kp.set65 {w : World} {g : Nat} {cs : Array Value} (h : Blk w g 65 cs) (i : Nat) (u : Value) : Kp w (w.setCell ⟨g, i, none⟩ u) :=
  ⟨by simp, fun k t c a b hk => hk.far (fun e => by subst e; exact (hk.ne_ h b) rfl) u⟩
theorem Kp.row65 {w : World} {g : Nat} {cs : Array Value} (h : Blk w g 65 cs) (cs' : Array Value) : Kp w (w.setRow g cs') :=
  ⟨by simp, fun k t c a b hk => (setRow_other w g k cs' (fun e => by subst e; exact (hk.ne_ h b) rfl)).trans hk⟩
theorem Kp.newcell {w w' : World} (h : Kp w w') {i : Nat} {u : Value} {g : Nat} (hg : w.heap.size ≤ g) : Kp w (w'.setCell ⟨g, i, none⟩ u) :=
  ⟨by simpa using h.1, fun k t c a b hk => (h.2 k t c a b hk).far (fun e => by have := hk.lt; simp at e; omega) u⟩
theorem Kp.of_below {w w' : World} (h : Below w.heap.size w w') : Kp w w' := ⟨h.size, fun g t cs a b c => c.below h c.lt⟩

/-- the frame of the parser's functions -/
def Fr (B : Nat) (w w' : World) : Prop := Below B w w' ∧ Kp w w'
theorem Fr.refl (B : Nat) (w : World) : Fr B w w := ⟨Below.refl _ _, Kp.refl _⟩
theorem Fr.trans {B : Nat} {w w1 w2 : World} (h : Fr B w w1) (h2 : Fr B w1 w2) : Fr B w w2 := ⟨h.1.trans h2.1, h.2.trans h2.2⟩
theorem Fr.drewN {B : Nat} (w : World) (n : Nat) : Fr B w (w.drewN n) := ⟨⟨rfl, rfl, rfl, Nat.le_refl _, fun _ _ => rfl⟩, Kp.drewN w n⟩
theorem Fr.of_below {B : Nat} {w w' : World} (h : Below w.heap.size w w') (hB : B ≤ w.heap.size) : Fr B w w' := ⟨h.mono hB, Kp.of_below h⟩

/-- the parser: struct g, the document D in block b, what is left, the nodes, the error, the depth -/
def PS (B : Nat) (w : World) (g b cap : Nat) (kc : Bool) (D : List UInt8) (left : Value) (ns : List Nd) (err : Value) (nest : Nat) : Prop :=
  ∃ (A : Addr) (V : Value), Blk w g 52 #[.bool kc, .slice (some A) D.length cap, left, V, err, .int .i64 nest] ∧ B ≤ g ∧ Arn B w g V ns ∧ B ≤ w.heap.size

end Go.Proofs.Ytnlkbbpmpgdmiaa
