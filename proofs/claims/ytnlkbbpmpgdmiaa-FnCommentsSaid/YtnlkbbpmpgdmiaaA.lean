/- Words on memory that the walks of this seat use: bytes in a block, a block known whole, slices of the document, errors. -/
import Derived.Test.YtnlkbbpmpgdmiaaRows
import Derived.WalkKit
import Derived.WalkSpells
import Derived.WalkLawsBesides
import Derived.Outline
import Derived.Lib.Hide
import Derived.RegionTactic
import Derived.Deep.QuietTactic
import Derived.BigQuiet
namespace Go.Proofs.Ytnlkbbpmpgdmiaa
open Go.RowKit
set_option linter.unusedVariables false
set_option linter.unusedSimpArgs false

theorem ret_int {k : IntKind} {a b : Int} (h : a = b) : Ending.returned (.int k a) = .returned (.int k b) := by rw [h]

/-- one walk of a region that draws its order, over a class of worlds -/
theorem region_class {P : Program} {id : Nat} {Q : Exit → Act → World → Prop} {a : Act} {w : World} {l : List Oper} (C : World → Prop) (hm : P.follows .mixedOrders = true) (hB : Region.lexB .any l.toArray = true) (hC : C w.drew)
    (h : wpQuiet P l.toArray C (fun a' => ∀ w', C w' → Q .normal a' w') l a) : (Code.region id l.toArray true).wp P Q a w :=
  wp_region_quiet (C := C) hm hB hC (by simpa using h)

/-- the bytes l lie in block b from place off on -/
def Bts (w : World) (b off : Nat) (l : List UInt8) : Prop := ∀ k, k < l.length → w.cell? ⟨b, off + k, none⟩ = some (.int .u8 (l.getD k 0).toNat)

theorem Bts.alloc {w : World} {b off : Nat} {l : List UInt8} (h : Bts w b off l) (hb : b < w.heap.size) (o : Obj) : Bts (w.alloc o) b off l :=
  fun k hk => (World.cell?_alloc_lt w o ⟨b, off + k, none⟩ hb).trans (h k hk)
theorem Bts.setCell {w : World} {b off : Nat} {l : List UInt8} (h : Bts w b off l) {p : Addr} (hb : b ≠ p.block) (u : Value) : Bts (w.setCell p u) b off l :=
  fun k hk => (World.cell?_setCell_other w p ⟨b, off + k, none⟩ u (fun e => by subst e; exact hb rfl)).trans (h k hk)
theorem Bts.below {w w' : World} {B b off : Nat} {l : List UInt8} (h : Bts w b off l) (hb : Below B w w') (hB : b < B) : Bts w' b off l :=
  fun k hk => (hb.cell (p := ⟨b, off + k, none⟩) hB).trans (h k hk)
theorem Bts.drew {w : World} {b off : Nat} {l : List UInt8} (h : Bts w b off l) : Bts w.drew b off l := h
theorem Bts.pre {w : World} {b off : Nat} {p r : List UInt8} (h : Bts w b off (p ++ r)) : Bts w b off p := by
  intro k hk
  rw [h k (by simp; omega)]
  congr 3
  simp [List.getD, List.getElem?_append, hk]
theorem Bts.post {w : World} {b off : Nat} {p r : List UInt8} (h : Bts w b off (p ++ r)) : Bts w b (off + p.length) r := by
  intro k hk
  have h1 := h (p.length + k) (by simp; omega)
  rw [← Nat.add_assoc] at h1
  rw [h1]
  congr 3
  rw [List.getD_eq_getElem?_getD, List.getD_eq_getElem?_getD, List.getElem?_append_right (by omega), Nat.add_sub_cancel_left]
theorem Bts.head {w : World} {b off : Nat} {c : UInt8} {r : List UInt8} (h : Bts w b off (c :: r)) : w.cell? ⟨b, off, none⟩ = some (.int .u8 c.toNat) ∧ Bts w b (off + 1) r := by
  refine ⟨by simpa using h 0 (by simp), fun k hk => ?_⟩
  have h1 := h (k + 1) (by simp; omega)
  rw [show off + (k + 1) = off + 1 + k from by omega] at h1
  rw [h1]
  rfl
theorem Bts.drop {w : World} {b off : Nat} {l : List UInt8} (h : Bts w b off l) (k : Nat) (hk : k ≤ l.length) : Bts w b (off + k) (l.drop k) := by
  have h1 := h
  rw [← List.take_append_drop k l] at h1
  have h2 := h1.post
  rw [List.length_take, Nat.min_eq_left hk] at h2
  exact h2
theorem Bts.take {w : World} {b off : Nat} {l : List UInt8} (h : Bts w b off l) (k : Nat) : Bts w b off (l.take k) := by
  have h1 := h
  rw [← List.take_append_drop k l] at h1
  exact h1.pre

/-- block g holds just the cells cs -/
def Blk (w : World) (g : Nat) (t : TypeId) (cs : Array Value) : Prop := w.heap[g]? = some (.cells cs t (0, 0))
section
variable {w w' : World} {g : Nat} {t : TypeId} {cs : Array Value}
theorem Blk.lt (h : Blk w g t cs) : g < w.heap.size := by
  rcases Nat.lt_or_ge g w.heap.size with hlt | hge
  · exact hlt
  · unfold Blk at h
    rw [Array.getElem?_eq_none hge] at h
    cases h
theorem Blk.cell (h : Blk w g t cs) (i : Nat) : w.cell? ⟨g, i, none⟩ = cs[i]? := by
  unfold Blk at h
  simp [World.cell?, h]
theorem Blk.frozen (h : Blk w g t cs) (i : Nat) : w.frozen? ⟨g, i, none⟩ = false := by
  unfold Blk at h
  simp [World.frozen?, h]
theorem Blk.new (w : World) (t : TypeId) (cs : Array Value) : Blk (w.alloc (.cells cs t)) w.heap.size t cs := (MapKept.heap_alloc w _).1
theorem Blk.drew (h : Blk w g t cs) : Blk w.drew g t cs := h
theorem Blk.alloc (h : Blk w g t cs) (o : Obj) : Blk (w.alloc o) g t cs := (Below.heap_alloc w o g h.lt).trans h
theorem Blk.set_ (h : Blk w g t cs) (i : Nat) (u : Value) : Blk (w.setCell ⟨g, i, none⟩ u) g t (cs.setIfInBounds i u) := by
  unfold Blk at h ⊢
  simp [World.setCell, Array.getElem?_modify, h]
theorem Blk.far (h : Blk w g t cs) {p : Addr} (hp : g ≠ p.block) (u : Value) : Blk (w.setCell p u) g t cs := (Below.heap_setCell w p u g hp).trans h
theorem Blk.below {B : Nat} (h : Blk w g t cs) (hb : Below B w w') (hg : g < B) : Blk w' g t cs := (hb.block g hg).trans h
theorem Blk.ne_ {g' : Nat} {t' : TypeId} {cs' : Array Value} (h : Blk w g t cs) (h' : Blk w g' t' cs') (hne : t ≠ t') : g ≠ g' := by
  rintro rfl
  unfold Blk at h h'
  rw [h] at h'
  injection h' with h'
  injection h' with _ ht
  exact hne ht
end

/-- a part of the document as a slice: l its bytes, from place off of block b on, cap its room -/
def SV (b off cap : Nat) (l : List UInt8) (v : Value) : Prop := ∃ a : Addr, v = .slice (some a) l.length cap ∧ (0 < l.length → a = ⟨b, off, none⟩)

/-- an error of the parser -/
def IsErr (w : World) (v : Value) : Prop := ∃ (pe : Nat) (A : Option Addr) (hl hc : Nat) (msg : ByteArray), v = .iface 93 (.pointer (some ⟨pe, 0, none⟩)) ∧ Blk w pe 96 #[.slice A hl hc, .string msg, .slice none 0 0]

theorem IsErr.below {w w' : World} {v : Value} (h : IsErr w v) (hb : Below w.heap.size w w') : IsErr w' v := by
  obtain ⟨pe, A, hl, hc, msg, e, hk⟩ := h
  exact ⟨pe, A, hl, hc, msg, e, hk.below hb hk.lt⟩

theorem newErr_any (A : Option Addr) (hl hc : Nat) (msg : ByteArray) (w : World) :
    Calls Try.prog 35 #[.slice A hl hc, .string msg] w fun e w' => ∃ v, e = .returned v ∧ IsErr w' v ∧ Below w.heap.size w w' := by
  go_enter Try.func35, Try.ntmps35
  go_wp2
  go_ret
  exact ⟨_, rfl, ⟨w.heap.size, A, hl, hc, msg, rfl, Blk.new _ _ _⟩, (Below.refl _ _).alloc (Nat.le_refl _) _⟩
end Go.Proofs.Ytnlkbbpmpgdmiaa
