/- Arguments that came in, as lists: bytes, numbers, truth values, slices of slices of bytes. -/
import Derived.Test.YtnlkbbpmpgdmiaaA
import Derived.ProofKit
import Derived.OpenShut
import Derived.ChangeSame
import Derived.ShutString
import Derived.Deep.Slices
import Derived.Carry
namespace Go.Proofs.Ytnlkbbpmpgdmiaa
open Go.RowKit Go.ChangeShapes Go.WideShapes Go.ChangeAt Go.Deep
set_option linter.unusedVariables false
set_option linter.unusedSimpArgs false

/-- a slice of cells of one value each, that came in -/
def ArgCells (w : World) (v : Value) (xs : List Value) : Prop :=
  ∃ A c, v = .slice A xs.length c ∧ xs.length ≤ c ∧ c ≤ 9223372036854775807 ∧ (0 < xs.length → ∃ b off, A = some ⟨b, off, none⟩ ∧ b < w.heap.size ∧ ∀ i u, xs[i]? = some u → w.cell? ⟨b, off + i, none⟩ = some u)

theorem ArgCells.below {w w' : World} {v : Value} {xs : List Value} (h : ArgCells w v xs) (hb : Below w.heap.size w w') : ArgCells w' v xs := by
  obtain ⟨A, c, h1, h2, h3, h4⟩ := h
  refine ⟨A, c, h1, h2, h3, fun h0 => ?_⟩
  obtain ⟨b, off, h5, h6, h7⟩ := h4 h0
  exact ⟨b, off, h5, Nat.lt_of_lt_of_le h6 hb.size, fun i u hu => (hb.cell (p := ⟨b, off + i, none⟩) h6).trans (h7 i u hu)⟩

/-- bytes that came in -/
def ArgBytes (w : World) (v : Value) (z : List UInt8) : Prop := ArgCells w v (z.map fun c => .int .u8 c.toNat)
def ArgBools (w : World) (v : Value) (z : List Bool) : Prop := ArgCells w v (z.map fun c => .bool c)
/-- numbers of 32 bits that came in -/
def ArgNums (w : World) (v : Value) (z : List Nat) : Prop := ArgCells w v (z.map fun (c : Nat) => .int .u32 (c : Int)) ∧ ∀ n ∈ z, n < 4294967296
def ArgRows (w : World) (v : Value) (R : List (List UInt8)) : Prop := ∃ vs : List Value, vs.length = R.length ∧ ArgCells w v vs ∧ ∀ (i : Nat) (u : Value) (z : List UInt8), vs[i]? = some u → R[i]? = some z → ArgBytes w u z

theorem ArgBytes.below {w w' : World} {v : Value} {z : List UInt8} (h : ArgBytes w v z) (hb : Below w.heap.size w w') : ArgBytes w' v z := ArgCells.below h hb
theorem ArgRows.below {w w' : World} {v : Value} {R : List (List UInt8)} (h : ArgRows w v R) (hb : Below w.heap.size w w') : ArgRows w' v R := by
  obtain ⟨vs, h1, h2, h3⟩ := h
  exact ⟨vs, h1, h2.below hb, fun i u z a b => (h3 i u z a b).below hb⟩

theorem spot_of {w : World} {a : Addr} {u : Value} (h : w.cell? a = some u) : ∃ b off, a = ⟨b, off, none⟩ := by
  obtain ⟨b, off, spot⟩ := a
  have hspot : spot = none := World.cell?_spot h
  subst hspot
  exact ⟨b, off, rfl⟩

theorem lt_of_cell {w : World} {b off : Nat} {u : Value} (h : w.cell? ⟨b, off, none⟩ = some u) : b < w.heap.size := World.block_lt_of_cell? w ⟨b, off, none⟩ h

theorem argCells_mk {w : World} {a : Addr} {xs : List Value} {c : Nat} (h1 : xs.length ≤ c) (h2 : c ≤ maxLen) (h : ∀ i u, xs[i]? = some u → w.cell? (a.add i) = some u) : ArgCells w (.slice (some a) xs.length c) xs := by
  refine ⟨_, c, rfl, h1, by simpa [maxLen] using h2, fun h0 => ?_⟩
  have hx : xs[0]? = some xs[0] := List.getElem?_eq_getElem h0
  have hc0 := h 0 _ hx
  have e0 : a.add 0 = a := by simp [Addr.add]
  rw [e0] at hc0
  obtain ⟨b, off, rfl⟩ := spot_of hc0
  refine ⟨b, off, rfl, lt_of_cell hc0, fun i u hu => ?_⟩
  have := h i u hu
  rwa [Go.WideShapes.add_plain] at this

theorem argCells_nil (w : World) : ArgCells w (.slice none 0 0) [] := ⟨none, 0, rfl, Nat.le_refl _, by omega, fun h => by simp at h⟩

theorem u8_of {z : Int} (h : (Lit.int .u8 z).wf = true) : z = ((UInt8.ofNat z.toNat).toNat : Int) := by
  obtain ⟨h1, h2⟩ := bounds_u8 h
  simp
  omega
theorem u32_of {z : Int} (h : (Lit.int .u32 z).wf = true) : z = (z.toNat : Int) ∧ z.toNat < 4294967296 := by
  obtain ⟨h1, h2⟩ := bounds_u32 h
  omega

section
variable {H : Type} {enc : TypeId × Value → H} {w : World} {base : Nat} {spare : Nat → Bool} {held : Bool}

theorem args_of_ints {t e : TypeId} {k : IntKind} {fuel : Nat} {v : Value} {x : DataW H × List MemPlace} (ht : Try.prog.underlying t = some (.slice e)) (he : Try.prog.underlying e = some (.int k)) (hc : Try.prog.cellsOf e = 1)
    (hf : DataW.trod enc Try.prog w base spare held fuel t v.cells.toList = some x) (hv : ∃ A n c, v = .slice A n c) : ∃ zs : List Int, ArgCells w v (zs.map fun z => .int k z) ∧ ∀ z ∈ zs, (Lit.int k z).wf = true := by
  obtain ⟨A, n, c, rfl⟩ := hv
  rcases open_ints ht he hc hf with ⟨hcs, _⟩ | ⟨x, l, c, zs, hcs, _, hl, hm, hz, _, hcell, hwz⟩
  · simp [Value.cells] at hcs
    obtain ⟨rfl, rfl, rfl⟩ := hcs
    exact ⟨[], argCells_nil w, fun z hz => by simp at hz⟩
  · simp [Value.cells] at hcs
    obtain ⟨rfl, rfl, rfl⟩ := hcs
    have hzl : n ≤ zs.length := by rw [hz]; split <;> omega
    have hlen : ((zs.take n).map fun z => Value.int k z).length = n := by simp; omega
    refine ⟨zs.take n, ?_, fun z hz => hwz z (List.mem_of_mem_take hz)⟩
    have hmk := argCells_mk (w := w) (a := x) (xs := (zs.take n).map fun z => Value.int k z) (c := c) (by omega) hm (fun i u hu => by
      rw [List.getElem?_map] at hu
      obtain ⟨z, hz1, rfl⟩ := Option.map_eq_some_iff.1 hu
      obtain ⟨hi, hz2⟩ := List.getElem?_eq_some_iff.1 hz1
      have hi' : i < n := by simp at hi; omega
      rw [hcell i (by omega)]
      rw [List.getElem_take] at hz2
      rw [List.getD_eq_getElem?_getD, List.getElem?_eq_getElem (by omega), hz2]
      rfl)
    rw [hlen] at hmk
    exact hmk

theorem args_bytes {fuel : Nat} {v : Value} {x : DataW H × List MemPlace} (hf : DataW.trod enc Try.prog w base spare held fuel 25 v.cells.toList = some x) (hv : ∃ A n c, v = .slice A n c) : ∃ z, ArgBytes w v z := by
  obtain ⟨zs, h1, h2⟩ := args_of_ints Try.underlying25 Try.underlying5 (by kernel_rfl) hf hv
  refine ⟨zs.map fun z => UInt8.ofNat z.toNat, ?_⟩
  unfold ArgBytes
  have e : ((zs.map fun z => UInt8.ofNat z.toNat).map fun c => Value.int .u8 c.toNat) = zs.map fun z => .int .u8 z := by
    rw [List.map_map]
    refine List.map_congr_left fun z hz => ?_
    show Value.int .u8 _ = Value.int .u8 z
    rw [← u8_of (h2 z hz)]
  rw [e]
  exact h1

theorem args_nums {fuel : Nat} {v : Value} {x : DataW H × List MemPlace} (hf : DataW.trod enc Try.prog w base spare held fuel 31 v.cells.toList = some x) (hv : ∃ A n c, v = .slice A n c) : ∃ z, ArgNums w v z := by
  obtain ⟨zs, h1, h2⟩ := args_of_ints Try.underlying31 Try.underlying60 (by kernel_rfl) hf hv
  refine ⟨zs.map fun z => z.toNat, ?_, ?_⟩
  · have e : ((zs.map fun z => z.toNat).map fun (c : Nat) => Value.int .u32 (c : Int)) = zs.map fun z => .int .u32 z := by
      rw [List.map_map]
      refine List.map_congr_left fun z hz => ?_
      show Value.int .u32 _ = Value.int .u32 z
      rw [← (u32_of (h2 z hz)).1]
    rw [e]
    exact h1
  · intro n hn
    obtain ⟨z, hz, rfl⟩ := List.mem_map.1 hn
    exact (u32_of (h2 z hz)).2

theorem bool_cell {fuel : Nat} {v : Value} {x : DataW H × List MemPlace} (h : DataW.trod enc Try.prog w base spare held fuel 4 [v] = some x) : ∃ b : Bool, v = .bool b := by
  obtain ⟨b, hb, _⟩ := DataW.trod_bool Try.underlying4 h
  simp at hb
  exact ⟨b, hb⟩

theorem slice_cell {fuel : Nat} {v : Value} {x : DataW H × List MemPlace} (h : DataW.trod enc Try.prog w base spare held fuel 25 [v] = some x) : ∃ A n c, v = .slice A n c := by
  rcases DataW.trod_slice Try.underlying25 h with ⟨h0, _⟩ | ⟨a, len, cap, elems, rest, n, _, h0, _⟩
  · simp at h0; exact ⟨_, _, _, h0⟩
  · simp at h0; exact ⟨_, _, _, h0⟩

theorem args_bools {fuel : Nat} {v : Value} {x : DataW H × List MemPlace} (hf : DataW.trod enc Try.prog w base spare held fuel 23 v.cells.toList = some x) (hv : ∃ A n c, v = .slice A n c) : ∃ z, ArgBools w v z := by
  obtain ⟨A, n, c, rfl⟩ := hv
  rcases open_slice1 Try.underlying23 (by kernel_rfl) hf with ⟨hcs, _⟩ | ⟨a, l, c, m, k, V, D, Pl, hcs, _, hl, hm, hmm, _, hx⟩
  · simp [Value.cells] at hcs
    obtain ⟨rfl, rfl, rfl⟩ := hcs
    exact ⟨[], argCells_nil w⟩
  · simp [Value.cells] at hcs
    obtain ⟨rfl, rfl, rfl⟩ := hcs
    have hlm : n ≤ m := by rw [hmm]; split <;> omega
    have hV : ∀ i, i < n → ∃ b : Bool, V i = .bool b := fun i hi => bool_cell (hx i (by omega)).2
    obtain ⟨f, hf2⟩ := choose_lt hV
    refine ⟨(List.range n).map f, ?_⟩
    have hmk := argCells_mk (w := w) (a := a) (xs := ((List.range n).map f).map fun c => Value.bool c) (c := c) (by simp; omega) hm (fun i u hu => by
      rw [List.getElem?_map, List.getElem?_map] at hu
      obtain ⟨z, hz1, rfl⟩ := Option.map_eq_some_iff.1 hu
      obtain ⟨y, hy1, rfl⟩ := Option.map_eq_some_iff.1 hz1
      obtain ⟨hi, hz2⟩ := List.getElem?_eq_some_iff.1 hy1
      rw [List.getElem_range] at hz2
      subst hz2
      have hi' : i < n := by simpa using hi
      rw [(hx i (by omega)).1, hf2 i hi'])
    simp only [List.length_map, List.length_range] at hmk
    exact hmk

theorem args_rows {fuel : Nat} {v : Value} {x : DataW H × List MemPlace} (hf : DataW.trod enc Try.prog w base spare held fuel 22 v.cells.toList = some x) (hv : ∃ A n c, v = .slice A n c) : ∃ R, ArgRows w v R := by
  obtain ⟨A, n, c, rfl⟩ := hv
  rcases open_slice1 Try.underlying22 (by kernel_rfl) hf with ⟨hcs, _⟩ | ⟨a, l, c, m, k, V, D, Pl, hcs, _, hl, hm, hmm, _, hx⟩
  · simp [Value.cells] at hcs
    obtain ⟨rfl, rfl, rfl⟩ := hcs
    exact ⟨[], [], rfl, argCells_nil w, fun i u z h => by simp at h⟩
  · simp [Value.cells] at hcs
    obtain ⟨rfl, rfl, rfl⟩ := hcs
    have hlm : n ≤ m := by rw [hmm]; split <;> omega
    have hV : ∀ i, i < n → ∃ z, ArgBytes w (V i) z := fun i hi => by
      have h2 := (hx i (by omega)).2
      have h3 := slice_cell h2
      have hcl : (V i).cells.toList = [V i] := by obtain ⟨A', n', c', e⟩ := h3; rw [e]; rfl
      rw [← hcl] at h2
      exact args_bytes h2 h3
    obtain ⟨f, hf2⟩ := choose_lt hV
    refine ⟨(List.range n).map f, (List.range n).map V, by simp, ?_, ?_⟩
    · have hmk := argCells_mk (w := w) (a := a) (xs := (List.range n).map V) (c := c) (by simp; omega) hm (fun i u hu => by
        rw [List.getElem?_map] at hu
        obtain ⟨y, hy1, rfl⟩ := Option.map_eq_some_iff.1 hu
        obtain ⟨hi, hz2⟩ := List.getElem?_eq_some_iff.1 hy1
        rw [List.getElem_range] at hz2
        subst hz2
        have hi' : i < n := by simpa using hi
        exact (hx i (by omega)).1)
      simp only [List.length_map, List.length_range] at hmk
      exact hmk
    · intro i u z h1 h2
      rw [List.getElem?_map] at h1 h2
      obtain ⟨y, hy1, rfl⟩ := Option.map_eq_some_iff.1 h1
      obtain ⟨y', hy2, rfl⟩ := Option.map_eq_some_iff.1 h2
      rw [hy1] at hy2
      injection hy2 with hy2
      subst hy2
      obtain ⟨hi, hz2⟩ := List.getElem?_eq_some_iff.1 hy1
      rw [List.getElem_range] at hz2
      subst hz2
      exact hf2 i (by simpa using hi)
end
end Go.Proofs.Ytnlkbbpmpgdmiaa
