/- Walks of the package's functions on zones. -/
import Derived.Test.YtnddjppbecpmdaaIA
namespace Go.Proofs.Ytnddjppbecpmdaa
open Go.RowKit
set_option linter.unusedVariables false
set_option linter.unusedSimpArgs false

/-- the zone of no offset -/
def IsUtc (w : World) (g : Nat) : Prop := Blk w g 105 #[.bool true, .string ⟨#[85, 84, 67]⟩, .slice none 0 0, .slice none 0 0, .string ⟨#[]⟩, .int .i64 0, .int .i64 0, .pointer none]
/-- a zone of a fixed offset -/
def IsFix (w : World) (g : Nat) (o : Int) : Prop := ∃ gz gt : Nat,
  Blk w g 105 #[.bool false, .string ⟨#[]⟩, .slice (some ⟨gz, 0, none⟩) 1 1, .slice (some ⟨gt, 0, none⟩) 1 1, .string ⟨#[]⟩, .int .i64 (-9223372036854775808), .int .i64 9223372036854775807, .pointer (some ⟨gz, 0, none⟩)] ∧
  Blk w gz 113 #[.string ⟨#[]⟩, .int .i64 o, .bool false]

theorem IsFix.lt {w : World} {g : Nat} {o : Int} (h : IsFix w g o) : g < w.heap.size := by
  obtain ⟨gz, gt, h1, h2⟩ := h
  exact h1.lt

theorem IsFix.below {w w' : World} {g : Nat} {o : Int} (h : IsFix w g o) (hb : Below w.heap.size w w') : IsFix w' g o := by
  obtain ⟨gz, gt, h1, h2⟩ := h
  exact ⟨gz, gt, h1.below hb h1.lt, h2.below hb h2.lt⟩

theorem IsUtc.below {w w' : World} {g : Nat} (h : IsUtc w g) (hb : Below w.heap.size w w') : IsUtc w' g := Blk.below h hb (Blk.lt h)

def UtcRes (w : World) (e : Ending) (w' : World) : Prop := ∃ g, e = .returned (.pointer (some ⟨g, 0, none⟩)) ∧ IsUtc w' g ∧ Below w.heap.size w w' ∧ w.heap.size ≤ g
def FixRes (o : Int) (w : World) (e : Ending) (w' : World) : Prop := ∃ g, e = .returned (.pointer (some ⟨g, 0, none⟩)) ∧ IsFix w' g o ∧ Below w.heap.size w w' ∧ w.heap.size ≤ g

set_option maxRecDepth 100000 in
set_option maxHeartbeats 2000000 in
theorem utc_any (w : World) : Calls Try.prog 40 #[] w (UtcRes w) := by
  go_enter Try.func40, Try.ntmps40
  go_wp2
  go_ret
  exact ⟨_, rfl, Blk.new _ _ _, (Below.refl _ _).alloc (Nat.le_refl _) _, Nat.le_refl _⟩

set_option maxRecDepth 100000 in
set_option maxHeartbeats 2000000 in
theorem fixedZone_any (o : Int) (w : World) : Calls Try.prog 41 #[.string ⟨#[]⟩, .int .i64 o] w (FixRes o w) := by
  go_enter Try.func41, Try.ntmps41
  go_wp2
  go_ret
  refine ⟨w.heap.size + 1 + 1, rfl, ⟨w.heap.size, w.heap.size + 1, ?_, ?_⟩, below3 _ _ _ _, by omega⟩
  · have h := Blk.new ((w.alloc (.cells #[.string ⟨#[]⟩, .int .i64 o, .bool false] 113)).alloc (.cells #[.int .i64 (-9223372036854775808), .int .u8 0, .bool false, .bool false] 115)) 105 #[.bool false, .string ⟨#[]⟩, .slice (some ⟨w.heap.size, 0, none⟩) 1 1, .slice (some ⟨w.heap.size + 1, 0, none⟩) 1 1, .string ⟨#[]⟩, .int .i64 (-9223372036854775808), .int .i64 9223372036854775807, .pointer (some ⟨w.heap.size, 0, none⟩)]
    rw [World.size_alloc, World.size_alloc] at h
    exact h
  · exact ((Blk.new w 113 _).alloc _).alloc _

def LookRes (nm : ByteArray) (o : Int) (w : World) (e : Ending) (w' : World) : Prop := e = .returned (.tuple #[.string nm, .int .i64 o, .int .i64 (-9223372036854775808), .int .i64 9223372036854775807, .bool false]) ∧ Below w.heap.size w w'

def LookSame (nm : ByteArray) (o : Int) (w : World) (e : Ending) (w' : World) : Prop := e = .returned (.tuple #[.string nm, .int .i64 o, .int .i64 (-9223372036854775808), .int .i64 9223372036854775807, .bool false]) ∧ w = w'

set_option maxRecDepth 100000 in
set_option maxHeartbeats 2000000 in
theorem lookup_fix (o sec : Int) (g : Nat) (w : World) (h : IsFix w g o) (h0 : -9223372036854775808 ≤ sec) (h1 : sec < 9223372036854775807) :
    Calls Try.prog 43 #[.pointer (some ⟨g, 0, none⟩), .int .i64 sec] w (LookSame ⟨#[]⟩ o w) := by
  obtain ⟨gz, gt, hg, hz⟩ := h
  have c1 := hg.cell
  have c2 := hz.cell
  simp at c1 c2
  clear hg hz
  go_enter Try.func43, Try.ntmps43
  go_wp2
  refine bodyPost_ret (v := .tuple #[.string ⟨#[]⟩, .int .i64 o, .int .i64 (-9223372036854775808), .int .i64 9223372036854775807, .bool false]) (by simp [results, Try.results43, go_sem]) rfl ⟨rfl, rfl⟩

set_option maxRecDepth 100000 in
set_option maxHeartbeats 2000000 in
theorem lookup_utc (sec : Int) (g : Nat) (w : World) (h : IsUtc w g) :
    Calls Try.prog 43 #[.pointer (some ⟨g, 0, none⟩), .int .i64 sec] w (LookSame ⟨#[85, 84, 67]⟩ 0 w) := by
  have c1 := Blk.cell h
  simp at c1
  clear h
  go_enter Try.func43, Try.ntmps43
  go_wp2
  refine bodyPost_ret (v := .tuple #[.string ⟨#[85, 84, 67]⟩, .int .i64 0, .int .i64 (-9223372036854775808), .int .i64 9223372036854775807, .bool false]) (by simp [results, Try.results43, go_sem]) rfl ⟨rfl, rfl⟩

set_option maxRecDepth 100000 in
set_option maxHeartbeats 2000000 in
theorem lookup_nil (sec : Int) (w : World) :
    Calls Try.prog 43 #[.pointer none, .int .i64 sec] w (LookRes ⟨#[85, 84, 67]⟩ 0 w) := by
  go_enter Try.func43, Try.ntmps43
  go_wp2
  refine bodyPost_ret (v := .tuple #[.string ⟨#[85, 84, 67]⟩, .int .i64 0, .int .i64 (-9223372036854775808), .int .i64 9223372036854775807, .bool false]) (by simp [results, Try.results43, go_sem]) rfl ⟨rfl, (Below.refl _ _).alloc (Nat.le_refl _) _⟩
end Go.Proofs.Ytnddjppbecpmdaa
