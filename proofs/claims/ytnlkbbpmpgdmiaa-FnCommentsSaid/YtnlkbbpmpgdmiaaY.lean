/- remarks of a remark. -/
import Derived.Test.YtnlkbbpmpgdmiaaX
import Derived.Laws.IdiomStrings
import Derived.OwnWalk
namespace Go.Proofs.Ytnlkbbpmpgdmiaa
open Go.RowKit
set_option linter.unusedVariables false
set_option linter.unusedSimpArgs false

/-- a slice of strings of the call's own -/
def OutIs (B : Nat) (w : World) (v : Value) (ss : List ByteArray) : Prop := w.ownsRow B 9 1 v ss.length (ss.map Value.string)

/-- what leaves all but strings as it was -/
def Kq (B : Nat) (w w' : World) : Prop := Below B w w' ∧ ∀ g t cs, t ≠ 9 → Blk w g t cs → Blk w' g t cs

theorem OutIs.keep {B : Nat} {w w' : World} {v : Value} {ss : List ByteArray} (h : OutIs B w v ss) (hk : ∀ g cs, Blk w g 9 cs → Blk w' g 9 cs) : OutIs B w' v ss := by
  obtain ⟨h1, h2⟩ := h
  refine ⟨h1, ?_⟩
  rcases h2 with h2 | ⟨g, cap, cur, a, b, c, d, e, f, k⟩
  · exact .inl h2
  · exact .inr ⟨g, cap, cur, a, b, hk g cur c, d, e, f, k⟩

theorem OutIs.kp {B : Nat} {w w' : World} {v : Value} {ss : List ByteArray} (h : OutIs B w v ss) (hk : Kp w w') : OutIs B w' v ss := h.keep fun g cs hb => hk.2 g 9 cs (by decide) (by decide) hb
theorem OutIs.below {B : Nat} {w w' : World} {v : Value} {ss : List ByteArray} (h : OutIs B w v ss) (hk : Below w.heap.size w w') : OutIs B w' v ss := h.keep fun g cs hb => hb.below hk hb.lt

theorem info9 : (Try.prog.info? 9).map (fun i => (i.zero, i.size, i.bytes)) = some (some (.string ByteArray.empty), 1, 16) := by kernel_rfl

def RemIs (B : Nat) (ss : List ByteArray) (s : List UInt8) (w : World) (e : Ending) (w' : World) : Prop := ∃ v', e = .returned v' ∧ OutIs B w' v' (ss ++ [⟨s.toArray⟩]) ∧ Kq B w w'

theorem DataIs.conv {w : World} {v : Value} {s : List UInt8} (h : DataIs w v s) : (convert 25 9 v).run Try.prog w = .ok (.string ⟨s.toArray⟩) w := by
  obtain ⟨blk, off, c, cs, a, rfl, h2, h3⟩ := h
  refine run_convert_bytes_back w 25 9 5 a c s Try.underlying25 Try.underlying5 Try.underlying9 ?_
  intro j hj
  obtain ⟨rfl, hb, hc⟩ := h3 (by omega)
  rw [Addr.add_lit, hb.cell, hc j hj]
  congr 3
  simp [List.getD, hj]

theorem kq_of {B : Nat} {w w' : World} {v : Value} {ss : List ByteArray} {o : Obj} (ho : OutIs B w v ss) (hB : B ≤ w.heap.size) (hgrow : (w.alloc o).grownBy w' v.ownBlock) : Kq B w w' := by
  obtain ⟨_, h2⟩ := ho
  refine ⟨((Below.refl B w).alloc hB o).grown hgrow (by simp; omega) ?_, ?_⟩
  · intro k hk
    rcases h2 with ⟨rfl, _⟩ | ⟨g, cap, cur, rfl, b, c, _⟩
    · cases hk
    · simp only [Value.ownBlock] at hk
      injection hk with hk
      omega
  · intro g t cs ht hb
    refine (hgrow.block g (by have := hb.lt; simp; omega) ?_).trans (hb.alloc o)
    intro he
    rcases h2 with ⟨rfl, _⟩ | ⟨g', cap, cur, rfl, b, c, _⟩
    · cases he
    · simp only [Value.ownBlock] at he
      injection he with he
      subst he
      exact hb.ne_ (g' := g) (t' := 9) c ht rfl

set_option maxRecDepth 100000 in
set_option maxHeartbeats 2000000 in
theorem remarks_com {B : Nat} {w : World} {g gn : Nat} {ns : List Nd} (h : PN w g gn ns) {i : Nat} {x : Nd} (hi : ns[i]? = some x) (hx1 : x.kind = 1) {s : List UInt8} (hd : DataIs w x.data s) {v : Value} {ss : List ByteArray} (ho : OutIs B w v ss) (hss : ss.length ≤ 1000) (hB : B ≤ w.heap.size) :
    Calls Try.prog 20 #[v, ndPtr gn i] w (RemIs B ss s w) := by
  have c0 := h.kind hi
  rw [hx1] at c0
  have c3 := h.cellAt hi 3 (by omega) (u := x.data) rfl
  have hcv := hd.conv
  obtain ⟨i0, hi0, hz0, hz1, hz2⟩ := info_parts info9
  generalize x.data = dv at *
  have HO := Lib.hid ho
  have HI0 := Lib.hid hi0
  clear h hi ho hd
  have HOW : Hid (OutIs B (w.alloc (.cells #[.string ⟨s.toArray⟩] 9)) v ss) := HO.out.keep (fun g cs hb => hb.alloc _)
  go_enter Try.func20, Try.ntmps20
  go_wp2_with (first
    | (at_builtin; refine wpList_append_own _ rfl (.tmp 11) (.tmp 17) 26 rfl B 9 i0 _ 1 16 Try.underlying26 HI0.out hz0 hz1 hz2 rfl (by decide) v ss.length (ss.map Value.string) rfl HOW.out ⟨w.heap.size, 0, none⟩ 1 1 [.string ⟨s.toArray⟩] rfl rfl ?c1 ?c2 ?mx ?by_ ?bs ?_
       case c1 => exact (Blk.add (l := [.string ⟨s.toArray⟩]) (Blk.new w 9 _))
       case c2 => intro u hu; simp at hu; subst hu; rfl
       case mx => simp only [maxLen]; omega
       case by_ => omega
       case bs => simp; omega
       intro v' w' hown hgrow hnil))
  go_ret
  refine ⟨v', rfl, ?_, ?_⟩
  · show World.ownsRow w' B 9 1 v' (ss ++ [_]).length ((ss ++ [_]).map Value.string)
    rw [List.length_append, List.map_append]
    exact hown
  · exact kq_of HO.out hB hgrow
end Go.Proofs.Ytnlkbbpmpgdmiaa
