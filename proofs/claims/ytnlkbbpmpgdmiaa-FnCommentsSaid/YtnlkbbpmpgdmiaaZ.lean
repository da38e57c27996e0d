/- Reset; slices.Clone. -/
import Derived.Test.YtnlkbbpmpgdmiaaS
import Derived.OwnWalk
namespace Go.Proofs.Ytnlkbbpmpgdmiaa
open Go.RowKit
set_option linter.unusedVariables false
set_option linter.unusedSimpArgs false

set_option maxRecDepth 100000 in
/-- Reset on a parser that is new -/
theorem reset_new {w : World} {g : Nat} {kc : Bool} (hg : Blk w g 52 #[.bool kc, .slice none 0 0, .slice none 0 0, .slice none 0 0, .nilIface, .int .i64 0]) (A : Option Addr) (n c : Nat) :
    Calls Try.prog 16 #[.pointer (some ⟨g, 0, none⟩), .slice A n c] w fun e w' => e = .returned (.tuple #[]) ∧ Blk w' g 52 #[.bool kc, .slice A n c, .slice A n c, .slice none 0 0, .nilIface, .int .i64 0] ∧ (∀ B, B ≤ g → Below B w w') ∧ Kp w w' := by
  have c1 : w.cell? ⟨g, 1, none⟩ = some (.slice none 0 0) := by have := hg.cell 1; simpa using this
  have c2 : w.cell? ⟨g, 2, none⟩ = some (.slice none 0 0) := by have := hg.cell 2; simpa using this
  have c3 : w.cell? ⟨g, 3, none⟩ = some (.slice none 0 0) := by have := hg.cell 3; simpa using this
  have c4 : w.cell? ⟨g, 4, none⟩ = some .nilIface := by have := hg.cell 4; simpa using this
  have c5 : w.cell? ⟨g, 5, none⟩ = some (.int .i64 0) := by have := hg.cell 5; simpa using this
  have f1 := hg.frozen 1
  have f2 := hg.frozen 2
  have f3 := hg.frozen 3
  have f4 := hg.frozen 4
  have f5 := hg.frozen 5
  have hlt := hg.lt
  go_enter Try.func16, Try.ntmps16
  go_wp2_with fail
  go_end0
  have B1 := hg.set_ 1 (.slice A n c)
  have B2 := B1.set_ 2 (.slice A n c)
  have B3 := B2.set_ 3 (.slice none 0 0)
  have B4 := B3.set_ 4 .nilIface
  have B5 := B4.set_ 5 (.int .i64 0)
  exact ⟨rfl, B5, fun B hB => (((((Below.refl B w).setCell hB _).setCell hB _).setCell hB _).setCell hB _).setCell hB _, ((((Kp.set52 hg _ _).trans (Kp.set52 B1 _ _)).trans (Kp.set52 B2 _ _)).trans (Kp.set52 B3 _ _)).trans (Kp.set52 B4 _ _)⟩

theorem eql_nil (a : Addr) (n c : Nat) (w : World) : (binOp .eql 25 (.slice (some a) n c) (.slice none 0 0)).run Try.prog w = .ok (.bool false) w := by kernel_rfl

def CloneIs (D : List UInt8) (w : World) (e : Ending) (w' : World) : Prop :=
  ∃ b cap A, e = .returned (.slice (some A) D.length cap) ∧ Inp w' b cap D ∧ Pos b cap D D A cap ∧ Below w.heap.size w w'

theorem info5 : (Try.prog.info? 5).map (fun i => (i.zero, i.size, i.bytes)) = some (some (.int .u8 0), 1, 1) := by kernel_rfl

theorem clone_end {w w' : World} {v' : Value} {D : List UInt8} {row : Option Nat} (hb : D.length ≤ 1000000) (hown : w'.ownsRow w.heap.size 5 1 v' (0 + D.length) ([] ++ D.map fun b => Value.int .u8 b.toNat)) (hgrow : (w.alloc (.cells #[] 5)).grownBy w' (some w.heap.size)) (hnil : v' ≠ .slice none 0 0) : CloneIs D w (.returned v') w' := by
  obtain ⟨_, h2⟩ := hown
  rcases h2 with ⟨h, _⟩ | ⟨g, cap, cur, rfl, hg, hc, hn, hm, hs, ht⟩
  · exact absurd h hnil
  · rw [Nat.zero_add] at hn ht
    simp only [maxLen] at hm
    refine ⟨g, cap, ⟨g, 0, none⟩, by rw [Nat.zero_add], ⟨.inr ⟨cur, hc, ?_⟩, hn, by omega, by omega⟩, ⟨List.suffix_refl _, by omega, fun _ => by rw [Nat.sub_self]⟩, ?_⟩
    · intro k hk
      have h1 : (cur.toList.take (D.length * 1))[k]? = (D.map fun b => Value.int .u8 b.toNat)[k]? := by rw [ht]; rfl
      rw [List.getElem?_take_of_lt (by omega)] at h1
      rw [← Array.getElem?_toList, h1]
      simp [List.getD, hk]
    · exact ((Below.refl _ w).alloc (Nat.le_refl _) _).grown hgrow (by simp) (fun k hk => by injection hk with hk; omega)

set_option maxRecDepth 100000 in
theorem clone_any {w : World} {v : Value} {D : List UInt8} (hd : DataIs w v D) (hb : D.length ≤ 1000000) : Calls Try.prog 17 #[v] w (CloneIs D w) := by
  obtain ⟨blk, off, c, cs, a, rfl, h2, h3⟩ := hd
  have H3 := Lib.hid h3
  have HO : Hid ((w.alloc (.cells #[] 5)).ownsRow w.heap.size 5 1 (.slice (some ⟨w.heap.size, 0, none⟩) 0 0) 0 []) := ⟨rfl, .inr ⟨w.heap.size, 0, #[], rfl, Nat.le_refl _, Blk.new w 5 #[], Nat.le_refl _, by simp [maxLen], rfl, rfl⟩⟩
  have HN : Hid (∀ j u, (D.map fun b => Value.int .u8 b.toNat)[j]? = some u → (w.alloc (.cells #[] 5)).cell? (a.add j) = some u) := by
    intro j u hj
    have hjl : j < D.length := by
      have := (List.getElem?_eq_some_iff.1 hj).1
      simpa using this
    obtain ⟨rfl, hB, hC⟩ := H3.out (by omega)
    rw [Addr.add_lit, (hB.alloc _).cell, hC j hjl]
    simp [hjl] at hj
    rw [← hj]
    simp [List.getD, hjl]
  clear h3
  have hq := eql_nil a D.length c w
  obtain ⟨i0, hi0, hz0, hz1, hz2⟩ := info_parts info5
  have HI0 := Lib.hid hi0
  clear hi0
  go_enter Try.func17, Try.ntmps17
  go_wp2_with (first
    | (at_builtin; refine wpList_append_own _ rfl (.tmp 5) (.tmp 6) 25 rfl w.heap.size 5 i0 _ 1 1 Try.underlying25 HI0.out hz0 hz1 hz2 rfl (by decide) _ 0 [] rfl HO.out a D.length c (D.map fun b => Value.int .u8 b.toNat) rfl ?c0 HN.out ?c2 ?mx ?by_ ?bs ?_
       case c0 => simp
       case c2 => intro u hu; simp at hu; obtain ⟨_, _, rfl⟩ := hu; rfl
       case mx => simp only [maxLen]; omega
       case by_ => omega
       case bs => simp
       intro v' w' hown hgrow hnil
       have HOWN := Lib.hid hown
       have HGROW := Lib.hid hgrow
       have HNIL := Lib.hid hnil
       clear hown hgrow hnil))
  go_ret
  exact clone_end (row := none) hb HOWN.out HGROW.out (fun h => by have := (HNIL.out.1 h).1; cases this)
end Go.Proofs.Ytnlkbbpmpgdmiaa
