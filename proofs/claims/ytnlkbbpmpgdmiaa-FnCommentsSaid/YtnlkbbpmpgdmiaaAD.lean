/- FnComments: its walk. -/
import Derived.Test.YtnlkbbpmpgdmiaaAC
import Derived.Test.YtnlkbbpmpgdmiaaAB
import Derived.Lib.AppendStr
namespace Go.Proofs.Ytnlkbbpmpgdmiaa
open Go.RowKit
set_option linter.unusedVariables false
set_option linter.unusedSimpArgs false

def SomeBool (w : World) (e : Ending) (w' : World) : Prop := ∃ t, e = .returned (.bool t) ∧ w = w'

set_option maxRecDepth 100000 in
theorem fits_any {w : World} {v : Value} {R : List (List UInt8)} (h : ArgRows w v R) : Calls Try.prog 9 #[v] w (SomeBool w) := by
  obtain ⟨vs, hl, ⟨A, c, rfl, hc, hcb, h4⟩, hr⟩ := h
  have HR : Hid (∀ (i : Nat) (u : Value), vs[i]? = some u → ∃ A' n' c', u = .slice A' n' c' ∧ n' ≤ 9223372036854775807) := by
    intro i u hu
    have hi := (List.getElem?_eq_some_iff.1 hu).1
    obtain ⟨A', c', h1, h2, h3, _⟩ := hr i u _ hu (List.getElem?_eq_getElem (by omega))
    exact ⟨A', _, c', h1, by omega⟩
  have H4 := Lib.hid h4
  clear hl h4 hr
  generalize hn : vs.length = n at *
  have HN := Lib.hid hn
  clear hn
  by_cases hn : 2147483647 < n
  · go_enter Try.func9, Try.ntmps9
    go_wp2_with fail
    go_ret
    exact ⟨false, rfl, rfl⟩
  · go_enter Try.func9, Try.ntmps9
    go_wp2_with fail
    go_loopg [10] n (fun gg s10 wx => ∃ k : Nat, s10 = .int .i64 k ∧ k + gg = n ∧ wx = w)
    case atStart => exact ⟨0, rfl, by omega, rfl⟩
    case round =>
      obtain ⟨k, rfl, hk, rfl⟩ := hrel
      cases gk with
      | zero =>
        go_wp2_with fail
        go_ret
        exact ⟨true, rfl, rfl⟩
      | succ g =>
        have hkn : k < n := by omega
        obtain ⟨b, off, rfl, hb, hcell⟩ := H4.out (by omega)
        have hx : vs[k]? = some (vs[k]'(by have := HN.out; omega)) := List.getElem?_eq_getElem _
        have hcc := hcell k _ hx
        obtain ⟨A', n', c', hu, hn'⟩ := HR.out k _ hx
        rw [hu] at hcc
        clear hcell hx hu
        by_cases hbig : 2147483647 < n'
        · go_wp2_with fail
          go_ret
          exact ⟨false, rfl, rfl⟩
        · go_wp2_with fail
          go_roundg g
          case measure => omega
          case rel => exact ⟨k + 1, by go_num, by omega, rfl⟩

/-- what leaves all blocks but those of one type as they were -/
def Ke (e : TypeId) (B : Nat) (w w' : World) : Prop := Below B w w' ∧ ∀ g t cs, t ≠ e → Blk w g t cs → Blk w' g t cs

theorem Ke.refl (e : TypeId) (B : Nat) (w : World) : Ke e B w w := ⟨Below.refl _ _, fun _ _ _ _ h => h⟩
theorem Ke.trans {e : TypeId} {B : Nat} {w w1 w2 : World} (h : Ke e B w w1) (h2 : Ke e B w1 w2) : Ke e B w w2 := ⟨h.1.trans h2.1, fun g t cs a b => h2.2 g t cs a (h.2 g t cs a b)⟩
theorem Ke.alloc {e : TypeId} {B : Nat} {w : World} (hB : B ≤ w.heap.size) (o : Obj) : Ke e B w (w.alloc o) := ⟨(Below.refl B w).alloc hB o, fun g t cs _ h => h.alloc o⟩
theorem Ke.of_below {e : TypeId} {B : Nat} {w w' : World} (h : Below w.heap.size w w') (hB : B ≤ w.heap.size) : Ke e B w w' := ⟨h.mono hB, fun g t cs _ hb => hb.below h hb.lt⟩

theorem ke_grown {B : Nat} {e : TypeId} {size n : Nat} {w w' : World} {v : Value} {xs : List Value} (ho : w.ownsRow B e size v n xs) (hg : w.grownBy w' v.ownBlock) (hB : B ≤ w.heap.size) : Ke e B w w' := by
  obtain ⟨_, h2⟩ := ho
  refine ⟨(Below.refl B w).grown hg hB ?_, ?_⟩
  · intro k hk
    rcases h2 with ⟨rfl, _⟩ | ⟨g, cap, cur, rfl, b, c, _⟩
    · cases hk
    · simp only [Value.ownBlock] at hk
      injection hk with hk
      omega
  · intro g t cs ht hb
    refine (hg.block g hb.lt ?_).trans hb
    intro he
    rcases h2 with ⟨rfl, _⟩ | ⟨g', cap, cur, rfl, b, c, _⟩
    · cases he
    · simp only [Value.ownBlock] at he
      injection he with he
      subst he
      exact hb.ne_ (g' := g) (t' := e) c ht rfl

theorem own_keep {B : Nat} {e : TypeId} {size n : Nat} {w w' : World} {v : Value} {xs : List Value} (h : w.ownsRow B e size v n xs) (hk : ∀ g cs, Blk w g e cs → Blk w' g e cs) : w'.ownsRow B e size v n xs := by
  obtain ⟨h1, h2⟩ := h
  refine ⟨h1, ?_⟩
  rcases h2 with h2 | ⟨g, cap, cur, a, b, c, d, e, f, k⟩
  · exact .inl h2
  · exact .inr ⟨g, cap, cur, a, b, hk g cur c, d, e, f, k⟩

/-- bytes in a row of the call's own -/
def Own8 (B : Nat) (w : World) (v : Value) (l : List UInt8) : Prop := w.ownsRow B 5 1 v l.length (l.map fun c => Value.int .u8 c.toNat)

theorem Own8.ke {e : TypeId} {B B' : Nat} {w w' : World} {v : Value} {l : List UInt8} (h : Own8 B w v l) (hk : Ke e B' w w') (he : 5 ≠ e) : Own8 B w' v l := own_keep h fun g cs hb => hk.2 g 5 cs he hb
theorem OutIs.ke {e : TypeId} {B B' : Nat} {w w' : World} {v : Value} {ss : List ByteArray} (h : OutIs B w v ss) (hk : Ke e B' w w') (he : 9 ≠ e) : OutIs B w' v ss := own_keep h fun g cs hb => hk.2 g 9 cs he hb

theorem Own8.data {B : Nat} {w : World} {v : Value} {l : List UInt8} (h : Own8 B w v l) (hv : v ≠ .slice none 0 0) : DataIs w v l := by
  obtain ⟨h1, h2⟩ := h
  rcases h2 with ⟨rfl, _⟩ | ⟨g, cap, cur, rfl, b, c, hn, hm, hs, ht⟩
  · exact absurd rfl hv
  · refine ⟨g, 0, cap, cur, _, rfl, hn, fun h0 => ⟨rfl, c, fun k hk => ?_⟩⟩
    have h3 : (cur.toList.take (l.length * 1))[k]? = (l.map fun c => Value.int .u8 c.toNat)[k]? := by rw [ht]
    rw [List.getElem?_take_of_lt (by omega)] at h3
    rw [Nat.zero_add, ← Array.getElem?_toList, h3, List.getElem?_map, List.getElem?_eq_getElem hk]
    simp [List.getD, hk]

theorem strCells_mk (l : List UInt8) : Lib.strCells ⟨l.toArray⟩ = l.map fun c => Value.int .u8 c.toNat := by simp [Lib.strCells]

/-- a letter or a blank of a number of eight bits -/
def plainOf (v : UInt8) : UInt8 := UInt8.ofNat (32 + v.toNat % 95)
theorem plainOf_toNat (v : UInt8) : (plainOf v).toNat = 32 + v.toNat % 95 := by unfold plainOf; simp; omega
theorem plainOf_plain (v : UInt8) : Plain (plainOf v) := by unfold Plain; rw [plainOf_toNat]; omega

theorem encode_low (n : Nat) (h : n < 128) : Utf8.encode (n : Int) = ⟨#[UInt8.ofNat n]⟩ := by
  have hv : Utf8.valid (n : Int) = true := by
    unfold Utf8.valid
    simp
    omega
  unfold Utf8.encode
  simp only [hv, if_true, Int.toNat_natCast]
  rw [if_pos (by omega)]

theorem encode_plain (v : UInt8) : Utf8.encode (32 + (v.toNat : Int) % 95) = ⟨#[plainOf v]⟩ := by
  rw [show (32 + (v.toNat : Int) % 95) = ((32 + v.toNat % 95 : Nat) : Int) from by omega, encode_low _ (by omega)]
  rfl

theorem str_snoc (o : List UInt8) (a : UInt8) : (⟨o.toArray⟩ : ByteArray) ++ ⟨#[a]⟩ = ⟨(o ++ [a]).toArray⟩ := by
  apply ByteArray.ext
  simp [ByteArray.data_append]

def remText (z : List UInt8) : List UInt8 := (z.take 50).map plainOf
def lns (R : List (List UInt8)) (L : List Bool) (k : Nat) : List Ln := (R.take k).mapIdx fun i z => ⟨L.getD i false, remText z⟩

theorem Ln.text_app (x : Ln) (r : List UInt8) : x.text r = x.text [] ++ r := by
  obtain ⟨b, p⟩ := x
  cases b <;> simp [Ln.text]
theorem docOf_snoc (a : List Ln) (x : Ln) : docOf (a ++ [x]) = docOf a ++ x.text [] := by
  induction a with
  | nil => simp [docOf]
  | cons y a ih =>
    show y.text (docOf (a ++ [x])) = y.text (docOf a) ++ x.text []
    rw [ih, y.text_app, y.text_app (docOf a), List.append_assoc]
theorem lns_succ {R : List (List UInt8)} {L : List Bool} {k : Nat} (hk : k < R.length) : lns R L (k + 1) = lns R L k ++ [⟨L.getD k false, remText R[k]⟩] := by
  unfold lns
  rw [List.take_succ_eq_append_getElem hk, List.mapIdx_append]
  simp [Nat.min_eq_left (Nat.le_of_lt hk)]
theorem lns_length (R : List (List UInt8)) (L : List Bool) (k : Nat) (hk : k ≤ R.length) : (lns R L k).length = k := by simp [lns]; omega
theorem remText_length (z : List UInt8) : (remText z).length ≤ 50 := by simp [remText]; omega
theorem doc_length (R : List (List UInt8)) (L : List Bool) (k : Nat) (hk : k ≤ R.length) : (docOf (lns R L k)).length ≤ 58 * k := by
  induction k with
  | zero => simp [lns, docOf]
  | succ k ih =>
    rw [lns_succ (by omega), docOf_snoc, List.length_append]
    have h1 := ih (by omega)
    have h2 := remText_length R[k]
    have h3 : (Ln.text ⟨L.getD k false, remText R[k]⟩ []).length ≤ (remText R[k]).length + 8 := by
      cases L.getD k false <;> simp [Ln.text]
    omega
end Go.Proofs.Ytnlkbbpmpgdmiaa
