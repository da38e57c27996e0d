/- The document and places in it; parseSimpleKey for keys without quotes. -/
import Derived.Test.YtnlkbbpmpgdmiaaJ
namespace Go.Proofs.Ytnlkbbpmpgdmiaa
open Go.RowKit
set_option linter.unusedVariables false
set_option linter.unusedSimpArgs false

/-- the document D lies in block b -/
def Doc (w : World) (b : Nat) (D : List UInt8) : Prop := D = [] ∨ ∃ cs : Array Value, Blk w b 5 cs ∧ ∀ k, k < D.length → cs[k]? = some (.int .u8 (D.getD k 0).toNat)

theorem Doc.kp {w w' : World} {b : Nat} {D : List UInt8} (h : Doc w b D) (hk : Kp w w') : Doc w' b D := by
  rcases h with h | ⟨cs, h1, h2⟩
  · exact .inl h
  · exact .inr ⟨cs, hk.2 _ _ _ (by decide) (by decide) h1, h2⟩

theorem Doc.bts {w : World} {b : Nat} {D : List UInt8} (h : Doc w b D) : Bts w b 0 D := by
  rcases h with rfl | ⟨cs, h1, h2⟩
  · intro k hk; simp at hk
  · intro k hk
    rw [Nat.zero_add, h1.cell k]
    exact h2 k hk

theorem Doc.suffix {w : World} {b : Nat} {D l : List UInt8} (h : Doc w b D) (hl : l <:+ D) : Bts w b (D.length - l.length) l := by
  have := h.bts.suffix hl
  rwa [Nat.zero_add] at this

/-- the document D (block b, room cap), and l its rest from a place on: slice a, room k -/
structure Pos (b cap : Nat) (D l : List UInt8) (a : Addr) (k : Nat) : Prop where
  suf : l <:+ D
  room : k + D.length = cap + l.length
  addr : 0 < l.length → a = ⟨b, D.length - l.length, none⟩

/-- the input as the parser's functions take it -/
structure Inp (w : World) (b cap : Nat) (D : List UInt8) : Prop where
  doc : Doc w b D
  fits : D.length ≤ cap
  bound : D.length ≤ 140737488351232 ∧ cap ≤ 9223372036854775807

theorem Inp.kp {w w' : World} {b cap : Nat} {D : List UInt8} (h : Inp w b cap D) (hk : Kp w w') : Inp w' b cap D := ⟨h.doc.kp hk, h.fits, h.bound⟩
theorem Inp.drewN {w : World} {b cap : Nat} {D : List UInt8} (h : Inp w b cap D) (n : Nat) : Inp (w.drewN n) b cap D := h.kp (Kp.drewN w n)

theorem Pos.le {b cap : Nat} {D l : List UInt8} {a : Addr} {k : Nat} (h : Pos b cap D l a k) : l.length ≤ D.length := h.suf.length_le

/-- a slice that a reader hands on is a place again -/
theorem Pos.rest {b cap : Nat} {D l r : List UInt8} {a : Addr} {k o : Nat} (h : Pos b cap D l a k) (ho : o = D.length - l.length) (hf : D.length ≤ cap) {v : Value} (hr : Rest b o k l r v) : ∃ a' k', v = .slice (some a') r.length k' ∧ Pos b cap D r a' k' := by
  subst ho
  obtain ⟨h1, a', rfl, h2⟩ := hr
  have l1 := h1.length_le
  have l2 := h.le
  have h3 := h.room
  refine ⟨a', _, rfl, h1.trans h.suf, by omega, fun h0 => ?_⟩
  rw [h2 h0]
  congr 1
  omega

/-- the bytes of a slice of bytes -/
def DataIs (w : World) (v : Value) (s : List UInt8) : Prop := ∃ (blk off c : Nat) (cs : Array Value) (a : Addr), v = .slice (some a) s.length c ∧ s.length ≤ c ∧ (0 < s.length → a = ⟨blk, off, none⟩ ∧ Blk w blk 5 cs ∧ ∀ k, k < s.length → cs[off + k]? = some (.int .u8 (s.getD k 0).toNat))

theorem DataIs.kp {w w' : World} {v : Value} {s : List UInt8} (h : DataIs w v s) (hk : Kp w w') : DataIs w' v s := by
  obtain ⟨blk, off, c, cs, a, h1, h2, h3⟩ := h
  exact ⟨blk, off, c, cs, a, h1, h2, fun h0 => ⟨(h3 h0).1, hk.2 _ _ _ (by decide) (by decide) (h3 h0).2.1, (h3 h0).2.2⟩⟩

theorem DataIs.one {w : World} {v : Value} {s : List UInt8} (h : DataIs w v s) : v.oneCell' = true := by
  obtain ⟨blk, off, c, cs, a, rfl, _⟩ := h
  rfl

/-- a part of the document -/
theorem Doc.data {w : World} {b cap k : Nat} {D l p s q : List UInt8} {a : Addr} (h : Doc w b D) (hp : Pos b cap D l a k) (hl : l = p ++ (s ++ q)) (hf : D.length ≤ cap) {a' : Addr} {c : Nat} (ha : 0 < s.length → a' = ⟨b, D.length - l.length + p.length, none⟩) (hc : s.length ≤ c) :
    DataIs w (.slice (some a') s.length c) s := by
  rcases h with rfl | ⟨cs, h1, h2⟩
  · have h3 := hp.le
    rw [hl] at h3
    simp at h3
    exact ⟨b, 0, c, #[], a', rfl, hc, fun h0 => by simp [h3.2.1] at h0⟩
  · refine ⟨b, D.length - l.length + p.length, c, cs, a', rfl, hc, fun h0 => ⟨ha h0, h1, fun j hj => ?_⟩⟩
    obtain ⟨t, ht⟩ := hp.suf
    have e : D.length - l.length = t.length := by rw [← ht]; simp
    rw [e, h2 _ (by rw [← ht, hl]; simp; omega)]
    congr 3
    rw [← ht, hl]
    rw [List.getD_eq_getElem?_getD, List.getD_eq_getElem?_getD, List.getElem?_append_right (by omega), List.getElem?_append_right (by omega), List.getElem?_append_left (by omega),
      show t.length + p.length + j - t.length - p.length = j from by omega]

/-- a key is read: a node more -/
def KeyRead (B g b cap : Nat) (kc : Bool) (D : List UInt8) (left : Value) (ns : List Nd) (err : Value) (nest : Nat) (s rest : List UInt8) (w : World) (e : Ending) (w' : World) : Prop :=
  ∃ ro rl dv a' k', e = .returned (.tuple #[.int .i32 ((ns.length : Int) + 1), .slice (some a') rest.length k', .nilIface]) ∧ Pos b cap D rest a' k' ∧
    PS B w' g b cap kc D left (ns ++ [⟨2, ro, rl, dv, 0, 0⟩]) err nest ∧ DataIs w' dv s ∧ Fr B w w'

theorem PS.kp {B g b cap : Nat} {kc : Bool} {D : List UInt8} {left err : Value} {nest : Nat} {ns : List Nd} {w w' : World} (h : PS B w g b cap kc D left ns err nest) (hb : Below w.heap.size w w') : PS B w' g b cap kc D left ns err nest := by
  obtain ⟨A, V, hg, hBg, harn, hBw⟩ := h
  refine ⟨A, V, hg.below hb hg.lt, hBg, ?_, Nat.le_trans hBw hb.size⟩
  rcases harn with h | ⟨gn, ncap, cur, junk, h1, hgn, h2⟩
  · exact .inl h
  · exact .inr ⟨gn, ncap, cur, junk, h1, hgn.below hb hgn.lt, h2⟩
theorem PS.drewN {B g b cap : Nat} {kc : Bool} {D : List UInt8} {left err : Value} {nest : Nat} {ns : List Nd} {w : World} (h : PS B w g b cap kc D left ns err nest) (n : Nat) : PS B (w.drewN n) g b cap kc D left ns err nest :=
  h.kp (Fr.drewN w n).1

set_option maxRecDepth 100000 in
set_option maxHeartbeats 4000000 in
theorem parseSimpleKey_bare {B g b cap k : Nat} {kc : Bool} {D q rest : List UInt8} {left err : Value} {nest : Nat} {ns : List Nd} {w : World} {a : Addr} (hps : PS B w g b cap kc D left ns err nest) (hi : Inp w b cap D) (hp : Pos b cap D (q ++ rest) a k)
    (hq : ∀ c ∈ q, Bare c) (hne : 0 < q.length) (hr : ∀ c r, rest = c :: r → ¬ Bare c) (hn : ns.length ≤ 400000) :
    Calls Try.prog 71 #[.pointer (some ⟨g, 0, none⟩), .slice (some a) (q.length + rest.length) k] w (KeyRead B g b cap kc D left ns err nest q rest w) := by
  have ha := hp.addr (by simp; omega)
  have hroom := hp.room
  have hle := hp.le
  have hfits := hi.fits
  have hbound := hi.bound
  simp only [List.length_append] at hroom hle
  have HP := Lib.hid hp
  have HI := Lib.hid hi
  have HPS := Lib.hid hps
  generalize ho : D.length - (q ++ rest).length = o at *
  subst ha
  have HO := Lib.hid ho
  clear hp ho hi hps
  go_enter Try.func71, Try.ntmps71
  go_wp2_with fail
  refine (scanKey_bare q rest hq hne hr _ b o k w (by have := HI.out.doc.suffix HP.out.suf; rw [HO.out] at this; exact this) (by omega) (by omega)).mono ?_
  rintro e w1 ⟨v, rfl, hv, n, rfl⟩
  obtain ⟨a', k', rfl, hp2⟩ := HP.out.rest HO.out.symm hfits hv
  have HP2 := Lib.hid hp2
  clear hv hp2
  go_wp2_with fail
  obtain ⟨A, V, hg, -, -, -⟩ := HPS.out
  have hg2 : Blk (w.drewN n) g 52 _ := hg
  refine (Range_any hg2 ⟨b, o, none⟩ q.length k (by omega) (by have := HO.out; simp at this; omega) hbound.2 hfits).mono ?_
  rintro e w1 ⟨ro, rl, rfl, hb1⟩
  have hd : DataIs w (.slice (some ⟨b, o, none⟩) q.length k) q := HI.out.doc.data (p := []) HP.out rfl hfits (fun _ => by rw [HO.out]; rfl) (by omega)
  have HD := Lib.hid hd
  have hps1 := (HPS.out.drewN n).kp hb1
  have HB1 := Lib.hid hb1
  clear hg hg2 hd hb1
  go_wp2_with fail
  refine (push_any hps1 2 ro rl _ HD.out.one hn).mono ?_
  rintro e w2 ⟨rfl, hps2, hf2⟩
  have hf1 : Fr B w w1 := (Fr.drewN w n).trans (Fr.of_below HB1.out (by have := HPS.out; obtain ⟨_, _, _, _, _, h⟩ := this; exact h))
  have HPS2 := Lib.hid hps2
  have HF2 := Lib.hid hf2
  have HF1 := Lib.hid hf1
  clear hps1 hps2 hf2 hf1
  go_wp2_with fail
  go_ret3
  exact ⟨ro, rl, _, a', k', rfl, HP2.out, HPS2.out, (HD.out.kp HF1.out.2).kp HF2.out.2, HF1.out.trans HF2.out⟩
end Go.Proofs.Ytnlkbbpmpgdmiaa
