/- Key and value: a = 5. -/
import Derived.Test.YtnlkbbpmpgdmiaaO
namespace Go.Proofs.Ytnlkbbpmpgdmiaa
open Go.RowKit
set_option linter.unusedVariables false
set_option linter.unusedSimpArgs false

/-- the line's text up to the remark -/
abbrev aIs5 (r : List UInt8) : List UInt8 := 97 :: 32 :: 61 :: 32 :: 53 :: 32 :: r

/-- key and value are read: three nodes more -/
def KvRead (B g b cap : Nat) (kc : Bool) (D : List UInt8) (left : Value) (ns : List Nd) (err : Value) (nest : Nat) (rest : List UInt8) (w : World) (e : Ending) (w' : World) : Prop :=
  ∃ r0 r1 r2 r3 r4 r5 dk dv a' k', e = .returned (.tuple #[.int .i32 ((ns.length : Int) + 1), .slice (some a') rest.length k', .nilIface]) ∧ Pos b cap D rest a' k' ∧
    PS B w' g b cap kc D left (ns ++ [⟨5, r0, r1, .slice none 0 0, 0, ns.length + 3⟩, ⟨2, r2, r3, dk, 0, 0⟩, ⟨11, r4, r5, dv, ns.length + 2, 0⟩]) err nest ∧ Fr B w w'

theorem Pos.tail {b cap k : Nat} {D r : List UInt8} {c : UInt8} {a a' : Addr} {k' : Nat} (h : Pos b cap D (c :: r) a k) (hf : D.length ≤ cap) (ha : 0 < r.length → a' = ⟨b, D.length - (c :: r).length + 1, none⟩) (hk : k' = k - 1) : Pos b cap D r a' k' := by
  have h1 := h.room
  have h2 := h.le
  simp only [List.length_cons] at h1 h2 ha
  refine ⟨(List.suffix_cons c r).trans h.suf, by omega, fun h0 => ?_⟩
  rw [ha h0]
  congr 1
  omega

theorem skip_at (m : Nat) {b cap k : Nat} {D l : List UInt8} {a : Addr} {w : World} (hi : Inp w b cap D) (hp : Pos b cap D l a k) (hm : m = l.length) : Calls Try.prog 34 #[.slice (some a) m k] w (SkipIs b cap D l w) := by
  subst hm
  exact skip_pos hi hp

theorem parseVal_at (m : Nat) {B g b cap k : Nat} {kc : Bool} {D r : List UInt8} {left err : Value} {nest : Nat} {ns : List Nd} {w : World} {a : Addr} (hps : PS B w g b cap kc D left ns err nest) (hi : Inp w b cap D) (hp : Pos b cap D (53 :: 32 :: r) a k) (hn : ns.length ≤ 400000) (hm : m = r.length + 2) :
    Calls Try.prog 69 #[.pointer (some ⟨g, 0, none⟩), .slice (some a) m k] w (ValRead 11 B g b cap kc D left ns err nest [53] (32 :: r) w) := by
  subst hm
  exact parseVal_5 hps hi hp hn

theorem at_at {w : World} {g gn : Nat} {ns : List Nd} (i : Int) (hpn : PN w g gn ns) (h : Nat) (h1 : h < ns.length) (hb : ns.length ≤ 1000000) (hi : i = (h : Int) + 1) :
    Calls Try.prog 67 #[.pointer (some ⟨g, 0, none⟩), .int .i32 i] w fun e w' => e = .returned (.pointer (some ⟨gn, 7 * h, none⟩)) ∧ w = w' := by
  subst hi
  exact at_any hpn h h1 hb

theorem PN.cellAt {w : World} {g gn : Nat} {ns : List Nd} (hpn : PN w g gn ns) {i : Nat} {x : Nd} (hi : ns[i]? = some x) (j : Nat) (hj : j < 7) {u : Value} (hu : (x.cells g)[j]? = some u) : w.cell? ⟨gn, 7 * i + j, none⟩ = some u := by
  obtain ⟨c, _, _, _, _, h⟩ := hpn
  rw [h i x hi j hj, hu]

/-- a node's cell is written: the parser's memory, and where the nodes lie -/
theorem PS.set' {B g b cap : Nat} {kc : Bool} {D : List UInt8} {left err : Value} {nest : Nat} {ns ns' : List Nd} {w w' : World} (h : PS B w g b cap kc D left ns err nest) {gn : Nat} (hpn : PN w g gn ns) {i : Nat} {x : Nd} (x' : Nd) (hi : ns[i]? = some x)
    (j : Nat) (hj : j < 7) (u : Value) (hx : (x.cells g).set j u = x'.cells g) (ho : x'.data.oneCell' = true) (hn : ns.set i x' = ns') (hw : w.setCell ⟨gn, 7 * i + j, none⟩ u = w') :
    PS B w' g b cap kc D left ns' err nest ∧ Fr B w w' ∧ PN w' g gn ns' := by
  have hcopy := h
  obtain ⟨h1, h2, _⟩ := h.set hpn hi j hj u hx ho
  rw [hn, hw] at h1
  rw [hw] at h2
  refine ⟨h1, h2, ?_⟩
  have hne : ns' ≠ [] := by
    rw [← hn]
    intro h0
    rw [List.set_eq_nil_iff] at h0
    rw [h0] at hi
    simp at hi
  obtain ⟨gn', hp'⟩ := h1.pn hne
  have : gn' = gn := by
    obtain ⟨c', d1, _⟩ := hp'
    obtain ⟨c, d2, _, _, _, _⟩ := hpn
    obtain ⟨A, V, hg, _⟩ := h
    obtain ⟨A', V', hg', _⟩ := h1
    have hgne : g ≠ gn := by
      intro h0
      subst h0
      have hc := hg.cell 0
      have hc' := hg'.cell 0
      obtain ⟨A2, V2, hg2, hB2, harn, _⟩ := hcopy
      have h3 := hg2.cell 3
      rw [d2] at h3
      simp at h3
      rcases harn with ⟨_, rfl⟩ | ⟨gn2, nc, cur, junk, rfl, hgn2, _⟩
      · cases h3
      · injection h3 with h3 _ _
        injection h3 with h3
        injection h3 with h3
        subst h3
        exact hg2.ne_ hgn2 (by decide) rfl
    rw [← hw, World.cell?_setCell_other _ _ _ _ (fun e => hgne (by injection e with e; exact e.symm)), d2] at d1
    injection d1 with d1
    injection d1 with d1
    injection d1 with d1
    injection d1 with d1
    exact d1.symm
  subst this
  exact hp'

theorem PS.nf {B g b cap : Nat} {kc : Bool} {D : List UInt8} {left err : Value} {nest : Nat} {ns : List Nd} {w : World} (h : PS B w g b cap kc D left ns err nest) {gn : Nat} (hpn : PN w g gn ns) (i : Nat) : w.frozen? ⟨gn, i, none⟩ = false := by
  obtain ⟨A, V, hg, hBg, harn, hBw⟩ := h
  obtain ⟨c, h1, _⟩ := hpn
  have h2 := hg.cell 3
  rw [h1] at h2
  simp at h2
  rcases harn with ⟨rfl, rfl⟩ | ⟨gn', ncap, cur, junk, rfl, hgn, _⟩
  · cases h2
  · injection h2 with h2 h3 h4
    injection h2 with h2
    injection h2 with h2
    subst h2
    exact hgn.frozen _

theorem set3_0 (ns : List Nd) (a b c a' : Nd) : (ns ++ [a, b, c]).set ns.length a' = ns ++ [a', b, c] := by simp
theorem set3_2 (ns : List Nd) (a b c c' : Nd) : (ns ++ [a, b, c]).set (ns.length + 2) c' = ns ++ [a, b, c'] := by
  rw [List.set_append_right _ _ (by omega), Nat.add_sub_cancel_left]
  rfl
theorem get3_0 (ns : List Nd) (a b c : Nd) : (ns ++ [a, b, c])[ns.length]? = some a := by simp
theorem get3_2 (ns : List Nd) (a b c : Nd) : (ns ++ [a, b, c])[ns.length + 2]? = some c := by
  rw [List.getElem?_append_right (by omega), Nat.add_sub_cancel_left]
  rfl

theorem parseKey_at (m : Nat) {B g b cap k : Nat} {kc : Bool} {D q rest0 : List UInt8} {left err : Value} {nest : Nat} {ns : List Nd} {w : World} {a : Addr} (hps : PS B w g b cap kc D left ns err nest) (hi : Inp w b cap D) (hp : Pos b cap D (q ++ rest0) a k)
    (hq : ∀ c ∈ q, Bare c) (hne : 0 < q.length) (hr : ∀ c r, rest0 = c :: r → ¬ Bare c) (hn : ns.length ≤ 400000) (c : UInt8) (r : List UInt8) (hs : skipWs rest0 = c :: r) (hc46 : c.toNat ≠ 46) (hm : m = q.length + rest0.length) :
    Calls Try.prog 66 #[.pointer (some ⟨g, 0, none⟩), .slice (some a) m k] w (KeyRead B g b cap kc D left ns err nest q (skipWs rest0) w) := by
  subst hm
  exact parseKey_one hps hi hp hq hne hr hn c r hs hc46

set_option maxRecDepth 100000 in
set_option maxHeartbeats 400000 in
theorem parseKeyval_5 {B g b cap k : Nat} {kc : Bool} {D r : List UInt8} {left err : Value} {nest : Nat} {ns : List Nd} {w : World} {a : Addr} (hps : PS B w g b cap kc D left ns err nest) (hi : Inp w b cap D) (hp : Pos b cap D (aIs5 r) a k) (hn : ns.length ≤ 300000) :
    Calls Try.prog 63 #[.pointer (some ⟨g, 0, none⟩), .slice (some a) (r.length + 6) k] w (KvRead B g b cap kc D left ns err nest (32 :: r) w) := by
  have hroom := hp.room
  have hle := hp.le
  have hfits := hi.fits
  have hbound := hi.bound
  simp only [List.length_cons] at hroom hle
  have HP := Lib.hid hp
  have HI := Lib.hid hi
  have HPS := Lib.hid hps
  clear hp hi hps
  go_enter Try.func63, Try.ntmps63
  go_wp2_with fail
  refine (push_any HPS.out 5 0 0 (.slice none 0 0) rfl (by omega)).mono ?_
  rintro e w1 ⟨rfl, hps1, hf1⟩
  have HPS1 := Lib.hid hps1
  have HF1 := Lib.hid hf1
  clear hps1 hf1
  go_wp2_with fail
  refine (parseKey_at (r.length + 6) (q := [97]) (rest0 := 32 :: 61 :: 32 :: 53 :: 32 :: r) HPS1.out (HI.out.kp HF1.out.2) HP.out (by intro c hc; simp at hc; subst hc; decide) (by simp) (by intro c r' h; injection h with h _; subst h; decide) (by simp; omega) 61 (32 :: 53 :: 32 :: r) (by simp [skipWs]) (by decide) (by simp; omega)).mono ?_
  rintro e w2 ⟨r2, r3, dk, a2, k2, he, hp2, hps2, hdk, hf2⟩
  rw [show skipWs (32 :: 61 :: 32 :: 53 :: 32 :: r) = 61 :: 32 :: 53 :: 32 :: r from by simp [skipWs]] at he hp2
  have he' : e = .returned (.tuple #[.int .i32 ((ns.length : Int) + 2), .slice (some a2) (r.length + 4) k2, .nilIface]) := by
    rw [he]
    simp only [List.length_append, List.length_cons, List.length_nil]
    congr 4
  clear he
  subst he'
  have HP2 := Lib.hid hp2
  have HPS2 := Lib.hid hps2
  have HF2 := Lib.hid hf2
  have HI2 : Hid (Inp w2 b cap D) := (HI.out.kp HF1.out.2).kp hf2.2
  have x2 : w2.cell? a2 = some (.int .u8 61) := by rw [hp2.addr (by simp)]; exact (HI2.out.doc.suffix hp2.suf).head.1
  have room2 := hp2.room
  simp only [List.length_cons] at room2
  have ha2 := hp2.addr (by simp)
  generalize ho : D.length - (61 :: 32 :: 53 :: 32 :: r : List UInt8).length = o at *
  subst ha2
  have HO := Lib.hid ho
  have hk2 : ¬ k2 = 1 := by omega
  have hk2' : 1 ≤ k2 := by omega
  clear hp2 hps2 hf2 ho
  have hp3 : Pos b cap D (32 :: 53 :: 32 :: r) ⟨b, o + 1, none⟩ (k2 - 1) := HP2.out.tail hfits (fun _ => by rw [HO.out]) rfl
  have HP3 := Lib.hid hp3
  clear hp3
  go_wp2_with fail
  refine (skip_at (r.length + 3) HI2.out HP3.out (by simp)).mono ?_
  rintro e w3 ⟨a4, k4, he, hp4, rfl⟩
  rw [show skipWs (32 :: 53 :: 32 :: r) = 53 :: 32 :: r from by simp [skipWs]] at he hp4
  simp only [List.length_cons] at he
  subst he
  have HP4 := Lib.hid hp4
  clear hp4
  go_wp2_with fail
  refine (parseVal_at (r.length + 1 + 1) HPS2.out HI2.out HP4.out (by simp; omega) rfl).mono ?_
  rintro e w3 ⟨r4, r5, dv, a5, k5, he, hp5, hps3, hdv, hf3⟩
  have he' : e = .returned (.tuple #[.int .i32 ((ns.length : Int) + 3), .slice (some a5) (r.length + 1) k5, .nilIface]) := by
    rw [he]
    simp only [List.length_append, List.length_cons, List.length_nil]
    congr 4
  clear he
  subst he'
  have HP5 := Lib.hid hp5
  have room5 := hp5.room
  simp only [List.length_cons] at room5
  have HF3 := Lib.hid hf3
  have HDV := Lib.hid hdv
  rw [List.append_assoc, List.append_assoc] at hps3
  simp only [List.cons_append, List.nil_append] at hps3
  obtain ⟨gn, hpn⟩ := hps3.pn (by simp)
  have hdk1 : dk.oneCell' = true := hdk.one
  have HPS3 := Lib.hid hps3
  have HPN := Lib.hid hpn
  have HDK := Lib.hid hdk1
  have HNL : Hid (∀ x y z : Nd, (ns ++ [x, y, z]).length = ns.length + 3) := by intro x y z; simp
  generalize hN : ns.length = N at *
  have HN := Lib.hid hN
  have cA := hpn.cellAt (i := N) (by rw [← hN]; exact get3_0 _ _ _ _) 6 (by omega) (u := .int .i32 0) rfl
  have fA := hps3.nf hpn (7 * N + 6)
  clear hps3 hpn hN hdk hdk1
  go_wp2_with fail
  refine (at_at _ HPN.out N (by rw [HNL.out]; omega) (by rw [HNL.out]; omega) rfl).mono ?_
  rintro e w4 ⟨rfl, rfl⟩
  go_wp2_with fail
  generalize hw4 : w3.setCell ⟨gn, 7 * N + 6, none⟩ (.int .i32 ((N : Int) + 3)) = w4
  obtain ⟨hps4, hf4, hpn4⟩ := PS.set' (ns' := ns ++ [⟨5, 0, 0, .slice none 0 0, 0, N + 3⟩, ⟨2, r2, r3, dk, 0, 0⟩, ⟨11, r4, r5, dv, 0, 0⟩]) HPS3.out HPN.out (i := N) (x := ⟨5, 0, 0, .slice none 0 0, 0, 0⟩) ⟨5, 0, 0, .slice none 0 0, 0, N + 3⟩ (by rw [← HN.out]; exact get3_0 _ _ _ _) 6 (by omega) (.int .i32 ((N : Int) + 3)) (by simp [Nd.cells]) rfl (by rw [← HN.out]; exact set3_0 _ _ _ _ _) hw4
  have cB := hpn4.cellAt (i := N + 2) (by rw [← HN.out]; exact get3_2 _ _ _ _) 5 (by omega) (u := .int .i32 0) rfl
  have fB := hps4.nf hpn4 (7 * (N + 2) + 5)
  have HPS4 := Lib.hid hps4
  have HPN4 := Lib.hid hpn4
  have HF4 := Lib.hid hf4
  clear hps4 hpn4 hf4 hw4 cA fA
  refine (at_at _ HPN4.out (N + 2) (by rw [HNL.out]; omega) (by rw [HNL.out]; omega) (by omega)).mono ?_
  rintro e w5 ⟨rfl, rfl⟩
  go_wp2_with fail
  generalize hw5 : w4.setCell ⟨gn, 7 * (N + 2) + 5, none⟩ (.int .i32 ((N : Int) + 2)) = w5
  obtain ⟨hps5, hf5, hpn5⟩ := PS.set' (ns' := ns ++ [⟨5, 0, 0, .slice none 0 0, 0, N + 3⟩, ⟨2, r2, r3, dk, 0, 0⟩, ⟨11, r4, r5, dv, N + 2, 0⟩]) HPS4.out HPN4.out (i := N + 2) (x := ⟨11, r4, r5, dv, 0, 0⟩) ⟨11, r4, r5, dv, N + 2, 0⟩ (by rw [← HN.out]; exact get3_2 _ _ _ _) 5 (by omega) (.int .i32 ((N : Int) + 2)) (by simp [Nd.cells]) (HDV.out.one) (by rw [← HN.out]; exact set3_2 _ _ _ _ _) hw5
  have HPS5 := Lib.hid hps5
  have HPN5 := Lib.hid hpn5
  have HF5 := Lib.hid hf5
  clear hps5 hpn5 hf5 hw5 cB fB
  refine (at_at _ HPN5.out N (by rw [HNL.out]; omega) (by rw [HNL.out]; omega) rfl).mono ?_
  rintro e w6 ⟨rfl, rfl⟩
  go_wp2_with fail
  obtain ⟨A, V, hg, hBg, -, hBw⟩ := HPS5.out
  refine (rangeFrom_any hg (some a) (some a5) (r.length + 6) k (r.length + 1) k5 (by omega) (by omega) hbound.2).mono ?_
  rintro e w6 ⟨ro, rl, rfl, hb6⟩
  have hps6 := HPS5.out.kp hb6
  have hpn6 := HPN5.out.below hb6
  have hf6 : Fr B w5 w6 := Fr.of_below hb6 hBw
  have c1 := hpn6.cellAt (i := N) (by rw [← HN.out]; exact get3_0 _ _ _ _) 1 (by omega) (u := .int .u32 0) rfl
  have c2 := hpn6.cellAt (i := N) (by rw [← HN.out]; exact get3_0 _ _ _ _) 2 (by omega) (u := .int .u32 0) rfl
  have f1 := hps6.nf hpn6 (7 * N + 1)
  have f2 := hps6.nf hpn6 (7 * N + 2)
  have HPS6 := Lib.hid hps6
  have HPN6 := Lib.hid hpn6
  have HF6 := Lib.hid hf6
  clear hg hBg hBw hb6 hps6 hpn6 hf6
  go_wp2_with fail
  generalize hw7 : w6.setCell ⟨gn, 7 * N + 1, none⟩ (.int .u32 ro) = w7
  obtain ⟨hps7, hf7, hpn7⟩ := PS.set' (ns' := ns ++ [⟨5, ro, 0, .slice none 0 0, 0, N + 3⟩, ⟨2, r2, r3, dk, 0, 0⟩, ⟨11, r4, r5, dv, N + 2, 0⟩]) HPS6.out HPN6.out (i := N) (x := ⟨5, 0, 0, .slice none 0 0, 0, N + 3⟩) ⟨5, ro, 0, .slice none 0 0, 0, N + 3⟩ (by rw [← HN.out]; exact get3_0 _ _ _ _) 1 (by omega) (.int .u32 ro) (by simp [Nd.cells]) rfl (by rw [← HN.out]; exact set3_0 _ _ _ _ _) hw7
  generalize hw8 : w7.setCell ⟨gn, 7 * N + 2, none⟩ (.int .u32 rl) = w8
  obtain ⟨hps8, hf8, hpn8⟩ := PS.set' (ns' := ns ++ [⟨5, ro, rl, .slice none 0 0, 0, N + 3⟩, ⟨2, r2, r3, dk, 0, 0⟩, ⟨11, r4, r5, dv, N + 2, 0⟩]) hps7 hpn7 (i := N) (x := ⟨5, ro, 0, .slice none 0 0, 0, N + 3⟩) ⟨5, ro, rl, .slice none 0 0, 0, N + 3⟩ (by rw [← HN.out]; exact get3_0 _ _ _ _) 2 (by omega) (.int .u32 rl) (by simp [Nd.cells]) rfl (by rw [← HN.out]; exact set3_0 _ _ _ _ _) hw8
  go_ret3
  refine ⟨ro, rl, r2, r3, r4, r5, dk, dv, a5, k5, by rw [HN.out]; rfl, HP5.out, by rw [HN.out]; exact hps8, ?_⟩
  exact (((((((HF1.out.trans HF2.out).trans HF3.out).trans HF4.out).trans HF5.out).trans HF6.out).trans hf7).trans hf8)
end Go.Proofs.Ytnlkbbpmpgdmiaa
