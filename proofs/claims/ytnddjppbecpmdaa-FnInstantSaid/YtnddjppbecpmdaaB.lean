/- Walks of the package's functions on dates. -/
import Derived.Test.YtnddjppbecpmdaaA
namespace Go.Proofs.Ytnddjppbecpmdaa
open Go.RowKit
set_option linter.unusedVariables false
set_option linter.unusedSimpArgs false

/-- the bytes l lie in block b from place off on -/
def Bts (w : World) (b off : Nat) (l : List UInt8) : Prop := ∀ k, k < l.length → w.cell? ⟨b, off + k, none⟩ = some (.int .u8 (l.getD k 0).toNat)

/-- figures alone -/
def Digs (l : List UInt8) : Prop := ∀ k, k < l.length → 48 ≤ (l.getD k 0).toNat ∧ (l.getD k 0).toNat ≤ 57

/-- what figures tell -/
def val : List UInt8 → Nat := fun l => l.foldl (fun a c => a * 10 + (c.toNat - 48)) 0

theorem val_take (l : List UInt8) (k : Nat) (h : k < l.length) : val (l.take (k + 1)) = val (l.take k) * 10 + ((l.getD k 0).toNat - 48) := by
  unfold val
  rw [List.take_succ_eq_append_getElem h, List.foldl_append]
  simp [List.getD, h]

theorem val_lt (l : List UInt8) (h : Digs l) (k : Nat) (hk : k ≤ l.length) : val (l.take k) < 10 ^ k := by
  induction k with
  | zero => simp [val]
  | succ k ih =>
    have h1 := ih (by omega)
    have h2 := h k (by omega)
    rw [val_take l k (by omega), Nat.pow_succ]
    omega

theorem pow9 {k : Nat} (h : k ≤ 9) : 10 ^ k ≤ 1000000000 := (Nat.pow_le_pow_right (by omega) h : 10 ^ k ≤ 10 ^ 9)

theorem digit_at {l : List UInt8} {w : World} {b off : Nat} (hm : Bts w b off l) (hd : Digs l) {k : Nat} (h : k < l.length) :
    ∃ c : Int, w.cell? ⟨b, off + k, none⟩ = some (.int .u8 c) ∧ 48 ≤ c ∧ c ≤ 57 ∧ Hid ((val (l.take k) : Int) * 10 + (c - 48) = (val (l.take (k + 1)) : Int)) := by
  have h1 := hm k h
  have h2 := hd k h
  refine ⟨_, h1, by omega, by omega, ?_⟩
  unfold Hid
  rw [val_take l k h]
  omega

set_option maxHeartbeats 400000 in
theorem pdd_any (l : List UInt8) (b off len cap : Nat) (w : World) (hlen : l.length = len) (hd : Digs l) (h9 : len ≤ 9) (hm : Bts w b off l) :
    Calls Try.prog 33 #[.slice (some ⟨b, off, none⟩) len cap] w fun e w' => e = .returned (.tuple #[.int .i64 (val l), .nilIface]) ∧ w = w' := by
  subst hlen
  have HD := Lib.hid hd
  have HM := Lib.hid hm
  clear hd hm
  go_enter Try.func33, Try.ntmps33
  go_wp2
  go_loop [4, 9] (fun v i => ∃ k : Nat, k ≤ l.length ∧ i = .int .i64 k ∧ v = .int .i64 (val (l.take k))) (fun _ i => l.length - (intOf i).toNat)
  case atStart => exact ⟨0, by omega, rfl, rfl⟩
  case round =>
    obtain ⟨k, hk, rfl, rfl⟩ := hrel
    have hb1 : val (l.take k) < 1000000000 := Nat.lt_of_lt_of_le (val_lt l HD.out k hk) (pow9 (by omega))
    by_cases hlt : k < l.length
    · obtain ⟨c, hc, hb2, hb3, HS⟩ := digit_at HM.out HD.out hlt
      go_wp2
      go_round
      case rel => exact ⟨k + 1, by omega, by go_num, by rw [← HS.out]⟩
      case measure => simp [intOf]; omega
    · have HK := Lib.hid (show l.take k = l from List.take_of_length_le (by omega))
      go_wp2
      go_ret2
      exact ⟨by rw [HK.out]; rfl, rfl⟩

theorem Bts.alloc {w : World} {b off : Nat} {l : List UInt8} (h : Bts w b off l) (hb : b < w.heap.size) (o : Obj) : Bts (w.alloc o) b off l :=
  fun k hk => (World.cell?_alloc_lt w o ⟨b, off + k, none⟩ hb).trans (h k hk)
theorem Bts.setCell {w : World} {b off : Nat} {l : List UInt8} (h : Bts w b off l) {p : Addr} (hb : b ≠ p.block) (u : Value) : Bts (w.setCell p u) b off l :=
  fun k hk => (World.cell?_setCell_other w p ⟨b, off + k, none⟩ u (fun e => by subst e; exact hb rfl)).trans (h k hk)
theorem Bts.below {w w' : World} {B b off : Nat} {l : List UInt8} (h : Bts w b off l) (hb : Below B w w') (hB : b < B) : Bts w' b off l :=
  fun k hk => (hb.cell (p := ⟨b, off + k, none⟩) hB).trans (h k hk)
theorem Bts.drew {w : World} {b off : Nat} {l : List UInt8} (h : Bts w b off l) : Bts w.drew b off l := h

set_option maxHeartbeats 1000000 in
theorem pld_any (ys ms ds : List UInt8) (b off cap : Nat) (w : World) (hy : ys.length = 4) (hm : ms.length = 2) (hd : ds.length = 2) (dy : Digs ys) (dm : Digs ms) (dd : Digs ds)
    (by_ : Bts w b off ys) (bm : Bts w b (off + 5) ms) (bd : Bts w b (off + 8) ds) (h4 : w.cell? ⟨b, off + 4, none⟩ = some (.int .u8 45)) (h7 : w.cell? ⟨b, off + 7, none⟩ = some (.int .u8 45)) (hb : b < w.heap.size) (hcap : 10 ≤ cap)
    (y1 : 1 ≤ val ys) (m1 : 1 ≤ val ms) (m2 : val ms ≤ 12) (d1 : 1 ≤ val ds) (d2 : (val ds : Int) ≤ mdays (val ys) (val ms)) :
    Calls Try.prog 24 #[.slice (some ⟨b, off, none⟩) 10 cap] w fun e w' => e = .returned (.tuple #[.agg #[.int .i64 (val ys), .int .i64 (val ms), .int .i64 (val ds)], .nilIface]) ∧ Below w.heap.size w w' := by
  have y2 : val ys < 10 ^ 4 := by have h := val_lt ys dy 4 (by omega); rwa [List.take_of_length_le (by omega)] at h
  have HY := Lib.hid hy
  have HM := Lib.hid hm
  have HD := Lib.hid hd
  have DY := Lib.hid dy
  have DM := Lib.hid dm
  have DD := Lib.hid dd
  have BY := Lib.hid by_
  have BM := Lib.hid bm
  have BD := Lib.hid bd
  clear hy hm hd dy dm dd by_ bm bd
  go_enter Try.func24, Try.ntmps24
  go_wp2_with fail
  refine (pdd_any ys b off 4 _ _ HY.out DY.out (by omega) ((BY.out.alloc hb _).alloc (by simp; omega) _)).mono ?_
  rintro e w' ⟨rfl, rfl⟩
  go_wp2_with fail
  refine (pdd_any ms b _ 2 _ _ HM.out DM.out (by omega) ((BM.out.alloc hb _).alloc (by simp; omega) _)).mono ?_
  rintro e w' ⟨rfl, rfl⟩
  go_wp2_with fail
  refine (pdd_any ds b _ 2 _ _ HD.out DD.out (by omega) ((BD.out.alloc hb _).alloc (by simp; omega) _)).mono ?_
  rintro e w' ⟨rfl, rfl⟩
  go_wp2_with fail
  refine (daysIn_any _ _ _ (by omega) (by omega) (by omega) (by omega)).mono ?_
  rintro e w' ⟨rfl, rfl⟩
  go_wp2_with fail
  refine bodyPost_ret (v := .tuple #[.agg #[.int .i64 (val ys), .int .i64 (val ms), .int .i64 (val ds)], .nilIface]) (by simp [results, Try.results24, go_sem]) rfl ⟨rfl, ?_⟩
  exact (((Below.refl _ _).alloc (Nat.le_refl _) _).alloc (by simp) _)

/-- a date as its signs: what the readers ask of it -/
structure IsDate (w : World) (b off : Nat) (ys ms ds : List UInt8) : Prop where
  ly : ys.length = 4
  lm : ms.length = 2
  ld : ds.length = 2
  gy : Digs ys
  gm : Digs ms
  gd : Digs ds
  cy : Bts w b off ys
  cm : Bts w b (off + 5) ms
  cd : Bts w b (off + 8) ds
  c4 : w.cell? ⟨b, off + 4, none⟩ = some (.int .u8 45)
  c7 : w.cell? ⟨b, off + 7, none⟩ = some (.int .u8 45)
  lt : b < w.heap.size
  y1 : 1 ≤ val ys
  m1 : 1 ≤ val ms
  m2 : val ms ≤ 12
  d1 : 1 ≤ val ds
  d2 : (val ds : Int) ≤ mdays (val ys) (val ms)

theorem IsDate.calls {w : World} {b off : Nat} {ys ms ds : List UInt8} (h : IsDate w b off ys ms ds) (cap : Nat) (hcap : 10 ≤ cap) :
    Calls Try.prog 24 #[.slice (some ⟨b, off, none⟩) 10 cap] w fun e w' => e = .returned (.tuple #[.agg #[.int .i64 (val ys), .int .i64 (val ms), .int .i64 (val ds)], .nilIface]) ∧ Below w.heap.size w w' :=
  pld_any ys ms ds b off cap w h.ly h.lm h.ld h.gy h.gm h.gd h.cy h.cm h.cd h.c4 h.c7 h.lt hcap h.y1 h.m1 h.m2 h.d1 h.d2

theorem IsDate.alloc {w : World} {b off : Nat} {ys ms ds : List UInt8} (h : IsDate w b off ys ms ds) (o : Obj) : IsDate (w.alloc o) b off ys ms ds :=
  { h with cy := h.cy.alloc h.lt o, cm := h.cm.alloc h.lt o, cd := h.cd.alloc h.lt o, c4 := (World.cell?_alloc_lt w o ⟨b, off + 4, none⟩ h.lt).trans h.c4, c7 := (World.cell?_alloc_lt w o ⟨b, off + 7, none⟩ h.lt).trans h.c7, lt := by have := h.lt; simp; omega }

theorem bcell {W w1 : World} {B : Nat} (hb : Below B W w1) : (∀ b o, b < B → w1.cell? ⟨b, o, none⟩ = W.cell? ⟨b, o, none⟩) ∧ (∀ b o, b < B → w1.frozen? ⟨b, o, none⟩ = W.frozen? ⟨b, o, none⟩) ∧ W.heap.size ≤ w1.heap.size :=
  ⟨fun b o h => hb.cell (p := ⟨b, o, none⟩) h, fun b o h => hb.frozen (p := ⟨b, o, none⟩) h, hb.size⟩

theorem zzdate_any (ys ms ds : List UInt8) (b cap : Nat) (w : World) (h : IsDate w b 0 ys ms ds) (hcap : 10 ≤ cap) :
    Calls Try.prog 19 #[.slice (some ⟨b, 0, none⟩) 10 cap] w fun e w' => e = .returned (.tuple #[.agg #[.int .i64 (val ys), .int .i64 (val ms), .int .i64 (val ds)], .nilIface]) ∧ Below w.heap.size w w' := by
  go_enter Try.func19, Try.ntmps19
  go_wp2_with fail
  refine ((h.alloc _).calls cap hcap).mono ?_
  rintro e w' ⟨rfl, hb⟩
  obtain ⟨hc, hf, hz⟩ := bcell hb
  have HB := Lib.hid hb
  clear hb
  simp at hz hc hf
  go_wp2_with fail
  refine bodyPost_ret (v := .tuple #[.agg #[.int .i64 (val ys), .int .i64 (val ms), .int .i64 (val ds)], .nilIface]) (by simp [results, Try.results19, go_sem, hc]) rfl ⟨rfl, ?_⟩
  exact ((((((Below.refl _ _).alloc (Nat.le_refl _) _).trans (HB.out.mono (by simp))).setCell (by simp) _).setCell (by simp) _).setCell (by simp) _)

theorem drew_alloc (w : World) (o : Obj) : w.drew.alloc o = (w.alloc o).drew := rfl

/-- a string turned into bytes: a new block that holds them -/
theorem conv_any (w : World) (l : List UInt8) : ∃ (C : Array Value) (cap : Nat) (fr : Nat × Nat), (convert 9 56 (.string ⟨l.toArray⟩)).run Try.prog w = .ok (.slice (some ⟨w.heap.size, 0, none⟩) l.length cap) (w.alloc (.cells C 5 fr)).drew ∧ l.length ≤ cap ∧
    ∀ j, j < l.length → C[j]? = some (.int .u8 (l.getD j 0).toNat) := by
  have h := run_bytes_of_string (P := Try.prog) w 9 56 5 ⟨l.toArray⟩ Try.underlying9 Try.underlying56 Try.underlying5
  refine ⟨_, _, _, h, ?_, ?_⟩
  · have := grownCap_ge w (ByteArray.mk l.toArray).size 0 5
    exact this
  · intro j hj
    rw [bytesRow_at _ _ j (by simpa using hj)]
    simp [List.getD, hj]

theorem bts_of_new {w : World} {C : Array Value} {l : List UInt8} {t : TypeId} {fr : Nat × Nat} (h : ∀ j, j < l.length → C[j]? = some (.int .u8 (l.getD j 0).toNat)) : Bts (w.alloc (.cells C t fr)) w.heap.size 0 l :=
  fun k hk => by rw [World.cell?_alloc_mark, Nat.zero_add]; exact h k hk

def dateL (ys ms ds : List UInt8) : List UInt8 := ys ++ 45 :: (ms ++ 45 :: ds)

theorem Bts.pre {w : World} {b off : Nat} {p r : List UInt8} (h : Bts w b off (p ++ r)) : Bts w b off p := by
  intro k hk
  rw [h k (by simp; omega)]
  congr 3
  simp [List.getD, List.getElem?_append, hk]

theorem Bts.post {w : World} {b off : Nat} {p r : List UInt8} (h : Bts w b off (p ++ r)) : Bts w b (off + p.length) r := by
  intro k hk
  have h1 := h (p.length + k) (by simp; omega)
  rw [← Nat.add_assoc] at h1
  rw [h1]
  congr 3
  rw [List.getD_eq_getElem?_getD, List.getD_eq_getElem?_getD, List.getElem?_append_right (by omega), Nat.add_sub_cancel_left]

theorem Bts.head {w : World} {b off : Nat} {c : UInt8} {r : List UInt8} (h : Bts w b off (c :: r)) : w.cell? ⟨b, off, none⟩ = some (.int .u8 c.toNat) ∧ Bts w b (off + 1) r := by
  refine ⟨by simpa using h 0 (by simp), fun k hk => ?_⟩
  have h1 := h (k + 1) (by simp; omega)
  rw [show off + (k + 1) = off + 1 + k from by omega] at h1
  rw [h1]
  rfl

theorem isDate_of {w : World} {b off : Nat} {ys ms ds r : List UInt8} (h : Bts w b off (dateL ys ms ds ++ r)) (ly : ys.length = 4) (lm : ms.length = 2) (ld : ds.length = 2) (gy : Digs ys) (gm : Digs ms) (gd : Digs ds) (lt : b < w.heap.size)
    (y1 : 1 ≤ val ys) (m1 : 1 ≤ val ms) (m2 : val ms ≤ 12) (d1 : 1 ≤ val ds) (d2 : (val ds : Int) ≤ mdays (val ys) (val ms)) : IsDate w b off ys ms ds ∧ Bts w b (off + 10) r := by
  have h0 := h.pre
  unfold dateL at h0
  have h1 := h0.post.head
  have h2 := h1.2.post.head
  rw [ly] at h1
  rw [ly, lm] at h2
  have h3 := h.post
  have hl : (dateL ys ms ds).length = 10 := by simp [dateL, ly, lm, ld]
  rw [hl] at h3
  refine ⟨{ ly := ly, lm := lm, ld := ld, gy := gy, gm := gm, gd := gd, cy := h0.pre, cm := ?_, cd := ?_, c4 := h1.1, c7 := ?_, lt := lt, y1 := y1, m1 := m1, m2 := m2, d1 := d1, d2 := d2 }, h3⟩
  · exact h1.2.pre
  · exact h2.2
  · exact h2.1

end Go.Proofs.Ytnddjppbecpmdaa
