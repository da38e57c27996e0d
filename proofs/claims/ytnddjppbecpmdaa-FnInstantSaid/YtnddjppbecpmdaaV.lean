/- Walks of the thin package's clock and of the reference's clock. -/
import Derived.Test.YtnddjppbecpmdaaU
namespace Go.Proofs.Ytnddjppbecpmdaa
open Go.RowKit
set_option linter.unusedVariables false
set_option linter.unusedSimpArgs false

/-- what may stand behind a time: nothing, or a sign that is no figure and no point -/
def RestOk (r : List UInt8) : Prop := ∀ c q, r = c :: q → (c.toNat < 48 ∨ 57 < c.toNat) ∧ c.toNat ≠ 46

/-- a text of a time: what the package's reader says of it, wherever it lies and whatever lies behind -/
def TimeText (l : List UInt8) (h m s n p : Int) : Prop :=
  ∀ (w : World) (b off cap : Nat) (r : List UInt8), Bts w b off (l ++ r) → b < w.heap.size → (l ++ r).length ≤ cap → RestOk r →
    Calls Try.prog 26 #[.slice (some ⟨b, off, none⟩) (l ++ r).length cap] w (TimeRes h m s n p b (off + l.length) r.length w)

def clockL (hs ms ss : List UInt8) : List UInt8 := hs ++ 58 :: (ms ++ 58 :: ss)

theorem isTime_of {w : World} {b off : Nat} {hs ms ss r : List UInt8} (h : Bts w b off (clockL hs ms ss ++ r)) (lh : hs.length = 2) (lm : ms.length = 2) (ls : ss.length = 2) (gh : Digs hs) (gm : Digs ms) (gs : Digs ss) (lt : b < w.heap.size)
    (h1 : val hs ≤ 23) (m1 : val ms ≤ 59) (s1 : val ss ≤ 59) : IsTime w b off hs ms ss ∧ Bts w b (off + 5 + 3) r := by
  have h0 := h.pre
  unfold clockL at h0
  have k1 := h0.post.head
  have k2 := k1.2.post.head
  rw [lh] at k1
  rw [lh, lm] at k2
  have k3 := h.post
  have hl : (clockL hs ms ss).length = 8 := by simp [clockL, lh, lm, ls]
  rw [hl] at k3
  exact ⟨⟨lh, lm, ls, gh, gm, gs, h0.pre, k1.2.pre, k2.2, k1.1, k2.1, lt, h1, m1, s1⟩, k3⟩

theorem timeText_plain (hs ms ss : List UInt8) (lh : hs.length = 2) (lm : ms.length = 2) (ls : ss.length = 2) (gh : Digs hs) (gm : Digs ms) (gs : Digs ss) (h1 : val hs ≤ 23) (m1 : val ms ≤ 59) (s1 : val ss ≤ 59) :
    TimeText (clockL hs ms ss) (val hs) (val ms) (val ss) 0 0 := by
  intro w b off cap r hb lt hcap hr
  obtain ⟨ht, hrest⟩ := isTime_of hb lh lm ls gh gm gs lt h1 m1 s1
  have hl : (clockL hs ms ss ++ r).length = 8 + r.length := by simp [clockL, lh, lm, ls]; omega
  have hl8 : (clockL hs ms ss).length = 8 := by simp [clockL, lh, lm, ls]
  rw [hl] at hcap ⊢
  have hp := plt_plain hs ms ss b off (8 + r.length) cap w ht (by omega) hcap (fun h => by
    cases r with
    | nil => simp at h
    | cons c q => exact ⟨_, hrest.head.1, by have := (hr c q rfl).2; simp; omega⟩)
  rw [show 8 + r.length - 5 - 3 = r.length from by omega] at hp
  rw [hl8]
  exact hp

theorem timeText_frac (hs ms ss fs : List UInt8) (lh : hs.length = 2) (lm : ms.length = 2) (ls : ss.length = 2) (gh : Digs hs) (gm : Digs ms) (gs : Digs ss) (h1 : val hs ≤ 23) (m1 : val ms ≤ 59) (s1 : val ss ≤ 59)
    (gf : Digs fs) (l1 : 1 ≤ fs.length) (l9 : fs.length ≤ 9) :
    TimeText (clockL hs ms ss ++ 46 :: fs) (val hs) (val ms) (val ss) ((val fs : Int) * (nsp fs.length : Nat)) fs.length := by
  intro w b off cap r hb lt hcap hr
  rw [List.append_assoc] at hb
  obtain ⟨ht, hrest⟩ := isTime_of hb lh lm ls gh gm gs lt h1 m1 s1
  rw [List.cons_append] at hrest
  have hl : (clockL hs ms ss ++ 46 :: fs ++ r).length = 9 + fs.length + r.length := by simp [clockL, lh, lm, ls]; omega
  have hl8 : (clockL hs ms ss ++ 46 :: fs).length = 9 + fs.length := by simp [clockL, lh, lm, ls]; omega
  rw [hl] at hcap ⊢
  have hp := plt_frac hs ms ss fs b off (9 + fs.length + r.length) cap w ht (by omega) hcap hrest.head.1 gf hrest.head.2.pre l1 l9 (fun h => by
    cases r with
    | nil => simp at h
    | cons c q =>
      have := c.toNat_lt
      exact ⟨_, hrest.head.2.post.head.1, by omega, by omega, by have := (hr c q rfl).1; omega⟩)
  rw [show 9 + fs.length + r.length - 5 - 3 - 1 - fs.length = r.length from by omega, show off + 5 + 3 + 1 + fs.length = off + (9 + fs.length) from by omega] at hp
  rw [hl8]
  exact hp

set_option maxRecDepth 100000 in
set_option maxHeartbeats 1000000 in
theorem zztime_any (l : List UInt8) (h m s n p : Int) (b cap : Nat) (w : World) (hc : TimeText l h m s n p) (hb : Bts w b 0 l) (lt : b < w.heap.size) (hcap : l.length ≤ cap) :
    Calls Try.prog 21 #[.slice (some ⟨b, 0, none⟩) l.length cap] w fun e w' => e = .returned (.tuple #[.agg #[.int .i64 h, .int .i64 m, .int .i64 s, .int .i64 n, .int .i64 p], .int .i64 0, .nilIface]) ∧ Below w.heap.size w w' := by
  have hc2 : ∀ o, Calls Try.prog 26 #[.slice (some ⟨b, 0, none⟩) l.length cap] (w.alloc o) (TimeRes h m s n p b (0 + l.length) 0 (w.alloc o)) := fun o => by
    have := hc (w.alloc o) b 0 cap [] (by simpa using hb.alloc lt o) (by simp; omega) (by simpa using hcap) (fun c q h => by cases h)
    simpa using this
  have HC := Lib.hid hc2
  clear hc hc2 hb hcap
  go_enter Try.func21, Try.ntmps21
  go_wp2_with fail
  refine (HC.out _).mono ?_
  rintro e w' ⟨A, k', rfl, _, _, hb⟩
  obtain ⟨hc, hf, hz⟩ := bcell hb
  have HB := Lib.hid hb
  clear hb
  simp at hz hc hf
  have hz0 : w.heap.size < w'.heap.size := by omega
  have c0 := fun o => hc w.heap.size o (by omega)
  have f0 := fun o => hf w.heap.size o (by omega)
  clear hc hf
  go_wp2_with fail
  refine bodyPost_ret (v := .tuple #[.agg #[.int .i64 h, .int .i64 m, .int .i64 s, .int .i64 n, .int .i64 p], .int .i64 0, .nilIface]) (by simp [results, Try.results21, go_sem, c0, hz0]) rfl ⟨rfl, ?_⟩
  exact ((((((((Below.refl _ _).alloc (Nat.le_refl _) _).trans (HB.out.mono (by simp))).setCell (by simp) _).setCell (by simp) _).setCell (by simp) _).setCell (by simp) _).setCell (by simp) _).alloc (by simp; omega) _

set_option maxRecDepth 100000 in
set_option maxHeartbeats 1000000 in
theorem implClock_any (l : List UInt8) (h m s n p : Int) (w : World) (hc : TimeText l h m s n p) :
    Calls Try.prog 14 #[.string ⟨l.toArray⟩] w fun e w' => e = .returned (.tuple #[.agg #[.int .i64 h, .int .i64 m, .int .i64 s, .int .i64 n], .bool true]) ∧ Below w.heap.size w w' := by
  obtain ⟨C, cap, fr, hconv, hcap, hC⟩ := conv_any (w.alloc (.cells #[.int .i64 0, .int .i64 0, .int .i64 0, .int .i64 0] 35)) l
  have hb0 := bts_of_new (w := w.alloc (.cells #[.int .i64 0, .int .i64 0, .int .i64 0, .int .i64 0] 35)) (t := 5) (fr := fr) hC
  have hd := zztime_any l h m s n p _ cap _ hc hb0.drew (by simp) hcap
  have HD := Lib.hid hd
  clear hd hb0 hC hc hcap
  go_enter Try.func14, Try.ntmps14
  go_wp2_with fail
  refine (show Calls Try.prog 21 #[.slice (some ⟨w.heap.size + 1, 0, none⟩) l.length cap] _ _ by simpa using HD.out).mono ?_
  rintro e w' ⟨rfl, hb⟩
  obtain ⟨hc, hf, hz⟩ := bcell hb
  have HB := Lib.hid hb
  clear hb
  simp at hz hc hf
  have hz0 : w.heap.size < w'.heap.size := by omega
  have hz1 : w.heap.size + 1 < w'.heap.size := by omega
  have c0 := fun o => hc w.heap.size o (by omega)
  have f0 := fun o => hf w.heap.size o (by omega)
  clear hc hf
  go_wp2_with fail
  refine bodyPost_ret (v := .tuple #[.agg #[.int .i64 h, .int .i64 m, .int .i64 s, .int .i64 n], .bool true]) (by simp [results, Try.results14, go_sem, c0, hz0]) rfl ⟨rfl, ?_⟩
  exact ((((((((Below.refl _ _).alloc (Nat.le_refl _) _).alloc (by simp) _).drew.trans (HB.out.mono (by omega))).setCell (by simp) _).setCell (by simp) _).setCell (by simp) _).setCell (by simp) _).alloc (by simp; omega) _

end Go.Proofs.Ytnddjppbecpmdaa
