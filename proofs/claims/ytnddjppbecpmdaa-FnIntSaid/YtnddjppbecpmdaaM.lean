/- Walks of the thin package's integer, and of the law FnInt. -/
import Derived.Test.YtnddjppbecpmdaaL
import Derived.Test.YtnddjppbecpmdaaJ
import Derived.BigQuiet
import Derived.Deep.QuietTactic
namespace Go.Proofs.Ytnddjppbecpmdaa
open Go.RowKit
set_option linter.unusedVariables false
set_option linter.unusedSimpArgs false

/-- a text of an integer: what the package's reader says of it -/
def IntText (l : List UInt8) (v : Int) : Prop :=
  ∀ (w : World) (b cap : Nat), Bts w b 0 l → l.length ≤ cap → Calls Try.prog 25 #[.slice (some ⟨b, 0, none⟩) l.length cap] w fun e w' => e = .returned (.tuple #[.int .i64 v, .nilIface]) ∧ w = w'

theorem body_pos {β V : Nat} {o : List UInt8} (h : Body β V o) : 0 < o.length := by
  obtain ⟨d, l, _, e, _⟩ := h.head
  rw [e]; simp

set_option maxRecDepth 100000 in
theorem intText_pre (c : UInt8) (f : Nat) (o : List UInt8) (v : Int) (hc : c.toNat = 120 ∧ f = 35 ∨ c.toNat = 98 ∧ f = 36 ∨ c.toNat = 111 ∧ f = 37) (hl : 0 < o.length)
    (h : ∀ (w : World) (b cap : Nat), Bts w b 2 o → o.length + 2 ≤ cap → Calls Try.prog f #[.slice (some ⟨b, 0, none⟩) (o.length + 2) cap] w fun e w' => e = .returned (.tuple #[.int .i64 v, .nilIface]) ∧ w = w') :
    IntText (48 :: c :: o) v := by
  intro w b cap hb hcap
  have h0 := hb.head.1
  have h1 := hb.head.2.head.1
  have h2 := h w b cap hb.head.2.head.2 (by simpa using hcap)
  have H := Lib.hid h2
  have q : 2 < o.length + 2 := by omega
  simp at h0 h1 hcap
  clear hb h h2
  rw [show (48 :: c :: o).length = o.length + 2 from rfl]
  rcases hc with ⟨hc, rfl⟩ | ⟨hc, rfl⟩ | ⟨hc, rfl⟩
  all_goals
    rw [hc] at h1
    simp at h1
    clear hc
    go_enter Try.func25, Try.ntmps25
    go_wp2_with fail
    refine H.out.mono ?_
    rintro e w' ⟨rfl, rfl⟩
    go_wp2_with fail
    go_ret2
    exact ⟨rfl, rfl⟩

set_option maxRecDepth 100000 in
theorem intText_dec (l : List UInt8) (v : Int) (hl : 0 < l.length) (hne : l.length ≤ 2 ∨ ∀ c q, l = c :: q → c.toNat ≠ 48)
    (h : ∀ (w : World) (b cap : Nat), Bts w b 0 l → l.length ≤ cap → Calls Try.prog 38 #[.slice (some ⟨b, 0, none⟩) l.length cap] w fun e w' => e = .returned (.tuple #[.int .i64 v, .nilIface]) ∧ w = w') :
    IntText l v := by
  intro w b cap hb hcap
  have h2 := h w b cap hb hcap
  have H := Lib.hid h2
  clear h h2
  by_cases hl2 : 2 < l.length
  · obtain ⟨c0, hc0, hn⟩ : ∃ c0 : Int, w.cell? ⟨b, 0, none⟩ = some (.int .u8 c0) ∧ (c0 == 48) = false := by
      cases l with
      | nil => simp at hl
      | cons c q =>
        refine ⟨_, hb.head.1, ?_⟩
        rcases hne with hne | hne
        · omega
        · have := hne c q rfl
          simp
          omega
    clear hne hb
    go_enter Try.func25, Try.ntmps25
    go_wp2_with fail
    refine H.out.mono ?_
    rintro e w' ⟨rfl, rfl⟩
    go_wp2_with fail
    go_ret2
    exact ⟨rfl, rfl⟩
  · clear hne hb
    go_enter Try.func25, Try.ntmps25
    go_wp2_with fail
    refine H.out.mono ?_
    rintro e w' ⟨rfl, rfl⟩
    go_wp2_with fail
    go_ret2
    exact ⟨rfl, rfl⟩

theorem zzint_any (l : List UInt8) (v : Int) (w : World) (b cap : Nat) (ht : IntText l v) (hb : Bts w b 0 l) (hcap : l.length ≤ cap) :
    Calls Try.prog 20 #[.slice (some ⟨b, 0, none⟩) l.length cap] w fun e w' => e = .returned (.tuple #[.int .i64 v, .nilIface]) ∧ w = w' := by
  have H := Lib.hid (ht w b cap hb hcap)
  clear ht hb hcap
  go_enter Try.func20, Try.ntmps20
  go_wp2_with fail
  refine H.out.mono ?_
  rintro e w' ⟨rfl, rfl⟩
  go_wp2_with fail
  go_ret2
  exact ⟨rfl, rfl⟩

theorem implInt_any (l : List UInt8) (v : Int) (w : World) (ht : IntText l v) :
    Calls Try.prog 12 #[.string ⟨l.toArray⟩] w fun e w' => e = .returned (.tuple #[.int .i64 v, .bool true]) ∧ Below w.heap.size w w' := by
  obtain ⟨C, cap, fr, hconv, hcap, hC⟩ := conv_any w l
  have hb0 := bts_of_new (w := w) (t := 5) (fr := fr) hC
  have hd := zzint_any l v _ _ cap ht hb0.drew hcap
  have HD := Lib.hid hd
  clear hd hb0 hC ht hcap
  go_enter Try.func12, Try.ntmps12
  go_wp2_with fail
  refine HD.out.mono ?_
  rintro e w' ⟨rfl, rfl⟩
  go_wp2_with fail
  go_region
  go_wp2
  go_ret2
  exact ⟨rfl, ((Below.refl _ _).alloc (Nat.le_refl _) _).drew.drew⟩

def IntRes2 (w : World) (e : Ending) (w' : World) : Prop :=
  ∃ (T : List UInt8) (v : Int), e = .returned (.tuple #[.string ⟨T.toArray⟩, .int .i64 v]) ∧ T.length ≤ 200 ∧ Hid (IntText T v) ∧ w = w'

theorem bts_cons {w : World} {b off : Nat} {c : UInt8} {r : List UInt8} (h : Bts w b off (c :: r)) : w.cell? ⟨b, off, none⟩ = some (.int .u8 c.toNat) ∧ Bts w b (off + 1) r := h.head

theorem res_dec {V : Nat} {v : Int} {w w' : World} {e : Ending} (h : IntRes [] 10 V v w e w') (hV : V ≤ 9223372036854775807) (hv : v = V) : IntRes2 w e w' := by
  obtain ⟨out, he, hl, HB, hw⟩ := h
  refine ⟨out, v, he, by omega, ?_, hw⟩
  have hB := HB.out
  refine intText_dec out v (body_pos hB) ?_ (fun W b cap hb hcap => ?_)
  · obtain ⟨d, l, h1, h2, h3⟩ := hB.head
    rcases h3 with h3 | ⟨h3, _⟩
    · right
      intro c q hq
      rw [h2] at hq
      injection hq with hq1 _
      rw [← hq1, dch_nat d (by omega), if_pos h1]
      omega
    · left
      rw [h2, h3]
      simp
  · rw [hv]
    exact parseDec_plain out V b cap W hB hV hb hcap hl

theorem res_plus {V : Nat} {v : Int} {w w' : World} {e : Ending} (h : IntRes [43] 10 V v w e w') (hV : V ≤ 9223372036854775807) (hv : v = V) : IntRes2 w e w' := by
  obtain ⟨out, he, hl, HB, hw⟩ := h
  refine ⟨43 :: out, v, he, by simp; omega, ?_, hw⟩
  refine intText_dec _ v (by simp) (Or.inr fun c q hq => ?_) (fun W b cap hb hcap => ?_)
  · injection hq with hq1 _
    rw [← hq1]
    decide
  · rw [hv]
    exact parseDec_plus out V b cap W HB.out hV hb.head.1 hb.head.2 hcap hl

theorem res_minus {V : Nat} {v : Int} {w w' : World} {e : Ending} (h : IntRes [45] 10 V v w e w') (hV : V ≤ 9223372036854775808) (hv : v = -(V : Int)) : IntRes2 w e w' := by
  obtain ⟨out, he, hl, HB, hw⟩ := h
  refine ⟨45 :: out, v, he, by simp; omega, ?_, hw⟩
  refine intText_dec _ v (by simp) (Or.inr fun c q hq => ?_) (fun W b cap hb hcap => ?_)
  · injection hq with hq1 _
    rw [← hq1]
    decide
  · rw [hv]
    exact parseDec_minus out V b cap W HB.out hV hb.head.1 hb.head.2 hcap hl

theorem res_hex {V : Nat} {w w' : World} {e : Ending} (h : IntRes [48, 120] 16 V V w e w') (hV : V ≤ 9223372036854775807) : IntRes2 w e w' := by
  obtain ⟨out, he, hl, HB, hw⟩ := h
  exact ⟨48 :: 120 :: out, V, he, by simp; omega, intText_pre 120 35 out V (by decide) (body_pos HB.out) (fun W b cap hb hcap => parseHex_any out V b cap W HB.out hV hb hcap hl), hw⟩

theorem res_oct {V : Nat} {w w' : World} {e : Ending} (h : IntRes [48, 111] 8 V V w e w') (hV : V ≤ 9223372036854775807) : IntRes2 w e w' := by
  obtain ⟨out, he, hl, HB, hw⟩ := h
  exact ⟨48 :: 111 :: out, V, he, by simp; omega, intText_pre 111 37 out V (by decide) (body_pos HB.out) (fun W b cap hb hcap => parseOct_any out V b cap W HB.out hV hb hcap hl), hw⟩

theorem res_bin {V : Nat} {w w' : World} {e : Ending} (h : IntRes [48, 98] 2 V V w e w') (hV : V ≤ 9223372036854775807) : IntRes2 w e w' := by
  obtain ⟨out, he, hl, HB, hw⟩ := h
  exact ⟨48 :: 98 :: out, V, he, by simp; omega, intText_pre 98 36 out V (by decide) (body_pos HB.out) (fun W b cap hb hcap => parseBin_any out V b cap W HB.out hV hb hcap hl), hw⟩

theorem specInt_any (v f st : Int) (w : World) (h0 : -9223372036854775808 ≤ v) (h1 : v ≤ 9223372036854775807) (f0 : 0 ≤ f) (f1 : f ≤ 4) (s0 : 0 ≤ st) (s1 : st ≤ 65535) :
    Calls Try.prog 11 #[.int .i64 v, .int .i64 f, .int .i64 st] w (IntRes2 w) := by
  by_cases hv : v < 0
  · have hf : f = 0 ∨ f = 1 ∨ f = 2 ∨ f = 3 ∨ f = 4 := by omega
    rcases hf with rfl | rfl | rfl | rfl | rfl
    · exact (specInt_neg0 v _ st w h0 hv rfl s0 s1).mono fun e w' h => res_minus h (by omega) (by omega)
    · exact (specInt_neg1 v _ st w h0 hv rfl s0 s1).mono fun e w' h => res_minus h (by omega) (by omega)
    · exact (specInt_neg2 v _ st w h0 hv rfl s0 s1).mono fun e w' h => res_hex h (by omega)
    · exact (specInt_neg3 v _ st w h0 hv rfl s0 s1).mono fun e w' h => res_oct h (by omega)
    · exact (specInt_neg4 v _ st w h0 hv rfl s0 s1).mono fun e w' h => res_bin h (by omega)
  · obtain ⟨n, rfl⟩ : ∃ n : Nat, v = n := ⟨v.toNat, by omega⟩
    have hf : f = 0 ∨ f = 1 ∨ f = 2 ∨ f = 3 ∨ f = 4 := by omega
    rcases hf with rfl | rfl | rfl | rfl | rfl
    · exact (specInt_pos0 n st w (by omega) s0 s1).mono fun e w' h => res_dec h (by omega) rfl
    · exact (specInt_pos1 n st w (by omega) s0 s1).mono fun e w' h => res_plus h (by omega) rfl
    · exact (specInt_pos2 n st w (by omega) s0 s1).mono fun e w' h => res_hex h (by omega)
    · exact (specInt_pos3 n st w (by omega) s0 s1).mono fun e w' h => res_oct h (by omega)
    · exact (specInt_pos4 n st w (by omega) s0 s1).mono fun e w' h => res_bin h (by omega)

set_option maxRecDepth 100000 in
theorem fnInt_walk (a0 a1 a2 : Int) (h0 : -9223372036854775808 ≤ a0) (h0' : a0 ≤ 9223372036854775807) (h1 : 0 ≤ a1) (h1' : a1 ≤ 255) (h2 : 0 ≤ a2) (h2' : a2 ≤ 65535) (w : World) :
    Calls Try.prog 4 #[.int .i64 a0, .int .u8 a1, .int .u16 a2] w fun e w' => e = .returned (.bool true) ∧ Below w.heap.size w w' := by
  go_enter Try.func4, Try.ntmps4
  go_wp2_with fail
  refine (specInt_any _ _ _ _ h0 h0' (by omega) (by omega) (by omega) (by omega)).mono ?_
  rintro e w' ⟨T, v, rfl, hT, HT, rfl⟩
  go_wp2_with fail
  refine (implInt_any T v _ HT.out).mono ?_
  rintro e w' ⟨rfl, hb⟩
  have HB := Lib.hid hb
  clear hb
  go_wp2_with fail
  go_ret
  exact ⟨rfl, HB.out⟩
end Go.Proofs.Ytnddjppbecpmdaa
