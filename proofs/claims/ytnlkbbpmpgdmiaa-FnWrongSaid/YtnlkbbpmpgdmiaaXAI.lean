/- The kinds of digits: 89, 95, 96, 97; scanDigitsWithUnderscores; scanDigitsWithUnderscores with the other kinds of digits (printed by wip/tools/digits; scanIntOrFloat: a decimal integer without a sign; parseIntOrFloat: whatever number scanIntOrFloat tells is pushed; scanIntOrFloat: a lone 0; scanIntOrFloat: numbers with a sign, a point, a power (printed by wip/tools/nums. -/
import Derived.Test.YtnlkbbpmpgdmiaaXAH
namespace Go.Proofs.Ytnlkbbpmpgdmiaa
open Go.RowKit
set_option linter.unusedVariables false
set_option linter.unusedSimpArgs false
structure Tells (f : Nat) (P : UInt8 → Prop) : Prop where
 yes : ∀ c w, P c → Calls Try.prog f #[.int .u8 (c : UInt8).toNat] w fun e w' => e = .returned (.bool true) ∧ w = w'
 no : ∀ c w, ¬ P c → Calls Try.prog f #[.int .u8 (c : UInt8).toNat] w fun e w' => e = .returned (.bool false) ∧ w = w'
def Octal (c : UInt8) : Prop := 48 ≤ c.toNat ∧ c.toNat ≤ 55
def Binary (c : UInt8) : Prop := c.toNat = 48 ∨ c.toNat = 49
def HexD (c : UInt8) : Prop := Digit c ∨ (97 ≤ c.toNat ∧ c.toNat ≤ 102) ∨ (65 ≤ c.toNat ∧ c.toNat ≤ 70)
theorem tells_digit : Tells 89 Digit := ⟨fun c w h => isDigit_yes c h w, fun c w h => isDigit_no c h w⟩
theorem tells_octal : Tells 96 Octal := by
 refine ⟨fun c w h => ?_, fun c w h => ?_⟩
 · obtain ⟨h1, h2⟩ := h
   go_enter Try.func96, Try.ntmps96
   go_wp2_with fail
   go_ret
   first | exact ⟨rfl, rfl⟩ | (refine ⟨ret_bool ?_, rfl⟩; simp; omega)
 · have h0 : (c.toNat : Int) ≤ 255 := by have := c.toNat_lt; omega
   have h1 : c.toNat < 48 ∨ 55 < c.toNat := by unfold Octal at h; omega
   clear h
   rcases h1 with h1 | h1
   · go_enter Try.func96, Try.ntmps96
     go_wp2_with fail
     go_ret
     first | exact ⟨rfl, rfl⟩ | (refine ⟨ret_bool ?_, rfl⟩; simp; omega)
   · have h2 : 48 ≤ c.toNat := by omega
     go_enter Try.func96, Try.ntmps96
     go_wp2_with fail
     go_ret
     first | exact ⟨rfl, rfl⟩ | (refine ⟨ret_bool ?_, rfl⟩; simp; omega)
theorem tells_binary : Tells 97 Binary := by
 refine ⟨fun c w h => ?_, fun c w h => ?_⟩
 · rcases h with h | h
   · have f1 : (c.toNat : Int) = 48 := by omega
     clear h
     generalize (c.toNat : Int) = x at *
     subst f1
     go_enter Try.func97, Try.ntmps97
     go_wp2_with fail
     go_ret
     first | exact ⟨rfl, rfl⟩ | (refine ⟨ret_bool ?_, rfl⟩; simp; omega)
   · have f1 : (c.toNat : Int) = 49 := by omega
     clear h
     generalize (c.toNat : Int) = x at *
     subst f1
     go_enter Try.func97, Try.ntmps97
     go_wp2_with fail
     go_ret
     first | exact ⟨rfl, rfl⟩ | (refine ⟨ret_bool ?_, rfl⟩; simp; omega)
 · have f1 : ((c.toNat : Int) == 48) = false := by simp; intro hh; exact h (.inl (by omega))
   have f2 : ((c.toNat : Int) == 49) = false := by simp; intro hh; exact h (.inr (by omega))
   clear h
   generalize (c.toNat : Int) = x at *
   go_enter Try.func97, Try.ntmps97
   go_wp2_with fail
   go_ret
   first | exact ⟨rfl, rfl⟩ | (refine ⟨ret_bool ?_, rfl⟩; simp; omega)
theorem tells_hex : Tells 95 HexD := by
 refine ⟨fun c w h => ?_, fun c w h => ?_⟩
 · have h0 := c.toNat_lt
   by_cases hd : Digit c
   · go_enter Try.func95, Try.ntmps95
     go_wp2_with fail
     refine (isDigit_yes c hd _).mono ?_
     rintro e w1 ⟨rfl, rfl⟩
     go_wp2_with fail
     go_ret
     first | exact ⟨rfl, rfl⟩ | (refine ⟨ret_bool ?_, rfl⟩; simp; omega)
   · rcases h with h | ⟨h1, h2⟩ | ⟨h1, h2⟩
     · exact absurd h hd
     · go_enter Try.func95, Try.ntmps95
       go_wp2_with fail
       refine (isDigit_no c hd _).mono ?_
       rintro e w1 ⟨rfl, rfl⟩
       go_wp2_with fail
       go_ret
       first | exact ⟨rfl, rfl⟩ | (refine ⟨ret_bool ?_, rfl⟩; simp; omega)
     · have h3 : c.toNat < 97 := by omega
       go_enter Try.func95, Try.ntmps95
       go_wp2_with fail
       refine (isDigit_no c hd _).mono ?_
       rintro e w1 ⟨rfl, rfl⟩
       go_wp2_with fail
       go_ret
       first | exact ⟨rfl, rfl⟩ | (refine ⟨ret_bool ?_, rfl⟩; simp; omega)
 · have h0 : (c.toNat : Int) ≤ 255 := by have := c.toNat_lt; omega
   have hd : ¬ Digit c := fun hh => h (.inl hh)
   have h1 : c.toNat < 65 ∨ (70 < c.toNat ∧ c.toNat < 97) ∨ 102 < c.toNat := by unfold HexD at h; omega
   clear h
   rcases h1 with h1 | ⟨h1, h2⟩ | h1
   · have h3 : c.toNat < 97 := by omega
     go_enter Try.func95, Try.ntmps95
     go_wp2_with fail
     refine (isDigit_no c hd _).mono ?_
     rintro e w1 ⟨rfl, rfl⟩
     go_wp2_with fail
     go_ret
     first | exact ⟨rfl, rfl⟩ | (refine ⟨ret_bool ?_, rfl⟩; simp; omega)
   · have h3 : 65 ≤ c.toNat := by omega
     go_enter Try.func95, Try.ntmps95
     go_wp2_with fail
     refine (isDigit_no c hd _).mono ?_
     rintro e w1 ⟨rfl, rfl⟩
     go_wp2_with fail
     go_ret
     first | exact ⟨rfl, rfl⟩ | (refine ⟨ret_bool ?_, rfl⟩; simp; omega)
   · have h2 : 97 ≤ c.toNat := by omega
     have h3 : 70 < c.toNat := by omega
     have h4 : 65 ≤ c.toNat := by omega
     go_enter Try.func95, Try.ntmps95
     go_wp2_with fail
     refine (isDigit_no c hd _).mono ?_
     rintro e w1 ⟨rfl, rfl⟩
     go_wp2_with fail
     go_ret
     first | exact ⟨rfl, rfl⟩ | (refine ⟨ret_bool ?_, rfl⟩; simp; omega)
end Go.Proofs.Ytnlkbbpmpgdmiaa
namespace Go.Proofs.Ytnlkbbpmpgdmiaa
open Go.RowKit
set_option linter.unusedVariables false
set_option linter.unusedSimpArgs false
inductive Strokes (P : UInt8 → Prop) : List UInt8 → Prop
 | nil : Strokes P []
 | digit (c : UInt8) (t : List UInt8) : P c → Strokes P t → Strokes P (c :: t)
 | stroke (c : UInt8) (t : List UInt8) : P c → Strokes P t → Strokes P (95 :: c :: t)
def StRel (P : UInt8 → Prop) (b o E : Nat) (c0 : UInt8) (r : List UInt8) (w0 : World) (gg : Nat) (s1 : Value) (wx : World) : Prop :=
 ∃ (i : Nat) (t : List UInt8), s1 = .int .i64 i ∧ Strokes P t ∧ i + t.length = E ∧ t.length ≤ gg ∧ Bts wx b (o + i) (t ++ c0 :: r) ∧ wx = w0
set_option maxRecDepth 100000 in
set_option maxHeartbeats 4000000 in
theorem digits_89 {P : UInt8 → Prop} (hP : Tells 89 P) (hP95 : ¬ P 95) {b o i0 m k : Nat} {s r : List UInt8} {c0 : UInt8} {w : World} (hs : Strokes P s) (h0 : ¬ P c0) (h095 : c0 ≠ 95) (hb : Bts w b (o + i0) (s ++ c0 :: r)) (hm : m = i0 + s.length + r.length + 1) (hk : m ≤ k) (hk2 : k ≤ 9223372036854775807) (hm2 : m ≤ 140737488351232) :
   Calls Try.prog 98 #[.slice (some ⟨b, o, none⟩) m k, .int .i64 i0, .func (.func 89) #[] #[]] w (fun e w' => e = .returned (.tuple #[.int .i64 (i0 + s.length : Nat), .nilIface]) ∧ w' = w) := by
 have hE : i0 + s.length < m := by omega
 generalize hEE : i0 + s.length = E at *
 have f95 : ((c0.toNat : Int) == 95) = false := by simp; intro h; exact h095 (UInt8.toNat_inj.1 (by show c0.toNat = 95; omega))
 clear hm h095
 have HB := Lib.hid hb
 have HS := Lib.hid hs
 clear hb hs
 go_enter Try.func98, Try.ntmps98
 go_wp2_with fail
 go_loopg [1] s.length (fun gg s1 wx => StRel P b o E c0 r w gg s1 wx)
 case atStart => exact ⟨i0, s, rfl, HS.out, hEE, Nat.le_refl _, HB.out, rfl⟩
 case round =>
   obtain ⟨i, t, rfl, hst, hiE, hg, hbb, rfl⟩ := hrel
   clear HB HS hEE
   cases hst with
   | nil =>
     have hcell := hbb.head.1
     simp only [List.length_nil, Nat.add_zero] at hiE
     subst hiE
     clear hbb
     go_wp2_with fail
     refine (hP.no c0 _ h0).mono ?_
     rintro e w1 ⟨rfl, rfl⟩
     go_wp2_with fail
     go_ret2
     exact ⟨rfl, rfl⟩
   | digit c t hc ht =>
     have hcell := hbb.head.1
     have hb2 := Lib.hid hbb.head.2
     have hT := Lib.hid ht
     simp only [List.length_cons] at hiE hg
     have him : i < m := by omega
     clear hbb ht
     cases gk with
     | zero => exact absurd hg (by omega)
     | succ g =>
       go_wp2_with fail
       refine (hP.yes c _ hc).mono ?_
       rintro e w1 ⟨rfl, rfl⟩
       go_wp2_with fail
       go_roundg g
       case measure => omega
       case rel => exact ⟨i + 1, t, by go_num, hT.out, by omega, by omega, hb2.out, rfl⟩
   | stroke c t hc ht =>
     have hcell := hbb.head.1
     have hcell2 := hbb.head.2.head.1
     have hb2 := Lib.hid hbb.head.2.head.2
     have hT := Lib.hid ht
     simp only [List.length_cons] at hiE hg
     have him : i < m := by omega
     have hcell2' : wr.cell? ⟨b, o + (i + 1), none⟩ = some (.int .u8 c.toNat) := hcell2
     clear hbb ht hcell2
     cases gk with
     | zero => exact absurd hg (by omega)
     | succ g =>
       have hi1 : i + 1 < m := by omega
       go_wp2_with fail
       refine (hP.no 95 _ hP95).mono ?_
       rintro e w1 ⟨rfl, rfl⟩
       go_wp2_with fail
       refine (hP.yes c _ hc).mono ?_
       rintro e w1 ⟨rfl, rfl⟩
       go_wp2_with fail
       go_roundg g
       case measure => omega
       case rel => exact ⟨i + 2, t, by go_num, hT.out, by omega, by omega, hb2.out, rfl⟩
end Go.Proofs.Ytnlkbbpmpgdmiaa
namespace Go.Proofs.Ytnlkbbpmpgdmiaa
open Go.RowKit
set_option linter.unusedVariables false
set_option linter.unusedSimpArgs false
set_option maxRecDepth 100000 in
set_option maxHeartbeats 4000000 in
theorem digits_95 {P : UInt8 → Prop} (hP : Tells 95 P) (hP95 : ¬ P 95) {b o i0 m k : Nat} {s r : List UInt8} {c0 : UInt8} {w : World} (hs : Strokes P s) (h0 : ¬ P c0) (h095 : c0 ≠ 95) (hb : Bts w b (o + i0) (s ++ c0 :: r)) (hm : m = i0 + s.length + r.length + 1) (hk : m ≤ k) (hk2 : k ≤ 9223372036854775807) (hm2 : m ≤ 140737488351232) :
   Calls Try.prog 98 #[.slice (some ⟨b, o, none⟩) m k, .int .i64 i0, .func (.func 95) #[] #[]] w (fun e w' => e = .returned (.tuple #[.int .i64 (i0 + s.length : Nat), .nilIface]) ∧ w' = w) := by
 have hE : i0 + s.length < m := by omega
 generalize hEE : i0 + s.length = E at *
 have f95 : ((c0.toNat : Int) == 95) = false := by simp; intro h; exact h095 (UInt8.toNat_inj.1 (by show c0.toNat = 95; omega))
 clear hm h095
 have HB := Lib.hid hb
 have HS := Lib.hid hs
 clear hb hs
 go_enter Try.func98, Try.ntmps98
 go_wp2_with fail
 go_loopg [1] s.length (fun gg s1 wx => StRel P b o E c0 r w gg s1 wx)
 case atStart => exact ⟨i0, s, rfl, HS.out, hEE, Nat.le_refl _, HB.out, rfl⟩
 case round =>
   obtain ⟨i, t, rfl, hst, hiE, hg, hbb, rfl⟩ := hrel
   clear HB HS hEE
   cases hst with
   | nil =>
     have hcell := hbb.head.1
     simp only [List.length_nil, Nat.add_zero] at hiE
     subst hiE
     clear hbb
     go_wp2_with fail
     refine (hP.no c0 _ h0).mono ?_
     rintro e w1 ⟨rfl, rfl⟩
     go_wp2_with fail
     go_ret2
     exact ⟨rfl, rfl⟩
   | digit c t hc ht =>
     have hcell := hbb.head.1
     have hb2 := Lib.hid hbb.head.2
     have hT := Lib.hid ht
     simp only [List.length_cons] at hiE hg
     have him : i < m := by omega
     clear hbb ht
     cases gk with
     | zero => exact absurd hg (by omega)
     | succ g =>
       go_wp2_with fail
       refine (hP.yes c _ hc).mono ?_
       rintro e w1 ⟨rfl, rfl⟩
       go_wp2_with fail
       go_roundg g
       case measure => omega
       case rel => exact ⟨i + 1, t, by go_num, hT.out, by omega, by omega, hb2.out, rfl⟩
   | stroke c t hc ht =>
     have hcell := hbb.head.1
     have hcell2 := hbb.head.2.head.1
     have hb2 := Lib.hid hbb.head.2.head.2
     have hT := Lib.hid ht
     simp only [List.length_cons] at hiE hg
     have him : i < m := by omega
     have hcell2' : wr.cell? ⟨b, o + (i + 1), none⟩ = some (.int .u8 c.toNat) := hcell2
     clear hbb ht hcell2
     cases gk with
     | zero => exact absurd hg (by omega)
     | succ g =>
       have hi1 : i + 1 < m := by omega
       go_wp2_with fail
       refine (hP.no 95 _ hP95).mono ?_
       rintro e w1 ⟨rfl, rfl⟩
       go_wp2_with fail
       refine (hP.yes c _ hc).mono ?_
       rintro e w1 ⟨rfl, rfl⟩
       go_wp2_with fail
       go_roundg g
       case measure => omega
       case rel => exact ⟨i + 2, t, by go_num, hT.out, by omega, by omega, hb2.out, rfl⟩
set_option maxRecDepth 100000 in
set_option maxHeartbeats 4000000 in
theorem digits_96 {P : UInt8 → Prop} (hP : Tells 96 P) (hP95 : ¬ P 95) {b o i0 m k : Nat} {s r : List UInt8} {c0 : UInt8} {w : World} (hs : Strokes P s) (h0 : ¬ P c0) (h095 : c0 ≠ 95) (hb : Bts w b (o + i0) (s ++ c0 :: r)) (hm : m = i0 + s.length + r.length + 1) (hk : m ≤ k) (hk2 : k ≤ 9223372036854775807) (hm2 : m ≤ 140737488351232) :
   Calls Try.prog 98 #[.slice (some ⟨b, o, none⟩) m k, .int .i64 i0, .func (.func 96) #[] #[]] w (fun e w' => e = .returned (.tuple #[.int .i64 (i0 + s.length : Nat), .nilIface]) ∧ w' = w) := by
 have hE : i0 + s.length < m := by omega
 generalize hEE : i0 + s.length = E at *
 have f95 : ((c0.toNat : Int) == 95) = false := by simp; intro h; exact h095 (UInt8.toNat_inj.1 (by show c0.toNat = 95; omega))
 clear hm h095
 have HB := Lib.hid hb
 have HS := Lib.hid hs
 clear hb hs
 go_enter Try.func98, Try.ntmps98
 go_wp2_with fail
 go_loopg [1] s.length (fun gg s1 wx => StRel P b o E c0 r w gg s1 wx)
 case atStart => exact ⟨i0, s, rfl, HS.out, hEE, Nat.le_refl _, HB.out, rfl⟩
 case round =>
   obtain ⟨i, t, rfl, hst, hiE, hg, hbb, rfl⟩ := hrel
   clear HB HS hEE
   cases hst with
   | nil =>
     have hcell := hbb.head.1
     simp only [List.length_nil, Nat.add_zero] at hiE
     subst hiE
     clear hbb
     go_wp2_with fail
     refine (hP.no c0 _ h0).mono ?_
     rintro e w1 ⟨rfl, rfl⟩
     go_wp2_with fail
     go_ret2
     exact ⟨rfl, rfl⟩
   | digit c t hc ht =>
     have hcell := hbb.head.1
     have hb2 := Lib.hid hbb.head.2
     have hT := Lib.hid ht
     simp only [List.length_cons] at hiE hg
     have him : i < m := by omega
     clear hbb ht
     cases gk with
     | zero => exact absurd hg (by omega)
     | succ g =>
       go_wp2_with fail
       refine (hP.yes c _ hc).mono ?_
       rintro e w1 ⟨rfl, rfl⟩
       go_wp2_with fail
       go_roundg g
       case measure => omega
       case rel => exact ⟨i + 1, t, by go_num, hT.out, by omega, by omega, hb2.out, rfl⟩
   | stroke c t hc ht =>
     have hcell := hbb.head.1
     have hcell2 := hbb.head.2.head.1
     have hb2 := Lib.hid hbb.head.2.head.2
     have hT := Lib.hid ht
     simp only [List.length_cons] at hiE hg
     have him : i < m := by omega
     have hcell2' : wr.cell? ⟨b, o + (i + 1), none⟩ = some (.int .u8 c.toNat) := hcell2
     clear hbb ht hcell2
     cases gk with
     | zero => exact absurd hg (by omega)
     | succ g =>
       have hi1 : i + 1 < m := by omega
       go_wp2_with fail
       refine (hP.no 95 _ hP95).mono ?_
       rintro e w1 ⟨rfl, rfl⟩
       go_wp2_with fail
       refine (hP.yes c _ hc).mono ?_
       rintro e w1 ⟨rfl, rfl⟩
       go_wp2_with fail
       go_roundg g
       case measure => omega
       case rel => exact ⟨i + 2, t, by go_num, hT.out, by omega, by omega, hb2.out, rfl⟩
set_option maxRecDepth 100000 in
set_option maxHeartbeats 4000000 in
theorem digits_97 {P : UInt8 → Prop} (hP : Tells 97 P) (hP95 : ¬ P 95) {b o i0 m k : Nat} {s r : List UInt8} {c0 : UInt8} {w : World} (hs : Strokes P s) (h0 : ¬ P c0) (h095 : c0 ≠ 95) (hb : Bts w b (o + i0) (s ++ c0 :: r)) (hm : m = i0 + s.length + r.length + 1) (hk : m ≤ k) (hk2 : k ≤ 9223372036854775807) (hm2 : m ≤ 140737488351232) :
   Calls Try.prog 98 #[.slice (some ⟨b, o, none⟩) m k, .int .i64 i0, .func (.func 97) #[] #[]] w (fun e w' => e = .returned (.tuple #[.int .i64 (i0 + s.length : Nat), .nilIface]) ∧ w' = w) := by
 have hE : i0 + s.length < m := by omega
 generalize hEE : i0 + s.length = E at *
 have f95 : ((c0.toNat : Int) == 95) = false := by simp; intro h; exact h095 (UInt8.toNat_inj.1 (by show c0.toNat = 95; omega))
 clear hm h095
 have HB := Lib.hid hb
 have HS := Lib.hid hs
 clear hb hs
 go_enter Try.func98, Try.ntmps98
 go_wp2_with fail
 go_loopg [1] s.length (fun gg s1 wx => StRel P b o E c0 r w gg s1 wx)
 case atStart => exact ⟨i0, s, rfl, HS.out, hEE, Nat.le_refl _, HB.out, rfl⟩
 case round =>
   obtain ⟨i, t, rfl, hst, hiE, hg, hbb, rfl⟩ := hrel
   clear HB HS hEE
   cases hst with
   | nil =>
     have hcell := hbb.head.1
     simp only [List.length_nil, Nat.add_zero] at hiE
     subst hiE
     clear hbb
     go_wp2_with fail
     refine (hP.no c0 _ h0).mono ?_
     rintro e w1 ⟨rfl, rfl⟩
     go_wp2_with fail
     go_ret2
     exact ⟨rfl, rfl⟩
   | digit c t hc ht =>
     have hcell := hbb.head.1
     have hb2 := Lib.hid hbb.head.2
     have hT := Lib.hid ht
     simp only [List.length_cons] at hiE hg
     have him : i < m := by omega
     clear hbb ht
     cases gk with
     | zero => exact absurd hg (by omega)
     | succ g =>
       go_wp2_with fail
       refine (hP.yes c _ hc).mono ?_
       rintro e w1 ⟨rfl, rfl⟩
       go_wp2_with fail
       go_roundg g
       case measure => omega
       case rel => exact ⟨i + 1, t, by go_num, hT.out, by omega, by omega, hb2.out, rfl⟩
   | stroke c t hc ht =>
     have hcell := hbb.head.1
     have hcell2 := hbb.head.2.head.1
     have hb2 := Lib.hid hbb.head.2.head.2
     have hT := Lib.hid ht
     simp only [List.length_cons] at hiE hg
     have him : i < m := by omega
     have hcell2' : wr.cell? ⟨b, o + (i + 1), none⟩ = some (.int .u8 c.toNat) := hcell2
     clear hbb ht hcell2
     cases gk with
     | zero => exact absurd hg (by omega)
     | succ g =>
       have hi1 : i + 1 < m := by omega
       go_wp2_with fail
       refine (hP.no 95 _ hP95).mono ?_
       rintro e w1 ⟨rfl, rfl⟩
       go_wp2_with fail
       refine (hP.yes c _ hc).mono ?_
       rintro e w1 ⟨rfl, rfl⟩
       go_wp2_with fail
       go_roundg g
       case measure => omega
       case rel => exact ⟨i + 2, t, by go_num, hT.out, by omega, by omega, hb2.out, rfl⟩
end Go.Proofs.Ytnlkbbpmpgdmiaa
namespace Go.Proofs.Ytnlkbbpmpgdmiaa
open Go.RowKit
set_option linter.unusedVariables false
set_option linter.unusedSimpArgs false
theorem StopC.num {c : UInt8} (h : StopC c) : c ≠ 95 ∧ ((c.toNat : Int) == 46) = false ∧ ((c.toNat : Int) == 101) = false ∧ ((c.toNat : Int) == 69) = false ∧ ((c.toNat : Int) == 120) = false ∧ ((c.toNat : Int) == 111) = false ∧ ((c.toNat : Int) == 98) = false ∧ (((c.toNat : Int) < 65 ∧ (c.toNat : Int) < 97) ∨ (c.toNat : Int) = 93 ∨ (c.toNat : Int) = 125) := by
 rcases h with rfl | rfl | rfl | rfl | rfl | rfl | rfl | rfl <;> decide
set_option maxRecDepth 100000 in
set_option maxHeartbeats 2000000 in
theorem scanInt_plainS {b cap k : Nat} {D t rest : List UInt8} {c : UInt8} {a : Addr} {w : World} (hi : Inp w b cap D) (hc : Digit c) (h48 : ((c.toNat : Int) == 48) = false) (ht : Strokes Digit t) (hf : ∃ c r, rest = c :: r ∧ StopC c) (hp : Pos b cap D ((c :: t) ++ rest) a k) (m : Nat) (hm : m = ((c :: t) ++ rest).length) :
   Calls Try.prog 88 #[.slice (some a) m k] w (TokAt b cap D ((c :: t) ++ rest) rest (c :: t) 11 a k w) := by
 have ha := hp.addr (by simp)
 have h1 := hp.room
 have h2 := hp.le
 have hfit := hi.fits
 have h4 := hi.bound
 have HB : Hid (Bts w b (D.length - ((c :: t) ++ rest).length) ((c :: t) ++ rest)) := hi.doc.suffix hp.suf
 have HP := Lib.hid hp
 obtain ⟨cr, rr, hcr, hstop⟩ := hf
 have hrd : ¬ Digit cr := by rcases hstop with rfl | rfl | rfl | rfl | rfl | rfl | rfl | rfl <;> decide
 obtain ⟨n95, r46, r101, r69, r120, r111, r98, rlet⟩ := hstop.num
 rw [List.length_append] at h1 h2 hm
 generalize ho : D.length - ((c :: t) ++ rest).length = o at *
 have HO := Lib.hid ho
 subst ha
 have hcell0 := HB.out.head.1
 have HBR : Hid (Bts w b (o + (t.length + 1)) (cr :: rr)) := by rw [← hcr]; exact HB.out.post
 have hcellr := HBR.out.head.1
 have hb1 : Bts w b (o + 1) (t ++ cr :: rr) := by have := HB.out.head.2; rw [hcr] at this; exact this
 have hlen : m = 1 + t.length + rr.length + 1 := by rw [hm, hcr]; simp; omega
 have hmk : m ≤ k := by omega
 have hd0 := digits_89 tells_digit (by decide) (m := m) (k := k) ht hrd n95 hb1 hlen hmk (by omega) (by omega)
 obtain ⟨E, hE⟩ : ∃ E, E = t.length + 1 := ⟨_, rfl⟩
 rw [show 1 + t.length = E from by omega] at hd0
 have hD := Lib.hid hd0
 have HE := Lib.hid hE
 have g43 : ((c.toNat : Int) == 43) = false := by simp; have := hc.1; omega
 have g45 : ((c.toNat : Int) == 45) = false := by simp; have := hc.1; omega
 have g105 : ((c.toNat : Int) == 105) = false := by simp; have := hc.2; omega
 have g110 : ((c.toNat : Int) == 110) = false := by simp; have := hc.2; omega
 have HPA : Hid (∀ a' k', (0 < rest.length → a' = ⟨b, o + E, none⟩) → k' = k - E → Pos b cap D rest a' k') := fun a' k' e1 e2 => HP.out.after hfit (fun h => by rw [e1 h, HO.out, HE.out]; rfl) (by rw [e2, HE.out]; rfl)
 have hcr2 : w.cell? ⟨b, o + E, none⟩ = some (.int .u8 cr.toNat) := by rw [HE.out]; exact hcellr
 have HRL : Hid (m - E = rest.length) := by show _ = _; rw [hcr]; simp only [List.length_cons]; omega
 have hm1 : E < m := by omega
 have hm0 : 0 < m := by omega
 have hkS : ¬ k = E := by omega
 clear hp hi ho hm hstop hb1 hcellr hlen hcr ht hd0 hE
 go_enter Try.func88, Try.ntmps88
 go_wp2_with fail
 refine (isDigit_yes c hc _).mono ?_
 rintro e w1 ⟨rfl, rfl⟩
 go_wp2_with fail
 refine hD.out.mono ?_
 rintro e w1 ⟨rfl, rfl⟩
 clear hcell0
 rcases rlet with ⟨q1, q2⟩ | q1 | q1
 · go_wp2_with fail
   (go_quiet (fail)
    go_wp2
    ((try simp only [Exit.inBlock, Exit.then]); refine bodyPost_ret (results_tmp5 rfl _ _ _) rfl ?_)
    exact ⟨_, _, by rw [HRL.out]; cases HE.out; rfl, HPA.out _ _ (fun _ => rfl) rfl, _, rfl⟩)
 · have q2 : (65 : Int) ≤ cr.toNat := by omega
   have q3 : (90 : Int) < cr.toNat := by omega
   have q4 : (cr.toNat : Int) < 97 := by omega
   clear q1
   go_wp2_with fail
   (go_quiet (fail)
    go_wp2
    ((try simp only [Exit.inBlock, Exit.then]); refine bodyPost_ret (results_tmp5 rfl _ _ _) rfl ?_)
    exact ⟨_, _, by rw [HRL.out]; cases HE.out; rfl, HPA.out _ _ (fun _ => rfl) rfl, _, rfl⟩)
 · have q2 : (65 : Int) ≤ cr.toNat := by omega
   have q3 : (90 : Int) < cr.toNat := by omega
   have q4 : (97 : Int) ≤ cr.toNat := by omega
   have q5 : (122 : Int) < cr.toNat := by omega
   clear q1
   go_wp2_with fail
   (go_quiet (fail)
    go_wp2
    ((try simp only [Exit.inBlock, Exit.then]); refine bodyPost_ret (results_tmp5 rfl _ _ _) rfl ?_)
    exact ⟨_, _, by rw [HRL.out]; cases HE.out; rfl, HPA.out _ _ (fun _ => rfl) rfl, _, rfl⟩)
theorem scanInt_plain {b cap k : Nat} {D t rest : List UInt8} {c : UInt8} {a : Addr} {w : World} (hi : Inp w b cap D) (hc : Digit c) (h48 : ((c.toNat : Int) == 48) = false) (ht : Strokes Digit t) (hf : Follow rest) (hp : Pos b cap D ((c :: t) ++ rest) a k) (m : Nat) (hm : m = ((c :: t) ++ rest).length) :
   Calls Try.prog 88 #[.slice (some a) m k] w (TokAt b cap D ((c :: t) ++ rest) rest (c :: t) 11 a k w) :=
 scanInt_plainS hi hc h48 ht (by obtain ⟨c', r', e, h, -⟩ := hf; exact ⟨c', r', e, h⟩) hp m hm
end Go.Proofs.Ytnlkbbpmpgdmiaa
namespace Go.Proofs.Ytnlkbbpmpgdmiaa
open Go.RowKit
set_option linter.unusedVariables false
set_option linter.unusedSimpArgs false
set_option maxRecDepth 100000 in
set_option maxHeartbeats 1000000 in
theorem parseNum_any {B g b cap k kind : Nat} {kc : Bool} {D s rest : List UInt8} {left err : Value} {nest : Nat} {ns : List Nd} {w : World} {a : Addr} (hps : PS B w g b cap kc D left ns err nest) (hi : Inp w b cap D) (hs : 0 < s.length) (hrest : 0 < rest.length) (hp : Pos b cap D (s ++ rest) a k)
   (hn : ns.length ≤ 400000) (m : Nat) (hm : m = (s ++ rest).length) (hc : Calls Try.prog 88 #[.slice (some a) m k] w (TokAt b cap D (s ++ rest) rest s kind a k w)) :
   Calls Try.prog 79 #[.pointer (some ⟨g, 0, none⟩), .slice (some a) m k] w (ValRead kind B g b cap kc D left ns err nest s rest w) := by
 have HC := Lib.hid hc
 have HP := Lib.hid hp
 have HI := Lib.hid hi
 have HPS := Lib.hid hps
 clear hp hi hps hm hc
 go_enter Try.func79, Try.ntmps79
 go_wp2_with fail
 refine HC.out.mono ?_
 rintro e w1 ⟨a1, k1, rfl, hp1, n1, rfl⟩
 have HP1 := Lib.hid hp1
 have hps1 := HPS.out.drewN n1
 have HPS1 := Lib.hid hps1
 have HD1 : Hid (DataIs (w.drewN n1) (.slice (some a) s.length k) s) := (HI.out.drewN n1).doc.data (p := []) (q := rest) HP.out rfl HI.out.fits (fun h0 => HP.out.addr (by rw [List.length_append]; omega)) (by have := HP.out.room; have := HP.out.le; have := HI.out.fits; rw [List.length_append] at *; omega)
 clear hp1 hps1
 go_wp2_with fail
 refine (range_at HPS1.out HI.out.fits HI.out.bound HP.out s.length (by rw [List.length_append]; omega)).mono ?_
 rintro e w2 ⟨ro, rl, rfl, hb2⟩
 have hps2 := HPS1.out.kp hb2
 have HPS2 := Lib.hid hps2
 have HD2 : Hid (DataIs w2 (.slice (some a) s.length k) s) := HD1.out.below hb2
 have HF2 : Hid (Fr B w w2) := (Fr.drewN w n1).trans (Fr.of_below hb2 HPS1.out.le)
 clear hb2 hps2
 go_wp2_with fail
 refine (push_any HPS2.out kind ro rl _ HD2.out.one hn).mono ?_
 rintro e w3 ⟨rfl, hps3, hf3⟩
 have HPS3 := Lib.hid hps3
 have HF3 := Lib.hid hf3
 clear hps3 hf3
 go_wp2_with fail
 go_ret3
 exact ⟨ro, rl, _, a1, k1, rfl, HP1.out, HPS3.out, HD2.out.kp HF3.out.2, HF2.out.trans HF3.out⟩
end Go.Proofs.Ytnlkbbpmpgdmiaa
namespace Go.Proofs.Ytnlkbbpmpgdmiaa
open Go.RowKit
set_option linter.unusedVariables false
set_option linter.unusedSimpArgs false
set_option maxRecDepth 100000 in
set_option maxHeartbeats 2000000 in
theorem scanInt_zero {b cap k : Nat} {D rest : List UInt8} {a : Addr} {w : World} (hi : Inp w b cap D) (hf : Follow rest) (hp : Pos b cap D ([48] ++ rest) a k) (m : Nat) (hm : m = ([48] ++ rest).length) :
   Calls Try.prog 88 #[.slice (some a) m k] w (TokAt b cap D ([48] ++ rest) rest [48] 11 a k w) := by
 have hc : Digit 48 := by decide
 have ht : Strokes Digit [] := .nil
 have ha := hp.addr (by simp)
 have h1 := hp.room
 have h2 := hp.le
 have hfit := hi.fits
 have h4 := hi.bound
 have HB : Hid (Bts w b (D.length - ([48] ++ rest).length) ([48] ++ rest)) := hi.doc.suffix hp.suf
 have HP := Lib.hid hp
 obtain ⟨cr, rr, hcr, hrd, -⟩ := hf.facts
 have hstop : StopC cr := by obtain ⟨c', r', e, h, -⟩ := hf; rw [hcr] at e; cases e; exact h
 obtain ⟨n95, r46, r101, r69, r120, r111, r98, rlet⟩ := hstop.num
 rw [List.length_append] at h1 h2 hm
 generalize ho : D.length - ([48] ++ rest).length = o at *
 have HO := Lib.hid ho
 subst ha
 have hcell0 := HB.out.head.1
 have HBR : Hid (Bts w b (o + (([] : List UInt8).length + 1)) (cr :: rr)) := by rw [← hcr]; exact HB.out.post
 have hcellr := HBR.out.head.1
 have hb1 : Bts w b (o + 1) ([] ++ cr :: rr) := by have := HB.out.head.2; rw [hcr] at this; exact this
 have hlen : m = 1 + ([] : List UInt8).length + rr.length + 1 := by rw [hm, hcr]; simp; omega
 have hmk : m ≤ k := by omega
 have hd0 := digits_89 tells_digit (by decide) (m := m) (k := k) ht hrd n95 hb1 hlen hmk (by omega) (by omega)
 obtain ⟨E, hE⟩ : ∃ E, E = ([] : List UInt8).length + 1 := ⟨_, rfl⟩
 have hE1 : E = 1 := hE
 rw [show 1 + ([] : List UInt8).length = E from hE1.symm] at hd0
 have hD := Lib.hid hd0
 have HE := Lib.hid hE
 have HE1 := Lib.hid hE1
 have hcr1 : w.cell? ⟨b, o + 1, none⟩ = some (.int .u8 cr.toNat) := hcellr
 have hm2 : 1 < m := by have h := hlen; simp only [List.length_nil] at h; omega
 have HPA : Hid (∀ a' k', (0 < rest.length → a' = ⟨b, o + E, none⟩) → k' = k - E → Pos b cap D rest a' k') := fun a' k' e1 e2 => HP.out.after hfit (fun h => by rw [e1 h, HO.out, HE.out]; rfl) (by rw [e2, HE.out]; rfl)
 have hcr2 : w.cell? ⟨b, o + E, none⟩ = some (.int .u8 cr.toNat) := by rw [HE.out]; exact hcellr
 have HRL : Hid (m - E = rest.length) := by show _ = _; rw [hcr]; simp only [List.length_cons]; omega
 have hm1 : E < m := by omega
 have hm0 : 0 < m := by omega
 have hkS : ¬ k = E := by omega
 clear hp hi ho hf hm hstop hb1 hcellr hlen hcr ht hd0 hE
 go_enter Try.func88, Try.ntmps88
 go_wp2_with fail
 refine (isDigit_yes 48 hc _).mono ?_
 rintro e w1 ⟨rfl, rfl⟩
 go_wp2_with fail
 refine hD.out.mono ?_
 rintro e w1 ⟨rfl, rfl⟩
 clear hcell0
 rcases rlet with ⟨q1, q2⟩ | q1 | q1
 · go_wp2_with fail
   (go_quiet (fail)
    go_wp2
    ((try simp only [Exit.inBlock, Exit.then]); refine bodyPost_ret (results_tmp5 rfl _ _ _) rfl ?_)
    exact ⟨_, _, by rw [← HRL.out, HE1.out]; rfl, HPA.out _ _ (fun _ => by rw [HE1.out]) (by rw [HE1.out]), _, rfl⟩)
 · have q2 : (65 : Int) ≤ cr.toNat := by omega
   have q3 : (90 : Int) < cr.toNat := by omega
   have q4 : (cr.toNat : Int) < 97 := by omega
   clear q1
   go_wp2_with fail
   (go_quiet (fail)
    go_wp2
    ((try simp only [Exit.inBlock, Exit.then]); refine bodyPost_ret (results_tmp5 rfl _ _ _) rfl ?_)
    exact ⟨_, _, by rw [← HRL.out, HE1.out]; rfl, HPA.out _ _ (fun _ => by rw [HE1.out]) (by rw [HE1.out]), _, rfl⟩)
 · have q2 : (65 : Int) ≤ cr.toNat := by omega
   have q3 : (90 : Int) < cr.toNat := by omega
   have q4 : (97 : Int) ≤ cr.toNat := by omega
   have q5 : (122 : Int) < cr.toNat := by omega
   clear q1
   go_wp2_with fail
   (go_quiet (fail)
    go_wp2
    ((try simp only [Exit.inBlock, Exit.then]); refine bodyPost_ret (results_tmp5 rfl _ _ _) rfl ?_)
    exact ⟨_, _, by rw [← HRL.out, HE1.out]; rfl, HPA.out _ _ (fun _ => by rw [HE1.out]) (by rw [HE1.out]), _, rfl⟩)
end Go.Proofs.Ytnlkbbpmpgdmiaa
namespace Go.Proofs.Ytnlkbbpmpgdmiaa
open Go.RowKit
set_option linter.unusedVariables false
set_option linter.unusedSimpArgs false
theorem Bts.off {w : World} {b x y : Nat} {l : List UInt8} (h : Bts w b x l) (e : x = y) : Bts w b y l := e ▸ h
set_option maxRecDepth 100000 in
set_option maxHeartbeats 4000000 in
theorem scanNum_p99 {b cap k : Nat} {D t1 rest : List UInt8} {c : UInt8} {a : Addr} {w : World} (hi : Inp w b cap D) (hc : Digit c) (h48 : ((c.toNat : Int) == 48) = false) (ht1 : Strokes Digit t1) (hf : Follow rest) (hp : Pos b cap D ((43 :: c :: t1) ++ rest) a k) (m : Nat) (hm : m = ((43 :: c :: t1) ++ rest).length) :
   Calls Try.prog 88 #[.slice (some a) m k] w (TokAt b cap D ((43 :: c :: t1) ++ rest) rest (43 :: c :: t1) 11 a k w) := by
 obtain ⟨sq, hsq⟩ : ∃ sq : List UInt8, sq = 43 :: c :: t1 := ⟨_, rfl⟩
 have hsl : sq.length = 2 + t1.length := by rw [hsq]; simp only [List.length_cons, List.length_append, List.length_nil]; try omega
 rw [← hsq] at hp hm ⊢
 have ha := hp.addr (by rw [List.length_append]; omega)
 have h1 := hp.room
 have h2 := hp.le
 have hfit := hi.fits
 have h4 := hi.bound
 have HB : Hid (Bts w b (D.length - (sq ++ rest).length) (sq ++ rest)) := hi.doc.suffix hp.suf
 have HP := Lib.hid hp
 obtain ⟨cr, rr, hcr, hrd, -⟩ := hf.facts
 have hstop : StopC cr := by obtain ⟨c', r', e, h, -⟩ := hf; rw [hcr] at e; cases e; exact h
 obtain ⟨n95, r46, r101, r69, r120, r111, r98, rlet⟩ := hstop.num
 rw [List.length_append] at h1 h2 hm
 generalize ho : D.length - (sq ++ rest).length = o at *
 have HO := Lib.hid ho
 subst ha
 have hrl : rest.length = rr.length + 1 := by rw [hcr]; rfl
 have hb0 : Bts w b o (43 :: c :: (t1 ++ cr :: rr)) := by have h := HB.out; rw [hsq, hcr] at h; simpa using h
 have hcs : w.cell? ⟨b, o, none⟩ = some (.int .u8 43) := hb0.head.1
 have hb1 := hb0.head.2
 have hcl : w.cell? ⟨b, o + 1, none⟩ = some (.int .u8 c.toNat) := hb1.head.1
 have hb2 := hb1.head.2.off (y := o + 2) (by omega)
 obtain ⟨E1, hE1⟩ : ∃ E, E = 2 + t1.length := ⟨_, rfl⟩
 have hb3 := hb2.post.off (y := o + E1) (by omega)
 have hx1 : w.cell? ⟨b, o + E1, none⟩ = some (.int .u8 cr.toNat) := hb3.head.1
 have hq1 := digits_89 tells_digit (by decide) (m := m) (k := k) (i0 := 2) ht1 hrd n95 hb2 (by rw [hm, hsl, hrl]; (try simp only [List.length_append, List.length_cons, List.length_nil]); omega) (by omega) (by omega) (by omega)
 rw [show 2 + t1.length = E1 from by (try simp only [List.length_nil]); omega] at hq1
 have HQ1 := Lib.hid hq1
 obtain ⟨M, hM⟩ : ∃ M, M = sq.length := ⟨_, rfl⟩
 have hME : M = E1 := by omega
 have gc105 : ((c.toNat : Int) == 105) = false := by simp; have := hc.1; have := hc.2; omega
 have gc110 : ((c.toNat : Int) == 110) = false := by simp; have := hc.1; have := hc.2; omega
 have HPA : Hid (∀ a' k', (0 < rest.length → a' = ⟨b, o + E1, none⟩) → k' = k - E1 → Pos b cap D rest a' k') := fun a' k' e1 e2 => HP.out.after hfit (fun h => by rw [e1 h, HO.out, ← hME, hM]) (by rw [e2, ← hME, hM])
 have HRL : Hid (m - E1 = rest.length) := by show _ = _; omega
 have HML : Hid (sq.length = E1) := by show _ = _; omega
 have hm1 : E1 < m := by omega
 have hm0 : 0 < m := by omega
 have hkS : ¬ k = E1 := by omega
 have hmk : m ≤ k := by omega
 have hmb : m ≤ 140737488351232 := by omega
 have hms : 1 < m := by omega
 clear hp hi ho hf hm hstop HB hb0 hb2 hb3 hcr hsl hrl hM hME hq1 hsq h1 h2 hb1 ht1 hE1
 go_enter Try.func88, Try.ntmps88
 go_wp2_with fail
 refine (isDigit_yes c hc _).mono ?_
 rintro e w1 ⟨rfl, rfl⟩
 go_wp2_with fail
 refine HQ1.out.mono ?_
 rintro e w1 ⟨rfl, rfl⟩
 clear hcl
 rcases rlet with ⟨q1, q2⟩ | q1 | q1
 · go_wp2_with fail
   (go_quiet (fail)
    go_wp2
    ((try simp only [Exit.inBlock, Exit.then]); refine bodyPost_ret (results_tmp5 rfl _ _ _) rfl ?_)
    exact ⟨_, _, by rw [HRL.out, HML.out]; rfl, HPA.out _ _ (fun _ => rfl) rfl, _, rfl⟩)
 · have q2 : (65 : Int) ≤ cr.toNat := by omega
   have q3 : (90 : Int) < cr.toNat := by omega
   have q4 : (cr.toNat : Int) < 97 := by omega
   clear q1
   go_wp2_with fail
   (go_quiet (fail)
    go_wp2
    ((try simp only [Exit.inBlock, Exit.then]); refine bodyPost_ret (results_tmp5 rfl _ _ _) rfl ?_)
    exact ⟨_, _, by rw [HRL.out, HML.out]; rfl, HPA.out _ _ (fun _ => rfl) rfl, _, rfl⟩)
 · have q2 : (65 : Int) ≤ cr.toNat := by omega
   have q3 : (90 : Int) < cr.toNat := by omega
   have q4 : (97 : Int) ≤ cr.toNat := by omega
   have q5 : (122 : Int) < cr.toNat := by omega
   clear q1
   go_wp2_with fail
   (go_quiet (fail)
    go_wp2
    ((try simp only [Exit.inBlock, Exit.then]); refine bodyPost_ret (results_tmp5 rfl _ _ _) rfl ?_)
    exact ⟨_, _, by rw [HRL.out, HML.out]; rfl, HPA.out _ _ (fun _ => rfl) rfl, _, rfl⟩)
set_option maxRecDepth 100000 in
set_option maxHeartbeats 4000000 in
theorem scanNum_m17 {b cap k : Nat} {D t1 rest : List UInt8} {c : UInt8} {a : Addr} {w : World} (hi : Inp w b cap D) (hc : Digit c) (h48 : ((c.toNat : Int) == 48) = false) (ht1 : Strokes Digit t1) (hf : Follow rest) (hp : Pos b cap D ((45 :: c :: t1) ++ rest) a k) (m : Nat) (hm : m = ((45 :: c :: t1) ++ rest).length) :
   Calls Try.prog 88 #[.slice (some a) m k] w (TokAt b cap D ((45 :: c :: t1) ++ rest) rest (45 :: c :: t1) 11 a k w) := by
 obtain ⟨sq, hsq⟩ : ∃ sq : List UInt8, sq = 45 :: c :: t1 := ⟨_, rfl⟩
 have hsl : sq.length = 2 + t1.length := by rw [hsq]; simp only [List.length_cons, List.length_append, List.length_nil]; try omega
 rw [← hsq] at hp hm ⊢
 have ha := hp.addr (by rw [List.length_append]; omega)
 have h1 := hp.room
 have h2 := hp.le
 have hfit := hi.fits
 have h4 := hi.bound
 have HB : Hid (Bts w b (D.length - (sq ++ rest).length) (sq ++ rest)) := hi.doc.suffix hp.suf
 have HP := Lib.hid hp
 obtain ⟨cr, rr, hcr, hrd, -⟩ := hf.facts
 have hstop : StopC cr := by obtain ⟨c', r', e, h, -⟩ := hf; rw [hcr] at e; cases e; exact h
 obtain ⟨n95, r46, r101, r69, r120, r111, r98, rlet⟩ := hstop.num
 rw [List.length_append] at h1 h2 hm
 generalize ho : D.length - (sq ++ rest).length = o at *
 have HO := Lib.hid ho
 subst ha
 have hrl : rest.length = rr.length + 1 := by rw [hcr]; rfl
 have hb0 : Bts w b o (45 :: c :: (t1 ++ cr :: rr)) := by have h := HB.out; rw [hsq, hcr] at h; simpa using h
 have hcs : w.cell? ⟨b, o, none⟩ = some (.int .u8 45) := hb0.head.1
 have hb1 := hb0.head.2
 have hcl : w.cell? ⟨b, o + 1, none⟩ = some (.int .u8 c.toNat) := hb1.head.1
 have hb2 := hb1.head.2.off (y := o + 2) (by omega)
 obtain ⟨E1, hE1⟩ : ∃ E, E = 2 + t1.length := ⟨_, rfl⟩
 have hb3 := hb2.post.off (y := o + E1) (by omega)
 have hx1 : w.cell? ⟨b, o + E1, none⟩ = some (.int .u8 cr.toNat) := hb3.head.1
 have hq1 := digits_89 tells_digit (by decide) (m := m) (k := k) (i0 := 2) ht1 hrd n95 hb2 (by rw [hm, hsl, hrl]; (try simp only [List.length_append, List.length_cons, List.length_nil]); omega) (by omega) (by omega) (by omega)
 rw [show 2 + t1.length = E1 from by (try simp only [List.length_nil]); omega] at hq1
 have HQ1 := Lib.hid hq1
 obtain ⟨M, hM⟩ : ∃ M, M = sq.length := ⟨_, rfl⟩
 have hME : M = E1 := by omega
 have gc105 : ((c.toNat : Int) == 105) = false := by simp; have := hc.1; have := hc.2; omega
 have gc110 : ((c.toNat : Int) == 110) = false := by simp; have := hc.1; have := hc.2; omega
 have HPA : Hid (∀ a' k', (0 < rest.length → a' = ⟨b, o + E1, none⟩) → k' = k - E1 → Pos b cap D rest a' k') := fun a' k' e1 e2 => HP.out.after hfit (fun h => by rw [e1 h, HO.out, ← hME, hM]) (by rw [e2, ← hME, hM])
 have HRL : Hid (m - E1 = rest.length) := by show _ = _; omega
 have HML : Hid (sq.length = E1) := by show _ = _; omega
 have hm1 : E1 < m := by omega
 have hm0 : 0 < m := by omega
 have hkS : ¬ k = E1 := by omega
 have hmk : m ≤ k := by omega
 have hmb : m ≤ 140737488351232 := by omega
 have hms : 1 < m := by omega
 clear hp hi ho hf hm hstop HB hb0 hb2 hb3 hcr hsl hrl hM hME hq1 hsq h1 h2 hb1 ht1 hE1
 go_enter Try.func88, Try.ntmps88
 go_wp2_with fail
 refine (isDigit_yes c hc _).mono ?_
 rintro e w1 ⟨rfl, rfl⟩
 go_wp2_with fail
 refine HQ1.out.mono ?_
 rintro e w1 ⟨rfl, rfl⟩
 clear hcl
 rcases rlet with ⟨q1, q2⟩ | q1 | q1
 · go_wp2_with fail
   (go_quiet (fail)
    go_wp2
    ((try simp only [Exit.inBlock, Exit.then]); refine bodyPost_ret (results_tmp5 rfl _ _ _) rfl ?_)
    exact ⟨_, _, by rw [HRL.out, HML.out]; rfl, HPA.out _ _ (fun _ => rfl) rfl, _, rfl⟩)
 · have q2 : (65 : Int) ≤ cr.toNat := by omega
   have q3 : (90 : Int) < cr.toNat := by omega
   have q4 : (cr.toNat : Int) < 97 := by omega
   clear q1
   go_wp2_with fail
   (go_quiet (fail)
    go_wp2
    ((try simp only [Exit.inBlock, Exit.then]); refine bodyPost_ret (results_tmp5 rfl _ _ _) rfl ?_)
    exact ⟨_, _, by rw [HRL.out, HML.out]; rfl, HPA.out _ _ (fun _ => rfl) rfl, _, rfl⟩)
 · have q2 : (65 : Int) ≤ cr.toNat := by omega
   have q3 : (90 : Int) < cr.toNat := by omega
   have q4 : (97 : Int) ≤ cr.toNat := by omega
   have q5 : (122 : Int) < cr.toNat := by omega
   clear q1
   go_wp2_with fail
   (go_quiet (fail)
    go_wp2
    ((try simp only [Exit.inBlock, Exit.then]); refine bodyPost_ret (results_tmp5 rfl _ _ _) rfl ?_)
    exact ⟨_, _, by rw [HRL.out, HML.out]; rfl, HPA.out _ _ (fun _ => rfl) rfl, _, rfl⟩)
set_option maxRecDepth 100000 in
set_option maxHeartbeats 4000000 in
theorem scanNum_m0 {b cap k : Nat} {D  rest : List UInt8}  {a : Addr} {w : World} (hi : Inp w b cap D)  (hf : Follow rest) (hp : Pos b cap D ((45 :: 48 :: []) ++ rest) a k) (m : Nat) (hm : m = ((45 :: 48 :: []) ++ rest).length) :
   Calls Try.prog 88 #[.slice (some a) m k] w (TokAt b cap D ((45 :: 48 :: []) ++ rest) rest (45 :: 48 :: []) 11 a k w) := by
 have hc : Digit 48 := by decide
 have ht1 : Strokes Digit [] := .nil
 obtain ⟨sq, hsq⟩ : ∃ sq : List UInt8, sq = 45 :: 48 :: [] := ⟨_, rfl⟩
 have hsl : sq.length = 2 := by rw [hsq]; simp only [List.length_cons, List.length_append, List.length_nil]; try omega
 rw [← hsq] at hp hm ⊢
 have ha := hp.addr (by rw [List.length_append]; omega)
 have h1 := hp.room
 have h2 := hp.le
 have hfit := hi.fits
 have h4 := hi.bound
 have HB : Hid (Bts w b (D.length - (sq ++ rest).length) (sq ++ rest)) := hi.doc.suffix hp.suf
 have HP := Lib.hid hp
 obtain ⟨cr, rr, hcr, hrd, -⟩ := hf.facts
 have hstop : StopC cr := by obtain ⟨c', r', e, h, -⟩ := hf; rw [hcr] at e; cases e; exact h
 obtain ⟨n95, r46, r101, r69, r120, r111, r98, rlet⟩ := hstop.num
 rw [List.length_append] at h1 h2 hm
 generalize ho : D.length - (sq ++ rest).length = o at *
 have HO := Lib.hid ho
 subst ha
 have hrl : rest.length = rr.length + 1 := by rw [hcr]; rfl
 have hb0 : Bts w b o (45 :: 48 :: cr :: rr) := by have h := HB.out; rw [hsq, hcr] at h; simpa using h
 have hcs : w.cell? ⟨b, o, none⟩ = some (.int .u8 45) := hb0.head.1
 have hb1 := hb0.head.2
 have hcl : w.cell? ⟨b, o + 1, none⟩ = some (.int .u8 48) := hb1.head.1
 have hb2 := hb1.head.2.off (y := o + 2) (by omega)
 obtain ⟨E1, hE1⟩ : ∃ E, E = 2 := ⟨_, rfl⟩
 have hx1z : w.cell? ⟨b, o + 2, none⟩ = some (.int .u8 cr.toNat) := hb2.head.1
 have hb3 := hb2.off (y := o + E1) (by omega)
 have hx1 : w.cell? ⟨b, o + E1, none⟩ = some (.int .u8 cr.toNat) := hb3.head.1
 have hq1 := digits_89 tells_digit (by decide) (m := m) (k := k) (i0 := 2) ht1 hrd n95 hb2 (by rw [hm, hsl, hrl]; (try simp only [List.length_append, List.length_cons, List.length_nil]); omega) (by omega) (by omega) (by omega)
 rw [show 2 + ([] : List UInt8).length = E1 from by (try simp only [List.length_nil]); omega] at hq1
 have HQ1 := Lib.hid hq1
 obtain ⟨M, hM⟩ : ∃ M, M = sq.length := ⟨_, rfl⟩
 have hME : M = E1 := by omega
 have HPA : Hid (∀ a' k', (0 < rest.length → a' = ⟨b, o + E1, none⟩) → k' = k - E1 → Pos b cap D rest a' k') := fun a' k' e1 e2 => HP.out.after hfit (fun h => by rw [e1 h, HO.out, ← hME, hM]) (by rw [e2, ← hME, hM])
 have HRL : Hid (m - E1 = rest.length) := by show _ = _; omega
 have HML : Hid (sq.length = E1) := by show _ = _; omega
 have hm1 : E1 < m := by omega
 have hm0 : 0 < m := by omega
 have hkS : ¬ k = E1 := by omega
 have hmk : m ≤ k := by omega
 have hmb : m ≤ 140737488351232 := by omega
 have hz1 : E1 = 2 := by omega
 have hms : 1 < m := by omega
 have hms2 : 2 < m := by omega
 clear hp hi ho hf hm hstop HB hb0 hb2 hb3 hcr hsl hrl hM hME hq1 hsq h1 h2 hb1 ht1 hE1
 go_enter Try.func88, Try.ntmps88
 go_wp2_with fail
 refine (isDigit_yes 48 hc _).mono ?_
 rintro e w1 ⟨rfl, rfl⟩
 go_wp2_with fail
 refine HQ1.out.mono ?_
 rintro e w1 ⟨rfl, rfl⟩
 clear hcl
 rcases rlet with ⟨q1, q2⟩ | q1 | q1
 · go_wp2_with fail
   (go_quiet (fail)
    go_wp2
    ((try simp only [Exit.inBlock, Exit.then]); refine bodyPost_ret (results_tmp5 rfl _ _ _) rfl ?_)
    first
      | exact ⟨_, _, by rw [HRL.out, HML.out]; rfl, HPA.out _ _ (fun _ => rfl) rfl, _, rfl⟩
      | exact ⟨_, _, by rw [← HRL.out, HML.out, hz1]; rfl, HPA.out _ _ (fun _ => by rw [hz1]) (by rw [hz1]), _, rfl⟩)
 · have q2 : (65 : Int) ≤ cr.toNat := by omega
   have q3 : (90 : Int) < cr.toNat := by omega
   have q4 : (cr.toNat : Int) < 97 := by omega
   clear q1
   go_wp2_with fail
   (go_quiet (fail)
    go_wp2
    ((try simp only [Exit.inBlock, Exit.then]); refine bodyPost_ret (results_tmp5 rfl _ _ _) rfl ?_)
    first
      | exact ⟨_, _, by rw [HRL.out, HML.out]; rfl, HPA.out _ _ (fun _ => rfl) rfl, _, rfl⟩
      | exact ⟨_, _, by rw [← HRL.out, HML.out, hz1]; rfl, HPA.out _ _ (fun _ => by rw [hz1]) (by rw [hz1]), _, rfl⟩)
 · have q2 : (65 : Int) ≤ cr.toNat := by omega
   have q3 : (90 : Int) < cr.toNat := by omega
   have q4 : (97 : Int) ≤ cr.toNat := by omega
   have q5 : (122 : Int) < cr.toNat := by omega
   clear q1
   go_wp2_with fail
   (go_quiet (fail)
    go_wp2
    ((try simp only [Exit.inBlock, Exit.then]); refine bodyPost_ret (results_tmp5 rfl _ _ _) rfl ?_)
    first
      | exact ⟨_, _, by rw [HRL.out, HML.out]; rfl, HPA.out _ _ (fun _ => rfl) rfl, _, rfl⟩
      | exact ⟨_, _, by rw [← HRL.out, HML.out, hz1]; rfl, HPA.out _ _ (fun _ => by rw [hz1]) (by rw [hz1]), _, rfl⟩)
set_option maxRecDepth 100000 in
set_option maxHeartbeats 4000000 in
theorem scanNum_pt {b cap k : Nat} {D t1 t2 rest : List UInt8} {c d2 : UInt8} {a : Addr} {w : World} (hi : Inp w b cap D) (hc : Digit c) (h48 : ((c.toNat : Int) == 48) = false) (ht1 : Strokes Digit t1) (hd2 : Digit d2) (ht2 : Strokes Digit t2) (hf : Follow rest) (hp : Pos b cap D ((c :: (t1 ++ 46 :: d2 :: t2)) ++ rest) a k) (m : Nat) (hm : m = ((c :: (t1 ++ 46 :: d2 :: t2)) ++ rest).length) :
   Calls Try.prog 88 #[.slice (some a) m k] w (TokAt b cap D ((c :: (t1 ++ 46 :: d2 :: t2)) ++ rest) rest (c :: (t1 ++ 46 :: d2 :: t2)) 10 a k w) := by
 obtain ⟨sq, hsq⟩ : ∃ sq : List UInt8, sq = c :: (t1 ++ 46 :: d2 :: t2) := ⟨_, rfl⟩
 have hsl : sq.length = 3 + t1.length + t2.length := by rw [hsq]; simp only [List.length_cons, List.length_append, List.length_nil]; try omega
 rw [← hsq] at hp hm ⊢
 have ha := hp.addr (by rw [List.length_append]; omega)
 have h1 := hp.room
 have h2 := hp.le
 have hfit := hi.fits
 have h4 := hi.bound
 have HB : Hid (Bts w b (D.length - (sq ++ rest).length) (sq ++ rest)) := hi.doc.suffix hp.suf
 have HP := Lib.hid hp
 obtain ⟨cr, rr, hcr, hrd, -⟩ := hf.facts
 have hstop : StopC cr := by obtain ⟨c', r', e, h, -⟩ := hf; rw [hcr] at e; cases e; exact h
 obtain ⟨n95, r46, r101, r69, r120, r111, r98, rlet⟩ := hstop.num
 rw [List.length_append] at h1 h2 hm
 generalize ho : D.length - (sq ++ rest).length = o at *
 have HO := Lib.hid ho
 subst ha
 have hrl : rest.length = rr.length + 1 := by rw [hcr]; rfl
 have hb0 : Bts w b o (c :: (t1 ++ 46 :: d2 :: (t2 ++ cr :: rr))) := by have h := HB.out; rw [hsq, hcr] at h; simpa using h
 have hcl : w.cell? ⟨b, o, none⟩ = some (.int .u8 c.toNat) := hb0.head.1
 have hb2 := hb0.head.2.off (y := o + 1) (by omega)
 obtain ⟨E1, hE1⟩ : ∃ E, E = 1 + t1.length := ⟨_, rfl⟩
 have hb3 := hb2.post.off (y := o + E1) (by omega)
 have hx1 : w.cell? ⟨b, o + E1, none⟩ = some (.int .u8 46) := hb3.head.1
 have hq1 := digits_89 tells_digit (by decide) (m := m) (k := k) (i0 := 1) ht1 (by decide) (by decide) hb2 (by rw [hm, hsl, hrl]; (try simp only [List.length_append, List.length_cons, List.length_nil]); omega) (by omega) (by omega) (by omega)
 rw [show 1 + t1.length = E1 from by (try simp only [List.length_nil]); omega] at hq1
 have HQ1 := Lib.hid hq1
 have hb4 := hb3.head.2.off (y := o + (E1 + 1)) (by omega)
 have hcd2 : w.cell? ⟨b, o + (E1 + 1), none⟩ = some (.int .u8 d2.toNat) := hb4.head.1
 have hb5 := hb4.head.2.off (y := o + (E1 + 2)) (by omega)
 obtain ⟨E2, hE2⟩ : ∃ E, E = (E1 + 2) + t2.length := ⟨_, rfl⟩
 have hb6 := hb5.post.off (y := o + E2) (by omega)
 have hx2 : w.cell? ⟨b, o + E2, none⟩ = some (.int .u8 cr.toNat) := hb6.head.1
 have hq2 := digits_89 tells_digit (by decide) (m := m) (k := k) (i0 := (E1 + 2)) ht2 hrd n95 hb5 (by rw [hm, hsl, hrl]; (try simp only [List.length_append, List.length_cons, List.length_nil]); omega) (by omega) (by omega) (by omega)
 rw [show (E1 + 2) + t2.length = E2 from by (try simp only [List.length_nil]); omega] at hq2
 have HQ2 := Lib.hid hq2
 obtain ⟨M, hM⟩ : ∃ M, M = sq.length := ⟨_, rfl⟩
 have hME : M = E2 := by omega
 have gc43 : ((c.toNat : Int) == 43) = false := by simp; have := hc.1; have := hc.2; omega
 have gc45 : ((c.toNat : Int) == 45) = false := by simp; have := hc.1; have := hc.2; omega
 have gc105 : ((c.toNat : Int) == 105) = false := by simp; have := hc.1; have := hc.2; omega
 have gc110 : ((c.toNat : Int) == 110) = false := by simp; have := hc.1; have := hc.2; omega
 have HPA : Hid (∀ a' k', (0 < rest.length → a' = ⟨b, o + E2, none⟩) → k' = k - E2 → Pos b cap D rest a' k') := fun a' k' e1 e2 => HP.out.after hfit (fun h => by rw [e1 h, HO.out, ← hME, hM]) (by rw [e2, ← hME, hM])
 have HRL : Hid (m - E2 = rest.length) := by show _ = _; omega
 have HML : Hid (sq.length = E2) := by show _ = _; omega
 have hm1 : E2 < m := by omega
 have hm0 : 0 < m := by omega
 have hkS : ¬ k = E2 := by omega
 have hmk : m ≤ k := by omega
 have hmb : m ≤ 140737488351232 := by omega
 have hlE1 : E1 + 1 < m := by omega
 have hl12 : E1 + 2 < m := by omega
 have hE1p : 1 ≤ E1 := by omega
 clear hp hi ho hf hm hstop HB hb0 hb2 hb3 hcr hsl hrl hM hME hq1 hsq h1 h2 ht1 hE1 hb4 hb5 hb6 hE2 ht2 hq2
 go_enter Try.func88, Try.ntmps88
 go_wp2_with fail
 refine (isDigit_yes c hc _).mono ?_
 rintro e w1 ⟨rfl, rfl⟩
 go_wp2_with fail
 refine HQ1.out.mono ?_
 rintro e w1 ⟨rfl, rfl⟩
 clear hcl
 go_wp2_with fail
 refine (isDigit_yes d2 hd2 _).mono ?_
 rintro e w1 ⟨rfl, rfl⟩
 go_wp2_with fail
 refine HQ2.out.mono ?_
 rintro e w1 ⟨rfl, rfl⟩
 rcases rlet with ⟨q1, q2⟩ | q1 | q1
 · go_wp2_with fail
   (go_quiet (fail)
    go_wp2
    ((try simp only [Exit.inBlock, Exit.then]); refine bodyPost_ret (results_tmp5 rfl _ _ _) rfl ?_)
    exact ⟨_, _, by rw [HRL.out, HML.out]; rfl, HPA.out _ _ (fun _ => rfl) rfl, _, rfl⟩)
 · have q2 : (65 : Int) ≤ cr.toNat := by omega
   have q3 : (90 : Int) < cr.toNat := by omega
   have q4 : (cr.toNat : Int) < 97 := by omega
   clear q1
   go_wp2_with fail
   (go_quiet (fail)
    go_wp2
    ((try simp only [Exit.inBlock, Exit.then]); refine bodyPost_ret (results_tmp5 rfl _ _ _) rfl ?_)
    exact ⟨_, _, by rw [HRL.out, HML.out]; rfl, HPA.out _ _ (fun _ => rfl) rfl, _, rfl⟩)
 · have q2 : (65 : Int) ≤ cr.toNat := by omega
   have q3 : (90 : Int) < cr.toNat := by omega
   have q4 : (97 : Int) ≤ cr.toNat := by omega
   have q5 : (122 : Int) < cr.toNat := by omega
   clear q1
   go_wp2_with fail
   (go_quiet (fail)
    go_wp2
    ((try simp only [Exit.inBlock, Exit.then]); refine bodyPost_ret (results_tmp5 rfl _ _ _) rfl ?_)
    exact ⟨_, _, by rw [HRL.out, HML.out]; rfl, HPA.out _ _ (fun _ => rfl) rfl, _, rfl⟩)
end Go.Proofs.Ytnlkbbpmpgdmiaa
