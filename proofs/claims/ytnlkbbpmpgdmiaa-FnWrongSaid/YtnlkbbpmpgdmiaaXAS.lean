/- The reference's writer: the gap between a list's items (the end of a line is taken as a hypothesis here: EndC); Documents put together: plain laws; The reference's writer: a value: plain laws on what is told so far; The words that are values as they stand; The reference's writer: the end of a line (printed by wip/tools/endreg. -/
import Derived.Test.YtnlkbbpmpgdmiaaXAR
import Derived.Test.YtnlkbbpmpgdmiaaXAP
namespace Go.Proofs.Ytnlkbbpmpgdmiaa
open Go.RowKit
set_option linter.unusedVariables false
set_option linter.unusedSimpArgs false
def EndOk (s : List UInt8) : Prop := EndTxt s ∧ s.length ≤ 14
def EndC : Prop := ∀ (w : World) (sb : Nat) (C : Value) (cs : List UInt8) (a : Nat), Sty w sb C cs a → a ≤ 999999990 → Calls Try.prog 29 #[.pointer (some ⟨sb, 0, none⟩)] w (ToldX EndOk sb C cs (a + 3) w)
def GapOk (s : List UInt8) : Prop := (Blk1 s ∨ ∃ u b, EndTxt u ∧ Blk1 b ∧ s = u ++ b) ∧ s.length ≤ 16
theorem Tail.blk {I : N → List UInt8 → Prop} {c : UInt8} {av : Bool} {l : List N} {s : List UInt8} : ∀ {b : List UInt8}, Blk1 b → Tail I c av l s → Tail I c av l (b ++ s)
 | [], _, h => h
 | x :: b, hb, h => by
   have hx := hb x (by simp)
   refine .ws av l (b ++ s) x ?_ (Tail.blk (fun y hy => hb y (by simp [hy])) h)
   rcases hx with h | h
   · exact .inl (UInt8.toNat_inj.1 h)
   · exact .inr (UInt8.toNat_inj.1 h)
theorem Tail.end_ {I : N → List UInt8 → Prop} {c : UInt8} {av : Bool} {l : List N} {s u : List UInt8} (hu : EndTxt u) (h : Tail I c av l s) : Tail I c av l (u ++ s) := by
 obtain ⟨bl, co, e, h1, h2, h3, rfl⟩ := hu
 rw [List.append_assoc]
 refine Tail.blk h1 ?_
 rcases h2 with rfl | ⟨p, hp, rfl⟩
 · rcases h3 with rfl | rfl
   · exact .nl _ _ _ h
   · exact .crnl _ _ _ h
 · rw [List.append_assoc, List.cons_append]
   have hb : LineBr (e ++ s) := by
     rcases h3 with rfl | rfl
     · exact .inl ⟨_, rfl⟩
     · exact .inr ⟨_, rfl⟩
   refine .com av l p (e ++ s) hp hb ?_
   rcases h3 with rfl | rfl
   · exact .nl _ _ _ h
   · exact .crnl _ _ _ h
theorem Tail.gap {I : N → List UInt8 → Prop} {c : UInt8} {av : Bool} {l : List N} {s g : List UInt8} (hg : GapOk g) (h : Tail I c av l s) : Tail I c av l (g ++ s) := by
 rcases hg.1 with hb | ⟨u, b, hu, hb, rfl⟩
 · exact Tail.blk hb h
 · rw [List.append_assoc]
   exact Tail.end_ hu (Tail.blk hb h)
set_option maxRecDepth 100000 in
set_option maxHeartbeats 4000000 in
theorem gap_any (HEND : EndC) {w : World} {sb : Nat} {C : Value} {cs : List UInt8} {a : Nat} (h : Sty w sb C cs a) (ha : a ≤ 999999950) :
   Calls Try.prog 55 #[.pointer (some ⟨sb, 0, none⟩)] w (Told GapOk sb C cs a 5 w) := by
 have HST := Lib.hid h
 have HE := Lib.hid HEND
 have hpv := pickV_lt cs a (n := 4) (by omega)
 clear h HEND
 go_enter Try.func55, Try.ntmps55
 go_wp2_with fail
 refine (pick_any HST.out (by omega) 4 (by omega) (by omega)).mono ?_
 rintro e w1 ⟨rfl, hst1, hf1⟩
 have HST1 := Lib.hid hst1
 have HF1 := Lib.hid hf1
 clear hst1 hf1
 generalize pickV cs a 4 = p at *
 by_cases hp : p = 0
 · subst hp
   go_wp2_with fail
   refine (HE.out _ _ _ _ _ HST1.out (by omega)).mono ?_
   rintro e w2 ⟨u, rfl, hu, hst2, hf2⟩
   have HST2 := Lib.hid hst2
   have HF2 := Lib.hid (HF1.out.trans hf2)
   have hul := hu.2
   have HU := Lib.hid hu.1
   clear hst2 hf2 hu
   go_wp2_with fail
   refine (blanks_any HST2.out (by omega)).mono ?_
   rintro e w3 ⟨b, rfl, hb, hst3, hf3⟩
   have hbl := hb.2
   have hsum : ¬ (9223372036854775807 < u.length + b.length) := by omega
   have HB := Lib.hid hb.1
   have HST3 := Lib.hid hst3
   have HF3 := Lib.hid (HF2.out.trans hf3)
   clear hst3 hf3 hb
   go_wp2_with fail
   go_ret
   refine ⟨u ++ b, _, by rw [← str2]; rfl, ⟨.inr ⟨u, b, HU.out, HB.out, rfl⟩, by simp; omega⟩, by omega, by omega, HST3.out, HF3.out⟩
 · have fp : ((p : Int) == 0) = false := by simp; omega
   have fp' : ¬ ((p : Int) = 0) := by omega
   go_wp2_with fail
   refine (blanks_any HST1.out (by omega)).mono ?_
   rintro e w3 ⟨b, rfl, hb, hst3, hf3⟩
   have HB := Lib.hid hb
   have HST3 := Lib.hid hst3
   have HF3 := Lib.hid (HF1.out.trans hf3)
   clear hst3 hf3 hb
   go_wp2_with fail
   go_ret
   exact ⟨b, _, rfl, ⟨.inl HB.out.1, by have := HB.out.2; omega⟩, by omega, by omega, HST3.out, HF3.out⟩
end Go.Proofs.Ytnlkbbpmpgdmiaa
namespace Go.Proofs.Ytnlkbbpmpgdmiaa
open Go.RowKit
set_option linter.unusedVariables false
set_option linter.unusedSimpArgs false
theorem LineBr.append {s : List UInt8} (h : LineBr s) (t : List UInt8) : LineBr (s ++ t) := by
 rcases h with ⟨r, rfl⟩ | ⟨r, rfl⟩
 · exact .inl ⟨r ++ t, rfl⟩
 · exact .inr ⟨r ++ t, rfl⟩
theorem DocTxt.append {z : List UInt8} {es es' : List Ex} {s s' : List UInt8} (h : DocTxt [] es s) (h' : DocTxt z es' s') : DocTxt z (es ++ es') (s ++ s') := by
 induction h with
 | nil => exact h'
 | ws es s c hc _ ih => exact .ws _ _ c hc ih
 | nl es s _ ih => exact .nl _ _ ih
 | crnl es s _ ih => exact .crnl _ _ ih
 | com es p s hp hb _ ih =>
   rw [List.cons_append, List.append_assoc]
   exact .com _ p _ hp (hb.append _) ih
 | ex x es t u s hx ht hk hu _ ih =>
   rw [List.append_assoc, List.append_assoc, List.cons_append]
   exact .ex x _ t u _ hx ht hk hu ih
theorem DocTxt.blk {z : List UInt8} {es : List Ex} {s : List UInt8} : ∀ {b : List UInt8}, Blk1 b → DocTxt z es s → DocTxt z es (b ++ s)
 | [], _, h => h
 | x :: b, hb, h => by
   have hx := hb x (by simp)
   refine .ws es (b ++ s) x ?_ (DocTxt.blk (fun y hy => hb y (by simp [hy])) h)
   rcases hx with h | h
   · exact .inl (UInt8.toNat_inj.1 h)
   · exact .inr (UInt8.toNat_inj.1 h)
theorem DocTxt.end_ {z : List UInt8} {es : List Ex} {s u : List UInt8} (hu : EndTxt u) (h : DocTxt z es s) : DocTxt z es (u ++ s) := by
 obtain ⟨bl, co, e, h1, h2, h3, rfl⟩ := hu
 rw [List.append_assoc]
 refine DocTxt.blk h1 ?_
 have hn : DocTxt z es (e ++ s) := by
   rcases h3 with rfl | rfl
   · exact .nl _ _ h
   · exact .crnl _ _ h
 rcases h2 with rfl | ⟨p, hp, rfl⟩
 · exact hn
 · rw [List.append_assoc, List.cons_append]
   refine .com es p (e ++ s) hp ?_ hn
   rcases h3 with rfl | rfl
   · exact .inl ⟨_, rfl⟩
   · exact .inr ⟨_, rfl⟩
end Go.Proofs.Ytnlkbbpmpgdmiaa
namespace Go.Proofs.Ytnlkbbpmpgdmiaa
open Go.RowKit
set_option linter.unusedVariables false
set_option linter.unusedSimpArgs false
def Pre (I : N → List UInt8 → Prop) (c : UInt8) (done : List N) (L : List UInt8) : Prop :=
 ∀ l s, Tail I c (!done.isEmpty) l s → Tail I c false (done ++ l) (L ++ s)
theorem Pre.start {I : N → List UInt8 → Prop} {c : UInt8} : Pre I c [] [] := fun l s h => h
theorem Pre.blk {I : N → List UInt8 → Prop} {c : UInt8} {done : List N} {L b : List UInt8} (h : Pre I c done L) (hb : Blk1 b) : Pre I c done (L ++ b) := fun l s hs => by
 rw [List.append_assoc]
 exact h l _ (Tail.blk hb hs)
def sepr (done : List N) (b : List UInt8) : List UInt8 := if done = [] then [] else 44 :: b
theorem Pre.item {I : N → List UInt8 → Prop} {c : UInt8} {done : List N} {L g1 t g2 : List UInt8} {x : N} (h : Pre I c done L) (hg1 : GapOk g1) (hI : I x t) (hg2 : GapOk g2) :
   Pre I c (done ++ [x]) (L ++ (sepr done [] ++ (g1 ++ (t ++ g2)))) := by
 intro l s hs
 have hd : (!(done ++ [x]).isEmpty) = true := by simp
 rw [hd] at hs
 have h1 : Tail I c false (x :: l) (g1 ++ (t ++ (g2 ++ s))) := Tail.gap hg1 (.item x l t _ hI (Tail.gap hg2 hs))
 have e : (L ++ (sepr done [] ++ (g1 ++ (t ++ g2)))) ++ s = L ++ (sepr done [] ++ (g1 ++ (t ++ (g2 ++ s)))) := by simp
 rw [e, List.append_assoc, List.singleton_append]
 refine h _ _ ?_
 unfold sepr
 by_cases hd : done = []
 · subst hd
   exact h1
 · rw [if_neg hd]
   have : (!done.isEmpty) = true := by simp [hd]
   rw [this]
   exact .comma _ _ h1
theorem Pre.close {I : N → List UInt8 → Prop} {c : UInt8} {done : List N} {L g : List UInt8} (h : Pre I c done L) (hg : GapOk g) {cm : List UInt8} (hc : cm = [] ∨ (cm = [44] ∧ done ≠ [])) :
   Tail I c false done (L ++ (cm ++ (g ++ [c]))) := by
 have hcl : ∀ av, Tail I c av [] (g ++ [c]) := fun av => Tail.gap hg (.close av)
 have h2 : Tail I c (!done.isEmpty) [] (cm ++ (g ++ [c])) := by
   rcases hc with rfl | ⟨rfl, hd⟩
   · exact hcl _
   · have : (!done.isEmpty) = true := by simp [hd]
     rw [this]
     exact .comma _ _ (hcl false)
 have := h [] _ h2
 simpa using this
theorem Pre.kv {P : N → List UInt8 → Prop} {c : UInt8} {done : List N} {L b0 k b1 b2 t b3 : List UInt8} {x : N} (h : Pre (KvTxt P) c done L) (h0 : Blk1 b0) (hk : KeyTxt x.keys k) (h1 : Blk1 b1) (h2 : Blk1 b2) (hP : P x t) (h3 : Blk1 b3) :
   Pre (KvTxt P) c (done ++ [x]) (L ++ (sepr done b0 ++ (k ++ (b1 ++ 61 :: (b2 ++ (t ++ b3)))))) := by
 intro l s hs
 have hd : (!(done ++ [x]).isEmpty) = true := by simp
 rw [hd] at hs
 have hi : Tail (KvTxt P) c false (x :: l) ((k ++ (b1 ++ 61 :: (b2 ++ t))) ++ (b3 ++ s)) := .item x l _ _ ⟨k, b1, b2, t, hk, h1, h2, hP, rfl⟩ (Tail.blk h3 hs)
 have e : (L ++ (sepr done b0 ++ (k ++ (b1 ++ 61 :: (b2 ++ (t ++ b3)))))) ++ s = L ++ (sepr done b0 ++ ((k ++ (b1 ++ 61 :: (b2 ++ t))) ++ (b3 ++ s))) := by simp
 rw [e, List.append_assoc, List.singleton_append]
 refine h _ _ ?_
 unfold sepr
 by_cases hd : done = []
 · subst hd
   exact hi
 · rw [if_neg hd]
   have : (!done.isEmpty) = true := by simp [hd]
   rw [this, List.cons_append]
   exact .comma _ _ (Tail.blk h0 hi)
theorem Pre.end_ {I : N → List UInt8 → Prop} {c : UInt8} {done : List N} {L : List UInt8} (h : Pre I c done L) : Tail I c false done (L ++ [c]) := by
 have := h [] _ (.close _)
 simpa using this
def VOk : Nat → N → Prop
 | 0, .mk kd t items ks => items = [] ∧ ((kd = 0 ∧ ∃ rs : List Nat, (∀ r ∈ rs, Alpha r) ∧ t = Wd rs) ∨ (1 ≤ kd ∧ kd ≤ 7 ∧ Scal kd t t))
 | d + 1, .mk kd t items ks => (items = [] ∧ ((kd = 0 ∧ ∃ rs : List Nat, (∀ r ∈ rs, Alpha r) ∧ t = Wd rs) ∨ (1 ≤ kd ∧ kd ≤ 7 ∧ Scal kd t t))) ∨
     (kd = 8 ∧ t = [] ∧ ∀ x ∈ items, x.keys = [] ∧ VOk d x) ∨
     (kd = 9 ∧ t = [] ∧ ∀ x ∈ items, (∃ kws : List (List Nat), kws ≠ [] ∧ (∀ k ∈ kws, ∀ r ∈ k, Alpha r) ∧ x.keys = kws.map Wd) ∧ VOk d x)
end Go.Proofs.Ytnlkbbpmpgdmiaa
namespace Go.Proofs.Ytnlkbbpmpgdmiaa
open Go.RowKit
set_option linter.unusedVariables false
set_option linter.unusedSimpArgs false
instance (c : UInt8) : Decidable (Digit c) := by unfold Digit; infer_instance
instance (c : UInt8) : Decidable (HexD c) := by unfold HexD; infer_instance
instance (c : UInt8) : Decidable (Octal c) := by unfold Octal; infer_instance
instance (c : UInt8) : Decidable (Binary c) := by unfold Binary; infer_instance
instance (c : UInt8) : Decidable (DtC c) := by unfold DtC; infer_instance
theorem scal_1_0 : Scal 1 [48] [48] := .inr ⟨rfl, .inr (.inr (.inr ⟨.inl rfl, .zero⟩))⟩
theorem scal_1_1 : Scal 1 [43, 57, 57] [43, 57, 57] := .inr ⟨rfl, .inr (.inr (.inr ⟨.inl rfl, .plus _ _ (by decide) (by decide) (.digit _ _ (by decide) .nil)⟩))⟩
theorem scal_1_2 : Scal 1 [45, 49, 55] [45, 49, 55] := .inr ⟨rfl, .inr (.inr (.inr ⟨.inl rfl, .minus _ _ (by decide) (by decide) (.digit _ _ (by decide) .nil)⟩))⟩
theorem scal_1_3 : Scal 1 [49, 95, 48, 48, 48] [49, 95, 48, 48, 48] := .inr ⟨rfl, .inr (.inr (.inr ⟨.inl rfl, .plain _ _ (by decide) (by decide) (.stroke _ _ (by decide) (.digit _ _ (by decide) (.digit _ _ (by decide) .nil)))⟩))⟩
theorem scal_1_4 : Scal 1 [48, 120, 68, 69, 65, 68, 95, 98, 101, 101, 102] [48, 120, 68, 69, 65, 68, 95, 98, 101, 101, 102] := .inr ⟨rfl, .inr (.inr (.inr ⟨.inl rfl, .hex _ _ (by decide) (.digit _ _ (by decide) (.digit _ _ (by decide) (.digit _ _ (by decide) (.stroke _ _ (by decide) (.digit _ _ (by decide) (.digit _ _ (by decide) (.digit _ _ (by decide) .nil)))))))⟩))⟩
theorem scal_1_5 : Scal 1 [48, 111, 55, 53, 53] [48, 111, 55, 53, 53] := .inr ⟨rfl, .inr (.inr (.inr ⟨.inl rfl, .oct _ _ (by decide) (.digit _ _ (by decide) (.digit _ _ (by decide) .nil))⟩))⟩
theorem scal_1_6 : Scal 1 [48, 98, 49, 49, 48, 49, 95, 48, 49, 49, 48] [48, 98, 49, 49, 48, 49, 95, 48, 49, 49, 48] := .inr ⟨rfl, .inr (.inr (.inr ⟨.inl rfl, .bin _ _ (by decide) (.digit _ _ (by decide) (.digit _ _ (by decide) (.digit _ _ (by decide) (.stroke _ _ (by decide) (.digit _ _ (by decide) (.digit _ _ (by decide) (.digit _ _ (by decide) .nil)))))))⟩))⟩
theorem scal_1_7 : Scal 1 [57, 50, 50, 51, 51, 55, 50, 48, 51, 54, 56, 53, 52, 55, 55, 53, 56, 48, 55] [57, 50, 50, 51, 51, 55, 50, 48, 51, 54, 56, 53, 52, 55, 55, 53, 56, 48, 55] := .inr ⟨rfl, .inr (.inr (.inr ⟨.inl rfl, .plain _ _ (by decide) (by decide) (.digit _ _ (by decide) (.digit _ _ (by decide) (.digit _ _ (by decide) (.digit _ _ (by decide) (.digit _ _ (by decide) (.digit _ _ (by decide) (.digit _ _ (by decide) (.digit _ _ (by decide) (.digit _ _ (by decide) (.digit _ _ (by decide) (.digit _ _ (by decide) (.digit _ _ (by decide) (.digit _ _ (by decide) (.digit _ _ (by decide) (.digit _ _ (by decide) (.digit _ _ (by decide) (.digit _ _ (by decide) (.digit _ _ (by decide) .nil))))))))))))))))))⟩))⟩
theorem scal_1_8 : Scal 1 [45, 48] [45, 48] := .inr ⟨rfl, .inr (.inr (.inr ⟨.inl rfl, .minusZero⟩))⟩
theorem scal_1_9 : Scal 1 [53] [53] := .inr ⟨rfl, .inr (.inr (.inr ⟨.inl rfl, .plain _ _ (by decide) (by decide) .nil⟩))⟩
theorem scal_2_0 : Scal 2 [49, 46, 48] [49, 46, 48] := .inr ⟨rfl, .inr (.inr (.inr ⟨.inr rfl, .point 49 [] 48 [] (by decide) (by decide) .nil (by decide) .nil⟩))⟩
theorem scal_2_1 : Scal 2 [45, 48, 46, 53, 101, 43, 49, 48] [45, 48, 46, 53, 101, 43, 49, 48] := .inr ⟨rfl, .inr (.inr (.inr ⟨.inr rfl, .minusZeroPointPower 53 [] 49 [48] (by decide) .nil (by decide) (.digit _ _ (by decide) .nil)⟩))⟩
theorem scal_2_2 : Scal 2 [43, 54, 46, 54, 50, 54, 101, 45, 51, 52] [43, 54, 46, 54, 50, 54, 101, 45, 51, 52] := .inr ⟨rfl, .inr (.inr (.inr ⟨.inr rfl, .plusPointPower 54 [] 54 [50, 54] 51 [52] (by decide) (by decide) .nil (by decide) (.digit _ _ (by decide) (.digit _ _ (by decide) .nil)) (by decide) (.digit _ _ (by decide) .nil)⟩))⟩
theorem scal_2_3 : Scal 2 [105, 110, 102] [105, 110, 102] := .inr ⟨rfl, .inr (.inl ⟨rfl, .inl rfl⟩)⟩
theorem scal_2_4 : Scal 2 [45, 105, 110, 102] [45, 105, 110, 102] := .inr ⟨rfl, .inr (.inr (.inr ⟨.inr rfl, .minusInf⟩))⟩
theorem scal_2_5 : Scal 2 [110, 97, 110] [110, 97, 110] := .inr ⟨rfl, .inr (.inl ⟨rfl, .inr rfl⟩)⟩
theorem scal_2_6 : Scal 2 [43, 110, 97, 110] [43, 110, 97, 110] := .inr ⟨rfl, .inr (.inr (.inr ⟨.inr rfl, .plusNan⟩))⟩
theorem scal_2_7 : Scal 2 [57, 95, 50, 50, 52, 46, 53, 95, 54] [57, 95, 50, 50, 52, 46, 53, 95, 54] := .inr ⟨rfl, .inr (.inr (.inr ⟨.inr rfl, .point 57 [95, 50, 50, 52] 53 [95, 54] (by decide) (by decide) (.stroke _ _ (by decide) (.digit _ _ (by decide) (.digit _ _ (by decide) .nil))) (by decide) (.stroke _ _ (by decide) .nil)⟩))⟩
theorem scal_2_8 : Scal 2 [49, 101, 48, 54] [49, 101, 48, 54] := .inr ⟨rfl, .inr (.inr (.inr ⟨.inr rfl, .power 49 [] 48 [54] (by decide) (by decide) .nil (by decide) (.digit _ _ (by decide) .nil)⟩))⟩
theorem scal_2_9 : Scal 2 [45, 48, 46, 48] [45, 48, 46, 48] := .inr ⟨rfl, .inr (.inr (.inr ⟨.inr rfl, .minusZeroPoint _ _ (by decide) .nil⟩))⟩
theorem scal_3_0 : Scal 3 [116, 114, 117, 101] [116, 114, 117, 101] := .inr ⟨rfl, .inl ⟨rfl, .inl rfl⟩⟩
theorem scal_3_1 : Scal 3 [102, 97, 108, 115, 101] [102, 97, 108, 115, 101] := .inr ⟨rfl, .inl ⟨rfl, .inr rfl⟩⟩
theorem scal_4_0 : Scal 4 [49, 57, 55, 57, 45, 48, 53, 45, 50, 55, 84, 48, 55, 58, 51, 50, 58, 48, 48, 90] [49, 57, 55, 57, 45, 48, 53, 45, 50, 55, 84, 48, 55, 58, 51, 50, 58, 48, 48, 90] := .inr ⟨rfl, .inr (.inr (.inl ⟨by decide, by decide, .inr ⟨49, 57, 55, [57, 45, 48, 53, 45, 50, 55], 84, [48, 55, 58, 51, 50, 58, 48, 48, 90], rfl, by decide, by decide, .inl rfl, by decide, .inl ⟨by decide, rfl⟩⟩, .inr ⟨by decide, by decide, _, _, rfl, by decide⟩, _, _, rfl, by decide⟩))⟩
theorem scal_4_1 : Scal 4 [49, 57, 55, 57, 45, 48, 53, 45, 50, 55, 84, 48, 48, 58, 51, 50, 58, 48, 48, 46, 57, 57, 57, 57, 57, 57, 45, 48, 55, 58, 48, 48] [49, 57, 55, 57, 45, 48, 53, 45, 50, 55, 84, 48, 48, 58, 51, 50, 58, 48, 48, 46, 57, 57, 57, 57, 57, 57, 45, 48, 55, 58, 48, 48] := .inr ⟨rfl, .inr (.inr (.inl ⟨by decide, by decide, .inr ⟨49, 57, 55, [57, 45, 48, 53, 45, 50, 55], 84, [48, 48, 58, 51, 50, 58, 48, 48, 46, 57, 57, 57, 57, 57, 57, 45, 48, 55, 58, 48, 48], rfl, by decide, by decide, .inl rfl, by decide, .inl ⟨by decide, rfl⟩⟩, .inr ⟨by decide, by decide, _, _, rfl, by decide⟩, _, _, rfl, by decide⟩))⟩
theorem scal_4_2 : Scal 4 [50, 48, 48, 48, 45, 48, 50, 45, 50, 57, 32, 50, 51, 58, 53, 57, 58, 53, 57, 43, 48, 48, 58, 51, 48] [50, 48, 48, 48, 45, 48, 50, 45, 50, 57, 32, 50, 51, 58, 53, 57, 58, 53, 57, 43, 48, 48, 58, 51, 48] := .inr ⟨rfl, .inr (.inr (.inl ⟨by decide, by decide, .inr ⟨50, 48, 48, [48, 45, 48, 50, 45, 50, 57], 32, [50, 51, 58, 53, 57, 58, 53, 57, 43, 48, 48, 58, 51, 48], rfl, by decide, by decide, .inr ⟨rfl, _, _, rfl, by decide⟩, by decide, .inl ⟨by decide, rfl⟩⟩, .inr ⟨by decide, by decide, _, _, rfl, by decide⟩, _, _, rfl, by decide⟩))⟩
theorem scal_5_0 : Scal 5 [49, 57, 55, 57, 45, 48, 53, 45, 50, 55, 84, 48, 55, 58, 51, 50, 58, 48, 48] [49, 57, 55, 57, 45, 48, 53, 45, 50, 55, 84, 48, 55, 58, 51, 50, 58, 48, 48] := .inr ⟨rfl, .inr (.inr (.inl ⟨by decide, by decide, .inr ⟨49, 57, 55, [57, 45, 48, 53, 45, 50, 55], 84, [48, 55, 58, 51, 50, 58, 48, 48], rfl, by decide, by decide, .inl rfl, by decide, .inr ⟨by decide, rfl⟩⟩, .inr ⟨by decide, by decide, _, _, rfl, by decide⟩, _, _, rfl, by decide⟩))⟩
theorem scal_5_1 : Scal 5 [50, 48, 50, 52, 45, 49, 50, 45, 51, 49, 32, 48, 48, 58, 48, 48, 58, 48, 48, 46, 53] [50, 48, 50, 52, 45, 49, 50, 45, 51, 49, 32, 48, 48, 58, 48, 48, 58, 48, 48, 46, 53] := .inr ⟨rfl, .inr (.inr (.inl ⟨by decide, by decide, .inr ⟨50, 48, 50, [52, 45, 49, 50, 45, 51, 49], 32, [48, 48, 58, 48, 48, 58, 48, 48, 46, 53], rfl, by decide, by decide, .inr ⟨rfl, _, _, rfl, by decide⟩, by decide, .inr ⟨by decide, rfl⟩⟩, .inr ⟨by decide, by decide, _, _, rfl, by decide⟩, _, _, rfl, by decide⟩))⟩
theorem scal_6_0 : Scal 6 [49, 57, 55, 57, 45, 48, 53, 45, 50, 55] [49, 57, 55, 57, 45, 48, 53, 45, 50, 55] := .inr ⟨rfl, .inr (.inr (.inl ⟨by decide, by decide, .inl ⟨_, _, _, _, rfl, by decide, .inr ⟨by decide, rfl⟩⟩, .inr ⟨by decide, by decide, _, _, rfl, by decide⟩, _, _, rfl, by decide⟩))⟩
theorem scal_6_1 : Scal 6 [50, 48, 50, 52, 45, 48, 50, 45, 50, 57] [50, 48, 50, 52, 45, 48, 50, 45, 50, 57] := .inr ⟨rfl, .inr (.inr (.inl ⟨by decide, by decide, .inl ⟨_, _, _, _, rfl, by decide, .inr ⟨by decide, rfl⟩⟩, .inr ⟨by decide, by decide, _, _, rfl, by decide⟩, _, _, rfl, by decide⟩))⟩
theorem scal_7_0 : Scal 7 [48, 55, 58, 51, 50, 58, 48, 48] [48, 55, 58, 51, 50, 58, 48, 48] := .inr ⟨rfl, .inr (.inr (.inl ⟨by decide, by decide, .inl ⟨_, _, _, _, rfl, by decide, .inl ⟨by decide, rfl⟩⟩, .inl ⟨by decide, by decide⟩, _, _, rfl, by decide⟩))⟩
theorem scal_7_1 : Scal 7 [50, 51, 58, 53, 57, 58, 53, 57, 46, 49, 50, 51, 52, 53, 54, 55, 56, 57] [50, 51, 58, 53, 57, 58, 53, 57, 46, 49, 50, 51, 52, 53, 54, 55, 56, 57] := .inr ⟨rfl, .inr (.inr (.inl ⟨by decide, by decide, .inl ⟨_, _, _, _, rfl, by decide, .inl ⟨by decide, rfl⟩⟩, .inl ⟨by decide, by decide⟩, _, _, rfl, by decide⟩))⟩
theorem words_scal : ∀ kd, ∀ t ∈ wordsOf kd, Scal kd t t ∧ 1 ≤ kd ∧ kd ≤ 7 ∧ t.length ≤ 40
 | 1, t, h => by
   have h : t = [48] ∨ t = [43, 57, 57] ∨ t = [45, 49, 55] ∨ t = [49, 95, 48, 48, 48] ∨ t = [48, 120, 68, 69, 65, 68, 95, 98, 101, 101, 102] ∨ t = [48, 111, 55, 53, 53] ∨ t = [48, 98, 49, 49, 48, 49, 95, 48, 49, 49, 48] ∨ t = [57, 50, 50, 51, 51, 55, 50, 48, 51, 54, 56, 53, 52, 55, 55, 53, 56, 48, 55] ∨ t = [45, 48] ∨ t = [53] := by simpa [wordsOf] using h
   rcases h with rfl | rfl | rfl | rfl | rfl | rfl | rfl | rfl | rfl | rfl
   · exact ⟨scal_1_0, by decide, by decide, by decide⟩
   · exact ⟨scal_1_1, by decide, by decide, by decide⟩
   · exact ⟨scal_1_2, by decide, by decide, by decide⟩
   · exact ⟨scal_1_3, by decide, by decide, by decide⟩
   · exact ⟨scal_1_4, by decide, by decide, by decide⟩
   · exact ⟨scal_1_5, by decide, by decide, by decide⟩
   · exact ⟨scal_1_6, by decide, by decide, by decide⟩
   · exact ⟨scal_1_7, by decide, by decide, by decide⟩
   · exact ⟨scal_1_8, by decide, by decide, by decide⟩
   · exact ⟨scal_1_9, by decide, by decide, by decide⟩
 | 2, t, h => by
   have h : t = [49, 46, 48] ∨ t = [45, 48, 46, 53, 101, 43, 49, 48] ∨ t = [43, 54, 46, 54, 50, 54, 101, 45, 51, 52] ∨ t = [105, 110, 102] ∨ t = [45, 105, 110, 102] ∨ t = [110, 97, 110] ∨ t = [43, 110, 97, 110] ∨ t = [57, 95, 50, 50, 52, 46, 53, 95, 54] ∨ t = [49, 101, 48, 54] ∨ t = [45, 48, 46, 48] := by simpa [wordsOf] using h
   rcases h with rfl | rfl | rfl | rfl | rfl | rfl | rfl | rfl | rfl | rfl
   · exact ⟨scal_2_0, by decide, by decide, by decide⟩
   · exact ⟨scal_2_1, by decide, by decide, by decide⟩
   · exact ⟨scal_2_2, by decide, by decide, by decide⟩
   · exact ⟨scal_2_3, by decide, by decide, by decide⟩
   · exact ⟨scal_2_4, by decide, by decide, by decide⟩
   · exact ⟨scal_2_5, by decide, by decide, by decide⟩
   · exact ⟨scal_2_6, by decide, by decide, by decide⟩
   · exact ⟨scal_2_7, by decide, by decide, by decide⟩
   · exact ⟨scal_2_8, by decide, by decide, by decide⟩
   · exact ⟨scal_2_9, by decide, by decide, by decide⟩
 | 3, t, h => by
   have h : t = [116, 114, 117, 101] ∨ t = [102, 97, 108, 115, 101] := by simpa [wordsOf] using h
   rcases h with rfl | rfl
   · exact ⟨scal_3_0, by decide, by decide, by decide⟩
   · exact ⟨scal_3_1, by decide, by decide, by decide⟩
 | 4, t, h => by
   have h : t = [49, 57, 55, 57, 45, 48, 53, 45, 50, 55, 84, 48, 55, 58, 51, 50, 58, 48, 48, 90] ∨ t = [49, 57, 55, 57, 45, 48, 53, 45, 50, 55, 84, 48, 48, 58, 51, 50, 58, 48, 48, 46, 57, 57, 57, 57, 57, 57, 45, 48, 55, 58, 48, 48] ∨ t = [50, 48, 48, 48, 45, 48, 50, 45, 50, 57, 32, 50, 51, 58, 53, 57, 58, 53, 57, 43, 48, 48, 58, 51, 48] := by simpa [wordsOf] using h
   rcases h with rfl | rfl | rfl
   · exact ⟨scal_4_0, by decide, by decide, by decide⟩
   · exact ⟨scal_4_1, by decide, by decide, by decide⟩
   · exact ⟨scal_4_2, by decide, by decide, by decide⟩
 | 5, t, h => by
   have h : t = [49, 57, 55, 57, 45, 48, 53, 45, 50, 55, 84, 48, 55, 58, 51, 50, 58, 48, 48] ∨ t = [50, 48, 50, 52, 45, 49, 50, 45, 51, 49, 32, 48, 48, 58, 48, 48, 58, 48, 48, 46, 53] := by simpa [wordsOf] using h
   rcases h with rfl | rfl
   · exact ⟨scal_5_0, by decide, by decide, by decide⟩
   · exact ⟨scal_5_1, by decide, by decide, by decide⟩
 | 6, t, h => by
   have h : t = [49, 57, 55, 57, 45, 48, 53, 45, 50, 55] ∨ t = [50, 48, 50, 52, 45, 48, 50, 45, 50, 57] := by simpa [wordsOf] using h
   rcases h with rfl | rfl
   · exact ⟨scal_6_0, by decide, by decide, by decide⟩
   · exact ⟨scal_6_1, by decide, by decide, by decide⟩
 | 7, t, h => by
   have h : t = [48, 55, 58, 51, 50, 58, 48, 48] ∨ t = [50, 51, 58, 53, 57, 58, 53, 57, 46, 49, 50, 51, 52, 53, 54, 55, 56, 57] := by simpa [wordsOf] using h
   rcases h with rfl | rfl
   · exact ⟨scal_7_0, by decide, by decide, by decide⟩
   · exact ⟨scal_7_1, by decide, by decide, by decide⟩
 | 0, t, h => by cases h
 | n + 8, t, h => by cases h
end Go.Proofs.Ytnlkbbpmpgdmiaa
namespace Go.Proofs.Ytnlkbbpmpgdmiaa
open Go.RowKit
set_option linter.unusedVariables false
set_option linter.unusedSimpArgs false
theorem str3' (a b c : List UInt8) : ((⟨a.toArray⟩ : ByteArray) ++ ⟨b.toArray⟩) ++ ⟨c.toArray⟩ = ⟨(a ++ (b ++ c)).toArray⟩ := by
 apply ByteArray.ext
 simp [ByteArray.data_append]
abbrev endA : Array Value := #[.string ⟨#[]⟩, .string ⟨#[]⟩, .string ⟨#[35, 32, 97, 32, 114, 101, 109, 97, 114, 107]⟩, .string ⟨#[35]⟩, .string ⟨#[35, 61, 32, 91, 120, 93, 32, 34, 32, 39]⟩]
abbrev endB : Array Value := #[.string ⟨#[10]⟩, .string ⟨#[10]⟩, .string ⟨#[13, 10]⟩]
theorem region_ind {P : Program} {md : Region.Mode} {ops : Array Oper} {Q : Exit → Act → World → Prop} (I : Nat → Array Bool → Act → World → Prop)
   (h : ∀ n l a w, I n l a w → (∀ n' l' a' w', n' < n → I n' l' a' w' → wpAny P md ops Q n' l' a' w') → wpAny P md ops Q n l a w) : ∀ n l a w, I n l a w → wpAny P md ops Q n l a w := by
 intro n
 induction n using Nat.strongRecOn with
 | ind n ih => exact fun l a w hi => h n l a w hi fun n' l' a' w' hn hi' => ih n' hn l' a' w' hi'
def EF (w : World) (sb : Nat) (C : Value) (cs : List UInt8) (pl : Nat) (wx : World) : Prop := Sty wx sb C cs pl ∧ SF sb w wx
inductive EndI (w : World) (sb : Nat) (C : Value) (cs : List UInt8) (a : Nat) (X Y : List UInt8) (p q : Nat) : Nat → Array Bool → Act → World → Prop
 | c0_00 (wx : World) (h : EF w sb C cs a wx) : EndI w sb C cs a X Y p q 12 #[true, false, false, true, false, false, false, false, false, true, false, false, false, false, false] ⟨#[.pointer (some ⟨sb, 0, none⟩), undef, .string ⟨#[]⟩, .pointer (some ⟨sb, 0, none⟩), undef, undef, .pointer (some ⟨sb, 0, none⟩), undef, undef, undef, undef, undef, .pointer (some ⟨sb, 0, none⟩), undef, undef, undef, undef], []⟩ wx
 | c0_01 (wx : World) (gB : Nat) (h : EF w sb C cs a wx) (hB : Blk wx gB 9 endB) (hBn : sb < gB) : EndI w sb C cs a X Y p q 11 #[true, false, false, true, false, false, false, false, true, true, false, false, false, false, false] ⟨#[.pointer (some ⟨sb, 0, none⟩), undef, .string ⟨#[]⟩, .pointer (some ⟨sb, 0, none⟩), undef, undef, .pointer (some ⟨sb, 0, none⟩), undef, undef, undef, undef, .slice (some ⟨gB, 0, none⟩) 3 3, .pointer (some ⟨sb, 0, none⟩), undef, undef, undef, undef], []⟩ wx
 | c0_10 (wx : World) (gA : Nat) (h : EF w sb C cs a wx) (hA : Blk wx gA 9 endA) (hAn : sb < gA) : EndI w sb C cs a X Y p q 11 #[true, false, true, true, false, false, false, false, false, true, false, false, false, false, false] ⟨#[.pointer (some ⟨sb, 0, none⟩), undef, .string ⟨#[]⟩, .pointer (some ⟨sb, 0, none⟩), undef, .slice (some ⟨gA, 0, none⟩) 5 5, .pointer (some ⟨sb, 0, none⟩), undef, undef, undef, undef, undef, .pointer (some ⟨sb, 0, none⟩), undef, undef, undef, undef], []⟩ wx
 | c0_11 (wx : World) (gA : Nat) (gB : Nat) (h : EF w sb C cs a wx) (hA : Blk wx gA 9 endA) (hAn : sb < gA) (hB : Blk wx gB 9 endB) (hBn : sb < gB) : EndI w sb C cs a X Y p q 10 #[true, false, true, true, false, false, false, false, true, true, false, false, false, false, false] ⟨#[.pointer (some ⟨sb, 0, none⟩), undef, .string ⟨#[]⟩, .pointer (some ⟨sb, 0, none⟩), undef, .slice (some ⟨gA, 0, none⟩) 5 5, .pointer (some ⟨sb, 0, none⟩), undef, undef, undef, undef, .slice (some ⟨gB, 0, none⟩) 3 3, .pointer (some ⟨sb, 0, none⟩), undef, undef, undef, undef], []⟩ wx
 | c1_00 (wx : World) (s1 : List UInt8) (h : EF w sb C cs (a + 1) wx) (hs : BlkTxt s1) : EndI w sb C cs a X Y p q 11 #[true, true, false, true, false, false, false, false, false, true, false, false, false, false, false] ⟨#[.pointer (some ⟨sb, 0, none⟩), undef, .string ⟨#[]⟩, .pointer (some ⟨sb, 0, none⟩), .string ⟨s1.toArray⟩, undef, .pointer (some ⟨sb, 0, none⟩), undef, undef, undef, undef, undef, .pointer (some ⟨sb, 0, none⟩), undef, undef, undef, undef], []⟩ wx
 | c1_01 (wx : World) (s1 : List UInt8) (gB : Nat) (h : EF w sb C cs (a + 1) wx) (hs : BlkTxt s1) (hB : Blk wx gB 9 endB) (hBn : sb < gB) : EndI w sb C cs a X Y p q 10 #[true, true, false, true, false, false, false, false, true, true, false, false, false, false, false] ⟨#[.pointer (some ⟨sb, 0, none⟩), undef, .string ⟨#[]⟩, .pointer (some ⟨sb, 0, none⟩), .string ⟨s1.toArray⟩, undef, .pointer (some ⟨sb, 0, none⟩), undef, undef, undef, undef, .slice (some ⟨gB, 0, none⟩) 3 3, .pointer (some ⟨sb, 0, none⟩), undef, undef, undef, undef], []⟩ wx
 | c1_10 (wx : World) (s1 : List UInt8) (gA : Nat) (h : EF w sb C cs (a + 1) wx) (hs : BlkTxt s1) (hA : Blk wx gA 9 endA) (hAn : sb < gA) : EndI w sb C cs a X Y p q 10 #[true, true, true, true, false, false, false, false, false, true, false, false, false, false, false] ⟨#[.pointer (some ⟨sb, 0, none⟩), undef, .string ⟨#[]⟩, .pointer (some ⟨sb, 0, none⟩), .string ⟨s1.toArray⟩, .slice (some ⟨gA, 0, none⟩) 5 5, .pointer (some ⟨sb, 0, none⟩), undef, undef, undef, undef, undef, .pointer (some ⟨sb, 0, none⟩), undef, undef, undef, undef], []⟩ wx
 | c1_11 (wx : World) (s1 : List UInt8) (gA : Nat) (gB : Nat) (h : EF w sb C cs (a + 1) wx) (hs : BlkTxt s1) (hA : Blk wx gA 9 endA) (hAn : sb < gA) (hB : Blk wx gB 9 endB) (hBn : sb < gB) : EndI w sb C cs a X Y p q 9 #[true, true, true, true, false, false, false, false, true, true, false, false, false, false, false] ⟨#[.pointer (some ⟨sb, 0, none⟩), undef, .string ⟨#[]⟩, .pointer (some ⟨sb, 0, none⟩), .string ⟨s1.toArray⟩, .slice (some ⟨gA, 0, none⟩) 5 5, .pointer (some ⟨sb, 0, none⟩), undef, undef, undef, undef, .slice (some ⟨gB, 0, none⟩) 3 3, .pointer (some ⟨sb, 0, none⟩), undef, undef, undef, undef], []⟩ wx
 | c2_00 (wx : World) (s1 : List UInt8) (h : EF w sb C cs (a + 1 + 1) wx) (hs : BlkTxt s1) : EndI w sb C cs a X Y p q 10 #[true, true, false, true, true, false, false, false, false, true, false, false, false, false, false] ⟨#[.pointer (some ⟨sb, 0, none⟩), undef, .string ⟨#[]⟩, .pointer (some ⟨sb, 0, none⟩), .string ⟨s1.toArray⟩, undef, .pointer (some ⟨sb, 0, none⟩), .int .i64 p, undef, undef, undef, undef, .pointer (some ⟨sb, 0, none⟩), undef, undef, undef, undef], []⟩ wx
 | c2_01 (wx : World) (s1 : List UInt8) (gB : Nat) (h : EF w sb C cs (a + 1 + 1) wx) (hs : BlkTxt s1) (hB : Blk wx gB 9 endB) (hBn : sb < gB) : EndI w sb C cs a X Y p q 9 #[true, true, false, true, true, false, false, false, true, true, false, false, false, false, false] ⟨#[.pointer (some ⟨sb, 0, none⟩), undef, .string ⟨#[]⟩, .pointer (some ⟨sb, 0, none⟩), .string ⟨s1.toArray⟩, undef, .pointer (some ⟨sb, 0, none⟩), .int .i64 p, undef, undef, undef, .slice (some ⟨gB, 0, none⟩) 3 3, .pointer (some ⟨sb, 0, none⟩), undef, undef, undef, undef], []⟩ wx
 | c2_10 (wx : World) (s1 : List UInt8) (gA : Nat) (h : EF w sb C cs (a + 1 + 1) wx) (hs : BlkTxt s1) (hA : Blk wx gA 9 endA) (hAn : sb < gA) : EndI w sb C cs a X Y p q 8 #[true, true, true, true, true, true, false, false, false, true, false, false, false, false, false] ⟨#[.pointer (some ⟨sb, 0, none⟩), undef, .string ⟨#[]⟩, .pointer (some ⟨sb, 0, none⟩), .string ⟨s1.toArray⟩, .slice (some ⟨gA, 0, none⟩) 5 5, .pointer (some ⟨sb, 0, none⟩), .int .i64 p, .pointer (some ⟨gA, p, none⟩), undef, undef, undef, .pointer (some ⟨sb, 0, none⟩), undef, undef, undef, undef], []⟩ wx
 | c2_11 (wx : World) (s1 : List UInt8) (gA : Nat) (gB : Nat) (h : EF w sb C cs (a + 1 + 1) wx) (hs : BlkTxt s1) (hA : Blk wx gA 9 endA) (hAn : sb < gA) (hB : Blk wx gB 9 endB) (hBn : sb < gB) : EndI w sb C cs a X Y p q 7 #[true, true, true, true, true, true, false, false, true, true, false, false, false, false, false] ⟨#[.pointer (some ⟨sb, 0, none⟩), undef, .string ⟨#[]⟩, .pointer (some ⟨sb, 0, none⟩), .string ⟨s1.toArray⟩, .slice (some ⟨gA, 0, none⟩) 5 5, .pointer (some ⟨sb, 0, none⟩), .int .i64 p, .pointer (some ⟨gA, p, none⟩), undef, undef, .slice (some ⟨gB, 0, none⟩) 3 3, .pointer (some ⟨sb, 0, none⟩), undef, undef, undef, undef], []⟩ wx
 | c2_20 (wx : World) (s1 : List UInt8) (gA : Nat) (h : EF w sb C cs (a + 1 + 1) wx) (hs : BlkTxt s1) : EndI w sb C cs a X Y p q 6 #[true, true, true, true, true, true, true, true, false, true, false, false, false, false, false] ⟨#[.pointer (some ⟨sb, 0, none⟩), undef, .string ⟨#[]⟩, .pointer (some ⟨sb, 0, none⟩), .string ⟨s1.toArray⟩, .slice (some ⟨gA, 0, none⟩) 5 5, .pointer (some ⟨sb, 0, none⟩), .int .i64 p, .pointer (some ⟨gA, p, none⟩), .string ⟨X.toArray⟩, .string (⟨s1.toArray⟩ ++ ⟨X.toArray⟩), undef, .pointer (some ⟨sb, 0, none⟩), undef, undef, undef, undef], []⟩ wx
 | c2_21 (wx : World) (s1 : List UInt8) (gA : Nat) (gB : Nat) (h : EF w sb C cs (a + 1 + 1) wx) (hs : BlkTxt s1) (hB : Blk wx gB 9 endB) (hBn : sb < gB) : EndI w sb C cs a X Y p q 5 #[true, true, true, true, true, true, true, true, true, true, false, false, false, false, false] ⟨#[.pointer (some ⟨sb, 0, none⟩), undef, .string ⟨#[]⟩, .pointer (some ⟨sb, 0, none⟩), .string ⟨s1.toArray⟩, .slice (some ⟨gA, 0, none⟩) 5 5, .pointer (some ⟨sb, 0, none⟩), .int .i64 p, .pointer (some ⟨gA, p, none⟩), .string ⟨X.toArray⟩, .string (⟨s1.toArray⟩ ++ ⟨X.toArray⟩), .slice (some ⟨gB, 0, none⟩) 3 3, .pointer (some ⟨sb, 0, none⟩), undef, undef, undef, undef], []⟩ wx
 | c3_00 (wx : World) (s1 : List UInt8) (h : EF w sb C cs (a + 1 + 1 + 1) wx) (hs : BlkTxt s1) : EndI w sb C cs a X Y p q 9 #[true, true, false, true, true, false, false, false, false, true, true, false, false, false, false] ⟨#[.pointer (some ⟨sb, 0, none⟩), undef, .string ⟨#[]⟩, .pointer (some ⟨sb, 0, none⟩), .string ⟨s1.toArray⟩, undef, .pointer (some ⟨sb, 0, none⟩), .int .i64 p, undef, undef, undef, undef, .pointer (some ⟨sb, 0, none⟩), .int .i64 q, undef, undef, undef], []⟩ wx
 | c3_01 (wx : World) (s1 : List UInt8) (gB : Nat) (h : EF w sb C cs (a + 1 + 1 + 1) wx) (hs : BlkTxt s1) (hB : Blk wx gB 9 endB) (hBn : sb < gB) : EndI w sb C cs a X Y p q 7 #[true, true, false, true, true, false, false, false, true, true, true, true, false, false, false] ⟨#[.pointer (some ⟨sb, 0, none⟩), undef, .string ⟨#[]⟩, .pointer (some ⟨sb, 0, none⟩), .string ⟨s1.toArray⟩, undef, .pointer (some ⟨sb, 0, none⟩), .int .i64 p, undef, undef, undef, .slice (some ⟨gB, 0, none⟩) 3 3, .pointer (some ⟨sb, 0, none⟩), .int .i64 q, .pointer (some ⟨gB, q, none⟩), undef, undef], []⟩ wx
 | c3_02 (wx : World) (s1 : List UInt8) (gB : Nat) (h : EF w sb C cs (a + 1 + 1 + 1) wx) (hs : BlkTxt s1) : EndI w sb C cs a X Y p q 6 #[true, true, false, true, true, false, false, false, true, true, true, true, true, false, false] ⟨#[.pointer (some ⟨sb, 0, none⟩), undef, .string ⟨#[]⟩, .pointer (some ⟨sb, 0, none⟩), .string ⟨s1.toArray⟩, undef, .pointer (some ⟨sb, 0, none⟩), .int .i64 p, undef, undef, undef, .slice (some ⟨gB, 0, none⟩) 3 3, .pointer (some ⟨sb, 0, none⟩), .int .i64 q, .pointer (some ⟨gB, q, none⟩), .string ⟨Y.toArray⟩, undef], []⟩ wx
 | c3_10 (wx : World) (s1 : List UInt8) (gA : Nat) (h : EF w sb C cs (a + 1 + 1 + 1) wx) (hs : BlkTxt s1) (hA : Blk wx gA 9 endA) (hAn : sb < gA) : EndI w sb C cs a X Y p q 7 #[true, true, true, true, true, true, false, false, false, true, true, false, false, false, false] ⟨#[.pointer (some ⟨sb, 0, none⟩), undef, .string ⟨#[]⟩, .pointer (some ⟨sb, 0, none⟩), .string ⟨s1.toArray⟩, .slice (some ⟨gA, 0, none⟩) 5 5, .pointer (some ⟨sb, 0, none⟩), .int .i64 p, .pointer (some ⟨gA, p, none⟩), undef, undef, undef, .pointer (some ⟨sb, 0, none⟩), .int .i64 q, undef, undef, undef], []⟩ wx
 | c3_11 (wx : World) (s1 : List UInt8) (gA : Nat) (gB : Nat) (h : EF w sb C cs (a + 1 + 1 + 1) wx) (hs : BlkTxt s1) (hA : Blk wx gA 9 endA) (hAn : sb < gA) (hB : Blk wx gB 9 endB) (hBn : sb < gB) : EndI w sb C cs a X Y p q 5 #[true, true, true, true, true, true, false, false, true, true, true, true, false, false, false] ⟨#[.pointer (some ⟨sb, 0, none⟩), undef, .string ⟨#[]⟩, .pointer (some ⟨sb, 0, none⟩), .string ⟨s1.toArray⟩, .slice (some ⟨gA, 0, none⟩) 5 5, .pointer (some ⟨sb, 0, none⟩), .int .i64 p, .pointer (some ⟨gA, p, none⟩), undef, undef, .slice (some ⟨gB, 0, none⟩) 3 3, .pointer (some ⟨sb, 0, none⟩), .int .i64 q, .pointer (some ⟨gB, q, none⟩), undef, undef], []⟩ wx
 | c3_12 (wx : World) (s1 : List UInt8) (gA : Nat) (gB : Nat) (h : EF w sb C cs (a + 1 + 1 + 1) wx) (hs : BlkTxt s1) (hA : Blk wx gA 9 endA) (hAn : sb < gA) : EndI w sb C cs a X Y p q 4 #[true, true, true, true, true, true, false, false, true, true, true, true, true, false, false] ⟨#[.pointer (some ⟨sb, 0, none⟩), undef, .string ⟨#[]⟩, .pointer (some ⟨sb, 0, none⟩), .string ⟨s1.toArray⟩, .slice (some ⟨gA, 0, none⟩) 5 5, .pointer (some ⟨sb, 0, none⟩), .int .i64 p, .pointer (some ⟨gA, p, none⟩), undef, undef, .slice (some ⟨gB, 0, none⟩) 3 3, .pointer (some ⟨sb, 0, none⟩), .int .i64 q, .pointer (some ⟨gB, q, none⟩), .string ⟨Y.toArray⟩, undef], []⟩ wx
 | c3_20 (wx : World) (s1 : List UInt8) (gA : Nat) (h : EF w sb C cs (a + 1 + 1 + 1) wx) (hs : BlkTxt s1) : EndI w sb C cs a X Y p q 5 #[true, true, true, true, true, true, true, true, false, true, true, false, false, false, false] ⟨#[.pointer (some ⟨sb, 0, none⟩), undef, .string ⟨#[]⟩, .pointer (some ⟨sb, 0, none⟩), .string ⟨s1.toArray⟩, .slice (some ⟨gA, 0, none⟩) 5 5, .pointer (some ⟨sb, 0, none⟩), .int .i64 p, .pointer (some ⟨gA, p, none⟩), .string ⟨X.toArray⟩, .string (⟨s1.toArray⟩ ++ ⟨X.toArray⟩), undef, .pointer (some ⟨sb, 0, none⟩), .int .i64 q, undef, undef, undef], []⟩ wx
 | c3_21 (wx : World) (s1 : List UInt8) (gA : Nat) (gB : Nat) (h : EF w sb C cs (a + 1 + 1 + 1) wx) (hs : BlkTxt s1) (hB : Blk wx gB 9 endB) (hBn : sb < gB) : EndI w sb C cs a X Y p q 3 #[true, true, true, true, true, true, true, true, true, true, true, true, false, false, false] ⟨#[.pointer (some ⟨sb, 0, none⟩), undef, .string ⟨#[]⟩, .pointer (some ⟨sb, 0, none⟩), .string ⟨s1.toArray⟩, .slice (some ⟨gA, 0, none⟩) 5 5, .pointer (some ⟨sb, 0, none⟩), .int .i64 p, .pointer (some ⟨gA, p, none⟩), .string ⟨X.toArray⟩, .string (⟨s1.toArray⟩ ++ ⟨X.toArray⟩), .slice (some ⟨gB, 0, none⟩) 3 3, .pointer (some ⟨sb, 0, none⟩), .int .i64 q, .pointer (some ⟨gB, q, none⟩), undef, undef], []⟩ wx
 | c3_22 (wx : World) (s1 : List UInt8) (gA : Nat) (gB : Nat) (h : EF w sb C cs (a + 1 + 1 + 1) wx) (hs : BlkTxt s1) : EndI w sb C cs a X Y p q 0 #[true, true, true, true, true, true, true, true, true, true, true, true, true, true, true] ⟨#[.pointer (some ⟨sb, 0, none⟩), undef, .string ((⟨s1.toArray⟩ ++ ⟨X.toArray⟩) ++ ⟨Y.toArray⟩), .pointer (some ⟨sb, 0, none⟩), .string ⟨s1.toArray⟩, .slice (some ⟨gA, 0, none⟩) 5 5, .pointer (some ⟨sb, 0, none⟩), .int .i64 p, .pointer (some ⟨gA, p, none⟩), .string ⟨X.toArray⟩, .string (⟨s1.toArray⟩ ++ ⟨X.toArray⟩), .slice (some ⟨gB, 0, none⟩) 3 3, .pointer (some ⟨sb, 0, none⟩), .int .i64 q, .pointer (some ⟨gB, q, none⟩), .string ⟨Y.toArray⟩, .string ((⟨s1.toArray⟩ ++ ⟨X.toArray⟩) ++ ⟨Y.toArray⟩)], []⟩ wx
set_option maxRecDepth 100000 in
set_option maxHeartbeats 40000000 in
theorem end_any : EndC := by
 intro w sb C cs a h ha
 have hpv1 := pickV_lt cs (a + 1) (n := 5) (by omega)
 have hpv2 := pickV_lt cs (a + 1 + 1) (n := 3) (by omega)
 obtain ⟨p, hp⟩ : ∃ p, pickV cs (a + 1) 5 = p := ⟨_, rfl⟩
 obtain ⟨q, hq⟩ : ∃ q, pickV cs (a + 1 + 1) 3 = q := ⟨_, rfl⟩
 rw [hp] at hpv1
 rw [hq] at hpv2
 obtain ⟨X, hX, hXl, hXs⟩ : ∃ X : List UInt8, endA[p]? = some (.string ⟨X.toArray⟩) ∧ (X = [] ∨ ∃ r, (∀ x ∈ r, Plain x) ∧ X = 35 :: r) ∧ X.length ≤ 10 := by
   have hpc : p = 0 ∨ p = 1 ∨ p = 2 ∨ p = 3 ∨ p = 4 := by omega
   clear hp
   rcases hpc with rfl | rfl | rfl | rfl | rfl
   · exact ⟨[], rfl, .inl rfl, by decide⟩
   · exact ⟨[], rfl, .inl rfl, by decide⟩
   · exact ⟨[35, 32, 97, 32, 114, 101, 109, 97, 114, 107], rfl, .inr ⟨_, by unfold Plain; decide, rfl⟩, by decide⟩
   · exact ⟨[35], rfl, .inr ⟨[], (by intro x hx; cases hx), rfl⟩, by decide⟩
   · exact ⟨[35, 61, 32, 91, 120, 93, 32, 34, 32, 39], rfl, .inr ⟨_, by unfold Plain; decide, rfl⟩, by decide⟩
 obtain ⟨Y, hY, hYl, hYs⟩ : ∃ Y : List UInt8, endB[q]? = some (.string ⟨Y.toArray⟩) ∧ (Y = [10] ∨ Y = [13, 10]) ∧ Y.length ≤ 2 := by
   have hqc : q = 0 ∨ q = 1 ∨ q = 2 := by omega
   clear hq
   rcases hqc with rfl | rfl | rfl
   · exact ⟨[10], rfl, .inl rfl, by decide⟩
   · exact ⟨[10], rfl, .inl rfl, by decide⟩
   · exact ⟨[13, 10], rfl, .inr rfl, by decide⟩
 have HXL := Lib.hid hXl
 have HYL := Lib.hid hYl
 have hp0 : (0 : Int) ≤ (p : Int) := by omega
 have hp5 : (p : Int) < 5 := by omega
 have hq0 : (0 : Int) ≤ (q : Int) := by omega
 have hq3 : (q : Int) < 3 := by omega
 clear hXl hYl
 have HS := Lib.hid h
 clear h
 go_enter Try.func29, Try.ntmps29
 go_wp2_with fail
 refine wp_region_any (by kernel_rfl) ?_
 change wpAny _ _ _ _ _ _ _ (World.drew _)
 refine wpAny_take (i := 0) (v := .pointer (some ⟨sb, 0, none⟩)) rfl (by kernel_rfl) (by kernel_rfl) (by kernel_rfl) (fun _ _ _ h => h) (Or.inl ⟨by rfl, by intro w; go_simp⟩) ?_
 refine wpAny_take (i := 3) (v := .pointer (some ⟨sb, 0, none⟩)) rfl (by kernel_rfl) (by kernel_rfl) (by kernel_rfl) (fun _ _ _ h => h) (Or.inl ⟨by rfl, by intro w; go_simp⟩) ?_
 refine wpAny_take (i := 9) (v := .pointer (some ⟨sb, 0, none⟩)) rfl (by kernel_rfl) (by kernel_rfl) (by kernel_rfl) (fun _ _ _ h => h) (Or.inl ⟨by rfl, by intro w; go_simp⟩) ?_
 simp only [Act.put, List.setIfInBounds_toArray, List.set_cons_zero, List.set_cons_succ]
 refine region_ind (EndI w sb C cs a X Y p q) ?_ _ _ _ _ (.c0_00 _ ⟨HS.out.drewN 1, SF.drewN sb w 1⟩)
 · intro n l act wx hI IH
   cases hI with
   | c0_00 _ h =>
     refine wpAny_ready (rs := [1, 2, 8]) (by kernel_rfl) (by simp) ?_
     refine AllReady.cons rfl (fun K hK => ?_) ?_
     · go_simp
       refine (blanks_any h.1 (by omega)).mono ?_
       rintro e w1 ⟨s1, rfl, hs, hst, hf⟩
       refine hK _ _ ?_
       try simp only [Act.put, List.setIfInBounds_toArray, List.set_cons_zero, List.set_cons_succ]
       exact IH _ _ _ _ (by decide) (.c1_00 w1 s1 ⟨hst, h.2.trans hf⟩ hs)
     refine AllReady.cons rfl (fun K hK => ?_) ?_
     · go_simp
       refine hK _ _ ?_
       try simp only [Act.put, List.setIfInBounds_toArray, List.set_cons_zero, List.set_cons_succ]
       exact IH _ _ _ _ (by decide) (.c0_10 _ wx.heap.size ⟨h.1.alloc _, h.2.trans (SF.alloc (Nat.le_of_lt h.1.1.lt) _)⟩ (Blk.new wx 9 endA) h.1.1.lt)
     refine AllReady.cons rfl (fun K hK => ?_) ?_
     · go_simp
       refine hK _ _ ?_
       try simp only [Act.put, List.setIfInBounds_toArray, List.set_cons_zero, List.set_cons_succ]
       exact IH _ _ _ _ (by decide) (.c0_01 _ wx.heap.size ⟨h.1.alloc _, h.2.trans (SF.alloc (Nat.le_of_lt h.1.1.lt) _)⟩ (Blk.new wx 9 endB) h.1.1.lt)
     exact AllReady.nil
   | c0_01 _ gB h hB hBn =>
     refine wpAny_ready (rs := [1, 2]) (by kernel_rfl) (by simp) ?_
     refine AllReady.cons rfl (fun K hK => ?_) ?_
     · go_simp
       refine (blanks_any h.1 (by omega)).mono ?_
       rintro e w1 ⟨s1, rfl, hs, hst, hf⟩
       refine hK _ _ ?_
       try simp only [Act.put, List.setIfInBounds_toArray, List.set_cons_zero, List.set_cons_succ]
       exact IH _ _ _ _ (by decide) (.c1_01 w1 s1 gB ⟨hst, h.2.trans hf⟩ hs (hf.keep hB (Nat.ne_of_gt hBn)) hBn)
     refine AllReady.cons rfl (fun K hK => ?_) ?_
     · go_simp
       refine hK _ _ ?_
       try simp only [Act.put, List.setIfInBounds_toArray, List.set_cons_zero, List.set_cons_succ]
       exact IH _ _ _ _ (by decide) (.c0_11 _ wx.heap.size gB ⟨h.1.alloc _, h.2.trans (SF.alloc (Nat.le_of_lt h.1.1.lt) _)⟩ (Blk.new wx 9 endA) h.1.1.lt (hB.alloc _) hBn)
     exact AllReady.nil
   | c0_10 _ gA h hA hAn =>
     refine wpAny_ready (rs := [1, 8]) (by kernel_rfl) (by simp) ?_
     refine AllReady.cons rfl (fun K hK => ?_) ?_
     · go_simp
       refine (blanks_any h.1 (by omega)).mono ?_
       rintro e w1 ⟨s1, rfl, hs, hst, hf⟩
       refine hK _ _ ?_
       try simp only [Act.put, List.setIfInBounds_toArray, List.set_cons_zero, List.set_cons_succ]
       exact IH _ _ _ _ (by decide) (.c1_10 w1 s1 gA ⟨hst, h.2.trans hf⟩ hs (hf.keep hA (Nat.ne_of_gt hAn)) hAn)
     refine AllReady.cons rfl (fun K hK => ?_) ?_
     · go_simp
       refine hK _ _ ?_
       try simp only [Act.put, List.setIfInBounds_toArray, List.set_cons_zero, List.set_cons_succ]
       exact IH _ _ _ _ (by decide) (.c0_11 _ gA wx.heap.size ⟨h.1.alloc _, h.2.trans (SF.alloc (Nat.le_of_lt h.1.1.lt) _)⟩ (hA.alloc _) hAn (Blk.new wx 9 endB) h.1.1.lt)
     exact AllReady.nil
   | c0_11 _ gA gB h hA hAn hB hBn =>
     refine wpAny_ready (rs := [1]) (by kernel_rfl) (by simp) ?_
     refine AllReady.cons rfl (fun K hK => ?_) ?_
     · go_simp
       refine (blanks_any h.1 (by omega)).mono ?_
       rintro e w1 ⟨s1, rfl, hs, hst, hf⟩
       refine hK _ _ ?_
       try simp only [Act.put, List.setIfInBounds_toArray, List.set_cons_zero, List.set_cons_succ]
       exact IH _ _ _ _ (by decide) (.c1_11 w1 s1 gA gB ⟨hst, h.2.trans hf⟩ hs (hf.keep hA (Nat.ne_of_gt hAn)) hAn (hf.keep hB (Nat.ne_of_gt hBn)) hBn)
     exact AllReady.nil
   | c1_00 _ s1 h hs =>
     refine wpAny_ready (rs := [2, 4, 8]) (by kernel_rfl) (by simp) ?_
     refine AllReady.cons rfl (fun K hK => ?_) ?_
     · go_simp
       refine hK _ _ ?_
       try simp only [Act.put, List.setIfInBounds_toArray, List.set_cons_zero, List.set_cons_succ]
       exact IH _ _ _ _ (by decide) (.c1_10 _ s1 wx.heap.size ⟨h.1.alloc _, h.2.trans (SF.alloc (Nat.le_of_lt h.1.1.lt) _)⟩ hs (Blk.new wx 9 endA) h.1.1.lt)
     refine AllReady.cons rfl (fun K hK => ?_) ?_
     · go_simp
       refine (pick_any h.1 (by omega) 5 (by omega) (by omega)).mono ?_
       rintro e w1 ⟨rfl, hst, hf⟩
       rw [hp]
       refine hK _ _ ?_
       try simp only [Act.put, List.setIfInBounds_toArray, List.set_cons_zero, List.set_cons_succ]
       exact IH _ _ _ _ (by decide) (.c2_00 w1 s1 ⟨hst, h.2.trans hf⟩ hs)
     refine AllReady.cons rfl (fun K hK => ?_) ?_
     · go_simp
       refine hK _ _ ?_
       try simp only [Act.put, List.setIfInBounds_toArray, List.set_cons_zero, List.set_cons_succ]
       exact IH _ _ _ _ (by decide) (.c1_01 _ s1 wx.heap.size ⟨h.1.alloc _, h.2.trans (SF.alloc (Nat.le_of_lt h.1.1.lt) _)⟩ hs (Blk.new wx 9 endB) h.1.1.lt)
     exact AllReady.nil
   | c1_01 _ s1 gB h hs hB hBn =>
     refine wpAny_ready (rs := [2, 4]) (by kernel_rfl) (by simp) ?_
     refine AllReady.cons rfl (fun K hK => ?_) ?_
     · go_simp
       refine hK _ _ ?_
       try simp only [Act.put, List.setIfInBounds_toArray, List.set_cons_zero, List.set_cons_succ]
       exact IH _ _ _ _ (by decide) (.c1_11 _ s1 wx.heap.size gB ⟨h.1.alloc _, h.2.trans (SF.alloc (Nat.le_of_lt h.1.1.lt) _)⟩ hs (Blk.new wx 9 endA) h.1.1.lt (hB.alloc _) hBn)
     refine AllReady.cons rfl (fun K hK => ?_) ?_
     · go_simp
       refine (pick_any h.1 (by omega) 5 (by omega) (by omega)).mono ?_
       rintro e w1 ⟨rfl, hst, hf⟩
       rw [hp]
       refine hK _ _ ?_
       try simp only [Act.put, List.setIfInBounds_toArray, List.set_cons_zero, List.set_cons_succ]
       exact IH _ _ _ _ (by decide) (.c2_01 w1 s1 gB ⟨hst, h.2.trans hf⟩ hs (hf.keep hB (Nat.ne_of_gt hBn)) hBn)
     exact AllReady.nil
   | c1_10 _ s1 gA h hs hA hAn =>
     refine wpAny_ready (rs := [4, 8]) (by kernel_rfl) (by simp) ?_
     refine AllReady.cons rfl (fun K hK => ?_) ?_
     · go_simp
       refine (pick_any h.1 (by omega) 5 (by omega) (by omega)).mono ?_
       rintro e w1 ⟨rfl, hst, hf⟩
       rw [hp]
       refine hK _ _ ?_
       refine wpAny_take (i := 5) (v := .pointer (some ⟨gA, p, none⟩)) rfl (by kernel_rfl) (by kernel_rfl) (by kernel_rfl) (fun _ _ _ h => h) (Or.inl ⟨by rfl, by intro w; go_simp⟩) ?_
       try simp only [Act.put, List.setIfInBounds_toArray, List.set_cons_zero, List.set_cons_succ]
       exact IH _ _ _ _ (by decide) (.c2_10 w1 s1 gA ⟨hst, h.2.trans hf⟩ hs (hf.keep hA (Nat.ne_of_gt hAn)) hAn)
     refine AllReady.cons rfl (fun K hK => ?_) ?_
     · go_simp
       refine hK _ _ ?_
       try simp only [Act.put, List.setIfInBounds_toArray, List.set_cons_zero, List.set_cons_succ]
       exact IH _ _ _ _ (by decide) (.c1_11 _ s1 gA wx.heap.size ⟨h.1.alloc _, h.2.trans (SF.alloc (Nat.le_of_lt h.1.1.lt) _)⟩ hs (hA.alloc _) hAn (Blk.new wx 9 endB) h.1.1.lt)
     exact AllReady.nil
   | c1_11 _ s1 gA gB h hs hA hAn hB hBn =>
     refine wpAny_ready (rs := [4]) (by kernel_rfl) (by simp) ?_
     refine AllReady.cons rfl (fun K hK => ?_) ?_
     · go_simp
       refine (pick_any h.1 (by omega) 5 (by omega) (by omega)).mono ?_
       rintro e w1 ⟨rfl, hst, hf⟩
       rw [hp]
       refine hK _ _ ?_
       refine wpAny_take (i := 5) (v := .pointer (some ⟨gA, p, none⟩)) rfl (by kernel_rfl) (by kernel_rfl) (by kernel_rfl) (fun _ _ _ h => h) (Or.inl ⟨by rfl, by intro w; go_simp⟩) ?_
       try simp only [Act.put, List.setIfInBounds_toArray, List.set_cons_zero, List.set_cons_succ]
       exact IH _ _ _ _ (by decide) (.c2_11 w1 s1 gA gB ⟨hst, h.2.trans hf⟩ hs (hf.keep hA (Nat.ne_of_gt hAn)) hAn (hf.keep hB (Nat.ne_of_gt hBn)) hBn)
     exact AllReady.nil
   | c2_00 _ s1 h hs =>
     refine wpAny_ready (rs := [2, 8, 10]) (by kernel_rfl) (by simp) ?_
     refine AllReady.cons rfl (fun K hK => ?_) ?_
     · go_simp
       refine hK _ _ ?_
       refine wpAny_take (i := 5) (v := .pointer (some ⟨wx.heap.size, p, none⟩)) rfl (by kernel_rfl) (by kernel_rfl) (by kernel_rfl) (fun _ _ _ h => h) (Or.inl ⟨by rfl, by intro w; go_simp⟩) ?_
       try simp only [Act.put, List.setIfInBounds_toArray, List.set_cons_zero, List.set_cons_succ]
       exact IH _ _ _ _ (by decide) (.c2_10 _ s1 wx.heap.size ⟨h.1.alloc _, h.2.trans (SF.alloc (Nat.le_of_lt h.1.1.lt) _)⟩ hs (Blk.new wx 9 endA) h.1.1.lt)
     refine AllReady.cons rfl (fun K hK => ?_) ?_
     · go_simp
       refine hK _ _ ?_
       try simp only [Act.put, List.setIfInBounds_toArray, List.set_cons_zero, List.set_cons_succ]
       exact IH _ _ _ _ (by decide) (.c2_01 _ s1 wx.heap.size ⟨h.1.alloc _, h.2.trans (SF.alloc (Nat.le_of_lt h.1.1.lt) _)⟩ hs (Blk.new wx 9 endB) h.1.1.lt)
     refine AllReady.cons rfl (fun K hK => ?_) ?_
     · go_simp
       refine (pick_any h.1 (by omega) 3 (by omega) (by omega)).mono ?_
       rintro e w1 ⟨rfl, hst, hf⟩
       rw [hq]
       refine hK _ _ ?_
       try simp only [Act.put, List.setIfInBounds_toArray, List.set_cons_zero, List.set_cons_succ]
       exact IH _ _ _ _ (by decide) (.c3_00 w1 s1 ⟨hst, h.2.trans hf⟩ hs)
     exact AllReady.nil
   | c2_01 _ s1 gB h hs hB hBn =>
     refine wpAny_ready (rs := [2, 10]) (by kernel_rfl) (by simp) ?_
     refine AllReady.cons rfl (fun K hK => ?_) ?_
     · go_simp
       refine hK _ _ ?_
       refine wpAny_take (i := 5) (v := .pointer (some ⟨wx.heap.size, p, none⟩)) rfl (by kernel_rfl) (by kernel_rfl) (by kernel_rfl) (fun _ _ _ h => h) (Or.inl ⟨by rfl, by intro w; go_simp⟩) ?_
       try simp only [Act.put, List.setIfInBounds_toArray, List.set_cons_zero, List.set_cons_succ]
       exact IH _ _ _ _ (by decide) (.c2_11 _ s1 wx.heap.size gB ⟨h.1.alloc _, h.2.trans (SF.alloc (Nat.le_of_lt h.1.1.lt) _)⟩ hs (Blk.new wx 9 endA) h.1.1.lt (hB.alloc _) hBn)
     refine AllReady.cons rfl (fun K hK => ?_) ?_
     · go_simp
       refine (pick_any h.1 (by omega) 3 (by omega) (by omega)).mono ?_
       rintro e w1 ⟨rfl, hst, hf⟩
       rw [hq]
       refine hK _ _ ?_
       refine wpAny_take (i := 11) (v := .pointer (some ⟨gB, q, none⟩)) rfl (by kernel_rfl) (by kernel_rfl) (by kernel_rfl) (fun _ _ _ h => h) (Or.inl ⟨by rfl, by intro w; go_simp⟩) ?_
       try simp only [Act.put, List.setIfInBounds_toArray, List.set_cons_zero, List.set_cons_succ]
       exact IH _ _ _ _ (by decide) (.c3_01 w1 s1 gB ⟨hst, h.2.trans hf⟩ hs (hf.keep hB (Nat.ne_of_gt hBn)) hBn)
     exact AllReady.nil
   | c2_10 _ s1 gA h hs hA hAn =>
     refine wpAny_ready (rs := [6, 8, 10]) (by kernel_rfl) (by simp) ?_
     refine AllReady.cons rfl (fun K hK => ?_) ?_
     · have hc := (hA.cell p).trans hX
       have hsl := hs.2
       go_simp
       refine hK _ _ ?_
       have hsum : ¬ (9223372036854775807 < s1.length + X.length) := by omega
       refine wpAny_take (i := 7) (v := .string (⟨s1.toArray⟩ ++ ⟨X.toArray⟩)) rfl (by kernel_rfl) (by kernel_rfl) (by kernel_rfl) (fun _ _ _ h => h) (Or.inl ⟨by rfl, by intro w; go_simp⟩) ?_
       try simp only [Act.put, List.setIfInBounds_toArray, List.set_cons_zero, List.set_cons_succ]
       exact IH _ _ _ _ (by decide) (.c2_20 _ s1 gA h hs)
     refine AllReady.cons rfl (fun K hK => ?_) ?_
     · go_simp
       refine hK _ _ ?_
       try simp only [Act.put, List.setIfInBounds_toArray, List.set_cons_zero, List.set_cons_succ]
       exact IH _ _ _ _ (by decide) (.c2_11 _ s1 gA wx.heap.size ⟨h.1.alloc _, h.2.trans (SF.alloc (Nat.le_of_lt h.1.1.lt) _)⟩ hs (hA.alloc _) hAn (Blk.new wx 9 endB) h.1.1.lt)
     refine AllReady.cons rfl (fun K hK => ?_) ?_
     · go_simp
       refine (pick_any h.1 (by omega) 3 (by omega) (by omega)).mono ?_
       rintro e w1 ⟨rfl, hst, hf⟩
       rw [hq]
       refine hK _ _ ?_
       try simp only [Act.put, List.setIfInBounds_toArray, List.set_cons_zero, List.set_cons_succ]
       exact IH _ _ _ _ (by decide) (.c3_10 w1 s1 gA ⟨hst, h.2.trans hf⟩ hs (hf.keep hA (Nat.ne_of_gt hAn)) hAn)
     exact AllReady.nil
   | c2_11 _ s1 gA gB h hs hA hAn hB hBn =>
     refine wpAny_ready (rs := [6, 10]) (by kernel_rfl) (by simp) ?_
     refine AllReady.cons rfl (fun K hK => ?_) ?_
     · have hc := (hA.cell p).trans hX
       have hsl := hs.2
       go_simp
       refine hK _ _ ?_
       have hsum : ¬ (9223372036854775807 < s1.length + X.length) := by omega
       refine wpAny_take (i := 7) (v := .string (⟨s1.toArray⟩ ++ ⟨X.toArray⟩)) rfl (by kernel_rfl) (by kernel_rfl) (by kernel_rfl) (fun _ _ _ h => h) (Or.inl ⟨by rfl, by intro w; go_simp⟩) ?_
       try simp only [Act.put, List.setIfInBounds_toArray, List.set_cons_zero, List.set_cons_succ]
       exact IH _ _ _ _ (by decide) (.c2_21 _ s1 gA gB h hs hB hBn)
     refine AllReady.cons rfl (fun K hK => ?_) ?_
     · go_simp
       refine (pick_any h.1 (by omega) 3 (by omega) (by omega)).mono ?_
       rintro e w1 ⟨rfl, hst, hf⟩
       rw [hq]
       refine hK _ _ ?_
       refine wpAny_take (i := 11) (v := .pointer (some ⟨gB, q, none⟩)) rfl (by kernel_rfl) (by kernel_rfl) (by kernel_rfl) (fun _ _ _ h => h) (Or.inl ⟨by rfl, by intro w; go_simp⟩) ?_
       try simp only [Act.put, List.setIfInBounds_toArray, List.set_cons_zero, List.set_cons_succ]
       exact IH _ _ _ _ (by decide) (.c3_11 w1 s1 gA gB ⟨hst, h.2.trans hf⟩ hs (hf.keep hA (Nat.ne_of_gt hAn)) hAn (hf.keep hB (Nat.ne_of_gt hBn)) hBn)
     exact AllReady.nil
   | c2_20 _ s1 gA h hs =>
     refine wpAny_ready (rs := [8, 10]) (by kernel_rfl) (by simp) ?_
     refine AllReady.cons rfl (fun K hK => ?_) ?_
     · go_simp
       refine hK _ _ ?_
       try simp only [Act.put, List.setIfInBounds_toArray, List.set_cons_zero, List.set_cons_succ]
       exact IH _ _ _ _ (by decide) (.c2_21 _ s1 gA wx.heap.size ⟨h.1.alloc _, h.2.trans (SF.alloc (Nat.le_of_lt h.1.1.lt) _)⟩ hs (Blk.new wx 9 endB) h.1.1.lt)
     refine AllReady.cons rfl (fun K hK => ?_) ?_
     · go_simp
       refine (pick_any h.1 (by omega) 3 (by omega) (by omega)).mono ?_
       rintro e w1 ⟨rfl, hst, hf⟩
       rw [hq]
       refine hK _ _ ?_
       try simp only [Act.put, List.setIfInBounds_toArray, List.set_cons_zero, List.set_cons_succ]
       exact IH _ _ _ _ (by decide) (.c3_20 w1 s1 gA ⟨hst, h.2.trans hf⟩ hs)
     exact AllReady.nil
   | c2_21 _ s1 gA gB h hs hB hBn =>
     refine wpAny_ready (rs := [10]) (by kernel_rfl) (by simp) ?_
     refine AllReady.cons rfl (fun K hK => ?_) ?_
     · go_simp
       refine (pick_any h.1 (by omega) 3 (by omega) (by omega)).mono ?_
       rintro e w1 ⟨rfl, hst, hf⟩
       rw [hq]
       refine hK _ _ ?_
       refine wpAny_take (i := 11) (v := .pointer (some ⟨gB, q, none⟩)) rfl (by kernel_rfl) (by kernel_rfl) (by kernel_rfl) (fun _ _ _ h => h) (Or.inl ⟨by rfl, by intro w; go_simp⟩) ?_
       try simp only [Act.put, List.setIfInBounds_toArray, List.set_cons_zero, List.set_cons_succ]
       exact IH _ _ _ _ (by decide) (.c3_21 w1 s1 gA gB ⟨hst, h.2.trans hf⟩ hs (hf.keep hB (Nat.ne_of_gt hBn)) hBn)
     exact AllReady.nil
   | c3_00 _ s1 h hs =>
     refine wpAny_ready (rs := [2, 8]) (by kernel_rfl) (by simp) ?_
     refine AllReady.cons rfl (fun K hK => ?_) ?_
     · go_simp
       refine hK _ _ ?_
       refine wpAny_take (i := 5) (v := .pointer (some ⟨wx.heap.size, p, none⟩)) rfl (by kernel_rfl) (by kernel_rfl) (by kernel_rfl) (fun _ _ _ h => h) (Or.inl ⟨by rfl, by intro w; go_simp⟩) ?_
       try simp only [Act.put, List.setIfInBounds_toArray, List.set_cons_zero, List.set_cons_succ]
       exact IH _ _ _ _ (by decide) (.c3_10 _ s1 wx.heap.size ⟨h.1.alloc _, h.2.trans (SF.alloc (Nat.le_of_lt h.1.1.lt) _)⟩ hs (Blk.new wx 9 endA) h.1.1.lt)
     refine AllReady.cons rfl (fun K hK => ?_) ?_
     · go_simp
       refine hK _ _ ?_
       refine wpAny_take (i := 11) (v := .pointer (some ⟨wx.heap.size, q, none⟩)) rfl (by kernel_rfl) (by kernel_rfl) (by kernel_rfl) (fun _ _ _ h => h) (Or.inl ⟨by rfl, by intro w; go_simp⟩) ?_
       try simp only [Act.put, List.setIfInBounds_toArray, List.set_cons_zero, List.set_cons_succ]
       exact IH _ _ _ _ (by decide) (.c3_01 _ s1 wx.heap.size ⟨h.1.alloc _, h.2.trans (SF.alloc (Nat.le_of_lt h.1.1.lt) _)⟩ hs (Blk.new wx 9 endB) h.1.1.lt)
     exact AllReady.nil
   | c3_01 _ s1 gB h hs hB hBn =>
     refine wpAny_ready (rs := [2, 12]) (by kernel_rfl) (by simp) ?_
     refine AllReady.cons rfl (fun K hK => ?_) ?_
     · go_simp
       refine hK _ _ ?_
       refine wpAny_take (i := 5) (v := .pointer (some ⟨wx.heap.size, p, none⟩)) rfl (by kernel_rfl) (by kernel_rfl) (by kernel_rfl) (fun _ _ _ h => h) (Or.inl ⟨by rfl, by intro w; go_simp⟩) ?_
       try simp only [Act.put, List.setIfInBounds_toArray, List.set_cons_zero, List.set_cons_succ]
       exact IH _ _ _ _ (by decide) (.c3_11 _ s1 wx.heap.size gB ⟨h.1.alloc _, h.2.trans (SF.alloc (Nat.le_of_lt h.1.1.lt) _)⟩ hs (Blk.new wx 9 endA) h.1.1.lt (hB.alloc _) hBn)
     refine AllReady.cons rfl (fun K hK => ?_) ?_
     · have hc := (hB.cell q).trans hY
       have hsl := hs.2
       go_simp
       refine hK _ _ ?_
       try simp only [Act.put, List.setIfInBounds_toArray, List.set_cons_zero, List.set_cons_succ]
       exact IH _ _ _ _ (by decide) (.c3_02 _ s1 gB h hs)
     exact AllReady.nil
   | c3_02 _ s1 gB h hs =>
     refine wpAny_ready (rs := [2]) (by kernel_rfl) (by simp) ?_
     refine AllReady.cons rfl (fun K hK => ?_) ?_
     · go_simp
       refine hK _ _ ?_
       refine wpAny_take (i := 5) (v := .pointer (some ⟨wx.heap.size, p, none⟩)) rfl (by kernel_rfl) (by kernel_rfl) (by kernel_rfl) (fun _ _ _ h => h) (Or.inl ⟨by rfl, by intro w; go_simp⟩) ?_
       try simp only [Act.put, List.setIfInBounds_toArray, List.set_cons_zero, List.set_cons_succ]
       exact IH _ _ _ _ (by decide) (.c3_12 _ s1 wx.heap.size gB ⟨h.1.alloc _, h.2.trans (SF.alloc (Nat.le_of_lt h.1.1.lt) _)⟩ hs (Blk.new wx 9 endA) h.1.1.lt)
     exact AllReady.nil
   | c3_10 _ s1 gA h hs hA hAn =>
     refine wpAny_ready (rs := [6, 8]) (by kernel_rfl) (by simp) ?_
     refine AllReady.cons rfl (fun K hK => ?_) ?_
     · have hc := (hA.cell p).trans hX
       have hsl := hs.2
       go_simp
       refine hK _ _ ?_
       have hsum : ¬ (9223372036854775807 < s1.length + X.length) := by omega
       refine wpAny_take (i := 7) (v := .string (⟨s1.toArray⟩ ++ ⟨X.toArray⟩)) rfl (by kernel_rfl) (by kernel_rfl) (by kernel_rfl) (fun _ _ _ h => h) (Or.inl ⟨by rfl, by intro w; go_simp⟩) ?_
       try simp only [Act.put, List.setIfInBounds_toArray, List.set_cons_zero, List.set_cons_succ]
       exact IH _ _ _ _ (by decide) (.c3_20 _ s1 gA h hs)
     refine AllReady.cons rfl (fun K hK => ?_) ?_
     · go_simp
       refine hK _ _ ?_
       refine wpAny_take (i := 11) (v := .pointer (some ⟨wx.heap.size, q, none⟩)) rfl (by kernel_rfl) (by kernel_rfl) (by kernel_rfl) (fun _ _ _ h => h) (Or.inl ⟨by rfl, by intro w; go_simp⟩) ?_
       try simp only [Act.put, List.setIfInBounds_toArray, List.set_cons_zero, List.set_cons_succ]
       exact IH _ _ _ _ (by decide) (.c3_11 _ s1 gA wx.heap.size ⟨h.1.alloc _, h.2.trans (SF.alloc (Nat.le_of_lt h.1.1.lt) _)⟩ hs (hA.alloc _) hAn (Blk.new wx 9 endB) h.1.1.lt)
     exact AllReady.nil
   | c3_11 _ s1 gA gB h hs hA hAn hB hBn =>
     refine wpAny_ready (rs := [6, 12]) (by kernel_rfl) (by simp) ?_
     refine AllReady.cons rfl (fun K hK => ?_) ?_
     · have hc := (hA.cell p).trans hX
       have hsl := hs.2
       go_simp
       refine hK _ _ ?_
       have hsum : ¬ (9223372036854775807 < s1.length + X.length) := by omega
       refine wpAny_take (i := 7) (v := .string (⟨s1.toArray⟩ ++ ⟨X.toArray⟩)) rfl (by kernel_rfl) (by kernel_rfl) (by kernel_rfl) (fun _ _ _ h => h) (Or.inl ⟨by rfl, by intro w; go_simp⟩) ?_
       try simp only [Act.put, List.setIfInBounds_toArray, List.set_cons_zero, List.set_cons_succ]
       exact IH _ _ _ _ (by decide) (.c3_21 _ s1 gA gB h hs hB hBn)
     refine AllReady.cons rfl (fun K hK => ?_) ?_
     · have hc := (hB.cell q).trans hY
       have hsl := hs.2
       go_simp
       refine hK _ _ ?_
       try simp only [Act.put, List.setIfInBounds_toArray, List.set_cons_zero, List.set_cons_succ]
       exact IH _ _ _ _ (by decide) (.c3_12 _ s1 gA gB h hs hA hAn)
     exact AllReady.nil
   | c3_12 _ s1 gA gB h hs hA hAn =>
     refine wpAny_ready (rs := [6]) (by kernel_rfl) (by simp) ?_
     refine AllReady.cons rfl (fun K hK => ?_) ?_
     · have hc := (hA.cell p).trans hX
       have hsl := hs.2
       go_simp
       refine hK _ _ ?_
       have hsum : ¬ (9223372036854775807 < s1.length + X.length) := by omega
       refine wpAny_take (i := 7) (v := .string (⟨s1.toArray⟩ ++ ⟨X.toArray⟩)) rfl (by kernel_rfl) (by kernel_rfl) (by kernel_rfl) (fun _ _ _ h => h) (Or.inl ⟨by rfl, by intro w; go_simp⟩) ?_
       have hsum2 : ¬ (9223372036854775807 < s1.length + X.length + Y.length) := by omega
       refine wpAny_take (i := 13) (v := .string ((⟨s1.toArray⟩ ++ ⟨X.toArray⟩) ++ ⟨Y.toArray⟩)) rfl (by kernel_rfl) (by kernel_rfl) (by kernel_rfl) (fun _ _ _ h => h) (Or.inl ⟨by rfl, by intro w; go_simp⟩) ?_
       refine wpAny_take (i := 14) (v := .string ((⟨s1.toArray⟩ ++ ⟨X.toArray⟩) ++ ⟨Y.toArray⟩)) rfl (by kernel_rfl) (by kernel_rfl) (by kernel_rfl) (fun _ _ _ h => h) (Or.inl ⟨by rfl, by intro w; go_simp⟩) ?_
       try simp only [Act.put, List.setIfInBounds_toArray, List.set_cons_zero, List.set_cons_succ]
       exact IH _ _ _ _ (by decide) (.c3_22 _ s1 gA gB h hs)
     exact AllReady.nil
   | c3_20 _ s1 gA h hs =>
     refine wpAny_ready (rs := [8]) (by kernel_rfl) (by simp) ?_
     refine AllReady.cons rfl (fun K hK => ?_) ?_
     · go_simp
       refine hK _ _ ?_
       refine wpAny_take (i := 11) (v := .pointer (some ⟨wx.heap.size, q, none⟩)) rfl (by kernel_rfl) (by kernel_rfl) (by kernel_rfl) (fun _ _ _ h => h) (Or.inl ⟨by rfl, by intro w; go_simp⟩) ?_
       try simp only [Act.put, List.setIfInBounds_toArray, List.set_cons_zero, List.set_cons_succ]
       exact IH _ _ _ _ (by decide) (.c3_21 _ s1 gA wx.heap.size ⟨h.1.alloc _, h.2.trans (SF.alloc (Nat.le_of_lt h.1.1.lt) _)⟩ hs (Blk.new wx 9 endB) h.1.1.lt)
     exact AllReady.nil
   | c3_21 _ s1 gA gB h hs hB hBn =>
     refine wpAny_ready (rs := [12]) (by kernel_rfl) (by simp) ?_
     refine AllReady.cons rfl (fun K hK => ?_) ?_
     · have hc := (hB.cell q).trans hY
       have hsl := hs.2
       go_simp
       refine hK _ _ ?_
       have hsum2 : ¬ (9223372036854775807 < s1.length + X.length + Y.length) := by omega
       refine wpAny_take (i := 13) (v := .string ((⟨s1.toArray⟩ ++ ⟨X.toArray⟩) ++ ⟨Y.toArray⟩)) rfl (by kernel_rfl) (by kernel_rfl) (by kernel_rfl) (fun _ _ _ h => h) (Or.inl ⟨by rfl, by intro w; go_simp⟩) ?_
       refine wpAny_take (i := 14) (v := .string ((⟨s1.toArray⟩ ++ ⟨X.toArray⟩) ++ ⟨Y.toArray⟩)) rfl (by kernel_rfl) (by kernel_rfl) (by kernel_rfl) (fun _ _ _ h => h) (Or.inl ⟨by rfl, by intro w; go_simp⟩) ?_
       try simp only [Act.put, List.setIfInBounds_toArray, List.set_cons_zero, List.set_cons_succ]
       exact IH _ _ _ _ (by decide) (.c3_22 _ s1 gA gB h hs)
     exact AllReady.nil
   | c3_22 _ s1 gA gB h hs =>
     refine wpAny_done (by kernel_rfl) ?_ _
     go_wp2_with fail
     go_ret
     exact ⟨s1 ++ (X ++ Y), by rw [← str3']; rfl, ⟨⟨s1, X, Y, hs.1, HXL.out, HYL.out, rfl⟩, by have := hs.2; simp; omega⟩, h.1, h.2⟩
end Go.Proofs.Ytnlkbbpmpgdmiaa
