/- scanIntOrFloat: numbers with a sign, a point, a power (printed by wip/tools/nums; scanIntOrFloat: 0x 0o 0b, and inf and nan with a sign (printed by wip/tools/radix. -/
import Derived.Test.YtnlkbbpmpgdmiaaXAI
namespace Go.Proofs.Ytnlkbbpmpgdmiaa
open Go.RowKit
set_option linter.unusedVariables false
set_option linter.unusedSimpArgs false
set_option maxRecDepth 100000 in
set_option maxHeartbeats 4000000 in
theorem scanNum_m0pt {b cap k : Nat} {D t2 rest : List UInt8} {d2 : UInt8} {a : Addr} {w : World} (hi : Inp w b cap D) (hd2 : Digit d2) (ht2 : Strokes Digit t2) (hf : Follow rest) (hp : Pos b cap D ((45 :: 48 :: 46 :: d2 :: t2) ++ rest) a k) (m : Nat) (hm : m = ((45 :: 48 :: 46 :: d2 :: t2) ++ rest).length) :
   Calls Try.prog 88 #[.slice (some a) m k] w (TokAt b cap D ((45 :: 48 :: 46 :: d2 :: t2) ++ rest) rest (45 :: 48 :: 46 :: d2 :: t2) 10 a k w) := by
 have hc : Digit 48 := by decide
 have ht1 : Strokes Digit [] := .nil
 obtain ⟨sq, hsq⟩ : ∃ sq : List UInt8, sq = 45 :: 48 :: 46 :: d2 :: t2 := ⟨_, rfl⟩
 have hsl : sq.length = 4 + t2.length := by rw [hsq]; simp only [List.length_cons, List.length_append, List.length_nil]; try omega
 rw [← hsq] at hp hm ⊢
 have ha := hp.addr (by rw [List.length_append]; omega)
 have h1 := hp.room
 have h2 := hp.le
 have hfit := hi.fits
 have h4 := hi.bound
 have HB : Hid (Bts w b (D.length - (sq ++ rest).length) (sq ++ rest)) := hi.doc.suffix hp.suf
 have HP := Lib.hid hp
 obtain ⟨cr, rr, hcr, hrd, -⟩ := hf.facts
 have hstop : StopC cr := by obtain ⟨c', r', e, h, -⟩ := hf; rw [hcr] at e; cases e; exact h
 obtain ⟨n95, r46, r101, r69, r120, r111, r98, rlet⟩ := hstop.num
 rw [List.length_append] at h1 h2 hm
 generalize ho : D.length - (sq ++ rest).length = o at *
 have HO := Lib.hid ho
 subst ha
 have hrl : rest.length = rr.length + 1 := by rw [hcr]; rfl
 have hb0 : Bts w b o (45 :: 48 :: 46 :: d2 :: (t2 ++ cr :: rr)) := by have h := HB.out; rw [hsq, hcr] at h; simpa using h
 have hcs : w.cell? ⟨b, o, none⟩ = some (.int .u8 45) := hb0.head.1
 have hb1 := hb0.head.2
 have hcl : w.cell? ⟨b, o + 1, none⟩ = some (.int .u8 48) := hb1.head.1
 have hb2 := hb1.head.2.off (y := o + 2) (by omega)
 obtain ⟨E1, hE1⟩ : ∃ E, E = 2 := ⟨_, rfl⟩
 have hx1z : w.cell? ⟨b, o + 2, none⟩ = some (.int .u8 46) := hb2.head.1
 have hb3 := hb2.off (y := o + E1) (by omega)
 have hx1 : w.cell? ⟨b, o + E1, none⟩ = some (.int .u8 46) := hb3.head.1
 have hq1 := digits_89 tells_digit (by decide) (m := m) (k := k) (i0 := 2) ht1 (by decide) (by decide) hb2 (by rw [hm, hsl, hrl]; (try simp only [List.length_append, List.length_cons, List.length_nil]); omega) (by omega) (by omega) (by omega)
 rw [show 2 + ([] : List UInt8).length = E1 from by (try simp only [List.length_nil]); omega] at hq1
 have HQ1 := Lib.hid hq1
 have hb4 := hb3.head.2.off (y := o + 3) (by omega)
 have hcd2 : w.cell? ⟨b, o + 3, none⟩ = some (.int .u8 d2.toNat) := hb4.head.1
 have hb5 := hb4.head.2.off (y := o + 4) (by omega)
 obtain ⟨E2, hE2⟩ : ∃ E, E = 4 + t2.length := ⟨_, rfl⟩
 have hb6 := hb5.post.off (y := o + E2) (by omega)
 have hx2 : w.cell? ⟨b, o + E2, none⟩ = some (.int .u8 cr.toNat) := hb6.head.1
 have hq2 := digits_89 tells_digit (by decide) (m := m) (k := k) (i0 := 4) ht2 hrd n95 hb5 (by rw [hm, hsl, hrl]; (try simp only [List.length_append, List.length_cons, List.length_nil]); omega) (by omega) (by omega) (by omega)
 rw [show 4 + t2.length = E2 from by (try simp only [List.length_nil]); omega] at hq2
 have HQ2 := Lib.hid hq2
 obtain ⟨M, hM⟩ : ∃ M, M = sq.length := ⟨_, rfl⟩
 have hME : M = E2 := by omega
 have HPA : Hid (∀ a' k', (0 < rest.length → a' = ⟨b, o + E2, none⟩) → k' = k - E2 → Pos b cap D rest a' k') := fun a' k' e1 e2 => HP.out.after hfit (fun h => by rw [e1 h, HO.out, ← hME, hM]) (by rw [e2, ← hME, hM])
 have HRL : Hid (m - E2 = rest.length) := by show _ = _; omega
 have HML : Hid (sq.length = E2) := by show _ = _; omega
 have hm1 : E2 < m := by omega
 have hm0 : 0 < m := by omega
 have hkS : ¬ k = E2 := by omega
 have hmk : m ≤ k := by omega
 have hmb : m ≤ 140737488351232 := by omega
 have hlE1 : E1 + 1 < m := by omega
 have hl12 : E1 + 2 < m := by omega
 have hz1 : E1 = 2 := by omega
 have hms : 1 < m := by omega
 have hms2 : 2 < m := by omega
 clear hp hi ho hf hm hstop HB hb0 hb2 hb3 hcr hsl hrl hM hME hq1 hsq h1 h2 hb1 ht1 hE1 hb4 hb5 hb6 hE2 ht2 hq2
 go_enter Try.func88, Try.ntmps88
 go_wp2_with fail
 refine (isDigit_yes 48 hc _).mono ?_
 rintro e w1 ⟨rfl, rfl⟩
 go_wp2_with fail
 refine HQ1.out.mono ?_
 rintro e w1 ⟨rfl, rfl⟩
 clear hcl
 go_wp2_with fail
 refine (isDigit_yes d2 hd2 _).mono ?_
 rintro e w1 ⟨rfl, rfl⟩
 go_wp2_with fail
 refine HQ2.out.mono ?_
 rintro e w1 ⟨rfl, rfl⟩
 rcases rlet with ⟨q1, q2⟩ | q1 | q1
 · go_wp2_with fail
   (go_quiet (fail)
    go_wp2
    ((try simp only [Exit.inBlock, Exit.then]); refine bodyPost_ret (results_tmp5 rfl _ _ _) rfl ?_)
    exact ⟨_, _, by rw [HRL.out, HML.out]; rfl, HPA.out _ _ (fun _ => rfl) rfl, _, rfl⟩)
 · have q2 : (65 : Int) ≤ cr.toNat := by omega
   have q3 : (90 : Int) < cr.toNat := by omega
   have q4 : (cr.toNat : Int) < 97 := by omega
   clear q1
   go_wp2_with fail
   (go_quiet (fail)
    go_wp2
    ((try simp only [Exit.inBlock, Exit.then]); refine bodyPost_ret (results_tmp5 rfl _ _ _) rfl ?_)
    exact ⟨_, _, by rw [HRL.out, HML.out]; rfl, HPA.out _ _ (fun _ => rfl) rfl, _, rfl⟩)
 · have q2 : (65 : Int) ≤ cr.toNat := by omega
   have q3 : (90 : Int) < cr.toNat := by omega
   have q4 : (97 : Int) ≤ cr.toNat := by omega
   have q5 : (122 : Int) < cr.toNat := by omega
   clear q1
   go_wp2_with fail
   (go_quiet (fail)
    go_wp2
    ((try simp only [Exit.inBlock, Exit.then]); refine bodyPost_ret (results_tmp5 rfl _ _ _) rfl ?_)
    exact ⟨_, _, by rw [HRL.out, HML.out]; rfl, HPA.out _ _ (fun _ => rfl) rfl, _, rfl⟩)
set_option maxRecDepth 100000 in
set_option maxHeartbeats 4000000 in
theorem scanNum_pw {b cap k : Nat} {D t1 t3 rest : List UInt8} {c d3 : UInt8} {a : Addr} {w : World} (hi : Inp w b cap D) (hc : Digit c) (h48 : ((c.toNat : Int) == 48) = false) (ht1 : Strokes Digit t1) (hd3 : Digit d3) (ht3 : Strokes Digit t3) (hf : Follow rest) (hp : Pos b cap D ((c :: (t1 ++ 101 :: d3 :: t3)) ++ rest) a k) (m : Nat) (hm : m = ((c :: (t1 ++ 101 :: d3 :: t3)) ++ rest).length) :
   Calls Try.prog 88 #[.slice (some a) m k] w (TokAt b cap D ((c :: (t1 ++ 101 :: d3 :: t3)) ++ rest) rest (c :: (t1 ++ 101 :: d3 :: t3)) 10 a k w) := by
 obtain ⟨sq, hsq⟩ : ∃ sq : List UInt8, sq = c :: (t1 ++ 101 :: d3 :: t3) := ⟨_, rfl⟩
 have hsl : sq.length = 3 + t1.length + t3.length := by rw [hsq]; simp only [List.length_cons, List.length_append, List.length_nil]; try omega
 rw [← hsq] at hp hm ⊢
 have ha := hp.addr (by rw [List.length_append]; omega)
 have h1 := hp.room
 have h2 := hp.le
 have hfit := hi.fits
 have h4 := hi.bound
 have HB : Hid (Bts w b (D.length - (sq ++ rest).length) (sq ++ rest)) := hi.doc.suffix hp.suf
 have HP := Lib.hid hp
 obtain ⟨cr, rr, hcr, hrd, -⟩ := hf.facts
 have hstop : StopC cr := by obtain ⟨c', r', e, h, -⟩ := hf; rw [hcr] at e; cases e; exact h
 obtain ⟨n95, r46, r101, r69, r120, r111, r98, rlet⟩ := hstop.num
 rw [List.length_append] at h1 h2 hm
 generalize ho : D.length - (sq ++ rest).length = o at *
 have HO := Lib.hid ho
 subst ha
 have hrl : rest.length = rr.length + 1 := by rw [hcr]; rfl
 have hb0 : Bts w b o (c :: (t1 ++ 101 :: d3 :: (t3 ++ cr :: rr))) := by have h := HB.out; rw [hsq, hcr] at h; simpa using h
 have hcl : w.cell? ⟨b, o, none⟩ = some (.int .u8 c.toNat) := hb0.head.1
 have hb2 := hb0.head.2.off (y := o + 1) (by omega)
 obtain ⟨E1, hE1⟩ : ∃ E, E = 1 + t1.length := ⟨_, rfl⟩
 have hb3 := hb2.post.off (y := o + E1) (by omega)
 have hx1 : w.cell? ⟨b, o + E1, none⟩ = some (.int .u8 101) := hb3.head.1
 have hq1 := digits_89 tells_digit (by decide) (m := m) (k := k) (i0 := 1) ht1 (by decide) (by decide) hb2 (by rw [hm, hsl, hrl]; (try simp only [List.length_append, List.length_cons, List.length_nil]); omega) (by omega) (by omega) (by omega)
 rw [show 1 + t1.length = E1 from by (try simp only [List.length_nil]); omega] at hq1
 have HQ1 := Lib.hid hq1
 have hb7 := hb3.head.2.off (y := o + (E1 + 1)) (by omega)
 have hcd3 : w.cell? ⟨b, o + (E1 + 1), none⟩ = some (.int .u8 d3.toNat) := hb7.head.1
 have hb9 := hb7.head.2.off (y := o + (E1 + 2)) (by omega)
 obtain ⟨E3, hE3⟩ : ∃ E, E = E1 + 2 + t3.length := ⟨_, rfl⟩
 have hb10 := hb9.post.off (y := o + E3) (by omega)
 have hx3 : w.cell? ⟨b, o + E3, none⟩ = some (.int .u8 cr.toNat) := hb10.head.1
 have hq3 := digits_89 tells_digit (by decide) (m := m) (k := k) (i0 := (E1 + 2)) ht3 hrd n95 hb9 (by rw [hm, hsl, hrl]; (try simp only [List.length_append, List.length_cons, List.length_nil]); omega) (by omega) (by omega) (by omega)
 rw [show (E1 + 2) + t3.length = E3 from by (try simp only [List.length_nil]); omega] at hq3
 have HQ3 := Lib.hid hq3
 obtain ⟨M, hM⟩ : ∃ M, M = sq.length := ⟨_, rfl⟩
 have hME : M = E3 := by omega
 have gc43 : ((c.toNat : Int) == 43) = false := by simp; have := hc.1; have := hc.2; omega
 have gc45 : ((c.toNat : Int) == 45) = false := by simp; have := hc.1; have := hc.2; omega
 have gc105 : ((c.toNat : Int) == 105) = false := by simp; have := hc.1; have := hc.2; omega
 have gc110 : ((c.toNat : Int) == 110) = false := by simp; have := hc.1; have := hc.2; omega
 have gd343 : ((d3.toNat : Int) == 43) = false := by simp; have := hd3.1; have := hd3.2; omega
 have gd345 : ((d3.toNat : Int) == 45) = false := by simp; have := hd3.1; have := hd3.2; omega
 have HPA : Hid (∀ a' k', (0 < rest.length → a' = ⟨b, o + E3, none⟩) → k' = k - E3 → Pos b cap D rest a' k') := fun a' k' e1 e2 => HP.out.after hfit (fun h => by rw [e1 h, HO.out, ← hME, hM]) (by rw [e2, ← hME, hM])
 have HRL : Hid (m - E3 = rest.length) := by show _ = _; omega
 have HML : Hid (sq.length = E3) := by show _ = _; omega
 have hm1 : E3 < m := by omega
 have hm0 : 0 < m := by omega
 have hkS : ¬ k = E3 := by omega
 have hmk : m ≤ k := by omega
 have hmb : m ≤ 140737488351232 := by omega
 have hlE1 : E1 + 1 < m := by omega
 have hl13 : E1 + 1 < m := by omega
 have hE1p : 1 ≤ E1 := by omega
 clear hp hi ho hf hm hstop HB hb0 hb2 hb3 hcr hsl hrl hM hME hq1 hsq h1 h2 ht1 hE1 hb7 hb9 hb10 hE3 ht3 hq3
 go_enter Try.func88, Try.ntmps88
 go_wp2_with fail
 refine (isDigit_yes c hc _).mono ?_
 rintro e w1 ⟨rfl, rfl⟩
 go_wp2_with fail
 refine HQ1.out.mono ?_
 rintro e w1 ⟨rfl, rfl⟩
 clear hcl
 go_wp2_with fail
 refine (isDigit_yes d3 hd3 _).mono ?_
 rintro e w1 ⟨rfl, rfl⟩
 go_wp2_with fail
 refine HQ3.out.mono ?_
 rintro e w1 ⟨rfl, rfl⟩
 rcases rlet with ⟨q1, q2⟩ | q1 | q1
 · go_wp2_with fail
   (go_quiet (fail)
    go_wp2
    ((try simp only [Exit.inBlock, Exit.then]); refine bodyPost_ret (results_tmp5 rfl _ _ _) rfl ?_)
    exact ⟨_, _, by rw [HRL.out, HML.out]; rfl, HPA.out _ _ (fun _ => rfl) rfl, _, rfl⟩)
 · have q2 : (65 : Int) ≤ cr.toNat := by omega
   have q3 : (90 : Int) < cr.toNat := by omega
   have q4 : (cr.toNat : Int) < 97 := by omega
   clear q1
   go_wp2_with fail
   (go_quiet (fail)
    go_wp2
    ((try simp only [Exit.inBlock, Exit.then]); refine bodyPost_ret (results_tmp5 rfl _ _ _) rfl ?_)
    exact ⟨_, _, by rw [HRL.out, HML.out]; rfl, HPA.out _ _ (fun _ => rfl) rfl, _, rfl⟩)
 · have q2 : (65 : Int) ≤ cr.toNat := by omega
   have q3 : (90 : Int) < cr.toNat := by omega
   have q4 : (97 : Int) ≤ cr.toNat := by omega
   have q5 : (122 : Int) < cr.toNat := by omega
   clear q1
   go_wp2_with fail
   (go_quiet (fail)
    go_wp2
    ((try simp only [Exit.inBlock, Exit.then]); refine bodyPost_ret (results_tmp5 rfl _ _ _) rfl ?_)
    exact ⟨_, _, by rw [HRL.out, HML.out]; rfl, HPA.out _ _ (fun _ => rfl) rfl, _, rfl⟩)
end Go.Proofs.Ytnlkbbpmpgdmiaa
namespace Go.Proofs.Ytnlkbbpmpgdmiaa
open Go.RowKit
set_option linter.unusedVariables false
set_option linter.unusedSimpArgs false
set_option maxRecDepth 100000 in
set_option maxHeartbeats 4000000 in
theorem scanNum_m0ptpw {b cap k : Nat} {D t2 t3 rest : List UInt8} {d2 d3 : UInt8} {a : Addr} {w : World} (hi : Inp w b cap D) (hd2 : Digit d2) (ht2 : Strokes Digit t2) (hd3 : Digit d3) (ht3 : Strokes Digit t3) (hf : Follow rest) (hp : Pos b cap D ((45 :: 48 :: 46 :: d2 :: (t2 ++ 101 :: 43 :: d3 :: t3)) ++ rest) a k) (m : Nat) (hm : m = ((45 :: 48 :: 46 :: d2 :: (t2 ++ 101 :: 43 :: d3 :: t3)) ++ rest).length) :
   Calls Try.prog 88 #[.slice (some a) m k] w (TokAt b cap D ((45 :: 48 :: 46 :: d2 :: (t2 ++ 101 :: 43 :: d3 :: t3)) ++ rest) rest (45 :: 48 :: 46 :: d2 :: (t2 ++ 101 :: 43 :: d3 :: t3)) 10 a k w) := by
 have hc : Digit 48 := by decide
 have ht1 : Strokes Digit [] := .nil
 obtain ⟨sq, hsq⟩ : ∃ sq : List UInt8, sq = 45 :: 48 :: 46 :: d2 :: (t2 ++ 101 :: 43 :: d3 :: t3) := ⟨_, rfl⟩
 have hsl : sq.length = 7 + t2.length + t3.length := by rw [hsq]; simp only [List.length_cons, List.length_append, List.length_nil]; try omega
 rw [← hsq] at hp hm ⊢
 have ha := hp.addr (by rw [List.length_append]; omega)
 have h1 := hp.room
 have h2 := hp.le
 have hfit := hi.fits
 have h4 := hi.bound
 have HB : Hid (Bts w b (D.length - (sq ++ rest).length) (sq ++ rest)) := hi.doc.suffix hp.suf
 have HP := Lib.hid hp
 obtain ⟨cr, rr, hcr, hrd, -⟩ := hf.facts
 have hstop : StopC cr := by obtain ⟨c', r', e, h, -⟩ := hf; rw [hcr] at e; cases e; exact h
 obtain ⟨n95, r46, r101, r69, r120, r111, r98, rlet⟩ := hstop.num
 rw [List.length_append] at h1 h2 hm
 generalize ho : D.length - (sq ++ rest).length = o at *
 have HO := Lib.hid ho
 subst ha
 have hrl : rest.length = rr.length + 1 := by rw [hcr]; rfl
 have hb0 : Bts w b o (45 :: 48 :: 46 :: d2 :: (t2 ++ 101 :: 43 :: d3 :: (t3 ++ cr :: rr))) := by have h := HB.out; rw [hsq, hcr] at h; simpa using h
 have hcs : w.cell? ⟨b, o, none⟩ = some (.int .u8 45) := hb0.head.1
 have hb1 := hb0.head.2
 have hcl : w.cell? ⟨b, o + 1, none⟩ = some (.int .u8 48) := hb1.head.1
 have hb2 := hb1.head.2.off (y := o + 2) (by omega)
 obtain ⟨E1, hE1⟩ : ∃ E, E = 2 := ⟨_, rfl⟩
 have hx1z : w.cell? ⟨b, o + 2, none⟩ = some (.int .u8 46) := hb2.head.1
 have hb3 := hb2.off (y := o + E1) (by omega)
 have hx1 : w.cell? ⟨b, o + E1, none⟩ = some (.int .u8 46) := hb3.head.1
 have hq1 := digits_89 tells_digit (by decide) (m := m) (k := k) (i0 := 2) ht1 (by decide) (by decide) hb2 (by rw [hm, hsl, hrl]; (try simp only [List.length_append, List.length_cons, List.length_nil]); omega) (by omega) (by omega) (by omega)
 rw [show 2 + ([] : List UInt8).length = E1 from by (try simp only [List.length_nil]); omega] at hq1
 have HQ1 := Lib.hid hq1
 have hb4 := hb3.head.2.off (y := o + 3) (by omega)
 have hcd2 : w.cell? ⟨b, o + 3, none⟩ = some (.int .u8 d2.toNat) := hb4.head.1
 have hb5 := hb4.head.2.off (y := o + 4) (by omega)
 obtain ⟨E2, hE2⟩ : ∃ E, E = 4 + t2.length := ⟨_, rfl⟩
 have hb6 := hb5.post.off (y := o + E2) (by omega)
 have hx2 : w.cell? ⟨b, o + E2, none⟩ = some (.int .u8 101) := hb6.head.1
 have hq2 := digits_89 tells_digit (by decide) (m := m) (k := k) (i0 := 4) ht2 (by decide) (by decide) hb5 (by rw [hm, hsl, hrl]; (try simp only [List.length_append, List.length_cons, List.length_nil]); omega) (by omega) (by omega) (by omega)
 rw [show 4 + t2.length = E2 from by (try simp only [List.length_nil]); omega] at hq2
 have HQ2 := Lib.hid hq2
 have hb7 := hb6.head.2.off (y := o + (E2 + 1)) (by omega)
 have hcp : w.cell? ⟨b, o + (E2 + 1), none⟩ = some (.int .u8 43) := hb7.head.1
 have hb8 := hb7.head.2.off (y := o + (E2 + 2)) (by omega)
 have hcd3 : w.cell? ⟨b, o + (E2 + 2), none⟩ = some (.int .u8 d3.toNat) := hb8.head.1
 have hb9 := hb8.head.2.off (y := o + (E2 + 3)) (by omega)
 obtain ⟨E3, hE3⟩ : ∃ E, E = E2 + 3 + t3.length := ⟨_, rfl⟩
 have hb10 := hb9.post.off (y := o + E3) (by omega)
 have hx3 : w.cell? ⟨b, o + E3, none⟩ = some (.int .u8 cr.toNat) := hb10.head.1
 have hq3 := digits_89 tells_digit (by decide) (m := m) (k := k) (i0 := (E2 + 3)) ht3 hrd n95 hb9 (by rw [hm, hsl, hrl]; (try simp only [List.length_append, List.length_cons, List.length_nil]); omega) (by omega) (by omega) (by omega)
 rw [show (E2 + 3) + t3.length = E3 from by (try simp only [List.length_nil]); omega] at hq3
 have HQ3 := Lib.hid hq3
 obtain ⟨M, hM⟩ : ∃ M, M = sq.length := ⟨_, rfl⟩
 have hME : M = E3 := by omega
 have HPA : Hid (∀ a' k', (0 < rest.length → a' = ⟨b, o + E3, none⟩) → k' = k - E3 → Pos b cap D rest a' k') := fun a' k' e1 e2 => HP.out.after hfit (fun h => by rw [e1 h, HO.out, ← hME, hM]) (by rw [e2, ← hME, hM])
 have HRL : Hid (m - E3 = rest.length) := by show _ = _; omega
 have HML : Hid (sq.length = E3) := by show _ = _; omega
 have hm1 : E3 < m := by omega
 have hm0 : 0 < m := by omega
 have hkS : ¬ k = E3 := by omega
 have hmk : m ≤ k := by omega
 have hmb : m ≤ 140737488351232 := by omega
 have hlE1 : E1 + 1 < m := by omega
 have hlE2 : E2 + 1 < m := by omega
 have hl12 : E1 + 2 < m := by omega
 have hl22 : E2 + 2 < m := by omega
 have hz1 : E1 = 2 := by omega
 have hms : 1 < m := by omega
 have hms2 : 2 < m := by omega
 clear hp hi ho hf hm hstop HB hb0 hb2 hb3 hcr hsl hrl hM hME hq1 hsq h1 h2 hb1 ht1 hE1 hb4 hb5 hb6 hE2 ht2 hq2 hb7 hb9 hb10 hE3 ht3 hq3 hb8
 go_enter Try.func88, Try.ntmps88
 go_wp2_with fail
 refine (isDigit_yes 48 hc _).mono ?_
 rintro e w1 ⟨rfl, rfl⟩
 go_wp2_with fail
 refine HQ1.out.mono ?_
 rintro e w1 ⟨rfl, rfl⟩
 clear hcl
 go_wp2_with fail
 refine (isDigit_yes d2 hd2 _).mono ?_
 rintro e w1 ⟨rfl, rfl⟩
 go_wp2_with fail
 refine HQ2.out.mono ?_
 rintro e w1 ⟨rfl, rfl⟩
 go_wp2_with fail
 refine (isDigit_yes d3 hd3 _).mono ?_
 rintro e w1 ⟨rfl, rfl⟩
 go_wp2_with fail
 refine HQ3.out.mono ?_
 rintro e w1 ⟨rfl, rfl⟩
 rcases rlet with ⟨q1, q2⟩ | q1 | q1
 · go_wp2_with fail
   (go_quiet (fail)
    go_wp2
    ((try simp only [Exit.inBlock, Exit.then]); refine bodyPost_ret (results_tmp5 rfl _ _ _) rfl ?_)
    exact ⟨_, _, by rw [HRL.out, HML.out]; rfl, HPA.out _ _ (fun _ => rfl) rfl, _, rfl⟩)
 · have q2 : (65 : Int) ≤ cr.toNat := by omega
   have q3 : (90 : Int) < cr.toNat := by omega
   have q4 : (cr.toNat : Int) < 97 := by omega
   clear q1
   go_wp2_with fail
   (go_quiet (fail)
    go_wp2
    ((try simp only [Exit.inBlock, Exit.then]); refine bodyPost_ret (results_tmp5 rfl _ _ _) rfl ?_)
    exact ⟨_, _, by rw [HRL.out, HML.out]; rfl, HPA.out _ _ (fun _ => rfl) rfl, _, rfl⟩)
 · have q2 : (65 : Int) ≤ cr.toNat := by omega
   have q3 : (90 : Int) < cr.toNat := by omega
   have q4 : (97 : Int) ≤ cr.toNat := by omega
   have q5 : (122 : Int) < cr.toNat := by omega
   clear q1
   go_wp2_with fail
   (go_quiet (fail)
    go_wp2
    ((try simp only [Exit.inBlock, Exit.then]); refine bodyPost_ret (results_tmp5 rfl _ _ _) rfl ?_)
    exact ⟨_, _, by rw [HRL.out, HML.out]; rfl, HPA.out _ _ (fun _ => rfl) rfl, _, rfl⟩)
set_option maxRecDepth 100000 in
set_option maxHeartbeats 4000000 in
theorem scanNum_pptpw {b cap k : Nat} {D t1 t2 t3 rest : List UInt8} {c d2 d3 : UInt8} {a : Addr} {w : World} (hi : Inp w b cap D) (hc : Digit c) (h48 : ((c.toNat : Int) == 48) = false) (ht1 : Strokes Digit t1) (hd2 : Digit d2) (ht2 : Strokes Digit t2) (hd3 : Digit d3) (ht3 : Strokes Digit t3) (hf : Follow rest) (hp : Pos b cap D ((43 :: c :: (t1 ++ 46 :: d2 :: (t2 ++ 101 :: 45 :: d3 :: t3))) ++ rest) a k) (m : Nat) (hm : m = ((43 :: c :: (t1 ++ 46 :: d2 :: (t2 ++ 101 :: 45 :: d3 :: t3))) ++ rest).length) :
   Calls Try.prog 88 #[.slice (some a) m k] w (TokAt b cap D ((43 :: c :: (t1 ++ 46 :: d2 :: (t2 ++ 101 :: 45 :: d3 :: t3))) ++ rest) rest (43 :: c :: (t1 ++ 46 :: d2 :: (t2 ++ 101 :: 45 :: d3 :: t3))) 10 a k w) := by
 obtain ⟨sq, hsq⟩ : ∃ sq : List UInt8, sq = 43 :: c :: (t1 ++ 46 :: d2 :: (t2 ++ 101 :: 45 :: d3 :: t3)) := ⟨_, rfl⟩
 have hsl : sq.length = 7 + t1.length + t2.length + t3.length := by rw [hsq]; simp only [List.length_cons, List.length_append, List.length_nil]; try omega
 rw [← hsq] at hp hm ⊢
 have ha := hp.addr (by rw [List.length_append]; omega)
 have h1 := hp.room
 have h2 := hp.le
 have hfit := hi.fits
 have h4 := hi.bound
 have HB : Hid (Bts w b (D.length - (sq ++ rest).length) (sq ++ rest)) := hi.doc.suffix hp.suf
 have HP := Lib.hid hp
 obtain ⟨cr, rr, hcr, hrd, -⟩ := hf.facts
 have hstop : StopC cr := by obtain ⟨c', r', e, h, -⟩ := hf; rw [hcr] at e; cases e; exact h
 obtain ⟨n95, r46, r101, r69, r120, r111, r98, rlet⟩ := hstop.num
 rw [List.length_append] at h1 h2 hm
 generalize ho : D.length - (sq ++ rest).length = o at *
 have HO := Lib.hid ho
 subst ha
 have hrl : rest.length = rr.length + 1 := by rw [hcr]; rfl
 have hb0 : Bts w b o (43 :: c :: (t1 ++ 46 :: d2 :: (t2 ++ 101 :: 45 :: d3 :: (t3 ++ cr :: rr)))) := by have h := HB.out; rw [hsq, hcr] at h; simpa using h
 have hcs : w.cell? ⟨b, o, none⟩ = some (.int .u8 43) := hb0.head.1
 have hb1 := hb0.head.2
 have hcl : w.cell? ⟨b, o + 1, none⟩ = some (.int .u8 c.toNat) := hb1.head.1
 have hb2 := hb1.head.2.off (y := o + 2) (by omega)
 obtain ⟨E1, hE1⟩ : ∃ E, E = 2 + t1.length := ⟨_, rfl⟩
 have hb3 := hb2.post.off (y := o + E1) (by omega)
 have hx1 : w.cell? ⟨b, o + E1, none⟩ = some (.int .u8 46) := hb3.head.1
 have hq1 := digits_89 tells_digit (by decide) (m := m) (k := k) (i0 := 2) ht1 (by decide) (by decide) hb2 (by rw [hm, hsl, hrl]; (try simp only [List.length_append, List.length_cons, List.length_nil]); omega) (by omega) (by omega) (by omega)
 rw [show 2 + t1.length = E1 from by (try simp only [List.length_nil]); omega] at hq1
 have HQ1 := Lib.hid hq1
 have hb4 := hb3.head.2.off (y := o + (E1 + 1)) (by omega)
 have hcd2 : w.cell? ⟨b, o + (E1 + 1), none⟩ = some (.int .u8 d2.toNat) := hb4.head.1
 have hb5 := hb4.head.2.off (y := o + (E1 + 2)) (by omega)
 obtain ⟨E2, hE2⟩ : ∃ E, E = (E1 + 2) + t2.length := ⟨_, rfl⟩
 have hb6 := hb5.post.off (y := o + E2) (by omega)
 have hx2 : w.cell? ⟨b, o + E2, none⟩ = some (.int .u8 101) := hb6.head.1
 have hq2 := digits_89 tells_digit (by decide) (m := m) (k := k) (i0 := (E1 + 2)) ht2 (by decide) (by decide) hb5 (by rw [hm, hsl, hrl]; (try simp only [List.length_append, List.length_cons, List.length_nil]); omega) (by omega) (by omega) (by omega)
 rw [show (E1 + 2) + t2.length = E2 from by (try simp only [List.length_nil]); omega] at hq2
 have HQ2 := Lib.hid hq2
 have hb7 := hb6.head.2.off (y := o + (E2 + 1)) (by omega)
 have hcp : w.cell? ⟨b, o + (E2 + 1), none⟩ = some (.int .u8 45) := hb7.head.1
 have hb8 := hb7.head.2.off (y := o + (E2 + 2)) (by omega)
 have hcd3 : w.cell? ⟨b, o + (E2 + 2), none⟩ = some (.int .u8 d3.toNat) := hb8.head.1
 have hb9 := hb8.head.2.off (y := o + (E2 + 3)) (by omega)
 obtain ⟨E3, hE3⟩ : ∃ E, E = E2 + 3 + t3.length := ⟨_, rfl⟩
 have hb10 := hb9.post.off (y := o + E3) (by omega)
 have hx3 : w.cell? ⟨b, o + E3, none⟩ = some (.int .u8 cr.toNat) := hb10.head.1
 have hq3 := digits_89 tells_digit (by decide) (m := m) (k := k) (i0 := (E2 + 3)) ht3 hrd n95 hb9 (by rw [hm, hsl, hrl]; (try simp only [List.length_append, List.length_cons, List.length_nil]); omega) (by omega) (by omega) (by omega)
 rw [show (E2 + 3) + t3.length = E3 from by (try simp only [List.length_nil]); omega] at hq3
 have HQ3 := Lib.hid hq3
 obtain ⟨M, hM⟩ : ∃ M, M = sq.length := ⟨_, rfl⟩
 have hME : M = E3 := by omega
 have gc105 : ((c.toNat : Int) == 105) = false := by simp; have := hc.1; have := hc.2; omega
 have gc110 : ((c.toNat : Int) == 110) = false := by simp; have := hc.1; have := hc.2; omega
 have HPA : Hid (∀ a' k', (0 < rest.length → a' = ⟨b, o + E3, none⟩) → k' = k - E3 → Pos b cap D rest a' k') := fun a' k' e1 e2 => HP.out.after hfit (fun h => by rw [e1 h, HO.out, ← hME, hM]) (by rw [e2, ← hME, hM])
 have HRL : Hid (m - E3 = rest.length) := by show _ = _; omega
 have HML : Hid (sq.length = E3) := by show _ = _; omega
 have hm1 : E3 < m := by omega
 have hm0 : 0 < m := by omega
 have hkS : ¬ k = E3 := by omega
 have hmk : m ≤ k := by omega
 have hmb : m ≤ 140737488351232 := by omega
 have hlE1 : E1 + 1 < m := by omega
 have hlE2 : E2 + 1 < m := by omega
 have hl12 : E1 + 2 < m := by omega
 have hl22 : E2 + 2 < m := by omega
 have hms : 1 < m := by omega
 clear hp hi ho hf hm hstop HB hb0 hb2 hb3 hcr hsl hrl hM hME hq1 hsq h1 h2 hb1 ht1 hE1 hb4 hb5 hb6 hE2 ht2 hq2 hb7 hb9 hb10 hE3 ht3 hq3 hb8
 go_enter Try.func88, Try.ntmps88
 go_wp2_with fail
 refine (isDigit_yes c hc _).mono ?_
 rintro e w1 ⟨rfl, rfl⟩
 go_wp2_with fail
 refine HQ1.out.mono ?_
 rintro e w1 ⟨rfl, rfl⟩
 clear hcl
 go_wp2_with fail
 refine (isDigit_yes d2 hd2 _).mono ?_
 rintro e w1 ⟨rfl, rfl⟩
 go_wp2_with fail
 refine HQ2.out.mono ?_
 rintro e w1 ⟨rfl, rfl⟩
 go_wp2_with fail
 refine (isDigit_yes d3 hd3 _).mono ?_
 rintro e w1 ⟨rfl, rfl⟩
 go_wp2_with fail
 refine HQ3.out.mono ?_
 rintro e w1 ⟨rfl, rfl⟩
 rcases rlet with ⟨q1, q2⟩ | q1 | q1
 · go_wp2_with fail
   (go_quiet (fail)
    go_wp2
    ((try simp only [Exit.inBlock, Exit.then]); refine bodyPost_ret (results_tmp5 rfl _ _ _) rfl ?_)
    exact ⟨_, _, by rw [HRL.out, HML.out]; rfl, HPA.out _ _ (fun _ => rfl) rfl, _, rfl⟩)
 · have q2 : (65 : Int) ≤ cr.toNat := by omega
   have q3 : (90 : Int) < cr.toNat := by omega
   have q4 : (cr.toNat : Int) < 97 := by omega
   clear q1
   go_wp2_with fail
   (go_quiet (fail)
    go_wp2
    ((try simp only [Exit.inBlock, Exit.then]); refine bodyPost_ret (results_tmp5 rfl _ _ _) rfl ?_)
    exact ⟨_, _, by rw [HRL.out, HML.out]; rfl, HPA.out _ _ (fun _ => rfl) rfl, _, rfl⟩)
 · have q2 : (65 : Int) ≤ cr.toNat := by omega
   have q3 : (90 : Int) < cr.toNat := by omega
   have q4 : (97 : Int) ≤ cr.toNat := by omega
   have q5 : (122 : Int) < cr.toNat := by omega
   clear q1
   go_wp2_with fail
   (go_quiet (fail)
    go_wp2
    ((try simp only [Exit.inBlock, Exit.then]); refine bodyPost_ret (results_tmp5 rfl _ _ _) rfl ?_)
    exact ⟨_, _, by rw [HRL.out, HML.out]; rfl, HPA.out _ _ (fun _ => rfl) rfl, _, rfl⟩)
end Go.Proofs.Ytnlkbbpmpgdmiaa
namespace Go.Proofs.Ytnlkbbpmpgdmiaa
open Go.RowKit
set_option linter.unusedVariables false
set_option linter.unusedSimpArgs false
set_option maxRecDepth 100000 in
set_option maxHeartbeats 4000000 in
theorem scanNum_x {b cap k : Nat} {D t rest : List UInt8} {d : UInt8} {a : Addr} {w : World} (hi : Inp w b cap D) (hd : HexD d) (ht : Strokes HexD t) (hf : Follow rest) (hp : Pos b cap D ((48 :: 120 :: d :: t) ++ rest) a k) (m : Nat) (hm : m = ((48 :: 120 :: d :: t) ++ rest).length) :
   Calls Try.prog 88 #[.slice (some a) m k] w (TokAt b cap D ((48 :: 120 :: d :: t) ++ rest) rest (48 :: 120 :: d :: t) 11 a k w) := by
 obtain ⟨sq, hsq⟩ : ∃ sq : List UInt8, sq = 48 :: 120 :: d :: t := ⟨_, rfl⟩
 have hsl : sq.length = t.length + 1 + 1 + 1 := by rw [hsq]; simp only [List.length_cons, List.length_nil]
 rw [← hsq] at hp hm ⊢
 have ha := hp.addr (by rw [List.length_append]; omega)
 have h1 := hp.room
 have h2 := hp.le
 have hfit := hi.fits
 have h4 := hi.bound
 have HB : Hid (Bts w b (D.length - (sq ++ rest).length) (sq ++ rest)) := hi.doc.suffix hp.suf
 have HP := Lib.hid hp
 obtain ⟨cr, rr, hcr, hrd, -⟩ := hf.facts
 have hstop : StopC cr := by obtain ⟨c', r', e, h, -⟩ := hf; rw [hcr] at e; cases e; exact h
 rw [List.length_append] at h1 h2 hm
 generalize ho : D.length - (sq ++ rest).length = o at *
 have HO := Lib.hid ho
 subst ha
 have hrl : rest.length = rr.length + 1 := by rw [hcr]; rfl
 have hno : ¬ HexD cr := by rcases hstop with rfl | rfl | rfl | rfl | rfl | rfl | rfl | rfl <;> (unfold HexD; first | decide | (unfold Digit; decide))
 have n95 : cr ≠ 95 := by rcases hstop with rfl | rfl | rfl | rfl | rfl | rfl | rfl | rfl <;> decide
 have hp95 : ¬ HexD 95 := by unfold HexD; first | decide | (unfold Digit; decide)
 have hb0 : Bts w b o (48 :: 120 :: d :: (t ++ cr :: rr)) := by have h := HB.out; rw [hsq, hcr] at h; simpa using h
 have hc0 : w.cell? ⟨b, o, none⟩ = some (.int .u8 48) := hb0.head.1
 have hb1 := hb0.head.2
 have hc1 : w.cell? ⟨b, o + 1, none⟩ = some (.int .u8 120) := hb1.head.1
 have hb2 := hb1.head.2.off (y := o + 2) (by omega)
 have hc2 : w.cell? ⟨b, o + 2, none⟩ = some (.int .u8 d.toNat) := hb2.head.1
 have hb3 := hb2.head.2.off (y := o + 3) (by omega)
 have hq1 := digits_95 tells_hex hp95 (m := m) (k := k) (i0 := 3) ht hno n95 hb3 (by rw [hm, hsl, hrl]; omega) (by omega) (by omega) (by omega)
 obtain ⟨E, hE⟩ : ∃ E, E = 3 + t.length := ⟨_, rfl⟩
 rw [← hE] at hq1
 have hME : sq.length = E := by omega
 have HQ1 := Lib.hid hq1
 have HPA : Hid (∀ a' k', (0 < rest.length → a' = ⟨b, o + E, none⟩) → k' = k - E → Pos b cap D rest a' k') := fun a' k' e1 e2 => HP.out.after hfit (fun h => by rw [e1 h, HO.out, ← hME]) (by rw [e2, ← hME])
 have HRL : Hid (m - E = rest.length) := by show _ = _; omega
 have HML : Hid (sq.length = E) := by show _ = _; omega
 have hm1 : E < m := by omega
 have hm0 : 0 < m := by omega
 have hms : 1 < m := by omega
 have hm2 : 2 < m := by omega
 have hkS : ¬ k = E := by omega
 have hmk : m ≤ k := by omega
 clear hp hi ho hf hm hstop HB hb0 hb1 hb2 hb3 hcr hsl hrl hME hq1 hsq h1 h2 ht hE
 go_enter Try.func88, Try.ntmps88
 go_wp2_with fail
 refine (isDigit_yes 48 (by decide) _).mono ?_
 rintro e w1 ⟨rfl, rfl⟩
 go_wp2_with fail
 refine (tells_hex.yes d _ hd).mono ?_
 rintro e w1 ⟨rfl, rfl⟩
 go_wp2_with fail
 refine HQ1.out.mono ?_
 rintro e w1 ⟨rfl, rfl⟩
 go_wp2_with fail
 go_quiet (fail)
 go_wp2
 ((try simp only [Exit.inBlock, Exit.then]); refine bodyPost_ret (results_tmp5 rfl _ _ _) rfl ?_)
 first
   | exact ⟨_, _, by rw [HRL.out, HML.out]; rfl, HPA.out _ _ (fun _ => rfl) rfl, _, rfl⟩
   | exact ⟨_, _, by rw [← HRL.out, HML.out]; rfl, HPA.out _ _ (fun _ => rfl) rfl, _, rfl⟩
set_option maxRecDepth 100000 in
set_option maxHeartbeats 4000000 in
theorem scanNum_o {b cap k : Nat} {D t rest : List UInt8} {d : UInt8} {a : Addr} {w : World} (hi : Inp w b cap D) (hd : Octal d) (ht : Strokes Octal t) (hf : Follow rest) (hp : Pos b cap D ((48 :: 111 :: d :: t) ++ rest) a k) (m : Nat) (hm : m = ((48 :: 111 :: d :: t) ++ rest).length) :
   Calls Try.prog 88 #[.slice (some a) m k] w (TokAt b cap D ((48 :: 111 :: d :: t) ++ rest) rest (48 :: 111 :: d :: t) 11 a k w) := by
 obtain ⟨sq, hsq⟩ : ∃ sq : List UInt8, sq = 48 :: 111 :: d :: t := ⟨_, rfl⟩
 have hsl : sq.length = t.length + 1 + 1 + 1 := by rw [hsq]; simp only [List.length_cons, List.length_nil]
 rw [← hsq] at hp hm ⊢
 have ha := hp.addr (by rw [List.length_append]; omega)
 have h1 := hp.room
 have h2 := hp.le
 have hfit := hi.fits
 have h4 := hi.bound
 have HB : Hid (Bts w b (D.length - (sq ++ rest).length) (sq ++ rest)) := hi.doc.suffix hp.suf
 have HP := Lib.hid hp
 obtain ⟨cr, rr, hcr, hrd, -⟩ := hf.facts
 have hstop : StopC cr := by obtain ⟨c', r', e, h, -⟩ := hf; rw [hcr] at e; cases e; exact h
 rw [List.length_append] at h1 h2 hm
 generalize ho : D.length - (sq ++ rest).length = o at *
 have HO := Lib.hid ho
 subst ha
 have hrl : rest.length = rr.length + 1 := by rw [hcr]; rfl
 have hno : ¬ Octal cr := by rcases hstop with rfl | rfl | rfl | rfl | rfl | rfl | rfl | rfl <;> (unfold Octal; first | decide | (unfold Digit; decide))
 have n95 : cr ≠ 95 := by rcases hstop with rfl | rfl | rfl | rfl | rfl | rfl | rfl | rfl <;> decide
 have hp95 : ¬ Octal 95 := by unfold Octal; first | decide | (unfold Digit; decide)
 have hb0 : Bts w b o (48 :: 111 :: d :: (t ++ cr :: rr)) := by have h := HB.out; rw [hsq, hcr] at h; simpa using h
 have hc0 : w.cell? ⟨b, o, none⟩ = some (.int .u8 48) := hb0.head.1
 have hb1 := hb0.head.2
 have hc1 : w.cell? ⟨b, o + 1, none⟩ = some (.int .u8 111) := hb1.head.1
 have hb2 := hb1.head.2.off (y := o + 2) (by omega)
 have hc2 : w.cell? ⟨b, o + 2, none⟩ = some (.int .u8 d.toNat) := hb2.head.1
 have hb3 := hb2.head.2.off (y := o + 3) (by omega)
 have hq1 := digits_96 tells_octal hp95 (m := m) (k := k) (i0 := 3) ht hno n95 hb3 (by rw [hm, hsl, hrl]; omega) (by omega) (by omega) (by omega)
 obtain ⟨E, hE⟩ : ∃ E, E = 3 + t.length := ⟨_, rfl⟩
 rw [← hE] at hq1
 have hME : sq.length = E := by omega
 have HQ1 := Lib.hid hq1
 have HPA : Hid (∀ a' k', (0 < rest.length → a' = ⟨b, o + E, none⟩) → k' = k - E → Pos b cap D rest a' k') := fun a' k' e1 e2 => HP.out.after hfit (fun h => by rw [e1 h, HO.out, ← hME]) (by rw [e2, ← hME])
 have HRL : Hid (m - E = rest.length) := by show _ = _; omega
 have HML : Hid (sq.length = E) := by show _ = _; omega
 have hm1 : E < m := by omega
 have hm0 : 0 < m := by omega
 have hms : 1 < m := by omega
 have hm2 : 2 < m := by omega
 have hkS : ¬ k = E := by omega
 have hmk : m ≤ k := by omega
 clear hp hi ho hf hm hstop HB hb0 hb1 hb2 hb3 hcr hsl hrl hME hq1 hsq h1 h2 ht hE
 go_enter Try.func88, Try.ntmps88
 go_wp2_with fail
 refine (isDigit_yes 48 (by decide) _).mono ?_
 rintro e w1 ⟨rfl, rfl⟩
 go_wp2_with fail
 refine (tells_octal.yes d _ hd).mono ?_
 rintro e w1 ⟨rfl, rfl⟩
 go_wp2_with fail
 refine HQ1.out.mono ?_
 rintro e w1 ⟨rfl, rfl⟩
 go_wp2_with fail
 go_quiet (fail)
 go_wp2
 ((try simp only [Exit.inBlock, Exit.then]); refine bodyPost_ret (results_tmp5 rfl _ _ _) rfl ?_)
 first
   | exact ⟨_, _, by rw [HRL.out, HML.out]; rfl, HPA.out _ _ (fun _ => rfl) rfl, _, rfl⟩
   | exact ⟨_, _, by rw [← HRL.out, HML.out]; rfl, HPA.out _ _ (fun _ => rfl) rfl, _, rfl⟩
set_option maxRecDepth 100000 in
set_option maxHeartbeats 4000000 in
theorem scanNum_b {b cap k : Nat} {D t rest : List UInt8} {d : UInt8} {a : Addr} {w : World} (hi : Inp w b cap D) (hd : Binary d) (ht : Strokes Binary t) (hf : Follow rest) (hp : Pos b cap D ((48 :: 98 :: d :: t) ++ rest) a k) (m : Nat) (hm : m = ((48 :: 98 :: d :: t) ++ rest).length) :
   Calls Try.prog 88 #[.slice (some a) m k] w (TokAt b cap D ((48 :: 98 :: d :: t) ++ rest) rest (48 :: 98 :: d :: t) 11 a k w) := by
 obtain ⟨sq, hsq⟩ : ∃ sq : List UInt8, sq = 48 :: 98 :: d :: t := ⟨_, rfl⟩
 have hsl : sq.length = t.length + 1 + 1 + 1 := by rw [hsq]; simp only [List.length_cons, List.length_nil]
 rw [← hsq] at hp hm ⊢
 have ha := hp.addr (by rw [List.length_append]; omega)
 have h1 := hp.room
 have h2 := hp.le
 have hfit := hi.fits
 have h4 := hi.bound
 have HB : Hid (Bts w b (D.length - (sq ++ rest).length) (sq ++ rest)) := hi.doc.suffix hp.suf
 have HP := Lib.hid hp
 obtain ⟨cr, rr, hcr, hrd, -⟩ := hf.facts
 have hstop : StopC cr := by obtain ⟨c', r', e, h, -⟩ := hf; rw [hcr] at e; cases e; exact h
 rw [List.length_append] at h1 h2 hm
 generalize ho : D.length - (sq ++ rest).length = o at *
 have HO := Lib.hid ho
 subst ha
 have hrl : rest.length = rr.length + 1 := by rw [hcr]; rfl
 have hno : ¬ Binary cr := by rcases hstop with rfl | rfl | rfl | rfl | rfl | rfl | rfl | rfl <;> (unfold Binary; first | decide | (unfold Digit; decide))
 have n95 : cr ≠ 95 := by rcases hstop with rfl | rfl | rfl | rfl | rfl | rfl | rfl | rfl <;> decide
 have hp95 : ¬ Binary 95 := by unfold Binary; first | decide | (unfold Digit; decide)
 have hb0 : Bts w b o (48 :: 98 :: d :: (t ++ cr :: rr)) := by have h := HB.out; rw [hsq, hcr] at h; simpa using h
 have hc0 : w.cell? ⟨b, o, none⟩ = some (.int .u8 48) := hb0.head.1
 have hb1 := hb0.head.2
 have hc1 : w.cell? ⟨b, o + 1, none⟩ = some (.int .u8 98) := hb1.head.1
 have hb2 := hb1.head.2.off (y := o + 2) (by omega)
 have hc2 : w.cell? ⟨b, o + 2, none⟩ = some (.int .u8 d.toNat) := hb2.head.1
 have hb3 := hb2.head.2.off (y := o + 3) (by omega)
 have hq1 := digits_97 tells_binary hp95 (m := m) (k := k) (i0 := 3) ht hno n95 hb3 (by rw [hm, hsl, hrl]; omega) (by omega) (by omega) (by omega)
 obtain ⟨E, hE⟩ : ∃ E, E = 3 + t.length := ⟨_, rfl⟩
 rw [← hE] at hq1
 have hME : sq.length = E := by omega
 have HQ1 := Lib.hid hq1
 have HPA : Hid (∀ a' k', (0 < rest.length → a' = ⟨b, o + E, none⟩) → k' = k - E → Pos b cap D rest a' k') := fun a' k' e1 e2 => HP.out.after hfit (fun h => by rw [e1 h, HO.out, ← hME]) (by rw [e2, ← hME])
 have HRL : Hid (m - E = rest.length) := by show _ = _; omega
 have HML : Hid (sq.length = E) := by show _ = _; omega
 have hm1 : E < m := by omega
 have hm0 : 0 < m := by omega
 have hms : 1 < m := by omega
 have hm2 : 2 < m := by omega
 have hkS : ¬ k = E := by omega
 have hmk : m ≤ k := by omega
 clear hp hi ho hf hm hstop HB hb0 hb1 hb2 hb3 hcr hsl hrl hME hq1 hsq h1 h2 ht hE
 go_enter Try.func88, Try.ntmps88
 go_wp2_with fail
 refine (isDigit_yes 48 (by decide) _).mono ?_
 rintro e w1 ⟨rfl, rfl⟩
 go_wp2_with fail
 refine (tells_binary.yes d _ hd).mono ?_
 rintro e w1 ⟨rfl, rfl⟩
 go_wp2_with fail
 refine HQ1.out.mono ?_
 rintro e w1 ⟨rfl, rfl⟩
 go_wp2_with fail
 go_quiet (fail)
 go_wp2
 ((try simp only [Exit.inBlock, Exit.then]); refine bodyPost_ret (results_tmp5 rfl _ _ _) rfl ?_)
 first
   | exact ⟨_, _, by rw [HRL.out, HML.out]; rfl, HPA.out _ _ (fun _ => rfl) rfl, _, rfl⟩
   | exact ⟨_, _, by rw [← HRL.out, HML.out]; rfl, HPA.out _ _ (fun _ => rfl) rfl, _, rfl⟩
set_option maxRecDepth 100000 in
set_option maxHeartbeats 4000000 in
theorem scanNum_inf43 {b cap k : Nat} {D rest : List UInt8} {a : Addr} {w : World} (hi : Inp w b cap D) (hf : Follow rest) (hp : Pos b cap D ([43, 105, 110, 102] ++ rest) a k) (m : Nat) (hm : m = ([43, 105, 110, 102] ++ rest).length) :
   Calls Try.prog 88 #[.slice (some a) m k] w (TokAt b cap D ([43, 105, 110, 102] ++ rest) rest [43, 105, 110, 102] 10 a k w) := by
 obtain ⟨sq, hsq⟩ : ∃ sq : List UInt8, sq = [43, 105, 110, 102] := ⟨_, rfl⟩
 have hsl : sq.length = 0 + 1 + 1 + 1 + 1 := by rw [hsq]; simp only [List.length_cons, List.length_nil]
 rw [← hsq] at hp hm ⊢
 have ha := hp.addr (by rw [List.length_append]; omega)
 have h1 := hp.room
 have h2 := hp.le
 have hfit := hi.fits
 have h4 := hi.bound
 have HB : Hid (Bts w b (D.length - (sq ++ rest).length) (sq ++ rest)) := hi.doc.suffix hp.suf
 have HP := Lib.hid hp
 obtain ⟨cr, rr, hcr, hrd, -⟩ := hf.facts
 have hstop : StopC cr := by obtain ⟨c', r', e, h, -⟩ := hf; rw [hcr] at e; cases e; exact h
 rw [List.length_append] at h1 h2 hm
 generalize ho : D.length - (sq ++ rest).length = o at *
 have HO := Lib.hid ho
 subst ha
 have hrl : rest.length = rr.length + 1 := by rw [hcr]; rfl
 have hb0 : Bts w b o (43 :: ([105, 110, 102] ++ cr :: rr)) := by have h := HB.out; rw [hsq, hcr] at h; simpa using h
 have hc0 : w.cell? ⟨b, o, none⟩ = some (.int .u8 43) := hb0.head.1
 have hb1 := hb0.head.2
 have hc1 : w.cell? ⟨b, o + 1, none⟩ = some (.int .u8 105) := hb1.head.1
 have hcv : (convert 25 9 (.slice (some ⟨b, o + 1, none⟩) 3 (k - 1))).run Try.prog w = .ok (.string ⟨#[105, 110, 102]⟩) w := conv_bts (c := k - 1) hb1.pre
 have hME : sq.length = 4 := by omega
 have hm4 : 4 ≤ m := by omega
 have HPA : Hid (∀ a' k', (0 < rest.length → a' = ⟨b, o + 4, none⟩) → k' = k - 4 → Pos b cap D rest a' k') := fun a' k' e1 e2 => HP.out.after hfit (fun h => by rw [e1 h, HO.out, ← hME]) (by rw [e2, ← hME])
 have HRL : Hid (m - 4 = rest.length) := by show _ = _; omega
 have HML : Hid (sq.length = 4) := by show _ = _; omega
 have hm1 : 4 < m := by omega
 have hm0 : 0 < m := by omega
 have hms : 1 < m := by omega
 have hm2 : 2 < m := by omega
 have hkS : ¬ k = 4 := by omega
 have hmk : m ≤ k := by omega
 clear hp hi ho hf hm hstop HB hb0 hb1 hcr hsl hrl hME hsq h1 h2
 go_enter Try.func88, Try.ntmps88
 go_wp2_with fail
 go_quiet (fail)
 go_wp2
 ((try simp only [Exit.inBlock, Exit.then]); refine bodyPost_ret (results_tmp5 rfl _ _ _) rfl ?_)
 first
   | exact ⟨_, _, by rw [HRL.out, HML.out]; rfl, HPA.out _ _ (fun _ => rfl) rfl, _, rfl⟩
   | exact ⟨_, _, by rw [← HRL.out, HML.out]; rfl, HPA.out _ _ (fun _ => rfl) rfl, _, rfl⟩
set_option maxRecDepth 100000 in
set_option maxHeartbeats 4000000 in
theorem scanNum_nan43 {b cap k : Nat} {D rest : List UInt8} {a : Addr} {w : World} (hi : Inp w b cap D) (hf : Follow rest) (hp : Pos b cap D ([43, 110, 97, 110] ++ rest) a k) (m : Nat) (hm : m = ([43, 110, 97, 110] ++ rest).length) :
   Calls Try.prog 88 #[.slice (some a) m k] w (TokAt b cap D ([43, 110, 97, 110] ++ rest) rest [43, 110, 97, 110] 10 a k w) := by
 obtain ⟨sq, hsq⟩ : ∃ sq : List UInt8, sq = [43, 110, 97, 110] := ⟨_, rfl⟩
 have hsl : sq.length = 0 + 1 + 1 + 1 + 1 := by rw [hsq]; simp only [List.length_cons, List.length_nil]
 rw [← hsq] at hp hm ⊢
 have ha := hp.addr (by rw [List.length_append]; omega)
 have h1 := hp.room
 have h2 := hp.le
 have hfit := hi.fits
 have h4 := hi.bound
 have HB : Hid (Bts w b (D.length - (sq ++ rest).length) (sq ++ rest)) := hi.doc.suffix hp.suf
 have HP := Lib.hid hp
 obtain ⟨cr, rr, hcr, hrd, -⟩ := hf.facts
 have hstop : StopC cr := by obtain ⟨c', r', e, h, -⟩ := hf; rw [hcr] at e; cases e; exact h
 rw [List.length_append] at h1 h2 hm
 generalize ho : D.length - (sq ++ rest).length = o at *
 have HO := Lib.hid ho
 subst ha
 have hrl : rest.length = rr.length + 1 := by rw [hcr]; rfl
 have hb0 : Bts w b o (43 :: ([110, 97, 110] ++ cr :: rr)) := by have h := HB.out; rw [hsq, hcr] at h; simpa using h
 have hc0 : w.cell? ⟨b, o, none⟩ = some (.int .u8 43) := hb0.head.1
 have hb1 := hb0.head.2
 have hc1 : w.cell? ⟨b, o + 1, none⟩ = some (.int .u8 110) := hb1.head.1
 have hcv : (convert 25 9 (.slice (some ⟨b, o + 1, none⟩) 3 (k - 1))).run Try.prog w = .ok (.string ⟨#[110, 97, 110]⟩) w := conv_bts (c := k - 1) hb1.pre
 have hME : sq.length = 4 := by omega
 have hm4 : 4 ≤ m := by omega
 have HPA : Hid (∀ a' k', (0 < rest.length → a' = ⟨b, o + 4, none⟩) → k' = k - 4 → Pos b cap D rest a' k') := fun a' k' e1 e2 => HP.out.after hfit (fun h => by rw [e1 h, HO.out, ← hME]) (by rw [e2, ← hME])
 have HRL : Hid (m - 4 = rest.length) := by show _ = _; omega
 have HML : Hid (sq.length = 4) := by show _ = _; omega
 have hm1 : 4 < m := by omega
 have hm0 : 0 < m := by omega
 have hms : 1 < m := by omega
 have hm2 : 2 < m := by omega
 have hkS : ¬ k = 4 := by omega
 have hmk : m ≤ k := by omega
 clear hp hi ho hf hm hstop HB hb0 hb1 hcr hsl hrl hME hsq h1 h2
 go_enter Try.func88, Try.ntmps88
 go_wp2_with fail
 go_quiet (fail)
 go_wp2
 ((try simp only [Exit.inBlock, Exit.then]); refine bodyPost_ret (results_tmp5 rfl _ _ _) rfl ?_)
 first
   | exact ⟨_, _, by rw [HRL.out, HML.out]; rfl, HPA.out _ _ (fun _ => rfl) rfl, _, rfl⟩
   | exact ⟨_, _, by rw [← HRL.out, HML.out]; rfl, HPA.out _ _ (fun _ => rfl) rfl, _, rfl⟩
set_option maxRecDepth 100000 in
set_option maxHeartbeats 4000000 in
theorem scanNum_inf45 {b cap k : Nat} {D rest : List UInt8} {a : Addr} {w : World} (hi : Inp w b cap D) (hf : Follow rest) (hp : Pos b cap D ([45, 105, 110, 102] ++ rest) a k) (m : Nat) (hm : m = ([45, 105, 110, 102] ++ rest).length) :
   Calls Try.prog 88 #[.slice (some a) m k] w (TokAt b cap D ([45, 105, 110, 102] ++ rest) rest [45, 105, 110, 102] 10 a k w) := by
 obtain ⟨sq, hsq⟩ : ∃ sq : List UInt8, sq = [45, 105, 110, 102] := ⟨_, rfl⟩
 have hsl : sq.length = 0 + 1 + 1 + 1 + 1 := by rw [hsq]; simp only [List.length_cons, List.length_nil]
 rw [← hsq] at hp hm ⊢
 have ha := hp.addr (by rw [List.length_append]; omega)
 have h1 := hp.room
 have h2 := hp.le
 have hfit := hi.fits
 have h4 := hi.bound
 have HB : Hid (Bts w b (D.length - (sq ++ rest).length) (sq ++ rest)) := hi.doc.suffix hp.suf
 have HP := Lib.hid hp
 obtain ⟨cr, rr, hcr, hrd, -⟩ := hf.facts
 have hstop : StopC cr := by obtain ⟨c', r', e, h, -⟩ := hf; rw [hcr] at e; cases e; exact h
 rw [List.length_append] at h1 h2 hm
 generalize ho : D.length - (sq ++ rest).length = o at *
 have HO := Lib.hid ho
 subst ha
 have hrl : rest.length = rr.length + 1 := by rw [hcr]; rfl
 have hb0 : Bts w b o (45 :: ([105, 110, 102] ++ cr :: rr)) := by have h := HB.out; rw [hsq, hcr] at h; simpa using h
 have hc0 : w.cell? ⟨b, o, none⟩ = some (.int .u8 45) := hb0.head.1
 have hb1 := hb0.head.2
 have hc1 : w.cell? ⟨b, o + 1, none⟩ = some (.int .u8 105) := hb1.head.1
 have hcv : (convert 25 9 (.slice (some ⟨b, o + 1, none⟩) 3 (k - 1))).run Try.prog w = .ok (.string ⟨#[105, 110, 102]⟩) w := conv_bts (c := k - 1) hb1.pre
 have hME : sq.length = 4 := by omega
 have hm4 : 4 ≤ m := by omega
 have HPA : Hid (∀ a' k', (0 < rest.length → a' = ⟨b, o + 4, none⟩) → k' = k - 4 → Pos b cap D rest a' k') := fun a' k' e1 e2 => HP.out.after hfit (fun h => by rw [e1 h, HO.out, ← hME]) (by rw [e2, ← hME])
 have HRL : Hid (m - 4 = rest.length) := by show _ = _; omega
 have HML : Hid (sq.length = 4) := by show _ = _; omega
 have hm1 : 4 < m := by omega
 have hm0 : 0 < m := by omega
 have hms : 1 < m := by omega
 have hm2 : 2 < m := by omega
 have hkS : ¬ k = 4 := by omega
 have hmk : m ≤ k := by omega
 clear hp hi ho hf hm hstop HB hb0 hb1 hcr hsl hrl hME hsq h1 h2
 go_enter Try.func88, Try.ntmps88
 go_wp2_with fail
 go_quiet (fail)
 go_wp2
 ((try simp only [Exit.inBlock, Exit.then]); refine bodyPost_ret (results_tmp5 rfl _ _ _) rfl ?_)
 first
   | exact ⟨_, _, by rw [HRL.out, HML.out]; rfl, HPA.out _ _ (fun _ => rfl) rfl, _, rfl⟩
   | exact ⟨_, _, by rw [← HRL.out, HML.out]; rfl, HPA.out _ _ (fun _ => rfl) rfl, _, rfl⟩
set_option maxRecDepth 100000 in
set_option maxHeartbeats 4000000 in
theorem scanNum_nan45 {b cap k : Nat} {D rest : List UInt8} {a : Addr} {w : World} (hi : Inp w b cap D) (hf : Follow rest) (hp : Pos b cap D ([45, 110, 97, 110] ++ rest) a k) (m : Nat) (hm : m = ([45, 110, 97, 110] ++ rest).length) :
   Calls Try.prog 88 #[.slice (some a) m k] w (TokAt b cap D ([45, 110, 97, 110] ++ rest) rest [45, 110, 97, 110] 10 a k w) := by
 obtain ⟨sq, hsq⟩ : ∃ sq : List UInt8, sq = [45, 110, 97, 110] := ⟨_, rfl⟩
 have hsl : sq.length = 0 + 1 + 1 + 1 + 1 := by rw [hsq]; simp only [List.length_cons, List.length_nil]
 rw [← hsq] at hp hm ⊢
 have ha := hp.addr (by rw [List.length_append]; omega)
 have h1 := hp.room
 have h2 := hp.le
 have hfit := hi.fits
 have h4 := hi.bound
 have HB : Hid (Bts w b (D.length - (sq ++ rest).length) (sq ++ rest)) := hi.doc.suffix hp.suf
 have HP := Lib.hid hp
 obtain ⟨cr, rr, hcr, hrd, -⟩ := hf.facts
 have hstop : StopC cr := by obtain ⟨c', r', e, h, -⟩ := hf; rw [hcr] at e; cases e; exact h
 rw [List.length_append] at h1 h2 hm
 generalize ho : D.length - (sq ++ rest).length = o at *
 have HO := Lib.hid ho
 subst ha
 have hrl : rest.length = rr.length + 1 := by rw [hcr]; rfl
 have hb0 : Bts w b o (45 :: ([110, 97, 110] ++ cr :: rr)) := by have h := HB.out; rw [hsq, hcr] at h; simpa using h
 have hc0 : w.cell? ⟨b, o, none⟩ = some (.int .u8 45) := hb0.head.1
 have hb1 := hb0.head.2
 have hc1 : w.cell? ⟨b, o + 1, none⟩ = some (.int .u8 110) := hb1.head.1
 have hcv : (convert 25 9 (.slice (some ⟨b, o + 1, none⟩) 3 (k - 1))).run Try.prog w = .ok (.string ⟨#[110, 97, 110]⟩) w := conv_bts (c := k - 1) hb1.pre
 have hME : sq.length = 4 := by omega
 have hm4 : 4 ≤ m := by omega
 have HPA : Hid (∀ a' k', (0 < rest.length → a' = ⟨b, o + 4, none⟩) → k' = k - 4 → Pos b cap D rest a' k') := fun a' k' e1 e2 => HP.out.after hfit (fun h => by rw [e1 h, HO.out, ← hME]) (by rw [e2, ← hME])
 have HRL : Hid (m - 4 = rest.length) := by show _ = _; omega
 have HML : Hid (sq.length = 4) := by show _ = _; omega
 have hm1 : 4 < m := by omega
 have hm0 : 0 < m := by omega
 have hms : 1 < m := by omega
 have hm2 : 2 < m := by omega
 have hkS : ¬ k = 4 := by omega
 have hmk : m ≤ k := by omega
 clear hp hi ho hf hm hstop HB hb0 hb1 hcr hsl hrl hME hsq h1 h2
 go_enter Try.func88, Try.ntmps88
 go_wp2_with fail
 go_quiet (fail)
 go_wp2
 ((try simp only [Exit.inBlock, Exit.then]); refine bodyPost_ret (results_tmp5 rfl _ _ _) rfl ?_)
 first
   | exact ⟨_, _, by rw [HRL.out, HML.out]; rfl, HPA.out _ _ (fun _ => rfl) rfl, _, rfl⟩
   | exact ⟨_, _, by rw [← HRL.out, HML.out]; rfl, HPA.out _ _ (fun _ => rfl) rfl, _, rfl⟩
end Go.Proofs.Ytnlkbbpmpgdmiaa
