/- For every input the law FnStyles returns true and leaves its arguments as they were. No condition. -/
import Derived.Test.YtnlkbbpmpgdmiaaVAX
import Derived.Test.YtnlkbbpmpgdmiaaVAC
import Derived.ChangeOld
namespace Go.Proofs.Ytnlkbbpmpgdmiaa
open Go.RowKit
set_option linter.unusedVariables false
set_option linter.unusedSimpArgs false
set_option maxRecDepth 100000 in
set_option maxHeartbeats 4000000 in
theorem fnStyles_walk {w : World} {v0 v1 v2 : Value} {z0 : List Nat} {z1 z2 : List UInt8} (h0 : ArgNums w v0 z0) (h1 : ArgBytes w v1 z1) (h2 : ArgBytes w v2 z2) : Calls Try.prog 7 #[v0, v1, v2] w (TrueBel w) := by
  have H0 := Lib.hid h0
  have H1 := Lib.hid h1
  have H2 := Lib.hid h2
  obtain ⟨A0, c0, rfl, hc0⟩ := h0.form
  obtain ⟨A1, c1, rfl, hc1⟩ := h1.form
  obtain ⟨A2, c2, rfl, hc2⟩ := h2.form
  obtain ⟨n0, hn0⟩ : ∃ n0, z0.length = n0 := ⟨_, rfl⟩
  obtain ⟨n1, hn1⟩ : ∃ n1, z1.length = n1 := ⟨_, rfl⟩
  obtain ⟨n2, hn2⟩ : ∃ n2, z2.length = n2 := ⟨_, rfl⟩
  rw [hn0] at H0 hc0 ⊢
  rw [hn1] at H1 hc1 ⊢
  rw [hn2] at H2 hc2 ⊢
  have HN0 := Lib.hid hn0
  have HN1 := Lib.hid hn1
  have HN2 := Lib.hid hn2
  clear h0 h1 h2 hn0 hn1 hn2
  have hcase : 100 < n0 ∨ (n0 ≤ 100 ∧ 1000 < n1) ∨ (n0 ≤ 100 ∧ n1 ≤ 1000 ∧ 1000 < n2) ∨ (n0 ≤ 100 ∧ n1 ≤ 1000 ∧ n2 ≤ 1000) := by omega
  rcases hcase with ha | ⟨ha, hb⟩ | ⟨ha, hb, hc⟩ | ⟨ha, hb, hc⟩
  · go_enter Try.func7, Try.ntmps7
    go_wp2_with fail
    all_goals
      go_ret
      exact ⟨rfl, Below.refl _ _⟩
  · go_enter Try.func7, Try.ntmps7
    go_wp2_with fail
    all_goals
      go_ret
      exact ⟨rfl, Below.refl _ _⟩
  · go_enter Try.func7, Try.ntmps7
    go_wp2_with fail
    all_goals
      go_ret
      exact ⟨rfl, Below.refl _ _⟩
  · go_enter Try.func7, Try.ntmps7
    go_wp2_with fail
    refine (doc_made H0.out (by rw [HN0.out]; exact ha) (Below.refl _ w)).mono ?_
    rintro e w1 ⟨es, A, c, rfl, hdoc, hok, hb1⟩
    have HDOC := Lib.hid hdoc
    have HOK := Lib.hid hok
    have HB1 := Lib.hid hb1
    have hel : es.length ≤ 1000 := by have := hok.1; omega
    clear hdoc hok hb1
    go_wp2_with fail
    refine (doc_written HDOC.out HOK.out H1.out (by rw [HN1.out]; exact hb) HB1.out).mono ?_
    rintro e w2 ⟨s, A3, c3, rfl, hmr, htx, hsl, hb2⟩
    have HMR := Lib.hid hmr
    have HTX := Lib.hid htx
    have HB2 := Lib.hid hb2
    clear hmr htx hb2
    go_wp2_with fail
    refine (doc_read HMR.out.rd (.inl rfl) HTX.out hel (by omega)).mono ?_
    rintro e w3 ⟨A4, c4, cs4, rfl, hr3, he3, hb3⟩
    have HDOC3 := Lib.hid ((HDOC.out.below HB2.out).below hb3)
    have HR3 := Lib.hid hr3
    have HE3 := Lib.hid he3
    have HB3 := Lib.hid (bel_mono (bel_mono HB1.out HB2.out) hb3)
    clear hr3 he3 hb3 HMR HTX
    go_wp2_with fail
    refine (doc_written HDOC3.out HOK.out H2.out (by rw [HN2.out]; exact hc) HB3.out).mono ?_
    rintro e w4 ⟨s2, A5, c5, rfl, hmr, htx, hsl2, hb4⟩
    have HMR := Lib.hid hmr
    have HTX := Lib.hid htx
    have HB4 := Lib.hid hb4
    clear hmr htx hb4
    go_wp2_with fail
    refine (doc_read HMR.out.rd (.inl rfl) HTX.out hel (by omega)).mono ?_
    rintro e w5 ⟨A6, c6, cs6, rfl, hr5, he5, hb5⟩
    have hb35 := bel_mono HB4.out hb5
    have HDOC5 := Lib.hid (HDOC3.out.below hb35)
    have HRE := Lib.hid (rows_below HR3.out HE3.out hb35)
    have HR5 := Lib.hid hr5
    have HE5 := Lib.hid he5
    have HB5 := Lib.hid (bel_mono HB3.out hb35)
    clear hr5 he5 hb5 hb35
    go_wp2_with fail
    refine (doc_same HRE.out.1 HRE.out.2 HDOC5.out HOK.out).mono ?_
    rintro e w6 ⟨rfl, hb6⟩
    have HB6 := Lib.hid (bel_mono HB5.out hb6)
    have HDOC6 := Lib.hid (HDOC5.out.below hb6)
    have HRF := Lib.hid (rows_below HR5.out HE5.out hb6)
    clear hb6
    go_wp2_with fail
    refine (doc_same HRF.out.1 HRF.out.2 HDOC6.out HOK.out).mono ?_
    rintro e w7 ⟨rfl, hb7⟩
    have HB7 := Lib.hid (bel_mono HB6.out hb7)
    clear hb7
    go_wp2_with fail
    go_ret
    exact ⟨rfl, HB7.out⟩
end Go.Proofs.Ytnlkbbpmpgdmiaa
namespace Go.Proofs.Ytnlkbbpmpgdmiaa.fnStyles
open Go.ChangeShapes Go.WideShapes Go.ChangeAt Go.RowKit
set_option linter.unusedVariables false
set_option linter.unusedSimpArgs false
theorem own : ownKnob Try.prog.godebug = none := by kernel_rfl
theorem laidOut : laidOutB Try.prog = true := by kernel_rfl
set_option maxRecDepth 100000 in
theorem lifted (os : Os) (started : os.Started) (H : Type) (enc : TypeId × Value → H) :
    ReturnsInHanded {} Try.checked os 7 .any (Rows.fnStylesSpec.pre6 enc Try.prog Try.f7 Rows.fnStylesRow.domain false) (Rows.fnStylesSpec.post enc Try.prog Try.f7 false true false false) := by
  refine returnsInHanded_of_change (C := Try.checked) own started (by kernel_rfl) Try.func7
    (ChangeSpec.witness6 (enc := enc) (C := Try.checked) false ⟨#[], #[.slice none 0 0, .slice none 0 0, .slice none 0 0], []⟩ 8 (by kernel_rfl) (by kernel_rfl) (by kernel_rfl) (by kernel_rfl)) ?_
  intro W base args ds gs before hval0 hW hcnd _
  have hval : ∀ (j : Nat) t v, Try.f7.params[j]? = some t → args[j]? = some v → Value.okWide Try.prog W .any base t v := hval0
  have hW' := hW
  obtain ⟨p, q, hA0, hV, rfl, hfz, hnd⟩ := hW
  have hA : DataW.TrodAll enc Try.prog W 0 (fun _ => true) true Try.f7.params.toList args.toList ds p := hA0
  rw [Try.params7] at hA hval
  obtain ⟨v0, vs0, d0, ds0, p0, q0, hargs, rfl, rfl, h0, r0⟩ := trodAll_cons hA
  obtain ⟨v1, vs1, d1, ds1, p1, q1, rfl, rfl, rfl, h1, r1⟩ := trodAll_cons r0
  obtain ⟨v2, vs2, d2, ds2, p2, q2, rfl, rfl, rfl, h2, r2⟩ := trodAll_cons r1
  obtain ⟨rfl, rfl, rfl⟩ := trodAll_nil r2
  obtain rfl : args = #[v0, v1, v2] := by cases args; simp_all
  obtain ⟨rfl, rfl⟩ := trodVars_none hV
  obtain ⟨a0, len0, cap0, rfl⟩ := okWide_slice Try.underlying31 (hval 0 31 v0 rfl rfl)
  have k0 := h0
  have lt0 : ∀ x ∈ p0, x.block < W.heap.size := by obtain ⟨m, hm⟩ := k0; exact DataW.trod_lt m _ _ _ hm
  obtain ⟨z0, w0⟩ : ∃ z, ArgNums W (.slice a0 len0 cap0) z := by
    obtain ⟨fuel, hf⟩ := h0
    exact args_nums hf ⟨_, _, _, rfl⟩
  obtain ⟨a1, len1, cap1, rfl⟩ := okWide_slice Try.underlying25 (hval 1 25 v1 rfl rfl)
  have k1 := h1
  have lt1 : ∀ x ∈ p1, x.block < W.heap.size := by obtain ⟨m, hm⟩ := k1; exact DataW.trod_lt m _ _ _ hm
  obtain ⟨z1, w1⟩ : ∃ z, ArgBytes W (.slice a1 len1 cap1) z := by
    obtain ⟨fuel, hf⟩ := h1
    exact args_bytes hf ⟨_, _, _, rfl⟩
  obtain ⟨a2, len2, cap2, rfl⟩ := okWide_slice Try.underlying25 (hval 2 25 v2 rfl rfl)
  have k2 := h2
  have lt2 : ∀ x ∈ p2, x.block < W.heap.size := by obtain ⟨m, hm⟩ := k2; exact DataW.trod_lt m _ _ _ hm
  obtain ⟨z2, w2⟩ : ∃ z, ArgBytes W (.slice a2 len2 cap2) z := by
    obtain ⟨fuel, hf⟩ := h2
    exact args_bytes hf ⟨_, _, _, rfl⟩
  clear hA0 hval0
  refine (fnStyles_walk w0 w1 w2).mono fun e W' ⟨he, bel⟩ => ?_
  subst he
  exact ⟨_, rfl, _, _, _, [], _, [], hW', trodAll_mk1 (shut_bool Try.underlying4 _), (trodAll_cons_mk (Below.trod laidOut (by kernel_rfl) (of_decide_eq_true (by kernel_rfl)) k0 bel lt0) (trodAll_cons_mk (Below.trod laidOut (by kernel_rfl) (of_decide_eq_true (by kernel_rfl)) k1 bel lt1) (trodAll_cons_mk (Below.trod laidOut (by kernel_rfl) (of_decide_eq_true (by kernel_rfl)) k2 bel lt2) trodAll_mk0))), rfl, bel.frame _, fun h => by cases h⟩
theorem over : Rows.fnStylesRow.holds Try.pinned (OpenSpec.ofChange Rows.fnStylesSpec) :=
  OpenClaim.holds_of_wide 7 Try.f7 rfl rfl rfl rfl rfl rfl rfl ⟨rfl, rfl, rfl, rfl, rfl⟩ rfl rfl rfl rfl rfl (by kernel_rfl) Try.func7 (by kernel_rfl)
    (of_decide_eq_true (by kernel_rfl)) (by unfold Func.isWrapper; first | (rw [if_pos (by decide +kernel)]; kernel_rfl) | (rw [if_neg (by decide +kernel)]; exact ⟨rfl, rfl⟩))
    (fun os started H enc _ => lifted os started H enc)
/-- the statement -/
theorem proved : Rows.FnStylesSaid :=
  over
#print axioms proved
end Go.Proofs.Ytnlkbbpmpgdmiaa.fnStyles
