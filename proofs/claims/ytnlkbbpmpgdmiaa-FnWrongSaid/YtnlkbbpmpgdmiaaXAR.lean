/- The laws' own documents: keys; The laws' own documents: values without parts; The reference's writer: a string, in any of four ways; The reference's writer: a string, in any of four ways: the walk. -/
import Derived.Test.YtnlkbbpmpgdmiaaXAQ
import Derived.Test.YtnlkbbpmpgdmiaaXAD
namespace Go.Proofs.Ytnlkbbpmpgdmiaa
open Go.RowKit
set_option linter.unusedVariables false
set_option linter.unusedSimpArgs false
theorem word_int (x : Int) (h0 : 0 ≤ x) (h1 : x ≤ 4294967295) (w : World) : Calls Try.prog 46 #[.int .u32 x] w (Word46 w) := by
 obtain ⟨n, rfl⟩ := Int.eq_ofNat_of_zero_le h0
 exact word_any n h1 w
def wdStr (k : List Nat) : ByteArray := ⟨((k.map encN).flatten).toArray⟩
def Keys23 (w : World) (e : Ending) (w' : World) : Prop := ∃ v, ∃ kws : List (List Nat), e = .returned v ∧ OutIs w.heap.size w' v (kws.map wdStr) ∧ kws ≠ [] ∧ kws.length ≤ 3 ∧ (∀ k ∈ kws, k.length ≤ 6 ∧ ∀ r ∈ k, Alpha r) ∧ Below w.heap.size w w'
def KsRel (m : Nat) (w : World) (g : Nat) (s3 s9 : Value) (wx : World) : Prop :=
 ∃ (k : Nat) (kws : List (List Nat)), k + g = m ∧ s9 = .int .u32 k ∧ kws.length = k ∧ (∀ k ∈ kws, k.length ≤ 6 ∧ ∀ r ∈ k, Alpha r) ∧ OutIs w.heap.size wx s3 (kws.map wdStr) ∧ Below w.heap.size w wx
set_option maxRecDepth 100000 in
set_option maxHeartbeats 4000000 in
theorem keys_any (n : Nat) (hn : (n : Int) ≤ 4294967295) (w : World) : Calls Try.prog 23 #[.int .u32 n] w (Keys23 w) := by
 obtain ⟨i0, hi0, hz0, hz1, hz2⟩ := info_parts info9
 have HI0 := Lib.hid hi0
 clear hi0
 obtain ⟨m, hm⟩ : ∃ m : Nat, 1 + (n : Int) % 3 = m := ⟨1 + n % 3, by simp⟩
 have hm6 : m ≤ 3 := by omega
 have hm0 : 0 < m := by omega
 have hm1 : 1 + (n : Int) % 3 ≤ m := by omega
 have hm2 : (m : Int) ≤ 1 + (n : Int) % 3 := by omega
 have HM := Lib.hid hm
 clear hm
 go_enter Try.func23, Try.ntmps23
 go_wp2_with fail
 go_loopg [3, 9] m (fun g s3 s9 wx => Hid (KsRel m w g s3 s9 wx))
 case atStart => exact ⟨0, [], by omega, rfl, rfl, by simp, World.ownsRow_made w #[] 0 (Nat.le_refl _) (by simp [maxLen]) rfl, (Below.refl _ w).alloc (Nat.le_refl _) _⟩
 case round =>
   obtain ⟨k, kws, hk, rfl, hl, hA, hown, hb⟩ := hrel.out
   clear hrel
   obtain ⟨ia, inn, ic, rfl⟩ := own_slice hown
   by_cases hlt : k < m
   · have hlt' : (k : Int) < 1 + (n : Int) % 3 := by omega
     have HB := Lib.hid hb
     have HA := Lib.hid hA
     have HL := Lib.hid hl
     have HO := Lib.hid hown
     have hrl : (kws.map wdStr).length ≤ 3 := by simp; omega
     have hsw := hb.size
     clear hb hA hown hl HM
     go_wp2_with fail
     refine (word_int _ (by omega) (by omega) _).mono ?_
     rintro e w3 ⟨rs, rfl, hrA, hr6, hb3⟩
     have HRA := Lib.hid hrA
     have HB3 := Lib.hid hb3
     have hsw3 := hb3.size
     have HOW : Hid (OutIs w.heap.size (w3.alloc (.cells #[.string ⟨((rs.map encN).flatten).toArray⟩] 9)) (.slice ia inn ic) (kws.map wdStr)) := (HO.out.below hb3).keep (fun g cs h => h.alloc _)
     have HNW : Hid (∀ j u, ([.string ⟨((rs.map encN).flatten).toArray⟩] : List Value)[j]? = some u → (w3.alloc (.cells #[.string ⟨((rs.map encN).flatten).toArray⟩] 9)).cell? ((⟨w3.heap.size, 0, none⟩ : Addr).add j) = some u) := Blk.add (l := [.string ⟨((rs.map encN).flatten).toArray⟩]) (Blk.new w3 9 _)
     obtain ⟨T, hT⟩ : ∃ T, (rs.map encN).flatten = T := ⟨_, rfl⟩
     rw [hT] at HOW HNW ⊢
     have HT := Lib.hid hT
     obtain ⟨KS, hKS⟩ : ∃ KS, kws.map wdStr = KS := ⟨_, rfl⟩
     rw [hKS] at HOW hrl
     have HKS := Lib.hid hKS
     clear hrA hb3 hT hKS
     go_wp2_with (first
       | (at_builtin; refine wpList_append_lies _ rfl (.tmp 12) (.tmp 21) 26 rfl w.heap.size 9 i0 _ 1 16 Try.underlying26 HI0.out hz0 hz1 hz2 rfl (by decide) (.slice ia inn ic) KS.length (KS.map Value.string) (by rfl) HOW.out ⟨w3.heap.size, 0, none⟩ 1 1 [.string ⟨T.toArray⟩] (by rfl) rfl ?c1 ?c2 ?mp ?mx ?by_ ?bs (w3.heap.size + 1) ?hH ?_
          case c1 => exact HNW.out
          case c2 => intro u hu; simp at hu; subst hu; rfl
          case mp => omega
          case mx => simp only [maxLen]; omega
          case by_ => omega
          case bs => simp; omega
          case hH => simp
          intro g7 c7 w7 hown7 hgrow7 hlies7 hlt7
          have HOWN7 := Lib.hid hown7
          have HGROW7 := Lib.hid hgrow7
          clear hown7 hgrow7 hlies7))
     go_roundg (gk - 1)
     case measure => omega
     case rel =>
       refine ⟨k + 1, kws ++ [rs], by omega, by go_num, by simp [HL.out], ?_, ?_, ?_⟩
       · intro r' h
         rcases List.mem_append.1 h with h | h
         · exact HA.out r' h
         · have : r' = rs := by simpa using h
           rw [this]; exact ⟨hr6, HRA.out⟩
       · have h7 := HOWN7.out
         rw [List.map_append, HKS.out, List.map_cons, List.map_nil]
         show World.ownsRow _ _ _ _ _ (KS ++ [wdStr rs]).length ((KS ++ [wdStr rs]).map Value.string)
         rw [List.length_append, List.map_append]
         unfold wdStr
         rw [HT.out]
         exact h7
       · have hs := HB.out.size
         refine ((HB.out.trans (HB3.out.mono hs)).alloc (by omega) _).grown HGROW7.out (by simp; omega) ?_
         intro k' hk'
         exact (World.ownsRow.lt HOW.out k' hk').1
   · have hlt' : 1 + (n : Int) % 3 ≤ (k : Int) := by omega
     have HFIN : Hid (Keys23 w (.returned (.slice ia inn ic)) wr) := ⟨_, kws, rfl, hown, by intro h; rw [h] at hl; simp at hl; omega, by omega, hA, hb⟩
     clear hown hA hb hl hk HM
     go_wp2_with fail
     go_ret
     exact HFIN.out
end Go.Proofs.Ytnlkbbpmpgdmiaa
namespace Go.Proofs.Ytnlkbbpmpgdmiaa
open Go.RowKit
set_option linter.unusedVariables false
set_option linter.unusedSimpArgs false
def wordsOf : Nat → List (List UInt8)
 | 1 => [[48], [43, 57, 57], [45, 49, 55], [49, 95, 48, 48, 48], [48, 120, 68, 69, 65, 68, 95, 98, 101, 101, 102], [48, 111, 55, 53, 53], [48, 98, 49, 49, 48, 49, 95, 48, 49, 49, 48], [57, 50, 50, 51, 51, 55, 50, 48, 51, 54, 56, 53, 52, 55, 55, 53, 56, 48, 55], [45, 48], [53]]
 | 2 => [[49, 46, 48], [45, 48, 46, 53, 101, 43, 49, 48], [43, 54, 46, 54, 50, 54, 101, 45, 51, 52], [105, 110, 102], [45, 105, 110, 102], [110, 97, 110], [43, 110, 97, 110], [57, 95, 50, 50, 52, 46, 53, 95, 54], [49, 101, 48, 54], [45, 48, 46, 48]]
 | 3 => [[116, 114, 117, 101], [102, 97, 108, 115, 101]]
 | 4 => [[49, 57, 55, 57, 45, 48, 53, 45, 50, 55, 84, 48, 55, 58, 51, 50, 58, 48, 48, 90], [49, 57, 55, 57, 45, 48, 53, 45, 50, 55, 84, 48, 48, 58, 51, 50, 58, 48, 48, 46, 57, 57, 57, 57, 57, 57, 45, 48, 55, 58, 48, 48], [50, 48, 48, 48, 45, 48, 50, 45, 50, 57, 32, 50, 51, 58, 53, 57, 58, 53, 57, 43, 48, 48, 58, 51, 48]]
 | 5 => [[49, 57, 55, 57, 45, 48, 53, 45, 50, 55, 84, 48, 55, 58, 51, 50, 58, 48, 48], [50, 48, 50, 52, 45, 49, 50, 45, 51, 49, 32, 48, 48, 58, 48, 48, 58, 48, 48, 46, 53]]
 | 6 => [[49, 57, 55, 57, 45, 48, 53, 45, 50, 55], [50, 48, 50, 52, 45, 48, 50, 45, 50, 57]]
 | 7 => [[48, 55, 58, 51, 50, 58, 48, 48], [50, 51, 58, 53, 57, 58, 53, 57, 46, 49, 50, 51, 52, 53, 54, 55, 56, 57]]
 | _ => []
def ScalIs (kd : Nat) (t : List UInt8) : Prop := (kd = 0 ∧ ∃ rs : List Nat, (∀ r ∈ rs, Alpha r) ∧ rs.length ≤ 6 ∧ t = (rs.map encN).flatten) ∨ t ∈ wordsOf kd
def Scal47 (w : World) (e : Ending) (w' : World) : Prop := ∃ kd t, e = .returned (.agg #[.int .i64 (kd : Nat), .string ⟨t.toArray⟩, .slice none 0 0, .slice none 0 0]) ∧ ScalIs kd t ∧ Below w.heap.size w w'
set_option maxRecDepth 100000 in
set_option maxHeartbeats 4000000 in
theorem scalar_any (n : Nat) (hn : (n : Int) ≤ 4294967295) (w : World) : Calls Try.prog 47 #[.int .u32 n] w (Scal47 w) := by
 have hr : (n : Int) % 9 = 0 ∨ (n : Int) % 9 = 1 ∨ (n : Int) % 9 = 2 ∨ (n : Int) % 9 = 3 ∨ (n : Int) % 9 = 4 ∨ (n : Int) % 9 = 5 ∨ (n : Int) % 9 = 6 ∨ (n : Int) % 9 = 7 ∨ (n : Int) % 9 = 8 := by omega
 rcases hr with hr | hr | hr | hr | hr | hr | hr | hr | hr
 · go_enter Try.func47, Try.ntmps47
   go_wp2_with fail
   refine (word_int _ (by omega) (by omega) _).mono ?_
   rintro e w3 ⟨rs, rfl, hrA, hr6, hb3⟩
   have hsw3 := hb3.size
   have hblk : Blk w3 w.heap.size 43 #[.int .i64 0, .string ⟨#[]⟩, .slice none 0 0, .slice none 0 0] := (Blk.new w 43 _).below hb3 (by simp)
   have d0 := hblk.cell 0
   have d1 := hblk.cell 1
   have d2 := hblk.cell 2
   have d3 := hblk.cell 3
   simp at d0 d1 d2 d3
   have f0 := hblk.frozen 0
   have f1 := hblk.frozen 1
   have f2 := hblk.frozen 2
   have f3 := hblk.frozen 3
   have hl3 := hblk.lt
   have HBL := Lib.hid hblk
   have HRA := Lib.hid hrA
   have HB3 : Hid (Below w.heap.size w w3) := ((Below.refl _ w).alloc (Nat.le_refl _) _).trans (hb3.mono (by simp))
   obtain ⟨T, hT⟩ : ∃ T, (rs.map encN).flatten = T := ⟨_, rfl⟩
   rw [hT]
   have HT := Lib.hid hT
   clear hb3 hblk hrA hT
   go_wp2_with fail
   have hb4 := (((HBL.out.set_ 0 (.int .i64 0)).set_ 1 (.string ⟨T.toArray⟩)).set_ 2 (.slice none 0 0)).set_ 3 (.slice none 0 0)
   have e0 := hb4.cell 0
   have e1 := hb4.cell 1
   have e2 := hb4.cell 2
   have e3 := hb4.cell 3
   simp at e0 e1 e2 e3
   refine bodyPost_ret (v := .agg #[.int .i64 0, .string ⟨T.toArray⟩, .slice none 0 0, .slice none 0 0]) (by simp [results, Try.results47, go_sem, e0, e1, e2, e3, hl3]) rfl ?_
   exact ⟨0, T, rfl, .inl ⟨rfl, rs, HRA.out, hr6, HT.out.symm⟩, (((HB3.out.setCell (by simp) _).setCell (by simp) _).setCell (by simp) _).setCell (by simp) _⟩
 · go_enter Try.func47, Try.ntmps47
   go_wp2_with fail
   refine (word_int _ (by omega) (by omega) _).mono ?_
   rintro e w3 ⟨rs, rfl, hrA, hr6, hb3⟩
   have hsw3 := hb3.size
   have hblk : Blk w3 w.heap.size 43 #[.int .i64 0, .string ⟨#[]⟩, .slice none 0 0, .slice none 0 0] := (Blk.new w 43 _).below hb3 (by simp)
   have d0 := hblk.cell 0
   have d1 := hblk.cell 1
   have d2 := hblk.cell 2
   have d3 := hblk.cell 3
   simp at d0 d1 d2 d3
   have f0 := hblk.frozen 0
   have f1 := hblk.frozen 1
   have f2 := hblk.frozen 2
   have f3 := hblk.frozen 3
   have hl3 := hblk.lt
   have HBL := Lib.hid hblk
   have HRA := Lib.hid hrA
   have HB3 : Hid (Below w.heap.size w w3) := ((Below.refl _ w).alloc (Nat.le_refl _) _).trans (hb3.mono (by simp))
   obtain ⟨T, hT⟩ : ∃ T, (rs.map encN).flatten = T := ⟨_, rfl⟩
   rw [hT]
   have HT := Lib.hid hT
   clear hb3 hblk hrA hT
   go_wp2_with fail
   have hb4 := (((HBL.out.set_ 0 (.int .i64 0)).set_ 1 (.string ⟨T.toArray⟩)).set_ 2 (.slice none 0 0)).set_ 3 (.slice none 0 0)
   have e0 := hb4.cell 0
   have e1 := hb4.cell 1
   have e2 := hb4.cell 2
   have e3 := hb4.cell 3
   simp at e0 e1 e2 e3
   refine bodyPost_ret (v := .agg #[.int .i64 0, .string ⟨T.toArray⟩, .slice none 0 0, .slice none 0 0]) (by simp [results, Try.results47, go_sem, e0, e1, e2, e3, hl3]) rfl ?_
   exact ⟨0, T, rfl, .inl ⟨rfl, rs, HRA.out, hr6, HT.out.symm⟩, (((HB3.out.setCell (by simp) _).setCell (by simp) _).setCell (by simp) _).setCell (by simp) _⟩
 · obtain ⟨i, hi⟩ : ∃ i, n / 16 % 2 = i := ⟨_, rfl⟩
   have hiN : i < 2 := by omega
   obtain ⟨t, ht⟩ : ∃ t, (wordsOf 3)[i]? = some t := ⟨_, List.getElem?_eq_getElem (by simpa [wordsOf] using hiN)⟩
   have HT := Lib.hid (List.mem_of_getElem? ht)
   have hget2 : ∀ h, ((wordsOf 3).map fun t => Value.string ⟨t.toArray⟩)[i]'h = .string ⟨t.toArray⟩ := fun h => by
     simp only [List.getElem_map]
     have h' : i < (wordsOf 3).length := by simpa using h
     rw [List.getElem?_eq_getElem h'] at ht
     injection ht with ht
     rw [ht]
   simp only [wordsOf, List.map_cons, List.map_nil] at hget2
   clear ht
   go_enter Try.func47, Try.ntmps47
   go_wp2_with fail
   refine bodyPost_ret (v := .agg #[.int .i64 3, .string ⟨t.toArray⟩, .slice none 0 0, .slice none 0 0]) (by simp [results, Try.results47, go_sem]) rfl ?_
   exact ⟨3, t, rfl, .inr HT.out, ((Below.refl _ w).alloc (Nat.le_refl _) _).alloc (by simp) _⟩
 · obtain ⟨i, hi⟩ : ∃ i, n / 16 % 3 = i := ⟨_, rfl⟩
   have hiN : i < 3 := by omega
   obtain ⟨t, ht⟩ : ∃ t, (wordsOf 4)[i]? = some t := ⟨_, List.getElem?_eq_getElem (by simpa [wordsOf] using hiN)⟩
   have HT := Lib.hid (List.mem_of_getElem? ht)
   have hget2 : ∀ h, ((wordsOf 4).map fun t => Value.string ⟨t.toArray⟩)[i]'h = .string ⟨t.toArray⟩ := fun h => by
     simp only [List.getElem_map]
     have h' : i < (wordsOf 4).length := by simpa using h
     rw [List.getElem?_eq_getElem h'] at ht
     injection ht with ht
     rw [ht]
   simp only [wordsOf, List.map_cons, List.map_nil] at hget2
   clear ht
   go_enter Try.func47, Try.ntmps47
   go_wp2_with fail
   refine bodyPost_ret (v := .agg #[.int .i64 4, .string ⟨t.toArray⟩, .slice none 0 0, .slice none 0 0]) (by simp [results, Try.results47, go_sem]) rfl ?_
   exact ⟨4, t, rfl, .inr HT.out, ((Below.refl _ w).alloc (Nat.le_refl _) _).alloc (by simp) _⟩
 · obtain ⟨i, hi⟩ : ∃ i, n / 16 % 2 = i := ⟨_, rfl⟩
   have hiN : i < 2 := by omega
   obtain ⟨t, ht⟩ : ∃ t, (wordsOf 5)[i]? = some t := ⟨_, List.getElem?_eq_getElem (by simpa [wordsOf] using hiN)⟩
   have HT := Lib.hid (List.mem_of_getElem? ht)
   have hget2 : ∀ h, ((wordsOf 5).map fun t => Value.string ⟨t.toArray⟩)[i]'h = .string ⟨t.toArray⟩ := fun h => by
     simp only [List.getElem_map]
     have h' : i < (wordsOf 5).length := by simpa using h
     rw [List.getElem?_eq_getElem h'] at ht
     injection ht with ht
     rw [ht]
   simp only [wordsOf, List.map_cons, List.map_nil] at hget2
   clear ht
   go_enter Try.func47, Try.ntmps47
   go_wp2_with fail
   refine bodyPost_ret (v := .agg #[.int .i64 5, .string ⟨t.toArray⟩, .slice none 0 0, .slice none 0 0]) (by simp [results, Try.results47, go_sem]) rfl ?_
   exact ⟨5, t, rfl, .inr HT.out, ((Below.refl _ w).alloc (Nat.le_refl _) _).alloc (by simp) _⟩
 · obtain ⟨i, hi⟩ : ∃ i, n / 16 % 2 = i := ⟨_, rfl⟩
   have hiN : i < 2 := by omega
   obtain ⟨t, ht⟩ : ∃ t, (wordsOf 6)[i]? = some t := ⟨_, List.getElem?_eq_getElem (by simpa [wordsOf] using hiN)⟩
   have HT := Lib.hid (List.mem_of_getElem? ht)
   have hget2 : ∀ h, ((wordsOf 6).map fun t => Value.string ⟨t.toArray⟩)[i]'h = .string ⟨t.toArray⟩ := fun h => by
     simp only [List.getElem_map]
     have h' : i < (wordsOf 6).length := by simpa using h
     rw [List.getElem?_eq_getElem h'] at ht
     injection ht with ht
     rw [ht]
   simp only [wordsOf, List.map_cons, List.map_nil] at hget2
   clear ht
   go_enter Try.func47, Try.ntmps47
   go_wp2_with fail
   refine bodyPost_ret (v := .agg #[.int .i64 6, .string ⟨t.toArray⟩, .slice none 0 0, .slice none 0 0]) (by simp [results, Try.results47, go_sem]) rfl ?_
   exact ⟨6, t, rfl, .inr HT.out, ((Below.refl _ w).alloc (Nat.le_refl _) _).alloc (by simp) _⟩
 · obtain ⟨i, hi⟩ : ∃ i, n / 16 % 2 = i := ⟨_, rfl⟩
   have hiN : i < 2 := by omega
   obtain ⟨t, ht⟩ : ∃ t, (wordsOf 7)[i]? = some t := ⟨_, List.getElem?_eq_getElem (by simpa [wordsOf] using hiN)⟩
   have HT := Lib.hid (List.mem_of_getElem? ht)
   have hget2 : ∀ h, ((wordsOf 7).map fun t => Value.string ⟨t.toArray⟩)[i]'h = .string ⟨t.toArray⟩ := fun h => by
     simp only [List.getElem_map]
     have h' : i < (wordsOf 7).length := by simpa using h
     rw [List.getElem?_eq_getElem h'] at ht
     injection ht with ht
     rw [ht]
   simp only [wordsOf, List.map_cons, List.map_nil] at hget2
   clear ht
   go_enter Try.func47, Try.ntmps47
   go_wp2_with fail
   refine bodyPost_ret (v := .agg #[.int .i64 7, .string ⟨t.toArray⟩, .slice none 0 0, .slice none 0 0]) (by simp [results, Try.results47, go_sem]) rfl ?_
   exact ⟨7, t, rfl, .inr HT.out, ((Below.refl _ w).alloc (Nat.le_refl _) _).alloc (by simp) _⟩
 · obtain ⟨i, hi⟩ : ∃ i, n / 16 % 10 = i := ⟨_, rfl⟩
   have hiN : i < 10 := by omega
   obtain ⟨t, ht⟩ : ∃ t, (wordsOf 2)[i]? = some t := ⟨_, List.getElem?_eq_getElem (by simpa [wordsOf] using hiN)⟩
   have HT := Lib.hid (List.mem_of_getElem? ht)
   have hget2 : ∀ h, ((wordsOf 2).map fun t => Value.string ⟨t.toArray⟩)[i]'h = .string ⟨t.toArray⟩ := fun h => by
     simp only [List.getElem_map]
     have h' : i < (wordsOf 2).length := by simpa using h
     rw [List.getElem?_eq_getElem h'] at ht
     injection ht with ht
     rw [ht]
   simp only [wordsOf, List.map_cons, List.map_nil] at hget2
   clear ht
   go_enter Try.func47, Try.ntmps47
   go_wp2_with fail
   refine bodyPost_ret (v := .agg #[.int .i64 2, .string ⟨t.toArray⟩, .slice none 0 0, .slice none 0 0]) (by simp [results, Try.results47, go_sem]) rfl ?_
   exact ⟨2, t, rfl, .inr HT.out, ((Below.refl _ w).alloc (Nat.le_refl _) _).alloc (by simp) _⟩
 · obtain ⟨i, hi⟩ : ∃ i, n / 16 % 10 = i := ⟨_, rfl⟩
   have hiN : i < 10 := by omega
   obtain ⟨t, ht⟩ : ∃ t, (wordsOf 1)[i]? = some t := ⟨_, List.getElem?_eq_getElem (by simpa [wordsOf] using hiN)⟩
   have HT := Lib.hid (List.mem_of_getElem? ht)
   have hget2 : ∀ h, ((wordsOf 1).map fun t => Value.string ⟨t.toArray⟩)[i]'h = .string ⟨t.toArray⟩ := fun h => by
     simp only [List.getElem_map]
     have h' : i < (wordsOf 1).length := by simpa using h
     rw [List.getElem?_eq_getElem h'] at ht
     injection ht with ht
     rw [ht]
   simp only [wordsOf, List.map_cons, List.map_nil] at hget2
   clear ht
   go_enter Try.func47, Try.ntmps47
   go_wp2_with fail
   refine bodyPost_ret (v := .agg #[.int .i64 1, .string ⟨t.toArray⟩, .slice none 0 0, .slice none 0 0]) (by simp [results, Try.results47, go_sem]) rfl ?_
   exact ⟨1, t, rfl, .inr HT.out, ((Below.refl _ w).alloc (Nat.le_refl _) _).alloc (by simp) _⟩
end Go.Proofs.Ytnlkbbpmpgdmiaa
namespace Go.Proofs.Ytnlkbbpmpgdmiaa
open Go.RowKit
set_option linter.unusedVariables false
set_option linter.unusedSimpArgs false
theorem chunk_of {C : UInt8 → Prop} {r : Nat} (hA : Alpha r) (h : ∀ c : UInt8, c.toNat = r → r < 128 → C c) : Chunk C (encN r) := by
 rcases hA with hr | rfl | rfl | rfl
 · have he : encN r = [UInt8.ofNat r] := by unfold encN; rw [if_pos hr]
   rw [he]
   exact .inr ⟨_, h _ (by simp; omega) hr, rfl⟩
 · exact .inl (.inl rfl)
 · exact .inl (.inr (.inl rfl))
 · exact .inl (.inr (.inr rfl))
theorem lit_plain {rs : List Nat} (hA : ∀ r ∈ rs, Alpha r) (h : plainB false rs = true) : LitTxt (Wd rs) (39 :: (Wd rs ++ [39])) := by
 refine ⟨rs.map encN, ?_, rfl, rfl⟩
 induction rs with
 | nil => intro e he; cases he
 | cons r rs ih =>
   simp only [plainB, Bool.and_eq_true, Bool.not_eq_true'] at h
   intro e he
   simp only [List.map_cons, List.mem_cons] at he
   rcases he with rfl | he
   · refine chunk_of (hA r (by simp)) fun c hc hr => ?_
     have h1 := h.1
     simp [badP] at h1
     unfold LitC
     omega
   · exact ih (fun x hx => hA x (by simp [hx])) h.2 e he
theorem mlit_plain : ∀ (n : Nat) (rs : List Nat), rs.length ≤ n → (∀ r ∈ rs, Alpha r) → plainB true rs = true → ∃ es : List (List UInt8), (∀ e ∈ es, MLitE e) ∧ Wd rs = es.flatten
 | _, [], _, _, _ => ⟨[], (by intro e he; cases he), rfl⟩
 | 0, r :: rs, hn, _, _ => by simp at hn
 | n + 1, r :: rs, hn, hA, h => by
   simp only [plainB, Bool.and_eq_true, Bool.not_eq_true'] at h
   obtain ⟨h1, h2⟩ := h
   have good : ∀ {r : Nat} {rs : List Nat}, Alpha r → badP true r rs = false → r ≠ 39 → Chunk MLitC (encN r) := by
     intro r rs hA h1 h39
     refine chunk_of hA fun c hc hr => ?_
     simp [badP] at h1
     unfold MLitC
     omega
   by_cases h39 : r = 39
   · subst h39
     cases rs with
     | nil => simp [badP] at h1
     | cons r2 rs =>
       have hr2 : r2 ≠ 39 := by
         rintro rfl
         simp [badP] at h1
       simp only [plainB, Bool.and_eq_true, Bool.not_eq_true'] at h2
       obtain ⟨es, he, hw⟩ := mlit_plain n rs (by simp at hn; omega) (fun x hx => hA x (by simp [hx])) h2.2
       refine ⟨(39 :: encN r2) :: es, ?_, by rw [Wd.cons, Wd.cons, hw]; rfl⟩
       intro e hm
       rcases List.mem_cons.1 hm with rfl | hm
       · exact .inr ⟨_, good (hA r2 (by simp)) h2.1 hr2, rfl⟩
       · exact he e hm
   · obtain ⟨es, he, hw⟩ := mlit_plain n rs (by simp at hn; omega) (fun x hx => hA x (by simp [hx])) h2
     refine ⟨encN r :: es, ?_, by rw [Wd.cons, hw]; rfl⟩
     intro e hm
     rcases List.mem_cons.1 hm with rfl | hm
     · exact .inl (good (hA r (by simp)) h1 h39)
     · exact he e hm
theorem next_word {wx : World} {B r : Nat} {rs0 dn rs : List Nat} (hA : ∀ r ∈ rs0, Alpha r) (he : rs0 = dn ++ r :: rs) (hit : It wx B ⟨(Wd rs0).toArray⟩ (Wd dn).length) :
   ∀ ty, (Instr.next (.pointer (some ⟨B, 0, none⟩)) true ty).run Try.prog wx = .ok (.tuple #[.bool true, .int .i64 (Wd dn).length, .int .i32 r]) (World.setIt wx B ⟨(Wd rs0).toArray⟩ (Wd (dn ++ [r])).length) := by
 intro ty
 have h1 := encN_len r
 have hsz : (Wd dn).length < ByteArray.size ⟨(Wd rs0).toArray⟩ := by
   rw [ba_size, he, Wd.append, Wd.cons]
   simp
   omega
 have hdec : Utf8.decode ⟨(Wd rs0).toArray⟩ (Wd dn).length = (r, (encN r).length) := by
   rw [he, Wd.append, Wd.cons]
   exact decode_enc (hA r (by rw [he]; simp)) _ _
 rw [run_next_it hit ty hsz, hdec]
 congr 2
 rw [Wd.append]
 simp [Wd]
theorem next_word_end {wx : World} {B : Nat} {rs0 : List Nat} (hit : It wx B ⟨(Wd rs0).toArray⟩ (Wd rs0).length) :
   ∀ ty, (Instr.next (.pointer (some ⟨B, 0, none⟩)) true ty).run Try.prog wx = .ok (.tuple #[.bool false]) wx := fun ty => run_next_it_end hit ty (by rw [ba_size]; omega)
def TxRel (P : Pc → Prop) (m q : Nat) (rs0 : List Nat) (pre : List UInt8) (sb : Nat) (C : Value) (cs : List UInt8) (a0 B : Nat) (w : World) (g : Nat) (sv : Value) (wx : World) : Prop :=
 ∃ (dn rs : List Nat) (ps : List Pc) (a1 : Nat) (L : List UInt8), rs0 = dn ++ rs ∧ g = rs.length ∧ sv = .string ⟨L.toArray⟩ ∧ L = pre ++ srcs ps ∧ (∀ p ∈ ps, P p) ∧ outs ps = Wd dn ∧ (srcs ps).length ≤ m * dn.length ∧ a0 ≤ a1 ∧ a1 ≤ a0 + q * dn.length ∧
   It wx B ⟨(Wd rs0).toArray⟩ (Wd dn).length ∧ Sty wx sb C cs a1 ∧ SF sb w wx
theorem TxRel.start {P : Pc → Prop} {m q : Nat} {rs0 : List Nat} {pre : List UInt8} {sb : Nat} {C : Value} {cs : List UInt8} {a0 : Nat} {w w0 : World} (hst : Sty w0 sb C cs a0) (hf : SF sb w w0) :
   TxRel P m q rs0 pre sb C cs a0 w0.heap.size w rs0.length (.string ⟨pre.toArray⟩) (World.iter w0 ⟨(Wd rs0).toArray⟩ 0) := by
 refine ⟨[], rs0, [], a0, pre, rfl, rfl, rfl, by simp [srcs], (by intro p hp; cases hp), rfl, by simp [srcs], Nat.le_refl _, by simp, It.new _ _ _, hst.alloc _, hf.trans (SF.alloc (Nat.le_of_lt hst.1.lt) _)⟩
theorem srcs_snoc (ps : List Pc) (p : Pc) : srcs (ps ++ [p]) = srcs ps ++ p.src := by simp [srcs]
theorem outs_snoc (ps : List Pc) (p : Pc) : outs (ps ++ [p]) = outs ps ++ p.out := by simp [outs]
def TextOk (rs : List Nat) (s : List UInt8) : Prop := Scal 0 (Wd rs) s ∧ s.length ≤ 10 + 16 * rs.length
theorem str2 (a b : List UInt8) : (⟨a.toArray⟩ : ByteArray) ++ ⟨b.toArray⟩ = ⟨(a ++ b).toArray⟩ := by
 apply ByteArray.ext
 simp [ByteArray.data_append]
theorem TxRel.step {P : Pc → Prop} {m q : Nat} {rs0 dn rs : List Nat} {pre : List UInt8} {sb : Nat} {C : Value} {cs : List UInt8} {a0 B : Nat} {w wx : World} {ps : List Pc} {a1 a2 r : Nat} {L s : List UInt8}
   (he : rs0 = dn ++ r :: rs) (hL : L = pre ++ srcs ps) (hps : ∀ p ∈ ps, P p) (ho : outs ps = Wd dn) (hl : (srcs ps).length ≤ m * dn.length) (h1 : a0 ≤ a1) (h2 : a1 ≤ a0 + q * dn.length)
   (hs : P ⟨s, encN r⟩) (hsl : s.length ≤ m) (h3 : a1 ≤ a2) (h4 : a2 ≤ a1 + q) (hit : It wx B ⟨(Wd rs0).toArray⟩ (Wd (dn ++ [r])).length) (hst : Sty wx sb C cs a2) (hf : SF sb w wx) :
   TxRel P m q rs0 pre sb C cs a0 B w rs.length (.string ⟨(L ++ s).toArray⟩) wx := by
 refine ⟨dn ++ [r], rs, ps ++ [⟨s, encN r⟩], a2, _, by rw [he]; simp, rfl, rfl, by rw [srcs_snoc, hL]; simp, ?_, ?_, ?_, by omega, ?_, hit, hst, hf⟩
 · intro p hp
   rcases List.mem_append.1 hp with hp | hp
   · exact hps p hp
   · rw [List.mem_singleton.1 hp]
     exact hs
 · rw [outs_snoc, ho, Wd.append]
   simp [Wd]
 · rw [srcs_snoc]
   simp [Nat.mul_add]
   omega
 · simp [Nat.mul_add]
   omega
end Go.Proofs.Ytnlkbbpmpgdmiaa
namespace Go.Proofs.Ytnlkbbpmpgdmiaa
open Go.RowKit
set_option linter.unusedVariables false
set_option linter.unusedSimpArgs false
theorem str3 (l : List UInt8) : ((⟨#[39]⟩ : ByteArray) ++ ⟨l.toArray⟩) ++ ⟨#[39]⟩ = ⟨(39 :: (l ++ [39])).toArray⟩ := by
 apply ByteArray.ext
 simp [ByteArray.data_append]
theorem str4 (l : List UInt8) : ((⟨#[39, 39, 39, 10]⟩ : ByteArray) ++ ⟨l.toArray⟩) ++ ⟨#[39, 39, 39]⟩ = ⟨(39 :: 39 :: 39 :: 10 :: (l ++ [39, 39, 39])).toArray⟩ := by
 apply ByteArray.ext
 simp [ByteArray.data_append]
theorem strC (L a b s : List UInt8) : ((⟨L.toArray⟩ : ByteArray) ++ ((((⟨#[92]⟩ : ByteArray) ++ ⟨a.toArray⟩) ++ ⟨#[10]⟩) ++ ⟨b.toArray⟩)) ++ ⟨s.toArray⟩ = ⟨(L ++ (92 :: (a ++ 10 :: (b ++ s)))).toArray⟩ := by
 apply ByteArray.ext
 simp [ByteArray.data_append]
theorem Wd.len (rs : List Nat) : (Wd rs).length ≤ 4 * rs.length := by
 induction rs with
 | nil => simp [Wd]
 | cons r rs ih =>
   have := encN_len r
   rw [Wd.cons]
   simp
   omega
set_option maxRecDepth 100000 in
set_option maxHeartbeats 4000000 in
theorem text_any {w : World} {sb : Nat} {C : Value} {cs : List UInt8} {a : Nat} (h : Sty w sb C cs a) {rs0 : List Nat} (hA : ∀ r ∈ rs0, Alpha r) (hn : rs0.length ≤ 1000000) (ha : a + 5 * rs0.length ≤ 999999900) :
   Calls Try.prog 54 #[.pointer (some ⟨sb, 0, none⟩), .string ⟨(Wd rs0).toArray⟩] w (Told (TextOk rs0) sb C cs a (1 + 5 * rs0.length) w) := by
 have hpv := pickV_lt cs a (n := 6) (by omega)
 have hwl : (Wd rs0).length ≤ 4 * rs0.length := Wd.len rs0
 have hwl2 : (Wd rs0).length ≤ 4000000 := by omega
 have HP := Lib.hid (pick_any h (by omega) 6 (by omega) (by omega))
 have HA := Lib.hid hA
 clear h hA
 obtain ⟨p, hp⟩ : ∃ p, pickV cs a 6 = p := ⟨_, rfl⟩
 rw [hp] at hpv
 have HPE := Lib.hid hp
 clear hp
 go_enter Try.func54, Try.ntmps54
 go_wp2_with fail
 refine HP.out.mono ?_
 rintro e W ⟨rfl, hst, hf⟩
 rw [HPE.out]
 have HST := Lib.hid hst
 have HF := Lib.hid hf
 clear hst hf HP
 by_cases h0 : p = 0
 · subst h0
   rw [show ((0 : Nat) : Int) = 0 from rfl]
   go_wp2_with fail
   refine (plain_any HA.out false (by omega)).mono ?_
   rintro e W1 ⟨rfl, hb⟩
   have hfb := fin_below HST.out hb
   have HST1 := Lib.hid hfb.1
   have HF1 := Lib.hid (HF.out.trans hfb.2)
   clear hfb hb
   cases hpl : plainB false rs0 with
   | true =>
     go_wp2_with fail
     go_ret
     refine ⟨39 :: (Wd rs0 ++ [39]), a + 1, by rw [← str3]; rfl, ⟨.inl ⟨rfl, .inl (lit_plain HA.out hpl)⟩, ?_⟩, by omega, by omega, HST1.out, HF1.out⟩
     simp
     omega
   | false =>
     obtain ⟨B, hB⟩ : ∃ B, W1.heap.size = B := ⟨_, rfl⟩
     have HS0 : Hid (TxRel BasP 10 2 rs0 [34] sb C cs (a + 1) B w rs0.length (.string ⟨#[34]⟩) (World.iter W1 ⟨(Wd rs0).toArray⟩ 0)) := by
       show TxRel _ _ _ _ _ _ _ _ _ _ _ _ _ _
       rw [← hB]
       exact TxRel.start (pre := [34]) HST1.out HF1.out
     go_wp2_with fail
     go_loopg [9] rs0.length (fun g s9 wx => Hid (TxRel BasP 10 2 rs0 [34] sb C cs (a + 1) B w g s9 wx))
     case atStart => exact HS0.out
     case round =>
       obtain ⟨dn, rs, ps, a1, L, he, hgk, rfl, hL, hps, hou, hle, h1, h2, hit, hst, hf⟩ := hrel.out
       clear HS0 hrel
       have hdl : dn.length ≤ rs0.length := by rw [he]; simp
       have hLl : L.length = 1 + (srcs ps).length := by rw [hL]; simp; omega
       have hLm : L.length ≤ 10000001 := by omega
       have HB := Lib.hid hB
       have HH := Lib.hid (And.intro he (And.intro hL (And.intro hps (And.intro hou (And.intro hle (And.intro h1 h2))))))
       have ha1 : a1 ≤ 999999980 := by omega
       cases rs with
       | nil =>
         have hde : dn = rs0 := by rw [he]; simp
         rw [hde] at hit
         have hnx := next_word_end hit
         have HST1 := Lib.hid hst
         have HF1 := Lib.hid hf
         clear hit hst hf hps hou he hL
         go_wp2_with fail
         go_ret
         obtain ⟨he, hL, hps, hou, hle, h1, h2⟩ := HH.out
         refine ⟨L ++ [34], a1, by rw [← str2]; rfl, ⟨.inl ⟨rfl, .inr (.inl ⟨ps, hps, by rw [hou, hde], by rw [hL]; simp⟩)⟩, ?_⟩, by omega, by omega, HST1.out, HF1.out⟩
         simp
         omega
       | cons r rs =>
         have hnx := next_word HA.out he hit
         have hBs : sb < B := by rw [← HB.out]; exact HST1.out.1.lt
         have HIT1 := Lib.hid (hit.setIt (Wd (dn ++ [r])).length)
         have hr : Alpha r := HA.out r (by rw [he]; simp)
         have hdl2 : dn.length + 1 ≤ rs0.length := by rw [he]; simp
         have HST1 := Lib.hid (hst.setIt hBs ⟨(Wd rs0).toArray⟩ (Wd (dn ++ [r])).length)
         have HF1 := Lib.hid (setIt_SF (B := 0) (s := ⟨(Wd rs0).toArray⟩) (pos := (Wd (dn ++ [r])).length) hf hBs (by rw [← HB.out]; exact HF1.out.1.size))
         clear hit hst hf hps hou he hL
         go_wp2_with fail
         refine (escaped_any HST1.out (by omega) hr false).mono ?_
         rintro e w1 ⟨s, a2, rfl, hok, h3, h4, hst2, hf2⟩
         have hsl := hok.1
         have HOK := Lib.hid (hok.2.1 rfl)
         have HST2 := Lib.hid hst2
         have HF2 := Lib.hid (HF1.out.trans hf2)
         have HIT2 := Lib.hid (HIT1.out.keep hf2 (Nat.ne_of_gt hBs))
         have hsum : ¬ (9223372036854775807 < L.length + s.length) := by omega
         clear hok hst2 hf2
         go_wp2_with fail
         go_roundg rs.length
         case measure => rw [hgk]; simp
         case rel =>
           obtain ⟨he, hL, hps, hou, hle, h1, h2⟩ := HH.out
           rw [str2]
           exact TxRel.step he hL hps hou hle h1 h2 HOK.out hsl h3 h4 HIT2.out HST2.out HF2.out
 · by_cases h1 : p = 1
   · subst h1
     rw [show ((1 : Nat) : Int) = 1 from rfl]
     go_wp2_with fail
     refine (plain_any HA.out true (by omega)).mono ?_
     rintro e W1 ⟨rfl, hb⟩
     have hfb := fin_below HST.out hb
     have HST1 := Lib.hid hfb.1
     have HF1 := Lib.hid (HF.out.trans hfb.2)
     clear hfb hb
     cases hpl : plainB true rs0 with
     | true =>
       go_wp2_with fail
       go_ret
       refine ⟨39 :: 39 :: 39 :: 10 :: (Wd rs0 ++ [39, 39, 39]), a + 1, by rw [← str4]; rfl, ⟨.inl ⟨rfl, .inr (.inr (.inl ?_))⟩, ?_⟩, by omega, by omega, HST1.out, HF1.out⟩
       · obtain ⟨es, he, hw⟩ := mlit_plain _ rs0 (Nat.le_refl _) HA.out hpl
         exact ⟨es, he, hw, by rw [hw]⟩
       · simp
         omega
     | false =>
       obtain ⟨B, hB⟩ : ∃ B, W1.heap.size = B := ⟨_, rfl⟩
       have HS0 : Hid (TxRel BasP 10 2 rs0 [34] sb C cs (a + 1) B w rs0.length (.string ⟨#[34]⟩) (World.iter W1 ⟨(Wd rs0).toArray⟩ 0)) := by
         show TxRel _ _ _ _ _ _ _ _ _ _ _ _ _ _
         rw [← hB]
         exact TxRel.start (pre := [34]) HST1.out HF1.out
       go_wp2_with fail
       go_loopg [9] rs0.length (fun g s9 wx => Hid (TxRel BasP 10 2 rs0 [34] sb C cs (a + 1) B w g s9 wx))
       case atStart => exact HS0.out
       case round =>
         obtain ⟨dn, rs, ps, a1, L, he, hgk, rfl, hL, hps, hou, hle, h1, h2, hit, hst, hf⟩ := hrel.out
         clear HS0 hrel
         have hdl : dn.length ≤ rs0.length := by rw [he]; simp
         have hLl : L.length = 1 + (srcs ps).length := by rw [hL]; simp; omega
         have hLm : L.length ≤ 10000001 := by omega
         have HB := Lib.hid hB
         have HH := Lib.hid (And.intro he (And.intro hL (And.intro hps (And.intro hou (And.intro hle (And.intro h1 h2))))))
         have ha1 : a1 ≤ 999999980 := by omega
         cases rs with
         | nil =>
           have hde : dn = rs0 := by rw [he]; simp
           rw [hde] at hit
           have hnx := next_word_end hit
           have HST1 := Lib.hid hst
           have HF1 := Lib.hid hf
           clear hit hst hf hps hou he hL
           go_wp2_with fail
           go_ret
           obtain ⟨he, hL, hps, hou, hle, h1, h2⟩ := HH.out
           refine ⟨L ++ [34], a1, by rw [← str2]; rfl, ⟨.inl ⟨rfl, .inr (.inl ⟨ps, hps, by rw [hou, hde], by rw [hL]; simp⟩)⟩, ?_⟩, by omega, by omega, HST1.out, HF1.out⟩
           simp
           omega
         | cons r rs =>
           have hnx := next_word HA.out he hit
           have hBs : sb < B := by rw [← HB.out]; exact HST1.out.1.lt
           have HIT1 := Lib.hid (hit.setIt (Wd (dn ++ [r])).length)
           have hr : Alpha r := HA.out r (by rw [he]; simp)
           have hdl2 : dn.length + 1 ≤ rs0.length := by rw [he]; simp
           have HST1 := Lib.hid (hst.setIt hBs ⟨(Wd rs0).toArray⟩ (Wd (dn ++ [r])).length)
           have HF1 := Lib.hid (setIt_SF (B := 0) (s := ⟨(Wd rs0).toArray⟩) (pos := (Wd (dn ++ [r])).length) hf hBs (by rw [← HB.out]; exact HF1.out.1.size))
           clear hit hst hf hps hou he hL
           go_wp2_with fail
           refine (escaped_any HST1.out (by omega) hr false).mono ?_
           rintro e w1 ⟨s, a2, rfl, hok, h3, h4, hst2, hf2⟩
           have hsl := hok.1
           have HOK := Lib.hid (hok.2.1 rfl)
           have HST2 := Lib.hid hst2
           have HF2 := Lib.hid (HF1.out.trans hf2)
           have HIT2 := Lib.hid (HIT1.out.keep hf2 (Nat.ne_of_gt hBs))
           have hsum : ¬ (9223372036854775807 < L.length + s.length) := by omega
           clear hok hst2 hf2
           go_wp2_with fail
           go_roundg rs.length
           case measure => rw [hgk]; simp
           case rel =>
             obtain ⟨he, hL, hps, hou, hle, h1, h2⟩ := HH.out
             rw [str2]
             exact TxRel.step he hL hps hou hle h1 h2 HOK.out hsl h3 h4 HIT2.out HST2.out HF2.out
   · by_cases h2 : p = 2
     · subst h2
       rw [show ((2 : Nat) : Int) = 2 from rfl]
       obtain ⟨B, hB⟩ : ∃ B, W.heap.size = B := ⟨_, rfl⟩
       have HS0 : Hid (TxRel MBasP 16 5 rs0 [34, 34, 34, 10] sb C cs (a + 1) B w rs0.length (.string ⟨#[34, 34, 34, 10]⟩) (World.iter W ⟨(Wd rs0).toArray⟩ 0)) := by
         show TxRel _ _ _ _ _ _ _ _ _ _ _ _ _ _
         rw [← hB]
         exact TxRel.start (pre := [34, 34, 34, 10]) HST.out HF.out
       go_wp2_with fail
       go_loopg [6] rs0.length (fun g s6 wx => Hid (TxRel MBasP 16 5 rs0 [34, 34, 34, 10] sb C cs (a + 1) B w g s6 wx))
       case atStart => exact HS0.out
       case round =>
         obtain ⟨dn, rs, ps, a1, L, he, hgk, rfl, hL, hps, hou, hle, h1, h2, hit, hst, hf⟩ := hrel.out
         clear HS0 hrel
         have hdl : dn.length ≤ rs0.length := by rw [he]; simp
         have hLl : L.length = 4 + (srcs ps).length := by rw [hL]; simp; omega
         have hLm : L.length ≤ 16000004 := by omega
         have HB := Lib.hid hB
         have HH := Lib.hid (And.intro he (And.intro hL (And.intro hps (And.intro hou (And.intro hle (And.intro h1 h2))))))
         cases rs with
         | nil =>
           have hde : dn = rs0 := by rw [he]; simp
           rw [hde] at hit
           have hnx := next_word_end hit
           have HST1 := Lib.hid hst
           have HF1 := Lib.hid hf
           clear hit hst hf hps hou he hL
           go_wp2_with fail
           go_ret
           obtain ⟨he, hL, hps, hou, hle, h1, h2⟩ := HH.out
           refine ⟨L ++ [34, 34, 34], a1, by rw [← str2]; rfl, ⟨.inl ⟨rfl, .inr (.inr (.inr ⟨ps, hps, by rw [hou, hde], by rw [hL]; simp⟩))⟩, ?_⟩, by omega, ?_, HST1.out, HF1.out⟩
           · simp
             omega
           · rw [hde] at h2
             omega
         | cons r rs =>
           have hnx := next_word HA.out he hit
           have hBs : sb < B := by rw [← HB.out]; exact HST.out.1.lt
           have HIT1 := Lib.hid (hit.setIt (Wd (dn ++ [r])).length)
           have hr : Alpha r := HA.out r (by rw [he]; simp)
           have hdl2 : dn.length + 1 ≤ rs0.length := by rw [he]; simp
           have HST1 := Lib.hid (hst.setIt hBs ⟨(Wd rs0).toArray⟩ (Wd (dn ++ [r])).length)
           have HF1 := Lib.hid (setIt_SF (B := 0) (s := ⟨(Wd rs0).toArray⟩) (pos := (Wd (dn ++ [r])).length) hf hBs (by rw [← HB.out]; exact HF.out.1.size))
           clear hit hst hf hps hou he hL
           have ha1 : a1 ≤ 999999910 := by omega
           have hpv7 := pickV_lt cs a1 (n := 7) (by omega)
           go_wp2_with fail
           refine (pick_any HST1.out (by omega) 7 (by omega) (by omega)).mono ?_
           rintro e w1 ⟨rfl, hst2, hf2⟩
           have HST2 := Lib.hid hst2
           have HF2 := Lib.hid (HF1.out.trans hf2)
           have HIT2 := Lib.hid (HIT1.out.keep hf2 (Nat.ne_of_gt hBs))
           clear hst2 hf2
           generalize pickV cs a1 7 = p at *
           by_cases hp : p = 0
           · subst hp
             go_wp2_with fail
             refine (blanks_any HST2.out (by omega)).mono ?_
             rintro e w2 ⟨b1, rfl, hb1, hst3, hf3⟩
             have HST3 := Lib.hid hst3
             have HF3 := Lib.hid (HF2.out.trans hf3)
             have HIT3 := Lib.hid (HIT2.out.keep hf3 (Nat.ne_of_gt hBs))
             have hb1l := hb1.2
             have HB1 := Lib.hid hb1.1
             clear hst3 hf3 hb1
             go_wp2_with fail
             refine (blanks_any HST3.out (by omega)).mono ?_
             rintro e w3 ⟨b2, rfl, hb2, hst4, hf4⟩
             have HST4 := Lib.hid hst4
             have HF4 := Lib.hid (HF3.out.trans hf4)
             have HIT4 := Lib.hid (HIT3.out.keep hf4 (Nat.ne_of_gt hBs))
             have hb2l := hb2.2
             have HB2 := Lib.hid hb2.1
             clear hst4 hf4 hb2
             by_cases hw : r = 32
             · subst hw
               have hl4 : (hexT 32 4).length = 4 := hexT_len _ _
               go_wp2_with fail
               refine (hex_any (v := 32) (n := 4) (by omega) (by omega)).mono ?_
               rintro e w4 ⟨rfl, hb⟩
               have hfb := fin_below HST4.out hb
               have HST5 := Lib.hid hfb.1
               have HF5 := Lib.hid (HF4.out.trans hfb.2)
               have HIT5 := Lib.hid (HIT4.out.below hb)
               clear hfb hb
               go_wp2_with fail
               go_roundg rs.length
               case measure => rw [hgk]; simp
               case rel =>
                 obtain ⟨he, hL, hps, hou, hle, h1, h2⟩ := HH.out
                 rw [strU, strC]
                 refine TxRel.step (a2 := a1 + 1 + 1 + 1) he hL hps hou hle h1 h2 (.inr ⟨b1, b2, ⟨92 :: 117 :: hexT 32 4, encN 32⟩, HB1.out, HB2.out, ?_, ?_, rfl, rfl⟩) ?_ (by omega) (by omega) HIT5.out HST5.out HF5.out
                 · exact ((EscOk.u4 (long := true) hr (by omega)).2.2 rfl).1
                 · intro c t e
                   injection e with e1 e2
                   subst e1
                   decide
                 · simp [hexT_len]
                   omega
             · by_cases hw9 : r = 9
               · subst hw9
                 have hl4 : (hexT 9 4).length = 4 := hexT_len _ _
                 go_wp2_with fail
                 refine (hex_any (v := 9) (n := 4) (by omega) (by omega)).mono ?_
                 rintro e w4 ⟨rfl, hb⟩
                 have hfb := fin_below HST4.out hb
                 have HST5 := Lib.hid hfb.1
                 have HF5 := Lib.hid (HF4.out.trans hfb.2)
                 have HIT5 := Lib.hid (HIT4.out.below hb)
                 clear hfb hb
                 go_wp2_with fail
                 go_roundg rs.length
                 case measure => rw [hgk]; simp
                 case rel =>
                   obtain ⟨he, hL, hps, hou, hle, h1, h2⟩ := HH.out
                   rw [strU, strC]
                   refine TxRel.step (a2 := a1 + 1 + 1 + 1) he hL hps hou hle h1 h2 (.inr ⟨b1, b2, ⟨92 :: 117 :: hexT 9 4, encN 9⟩, HB1.out, HB2.out, ?_, ?_, rfl, rfl⟩) ?_ (by omega) (by omega) HIT5.out HST5.out HF5.out
                   · exact ((EscOk.u4 (long := true) hr (by omega)).2.2 rfl).1
                   · intro c t e
                     injection e with e1 e2
                     subst e1
                     decide
                   · simp [hexT_len]
                     omega
               · by_cases hw10 : r = 10
                 · subst hw10
                   have hl4 : (hexT 10 4).length = 4 := hexT_len _ _
                   go_wp2_with fail
                   refine (hex_any (v := 10) (n := 4) (by omega) (by omega)).mono ?_
                   rintro e w4 ⟨rfl, hb⟩
                   have hfb := fin_below HST4.out hb
                   have HST5 := Lib.hid hfb.1
                   have HF5 := Lib.hid (HF4.out.trans hfb.2)
                   have HIT5 := Lib.hid (HIT4.out.below hb)
                   clear hfb hb
                   go_wp2_with fail
                   go_roundg rs.length
                   case measure => rw [hgk]; simp
                   case rel =>
                     obtain ⟨he, hL, hps, hou, hle, h1, h2⟩ := HH.out
                     rw [strU, strC]
                     refine TxRel.step (a2 := a1 + 1 + 1 + 1) he hL hps hou hle h1 h2 (.inr ⟨b1, b2, ⟨92 :: 117 :: hexT 10 4, encN 10⟩, HB1.out, HB2.out, ?_, ?_, rfl, rfl⟩) ?_ (by omega) (by omega) HIT5.out HST5.out HF5.out
                     · exact ((EscOk.u4 (long := true) hr (by omega)).2.2 rfl).1
                     · intro c t e
                       injection e with e1 e2
                       subst e1
                       decide
                     · simp [hexT_len]
                       omega
                 · have f32 : ((r : Int) == 32) = false := by simp; omega
                   have f9 : ((r : Int) == 9) = false := by simp; omega
                   have f10 : ((r : Int) == 10) = false := by simp; omega
                   have f32' : ¬ ((r : Int) = 32) := by omega
                   have f9' : ¬ ((r : Int) = 9) := by omega
                   have f10' : ¬ ((r : Int) = 10) := by omega
                   go_wp2_with fail
                   refine (escaped_any HST4.out (by omega) hr true).mono ?_
                   rintro e w5 ⟨s, a2, rfl, hok, h3, h4, hst5, hf5⟩
                   have hsl := hok.1
                   have HOK := Lib.hid (hok.2.2 rfl)
                   have HST5 := Lib.hid hst5
                   have HF5 := Lib.hid (HF4.out.trans hf5)
                   have HIT5 := Lib.hid (HIT4.out.keep hf5 (Nat.ne_of_gt hBs))
                   clear hok hst5 hf5
                   go_wp2_with fail
                   go_roundg rs.length
                   case measure => rw [hgk]; simp
                   case rel =>
                     obtain ⟨he, hL, hps, hou, hle, h1, h2⟩ := HH.out
                     rw [strC]
                     refine TxRel.step (a2 := a2) he hL hps hou hle h1 h2 (.inr ⟨b1, b2, ⟨s, encN r⟩, HB1.out, HB2.out, HOK.out.1, fun c t e => HOK.out.2 hw hw9 hw10 c t e, rfl, rfl⟩) ?_ (by omega) (by omega) HIT5.out HST5.out HF5.out
                     simp
                     omega
           · have fp : ((p : Int) == 0) = false := by simp; omega
             have fp' : ¬ ((p : Int) = 0) := by omega
             go_wp2_with fail
             refine (escaped_any HST2.out (by omega) hr true).mono ?_
             rintro e w2 ⟨s, a2, rfl, hok, h3, h4, hst3, hf3⟩
             have hsl := hok.1
             have HOK := Lib.hid (hok.2.2 rfl).1
             have HST3 := Lib.hid hst3
             have HF3 := Lib.hid (HF2.out.trans hf3)
             have HIT3 := Lib.hid (HIT2.out.keep hf3 (Nat.ne_of_gt hBs))
             have hsum : ¬ (9223372036854775807 < L.length + s.length) := by omega
             clear hok hst3 hf3
             go_wp2_with fail
             go_roundg rs.length
             case measure => rw [hgk]; simp
             case rel =>
               obtain ⟨he, hL, hps, hou, hle, h1, h2⟩ := HH.out
               rw [str2]
               exact TxRel.step he hL hps hou hle h1 h2 (.inl HOK.out) (by omega) (by omega) (by omega) HIT3.out HST3.out HF3.out
     · have f0 : ((p : Int) == 0) = false := by simp; omega
       have f1 : ((p : Int) == 1) = false := by simp; omega
       have f2 : ((p : Int) == 2) = false := by simp; omega
       have f0' : ¬ ((p : Int) = 0) := by omega
       have f1' : ¬ ((p : Int) = 1) := by omega
       have f2' : ¬ ((p : Int) = 2) := by omega
       obtain ⟨B, hB⟩ : ∃ B, W.heap.size = B := ⟨_, rfl⟩
       have HS0 : Hid (TxRel BasP 10 2 rs0 [34] sb C cs (a + 1) B w rs0.length (.string ⟨#[34]⟩) (World.iter W ⟨(Wd rs0).toArray⟩ 0)) := by
         show TxRel _ _ _ _ _ _ _ _ _ _ _ _ _ _
         rw [← hB]
         exact TxRel.start (pre := [34]) HST.out HF.out
       go_wp2_with fail
       go_loopg [9] rs0.length (fun g s9 wx => Hid (TxRel BasP 10 2 rs0 [34] sb C cs (a + 1) B w g s9 wx))
       case atStart => exact HS0.out
       case round =>
         obtain ⟨dn, rs, ps, a1, L, he, hgk, rfl, hL, hps, hou, hle, h1, h2, hit, hst, hf⟩ := hrel.out
         clear HS0 hrel
         have hdl : dn.length ≤ rs0.length := by rw [he]; simp
         have hLl : L.length = 1 + (srcs ps).length := by rw [hL]; simp; omega
         have hLm : L.length ≤ 10000001 := by omega
         have HB := Lib.hid hB
         have HH := Lib.hid (And.intro he (And.intro hL (And.intro hps (And.intro hou (And.intro hle (And.intro h1 h2))))))
         have ha1 : a1 ≤ 999999980 := by omega
         cases rs with
         | nil =>
           have hde : dn = rs0 := by rw [he]; simp
           rw [hde] at hit
           have hnx := next_word_end hit
           have HST1 := Lib.hid hst
           have HF1 := Lib.hid hf
           clear hit hst hf hps hou he hL
           go_wp2_with fail
           go_ret
           obtain ⟨he, hL, hps, hou, hle, h1, h2⟩ := HH.out
           refine ⟨L ++ [34], a1, by rw [← str2]; rfl, ⟨.inl ⟨rfl, .inr (.inl ⟨ps, hps, by rw [hou, hde], by rw [hL]; simp⟩)⟩, ?_⟩, by omega, by omega, HST1.out, HF1.out⟩
           simp
           omega
         | cons r rs =>
           have hnx := next_word HA.out he hit
           have hBs : sb < B := by rw [← HB.out]; exact HST.out.1.lt
           have HIT1 := Lib.hid (hit.setIt (Wd (dn ++ [r])).length)
           have hr : Alpha r := HA.out r (by rw [he]; simp)
           have hdl2 : dn.length + 1 ≤ rs0.length := by rw [he]; simp
           have HST1 := Lib.hid (hst.setIt hBs ⟨(Wd rs0).toArray⟩ (Wd (dn ++ [r])).length)
           have HF1 := Lib.hid (setIt_SF (B := 0) (s := ⟨(Wd rs0).toArray⟩) (pos := (Wd (dn ++ [r])).length) hf hBs (by rw [← HB.out]; exact HF.out.1.size))
           clear hit hst hf hps hou he hL
           go_wp2_with fail
           refine (escaped_any HST1.out (by omega) hr false).mono ?_
           rintro e w1 ⟨s, a2, rfl, hok, h3, h4, hst2, hf2⟩
           have hsl := hok.1
           have HOK := Lib.hid (hok.2.1 rfl)
           have HST2 := Lib.hid hst2
           have HF2 := Lib.hid (HF1.out.trans hf2)
           have HIT2 := Lib.hid (HIT1.out.keep hf2 (Nat.ne_of_gt hBs))
           have hsum : ¬ (9223372036854775807 < L.length + s.length) := by omega
           clear hok hst2 hf2
           go_wp2_with fail
           go_roundg rs.length
           case measure => rw [hgk]; simp
           case rel =>
             obtain ⟨he, hL, hps, hou, hle, h1, h2⟩ := HH.out
             rw [str2]
             exact TxRel.step he hL hps hou hle h1 h2 HOK.out hsl h3 h4 HIT2.out HST2.out HF2.out
end Go.Proofs.Ytnlkbbpmpgdmiaa
