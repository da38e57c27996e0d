/- quoteOrBackslash, findMultilineBasicStringEnd; A loop in a great frame: the slots that no round needs stand behind one function; parseMultilineBasicStringEscaped. -/
import Derived.Test.YtnlkbbpmpgdmiaaXAE
import Derived.Test.YtnlkbbpmpgdmiaaXAA
import Derived.Deep.LoopGhost
import Derived.Deep.CutRange
namespace Go.Proofs.Ytnlkbbpmpgdmiaa
open Go.RowKit
set_option linter.unusedVariables false
set_option linter.unusedSimpArgs false
def QIs (l : List UInt8) (w : World) (e : Ending) (w' : World) : Prop := ∃ r : Int, (r = -1 ∨ ∃ k : Nat, r = k ∧ k < l.length ∧ ((l.getD k 0).toNat = 34 ∨ (l.getD k 0).toNat = 92)) ∧ e = .returned (.int .i64 r) ∧ w = w'
set_option maxRecDepth 100000 in
theorem quoteOr_any (l : List UInt8) (b off cap : Nat) (a : Addr) (w : World) (hm : Bts w b off l) (hc : l.length ≤ cap) (hcb : l.length ≤ 140737488351232 ∧ cap ≤ 9223372036854775807) (ha : 0 < l.length → a = ⟨b, off, none⟩) :
   Calls Try.prog 100 #[.slice (some a) l.length cap] w (QIs l w) := by
 have HM := Lib.hid hm
 have HA := Lib.hid ha
 clear hm ha
 generalize hn : l.length = n at *
 have HN := Lib.hid hn
 clear hn
 go_enter Try.func100, Try.ntmps100
 go_wp2_with fail
 go_loopg [7] n (fun g s7 wx => ∃ k : Nat, s7 = .int .i64 k ∧ k + g = n ∧ wx = w)
 case atStart => exact ⟨0, rfl, by omega, rfl⟩
 case round =>
   obtain ⟨k, rfl, hk, rfl⟩ := hrel
   cases gk with
   | zero =>
     have hkn : ¬ ((k : Int) < n) := by omega
     go_wp2_with fail
     go_ret
     exact ⟨-1, .inl rfl, rfl, rfl⟩
   | succ g =>
     have hkn : k < n := by omega
     have ha := HA.out (by omega)
     subst ha
     have hcell := HM.out k (by rw [HN.out]; exact hkn)
     have HX : Hid (∀ y : Nat, ((l.getD k 0).toNat : Int) = y → (l.getD k 0).toNat = y) := fun y hy => by omega
     have HR : Hid (((l.getD k 0).toNat = 34 ∨ (l.getD k 0).toNat = 92) → QIs l wr (.returned (.int .i64 k)) wr) := fun h => ⟨k, .inr ⟨k, rfl, by rw [HN.out]; exact hkn, h⟩, rfl, rfl⟩
     generalize ((l.getD k 0).toNat : Int) = x at *
     by_cases h34 : x = 34
     · subst h34
       go_wp2_with fail
       go_ret
       exact HR.out (.inl (HX.out 34 rfl))
     · have e34 : (x == 34) = false := by simp; exact h34
       by_cases h92 : x = 92
       · subst h92
         go_wp2_with fail
         go_ret
         exact HR.out (.inr (HX.out 92 rfl))
       · have e92 : (x == 92) = false := by simp; exact h92
         clear h34 h92
         go_wp2_with fail
         go_roundg g
         case measure => omega
         case rel => exact ⟨k + 1, by go_num, by omega, rfl⟩
theorem quoteOr_at (m : Nat) {l : List UInt8} {b off cap : Nat} {a : Addr} {w : World} (hm' : m = l.length) (hm : Bts w b off l) (hc : m ≤ cap) (hcb : m ≤ 140737488351232 ∧ cap ≤ 9223372036854775807) (ha : 0 < m → a = ⟨b, off, none⟩) :
   Calls Try.prog 100 #[.slice (some a) m cap] w (QIs l w) := by
 subst hm'
 exact quoteOr_any l b off cap a w hm hc hcb ha
def FoundM (i n : Nat) (w : World) (e : Ending) (w' : World) : Prop := ∃ r : Int, (r = -1 ∨ ((i : Int) ≤ r ∧ r ≤ n)) ∧ e = .returned (.int .i64 r) ∧ w = w'
set_option maxRecDepth 100000 in
set_option maxHeartbeats 2000000 in
theorem findMul_any (n : Nat) {l : List UInt8} {b off cap i : Nat} {w : World} (hn : n = l.length) (hm : Bts w b off l) (hc : n ≤ cap) (hcb : n ≤ 140737488351232 ∧ cap ≤ 9223372036854775807) (hi : i ≤ n) :
   Calls Try.prog 92 #[.slice (some ⟨b, off, none⟩) n cap, .int .i64 i] w (FoundM i n w) := by
 have HM := Lib.hid hm
 have HN := Lib.hid hn.symm
 clear hm hn
 go_enter Try.func92, Try.ntmps92
 go_wp2_with fail
 go_loopg [1, 5] (n - i) (fun g s1 s5 wx => ∃ k : Nat, s1 = .int .i64 k ∧ i ≤ k ∧ k ≤ n ∧ g = n - k ∧ wx = w)
 case atStart => exact ⟨i, rfl, Nat.le_refl _, hi, rfl, rfl⟩
 case round =>
   obtain ⟨k, rfl, hik, hkn, rfl, rfl⟩ := hrel
   by_cases hcap : cap = k
   · go_wp2_with fail
     refine (quoteOr_at (l := l.drop k) (b := b) (off := off + k) _ (by rw [List.length_drop, HN.out]) (HM.out.drop k (by rw [HN.out]; exact hkn)) (by omega) (by omega) (fun h => by omega)).mono ?_
     rintro e w1 ⟨r, hr, rfl, rfl⟩
     rcases hr with rfl | ⟨j, rfl, hj, hjx⟩
     · go_wp2_with fail
       go_ret
       exact ⟨-1, .inl rfl, rfl, rfl⟩
     · exfalso
       have := HN.out
       simp only [List.length_drop] at hj
       omega
   · go_wp2_with fail
     refine (quoteOr_at (l := l.drop k) (b := b) (off := off + k) _ (by rw [List.length_drop, HN.out]) (HM.out.drop k (by rw [HN.out]; exact hkn)) (by omega) (by omega) (fun h => rfl)).mono ?_
     rintro e w1 ⟨r, hr, rfl, rfl⟩
     rcases hr with rfl | ⟨j, rfl, hj, hjx⟩
     · go_wp2_with fail
       go_ret
       exact ⟨-1, .inl rfl, rfl, rfl⟩
     · have hjn : k + j < n := by have := HN.out; simp only [List.length_drop] at hj; omega
       have hcell := HM.out (k + j) (by rw [HN.out]; exact hjn)
       have hgd : (l.drop k).getD j 0 = l.getD (k + j) 0 := by rw [List.getD_eq_getElem?_getD, List.getD_eq_getElem?_getD, List.getElem?_drop]
       rw [hgd] at hjx
       have hjx' : ((l.getD (k + j) 0).toNat : Int) = 34 ∨ ((l.getD (k + j) 0).toNat : Int) = 92 := by omega
       clear hjx hgd hj
       generalize ((l.getD (k + j) 0).toNat : Int) = x at *
       rcases hjx' with rfl | rfl
       · have hz : (0 : Int) ≤ (j : Int) := by omega
         have tb : decide ((j : Int) < 0) = false := by simp
         go_wp2_with fail
         go_loopg [5] (n - (k + j)) (fun g s5 wx => ∃ t : Nat, s5 = .int .i64 t ∧ k + j ≤ t ∧ t ≤ n ∧ t + g = n ∧ wx = wr)
         case atStart => exact ⟨k + j, by go_num, Nat.le_refl _, by omega, by omega, rfl⟩
         case round =>
           obtain ⟨t, rfl, ht1, ht2, hg, rfl⟩ := hrel
           by_cases htn : t < n
           · have hct := HM.out t (by rw [HN.out]; exact htn)
             have h34k : t = k + j → ((l.getD t 0).toNat : Int) = 34 := fun e => by
               subst e
               have h := hct
               rw [hcell] at h
               injection h with h
               injection h with h1 h2
               exact h2.symm
             have HT : Hid (t = k + j → ((l.getD t 0).toNat : Int) = 34) := h34k
             clear h34k
             generalize ((l.getD t 0).toNat : Int) = y at *
             by_cases hy : y = 34
             · subst hy
               clear HT
               go_wp2_with fail
               go_roundg (n - (t + 1))
               case measure => omega
               case rel => exact ⟨t + 1, by go_num, by omega, by omega, by omega, rfl⟩
             · have htk : k + j < t := by
                 rcases Nat.lt_or_ge (k + j) t with h | h
                 · exact h
                 · exact absurd (HT.out (by omega)) hy
               have ey : (y == 34) = false := by simp; exact hy
               clear HT hy
               by_cases h3 : 3 ≤ t - (k + j)
               · go_wp2_with fail
                 go_ret
                 exact ⟨_, .inr ⟨by omega, by omega⟩, rfl, rfl⟩
               · go_wp2_with fail
                 go_roundg (n - t)
                 case measure => omega
                 case rel => exact ⟨t, rfl, by omega, by omega, rfl, rfl⟩
           · have htk : k + j < t := by omega
             by_cases h3 : 3 ≤ t - (k + j)
             · go_wp2_with fail
               go_ret
               exact ⟨_, .inr ⟨by omega, by omega⟩, rfl, rfl⟩
             · go_wp2_with fail
               go_roundg (n - t)
               case measure => omega
               case rel => exact ⟨t, rfl, by omega, by omega, rfl, rfl⟩
       · by_cases h2 : k + j + 2 ≤ n
         · go_wp2_with fail
           go_roundg (n - (k + j + 2))
           case measure => omega
           case rel => exact ⟨k + j + 2, by go_num, by omega, by omega, rfl, rfl⟩
         · go_wp2_with fail
           go_ret
           exact ⟨-1, .inl rfl, rfl, rfl⟩
end Go.Proofs.Ytnlkbbpmpgdmiaa
namespace Go.Proofs.Ytnlkbbpmpgdmiaa
open Go.RowKit
set_option linter.unusedVariables false
set_option linter.unusedSimpArgs false
theorem array_range (A : Array Value) (N : Nat) (h : A.size = N) : ((List.range N).map fun i => A.getD i undef).toArray = A := by
 subst h
 apply Array.ext
 · simp
 · intro i h1 h2
   simp [Array.getD, h2]
def FrKn (N : Nat) (Kn : (Nat → Value) → Prop) (a : Act) : Prop := a.tmps.size = N ∧ a.defers = [] ∧ Kn (fun i => a.tmps.getD i undef)
theorem frKn_eq {N : Nat} {Kn : (Nat → Value) → Prop} {a : Act} (h : FrKn N Kn a) : a = ⟨((List.range N).map fun i => a.tmps.getD i undef).toArray, []⟩ := by
 obtain ⟨h1, h2, _⟩ := h
 rw [array_range a.tmps N h1]
 cases a
 simp only at h2
 subst h2
 rfl
theorem wp_loop_u2 {P : Program} {Q : Exit → Act → World → Prop} {c : Code} (N i j : Nat) (Kn : (Nat → Value) → Prop) (F : Value → Value → (Nat → Value) → Act) (hF : ∀ U, Kn U → (⟨((List.range N).map U).toArray, []⟩ : Act) = F (U i) (U j) U)
   (I : Nat → Value → Value → World → Prop) (n₀ : Nat) (s₀ t₀ : Value) {a : Act} {w : World} (ha : FrKn N Kn a) (hs : a.tmps.getD i undef = s₀) (ht : a.tmps.getD j undef = t₀) (h₀ : I n₀ s₀ t₀ w)
   (round : ∀ (n : Nat) (s t : Value) (U : Nat → Value) (w : World), I n s t w → ∀ (J : Nat → Act → World → Prop) (K : Act → World → Prop), (∀ k a' w', FrKn N Kn a' → I k (a'.tmps.getD i undef) (a'.tmps.getD j undef) w' → J k a' w') → (∀ a' w', Handed J n a' w' → K a' w') → c.wp P (Exit.then K Q) (F s t U) w) : (Code.loop c).wp P Q a w := by
 refine wp_loop_ghost_k (fun n a w => FrKn N Kn a ∧ I n (a.tmps.getD i undef) (a.tmps.getD j undef) w) n₀ ⟨ha, by rw [hs, ht]; exact h₀⟩ ?_
 rintro n a w ⟨hk, h⟩ J K hJ hK
 rw [frKn_eq hk, hF _ hk.2.2]
 exact round n _ _ _ w h J K (fun k a' w' h1 h2 => hJ k a' w' ⟨h1, h2⟩) hK
theorem Handed.u2 {J : Nat → Act → World → Prop} {n N i j : Nat} {a : Act} {w : World} {Kn : (Nat → Value) → Prop} {I : Nat → Value → Value → World → Prop} (hJ : ∀ k a' w', FrKn N Kn a' → I k (a'.tmps.getD i undef) (a'.tmps.getD j undef) w' → J k a' w') (k : Nat) (s t : Value) (ha : FrKn N Kn a) (hs : a.tmps.getD i undef = s) (ht : a.tmps.getD j undef = t) (h1 : k < n) (h2 : I k s t w) : Handed J n a w :=
 ⟨k, h1, hJ k a w ha (by rw [hs, ht]; exact h2)⟩
theorem wp_loop_u1 {P : Program} {Q : Exit → Act → World → Prop} {c : Code} (N i : Nat) (Kn : (Nat → Value) → Prop) (F : Value → (Nat → Value) → Act) (hF : ∀ U, Kn U → (⟨((List.range N).map U).toArray, []⟩ : Act) = F (U i) U)
   (I : Nat → Value → World → Prop) (n₀ : Nat) (s₀ : Value) {a : Act} {w : World} (ha : FrKn N Kn a) (hs : a.tmps.getD i undef = s₀) (h₀ : I n₀ s₀ w)
   (round : ∀ (n : Nat) (s : Value) (U : Nat → Value) (w : World), I n s w → ∀ (J : Nat → Act → World → Prop) (K : Act → World → Prop), (∀ k a' w', FrKn N Kn a' → I k (a'.tmps.getD i undef) w' → J k a' w') → (∀ a' w', Handed J n a' w' → K a' w') → c.wp P (Exit.then K Q) (F s U) w) : (Code.loop c).wp P Q a w := by
 refine wp_loop_ghost_k (fun n a w => FrKn N Kn a ∧ I n (a.tmps.getD i undef) w) n₀ ⟨ha, by rw [hs]; exact h₀⟩ ?_
 rintro n a w ⟨hk, h⟩ J K hJ hK
 rw [frKn_eq hk, hF _ hk.2.2]
 exact round n _ _ w h J K (fun k a' w' h1 h2 => hJ k a' w' ⟨h1, h2⟩) hK
theorem Handed.u1 {J : Nat → Act → World → Prop} {n N i : Nat} {a : Act} {w : World} {Kn : (Nat → Value) → Prop} {I : Nat → Value → World → Prop} (hJ : ∀ k a' w', FrKn N Kn a' → I k (a'.tmps.getD i undef) w' → J k a' w') (k : Nat) (s : Value) (ha : FrKn N Kn a) (hs : a.tmps.getD i undef = s) (h1 : k < n) (h2 : I k s w) : Handed J n a w :=
 ⟨k, h1, hJ k a w ha (by rw [hs]; exact h2)⟩
end Go.Proofs.Ytnlkbbpmpgdmiaa
namespace Go.Proofs.Ytnlkbbpmpgdmiaa
open Go.RowKit
set_option linter.unusedVariables false
set_option linter.unusedSimpArgs false
theorem Esc.head {s o : List UInt8} (h : Esc s o) : ∃ c t, s = c :: t ∧ 34 ≤ c.toNat := by
 rcases h with ⟨rfl, _⟩ | ⟨rfl, _⟩ | ⟨rfl, _⟩ | ⟨rfl, _⟩ | ⟨rfl, _⟩ | ⟨rfl, _⟩ | ⟨rfl, _⟩ | ⟨h, rfl, _⟩ | ⟨h, rfl, _⟩
 all_goals exact ⟨_, _, rfl, by decide⟩
theorem MBasP0.ne {p : Pc} (h : MBasP0 p) : ∃ c t, p.src = c :: t := by
 rcases h with ⟨hw | ⟨c, _, hs⟩, _⟩ | ⟨s, _, hs⟩
 · obtain ⟨c, t, h, _⟩ := hw.head
   exact ⟨c, t, h⟩
 · exact ⟨c, [], hs⟩
 · exact ⟨92, s, hs⟩
set_option maxRecDepth 100000 in
set_option maxHeartbeats 8000000 in
theorem mbasEsc_any (pre rest : List UInt8) (ps : List Pc) (hps : ∀ p ∈ ps, MBasP p) (hrh : ∀ c r, rest = c :: r → c.toNat ≠ 34) (pv : Value) (b off cap P0 S R : Nat) (w : World) (hm : Bts w b off (34 :: 34 :: 34 :: 10 :: (pre ++ (srcs ps ++ 34 :: 34 :: 34 :: rest)))) (hP : pre.length = P0) (hS : (srcs ps).length = S) (hR : rest.length = R)
   (hc : P0 + S + R + 7 ≤ cap) (hcb : P0 + S + R + 7 ≤ 140737488351232 ∧ cap ≤ 9223372036854775807) :
   Calls Try.prog 83 #[pv, .slice (some ⟨b, off, none⟩) (P0 + S + R + 7) cap, .int .i64 4, .int .i64 ((P0 : Int) + 4)] w (StrNew w.heap.size b off cap (34 :: 34 :: 34 :: 10 :: (pre ++ (srcs ps ++ 34 :: 34 :: 34 :: rest))) rest (pre ++ outs ps) w) := by
 have HM := Lib.hid hm
 have HE := Lib.hid hps
 have HPP := Lib.hid hP
 have HSS := Lib.hid hS
 have HRR := Lib.hid hR
 have HRH := Lib.hid hrh
 have HM4 : Hid (Bts w b (off + 4) (pre ++ (srcs ps ++ 34 :: 34 :: 34 :: rest))) := hm.head.2.head.2.head.2.head.2
 clear hm hps hP hS hR hrh
 have HF : Hid (Calls Try.prog 92 #[.slice (some ⟨b, off, none⟩) (P0 + S + R + 7) cap, .int .i64 ((P0 : Int) + 4)] w (FoundM (P0 + 4) (P0 + S + R + 7) w)) :=
   findMul_any (i := P0 + 4) _ (by simp only [List.length_cons, List.length_append]; rw [HPP.out, HSS.out, HRR.out]; omega) HM.out hc hcb (by omega)
 have HbB : Hid (b < w.heap.size) := lt_of_cell HM.out.head.1
 have HLL : Hid ((34 :: 34 :: 34 :: 10 :: (pre ++ (srcs ps ++ 34 :: 34 :: 34 :: rest))).length = P0 + S + R + 7) := by show _ = _; simp only [List.length_cons, List.length_append]; rw [HPP.out, HSS.out, HRR.out]; omega
 have HDR : Hid ((34 :: 34 :: 34 :: 10 :: (pre ++ (srcs ps ++ 34 :: 34 :: 34 :: rest))).drop (P0 + S + 7) = rest) := by
   show _ = _
   rw [← HPP.out, ← HSS.out, show pre.length + (srcs ps).length + 7 = (34 :: 34 :: 34 :: 10 :: (pre ++ (srcs ps ++ [34, 34, 34]))).length from by simp; omega, show 34 :: 34 :: 34 :: 10 :: (pre ++ (srcs ps ++ 34 :: 34 :: 34 :: rest)) = (34 :: 34 :: 34 :: 10 :: (pre ++ (srcs ps ++ [34, 34, 34]))) ++ rest from by simp]
   exact List.drop_left
 generalize hB : w.heap.size = B at *
 have HB := Lib.hid hB
 clear hB
 obtain ⟨i5, hi5, hz5, hs5, hb5⟩ := info_parts info5
 have HB5 : Hid (∀ m : Nat, m ≤ 140737488351232 → i5.bytes * m ≤ 281474976710656) := fun m hm => by rw [hb5]; omega
 have HI5 := Lib.hid hi5
 have HZ5 := Lib.hid hz5
 have HS5 := Lib.hid hs5
 clear hi5 hz5 hs5 hb5
 go_enter Try.func83, Try.ntmps83
 go_wp2_with fail
 refine HF.out.mono ?_
 rintro e w1 ⟨r, hr, rfl, rfl⟩
 go_upto_if 30 with (fail)
 go_cut [12] from 29 to 34 (fun s12 wx => ∃ m : Nat, s12 = .int .i64 m ∧ P0 ≤ m ∧ m ≤ P0 + S + R + 7 ∧ w = wx)
 case first =>
   rcases hr with rfl | ⟨hr1, hr2⟩
   · go_wp2_with fail
     go_meet
     exact ⟨P0 + S + R + 3, by congr 1; omega, by omega, by omega, rfl⟩
   · obtain ⟨q, rfl⟩ : ∃ q : Nat, r = q := ⟨r.toNat, by omega⟩
     have hq1 : P0 + 4 ≤ q := by omega
     have hq2 : q ≤ P0 + S + R + 7 := by omega
     clear hr1 hr2
     go_wp2_with fail
     go_meet
     exact ⟨q - 2, by congr 1; omega, by omega, by omega, rfl⟩
 case rest =>
   obtain ⟨m, rfl, hm1, hm2, rfl⟩ := hcut
   go_upto_region 7 with (at_make
                          refine wpList_mk rfl _ _ 25 rfl 5 i5 _ 1 Try.underlying25 HI5.out HZ5.out HS5.out _ _ _ _ P0 (m) rfl rfl (by first | rfl | omega | simp) (by first | rfl | omega | (simp; omega)) (by omega) (HB5.out _ (by omega)) (by omega) ?_
                          intro wm hwm
                          rw [HB.out]
                          have HG : Hid (Blk wm B 5 (madeCells (Value.int IntKind.u8 0).cells ((m) * 1))) := by
                            rw [hwm, ← HB.out]
                            exact Blk.new w 5 _
                          have HBW : Hid (Below B w wm) := by rw [hwm]; exact Below.alloc' (by rw [HB.out]; exact Nat.le_refl _) _
                          have HMW : Hid (Bts wm b (off + 4) (pre ++ (srcs ps ++ 34 :: 34 :: 34 :: rest))) := by rw [hwm]; exact HM4.out.alloc (by rw [HB.out]; exact HbB.out) _
                          obtain ⟨wc, hr3, hbuf, hbw⟩ := copy_made (sc := cap - 4) HG.out HMW.out.pre HPP.out (by omega) (by omega) HBW.out
                          have HBUF := Lib.hid hbuf
                          have HBC := Lib.hid hbw
                          have HBS : Hid (Bts wc b (off + (P0 + 4)) (srcs ps ++ 34 :: 34 :: 34 :: rest)) := by
                            have h1 := (HM4.out.post).below hbw HbB.out
                            rw [HPP.out] at h1
                            rw [show off + (P0 + 4) = off + 4 + P0 from by omega]
                            exact h1
                          have HBZ : Hid (B ≤ wc.heap.size) := by have := hbw.size; have := HB.out; show _ ≤ _; omega
                          clear hwm hbuf hbw)
   refine wp_loop_u2 354 3 14 (fun U => U 0 = pv ∧ U 1 = .slice (some ⟨b, off, none⟩) (P0 + S + R + 7) cap ∧ U 2 = .int .i64 4) (fun s3 s14 U => ⟨#[pv, .slice (some ⟨b, off, none⟩) (P0 + S + R + 7) cap, .int .i64 4, s3, U 4, U 5, U 6, U 7, U 8, U 9, U 10, U 11, U 12, U 13, s14, U 15, U 16, U 17, U 18, U 19, U 20, U 21, U 22, U 23, U 24, U 25, U 26, U 27, U 28, U 29, U 30, U 31, U 32, U 33, U 34, U 35, U 36, U 37, U 38, U 39, U 40, U 41, U 42, U 43, U 44, U 45, U 46, U 47, U 48, U 49, U 50, U 51, U 52, U 53, U 54, U 55, U 56, U 57, U 58, U 59, U 60, U 61, U 62, U 63, U 64, U 65, U 66, U 67, U 68, U 69, U 70, U 71, U 72, U 73, U 74, U 75, U 76, U 77, U 78, U 79, U 80, U 81, U 82, U 83, U 84, U 85, U 86, U 87, U 88, U 89, U 90, U 91, U 92, U 93, U 94, U 95, U 96, U 97, U 98, U 99, U 100, U 101, U 102, U 103, U 104, U 105, U 106, U 107, U 108, U 109, U 110, U 111, U 112, U 113, U 114, U 115, U 116, U 117, U 118, U 119, U 120, U 121, U 122, U 123, U 124, U 125, U 126, U 127, U 128, U 129, U 130, U 131, U 132, U 133, U 134, U 135, U 136, U 137, U 138, U 139, U 140, U 141, U 142, U 143, U 144, U 145, U 146, U 147, U 148, U 149, U 150, U 151, U 152, U 153, U 154, U 155, U 156, U 157, U 158, U 159, U 160, U 161, U 162, U 163, U 164, U 165, U 166, U 167, U 168, U 169, U 170, U 171, U 172, U 173, U 174, U 175, U 176, U 177, U 178, U 179, U 180, U 181, U 182, U 183, U 184, U 185, U 186, U 187, U 188, U 189, U 190, U 191, U 192, U 193, U 194, U 195, U 196, U 197, U 198, U 199, U 200, U 201, U 202, U 203, U 204, U 205, U 206, U 207, U 208, U 209, U 210, U 211, U 212, U 213, U 214, U 215, U 216, U 217, U 218, U 219, U 220, U 221, U 222, U 223, U 224, U 225, U 226, U 227, U 228, U 229, U 230, U 231, U 232, U 233, U 234, U 235, U 236, U 237, U 238, U 239, U 240, U 241, U 242, U 243, U 244, U 245, U 246, U 247, U 248, U 249, U 250, U 251, U 252, U 253, U 254, U 255, U 256, U 257, U 258, U 259, U 260, U 261, U 262, U 263, U 264, U 265, U 266, U 267, U 268, U 269, U 270, U 271, U 272, U 273, U 274, U 275, U 276, U 277, U 278, U 279, U 280, U 281, U 282, U 283, U 284, U 285, U 286, U 287, U 288, U 289, U 290, U 291, U 292, U 293, U 294, U 295, U 296, U 297, U 298, U 299, U 300, U 301, U 302, U 303, U 304, U 305, U 306, U 307, U 308, U 309, U 310, U 311, U 312, U 313, U 314, U 315, U 316, U 317, U 318, U 319, U 320, U 321, U 322, U 323, U 324, U 325, U 326, U 327, U 328, U 329, U 330, U 331, U 332, U 333, U 334, U 335, U 336, U 337, U 338, U 339, U 340, U 341, U 342, U 343, U 344, U 345, U 346, U 347, U 348, U 349, U 350, U 351, U 352, U 353], []⟩) (by rintro U ⟨h0, h1, h2⟩; rw [← h0, ← h1, ← h2]; rfl) (fun g s3 s14 wx => BRel B b off (P0 + S + 4) pre (34 :: 34 :: 34 :: rest) ps MBasP w g s3 s14 wx) S (.int .i64 ((P0 : Int) + 4)) (.slice (some ⟨B, 0, none⟩) P0 m) ⟨rfl, rfl, rfl, rfl, rfl⟩ rfl rfl ?_ ?_
   · exact ⟨ps, P0 + 4, pre, by go_num, by rw [HSS.out]; omega, HSS.out.symm, HBUF.out, rfl, by rw [HPP.out]; omega, HE.out, HBS.out, HBC.out, HBZ.out⟩
   · intro gk u3 u14 U wr hrel J K hJ hK
     obtain ⟨qs, k, o, rfl, hk, rfl, hbuf, ho, hol, hC, hBt, hbw, hsz⟩ := hrel
     have HBUF2 := Lib.hid hbuf
     have HO := Lib.hid ho
     have HBW2 := Lib.hid hbw
     have hbB := HbB.out
     clear hbuf ho hbw
     cases qs with
     | nil =>
       simp only [srcs, List.flatMap_nil, List.length_nil, List.nil_append] at hk hBt
       have hka : k ≤ P0 + S + 4 := by omega
       have hkb : P0 + S + 4 ≤ k := by omega
       have d0 : wr.cell? ⟨b, off + k, none⟩ = some (.int .u8 34) := hBt.head.1
       have d1 : wr.cell? ⟨b, off + (k + 1), none⟩ = some (.int .u8 34) := hBt.head.2.head.1
       have d2 : wr.cell? ⟨b, off + (k + 2), none⟩ = some (.int .u8 34) := hBt.head.2.head.2.head.1
       have HB3 : Hid (Bts wr b (off + (k + 3)) rest) := hBt.head.2.head.2.head.2
       have hcl : k + 3 = P0 + S + 7 := by omega
       have HDK : Hid ((34 :: 34 :: 34 :: 10 :: (pre ++ (srcs ps ++ 34 :: 34 :: 34 :: rest))).drop (k + 3) = rest) := by rw [hcl]; exact HDR.out
       clear hcl hk hBt
       have tb : decide ((k : Int) < (P0 : Int) + (S : Int) + (R : Int) + 7) = true := by simp; omega
       go_wp2_with fail
       go_loopg [16] 3 (fun g2 s16 wx => ∃ t : Nat, s16 = .int .i64 ((k + t : Nat) : Int) ∧ t + g2 = 3 ∧ wx = wr)
       case atStart => exact ⟨0, rfl, rfl, rfl⟩
       case round =>
         obtain ⟨t, rfl, ht, rfl⟩ := hrel
         cases gk with
         | zero =>
           obtain rfl : t = 3 := by omega
           clear ht
           by_cases hR0 : R = 0
           · as_aux_lemma =>
               have hkn : ((k : Int) + 3 < (P0 : Int) + S + R + 7) = False := by simp; omega
               by_cases hcap : cap = k + 3
               · first
                   | (exfalso; omega)
                   | (go_wp2_with (at_builtin
                                   refine wpList_app8 rfl (.tmp 104) (.tmp 111) rfl u14 o rfl HBUF2.out ⟨b, off + k, none⟩ _ _ [] rfl (by first | rfl | omega | simp) (by intro j u hu; simp at hu) (by first | omega | (simp; omega)) hsz ?_
                                   intro v1 w1 hb1 hw1
                                   have HB1 := Lib.hid hb1
                                   have HW1 := Lib.hid hw1
                                   clear hb1 hw1)
                      go_quiet (fail)
                      go_wp2
                      ((try simp only [Exit.inBlock, Exit.then]); refine bodyPost_ret (results_tmp4 rfl _ _ _) rfl ?_)
                      exact strnew_fin HLL.out HRR.out (by omega) (by omega) HDK.out (by omega) rfl hcap.symm (by omega) (by omega) (fun h => by omega) (by rw [List.append_nil] at HB1; exact HO.out) ((show Buf B w1 v1 o from by have := HB1.out; rwa [List.append_nil] at this).drewN _) ((HBW2.out.trans HW1.out).trans (Fr.drewN _ _).1))
               · go_wp2_with (at_builtin
                              refine wpList_app8 rfl (.tmp 104) (.tmp 111) rfl u14 o rfl HBUF2.out ⟨b, off + k, none⟩ _ _ [] rfl (by first | rfl | omega | simp) (by intro j u hu; simp at hu) (by first | omega | (simp; omega)) hsz ?_
                              intro v1 w1 hb1 hw1
                              have HB1 := Lib.hid hb1
                              have HW1 := Lib.hid hw1
                              clear hb1 hw1)
                 go_quiet (fail)
                 go_wp2
                 ((try simp only [Exit.inBlock, Exit.then]); refine bodyPost_ret (results_tmp4 rfl _ _ _) rfl ?_)
                 exact strnew_fin HLL.out HRR.out (by omega) (by omega) HDK.out (by omega) rfl rfl (by omega) rfl (fun h => rfl) HO.out ((show Buf B w1 v1 o from by have := HB1.out; rwa [List.append_nil] at this).drewN _) ((HBW2.out.trans HW1.out).trans (Fr.drewN _ _).1)
           · obtain ⟨c, r, hcr⟩ : ∃ c r, rest = c :: r := by
               cases rest with
               | nil => have := HRR.out; simp at this; omega
               | cons c r => exact ⟨c, r, rfl⟩
             have hB3 := HB3.out
             rw [hcr] at hB3
             have d3 := hB3.head.1
             have hc39 := HRH.out c r hcr
             have e39 : ((c.toNat : Int) == 34) = false := by simp; omega
             clear hB3 hcr hc39
             generalize (c.toNat : Int) = x at *
             as_aux_lemma =>
               by_cases hcap : cap = k + 3
               · first
                   | (exfalso; omega)
                   | (go_wp2_with (at_builtin
                                   refine wpList_app8 rfl (.tmp 104) (.tmp 111) rfl u14 o rfl HBUF2.out ⟨b, off + k, none⟩ _ _ [] rfl (by first | rfl | omega | simp) (by intro j u hu; simp at hu) (by first | omega | (simp; omega)) hsz ?_
                                   intro v1 w1 hb1 hw1
                                   have HB1 := Lib.hid hb1
                                   have HW1 := Lib.hid hw1
                                   clear hb1 hw1)
                      go_quiet (fail)
                      go_wp2
                      ((try simp only [Exit.inBlock, Exit.then]); refine bodyPost_ret (results_tmp4 rfl _ _ _) rfl ?_)
                      exact strnew_fin HLL.out HRR.out (by omega) (by omega) HDK.out (by omega) rfl hcap.symm (by omega) (by omega) (fun h => by omega) (by rw [List.append_nil] at HB1; exact HO.out) ((show Buf B w1 v1 o from by have := HB1.out; rwa [List.append_nil] at this).drewN _) ((HBW2.out.trans HW1.out).trans (Fr.drewN _ _).1))
               · go_wp2_with (at_builtin
                              refine wpList_app8 rfl (.tmp 104) (.tmp 111) rfl u14 o rfl HBUF2.out ⟨b, off + k, none⟩ _ _ [] rfl (by first | rfl | omega | simp) (by intro j u hu; simp at hu) (by first | omega | (simp; omega)) hsz ?_
                              intro v1 w1 hb1 hw1
                              have HB1 := Lib.hid hb1
                              have HW1 := Lib.hid hw1
                              clear hb1 hw1)
                 go_quiet (fail)
                 go_wp2
                 ((try simp only [Exit.inBlock, Exit.then]); refine bodyPost_ret (results_tmp4 rfl _ _ _) rfl ?_)
                 exact strnew_fin HLL.out HRR.out (by omega) (by omega) HDK.out (by omega) rfl rfl (by omega) rfl (fun h => rfl) HO.out ((show Buf B w1 v1 o from by have := HB1.out; rwa [List.append_nil] at this).drewN _) ((HBW2.out.trans HW1.out).trans (Fr.drewN _ _).1)
         | succ g3 =>
           have hcs : t = 0 ∨ t = 1 ∨ t = 2 := by omega
           rcases hcs with rfl | rfl | rfl
           all_goals
             go_wp2_with fail
             go_roundg g3
             case measure => omega
             case rel => exact ⟨_ + 1, by go_num, by omega, rfl⟩
     | cons p q3 =>
       have HE3 : Hid (∀ x ∈ q3, MBasP x) := fun x hx => hC x (by simp [hx])
       rcases hC p (by simp) with (⟨hw | ⟨c, hcc, hsrc⟩, hpo⟩ | ⟨s, hesc, hsrc⟩) | hcont
       · obtain ⟨run, qb, hrl, hsub, hsr, hou, hcall⟩ := wide_pcs (p := p) (q := q3) ⟨hw, hpo⟩ (fun x hx => (HE3.out x hx).first) (rest := 34 :: 34 :: 34 :: rest) (fun c r h => by injection h with h _; subst h; decide)
         obtain ⟨c, t, hce, hc128⟩ := hw.head
         have hB0 := hBt
         rw [srcs_cons, hce] at hB0
         have hc0 := hB0.head.1
         have h128 : 128 ≤ (c.toNat : Int) := by omega
         have h255 : (c.toNat : Int) ≤ 255 := by have := c.toNat_lt; omega
         have hLN : (srcs (p :: q3)).length = run.length + (srcs qb).length := by rw [hsr, List.length_append]
         have HC := Lib.hid (hcall b off (P0 + S + R + 7) k cap wr hBt (by rw [hLN] at hk ⊢; simp only [List.length_cons]; rw [HRR.out]; omega) hc hcb)
         have HEB : Hid (∀ x ∈ qb, MBasP x) := fun x hx => hC x (hsub x hx)
         rw [hsr, List.append_assoc] at hBt
         have HRUN : Hid (Bts wr b (off + k) run) := hBt.pre
         have HBT : Hid (Bts wr b (off + (k + run.length)) (srcs qb ++ 34 :: 34 :: 34 :: rest)) := by rw [← Nat.add_assoc]; exact hBt.post
         have HO2 : Hid ((o ++ run) ++ outs qb = pre ++ outs ps) := by
           have := HO.out
           rw [hou, ← List.append_assoc] at this
           exact this
         rw [hLN] at hk
         have HLEN := Lib.hid hLN
         clear hBt hB0 hce hw hsub hsr hou hcall hc128 hLN hC hpo HE3
         generalize (c.toNat : Int) = x at *
         have e34 : (x == 34) = false := by simp; omega
         have e92 : (x == 92) = false := by simp; omega
         have e9 : (x == 9) = false := by simp; omega
         have e10 : (x == 10) = false := by simp; omega
         have e13 : (x == 13) = false := by simp; omega
         generalize hlb : (srcs qb).length = lb at *
         have HLB := Lib.hid hlb
         generalize hla : run.length = la at *
         have HLA := Lib.hid hla
         clear hlb hla
         have hkc : k < cap := by omega
         as_aux_lemma =>
           go_wp2_with fail
           refine HC.out.mono ?_
           rintro e w1 ⟨rfl, rfl⟩
           go_wp2_with (at_builtin
                        refine wpList_app8 rfl (.tmp 68) (.tmp 72) rfl u14 o rfl HBUF2.out ⟨b, off + k, none⟩ _ _ run rfl (by rw [HLA.out]; omega) HRUN.out.news (by rw [HLA.out]; omega) hsz ?_
                        intro v1 w1 hb1 hw1
                        have HB1 := Lib.hid hb1
                        have HW1 := Lib.hid hw1
                        clear hb1 hw1)
           refine Handed.u2 hJ lb _ _ ⟨rfl, rfl, rfl, rfl, rfl⟩ rfl rfl ?_ ?_
           · have h := HLEN.out; omega
           · exact ⟨qb, k + la, o ++ run, by go_num, by rw [HLB.out]; omega, HLB.out.symm, HB1.out, HO2.out, by rw [List.length_append, HLA.out]; omega, HEB.out, HBT.out.below HW1.out hbB, HBW2.out.trans HW1.out, Nat.le_trans hsz HW1.out.size⟩
       · rw [srcs_cons, hsrc] at hBt
         have hc0 := hBt.head.1
         have HBT : Hid (Bts wr b (off + (k + 1)) (srcs q3 ++ 34 :: 34 :: 34 :: rest)) := hBt.head.2
         have HLEN : Hid ((srcs (p :: q3)).length = (srcs q3).length + 1) := by show _ = _; rw [srcs_cons, hsrc]; simp [Nat.add_comm]
         have HO : Hid (o ++ ([c] ++ outs q3) = pre ++ outs ps) := by
           have := HO.out
           rw [outs_cons, hpo, hsrc] at this
           exact this
         have HNEW : Hid (∀ W : World, Blk W wr.heap.size 5 #[.int .u8 c.toNat] → ∀ j u, ([c].map fun c => Value.int .u8 c.toNat)[j]? = some u → W.cell? ((⟨wr.heap.size, 0, none⟩ : Addr).add j) = some u) := fun W hW => Blk.add (l := [.int .u8 c.toNat]) hW
         have hC2 : (32 ≤ (c.toNat : Int) ∧ (c.toNat : Int) < 127 ∧ (c.toNat : Int) ≠ 34 ∧ (c.toNat : Int) ≠ 92) ∨ (c.toNat : Int) = 9 ∨ (c.toNat : Int) = 10 := by unfold MBasC at hcc; omega
         rw [HLEN.out] at hk
         clear hBt hcc hC hsrc hpo
         generalize hlb : (srcs q3).length = lb at *
         have HLB := Lib.hid hlb
         clear hlb
         generalize (c.toNat : Int) = x at *
         rcases hC2 with ⟨h1, h2, h3, h4⟩ | rfl | rfl
         · have e34 : (x == 34) = false := by simp; omega
           have e92 : (x == 92) = false := by simp; omega
           as_aux_lemma =>
             go_wp2_with (at_builtin
                          refine wpList_app8 rfl (.tmp 294) (.tmp 296) rfl u14 o rfl (HBUF2.out.alloc _) ⟨wr.heap.size, 0, none⟩ 1 1 [c] rfl rfl (HNEW.out _ (Blk.new wr 5 _)) (by simp; omega) (by simp; omega) ?_
                          intro v1 w1 hb1 hw1
                          have HB1 := Lib.hid hb1
                          have HW1 : Hid (Below B wr w1) := (Below.alloc' hsz _).trans hw1
                          clear hb1 hw1)
             refine Handed.u2 hJ lb _ _ ⟨rfl, rfl, rfl, rfl, rfl⟩ rfl rfl ?_ ?_
             · have h := HLEN.out; omega
             · exact ⟨q3, k + 1, o ++ [c], by go_num, by rw [HLB.out]; omega, HLB.out.symm, HB1.out, by rw [List.append_assoc]; exact HO.out, by simp; omega, HE3.out, HBT.out.below HW1.out hbB, HBW2.out.trans HW1.out, Nat.le_trans hsz HW1.out.size⟩
         · as_aux_lemma =>
             go_wp2_with (at_builtin
                          refine wpList_app8 rfl (.tmp 307) (.tmp 309) rfl u14 o rfl (HBUF2.out.alloc _) ⟨wr.heap.size, 0, none⟩ 1 1 [c] rfl rfl (HNEW.out _ (Blk.new wr 5 _)) (by simp; omega) (by simp; omega) ?_
                          intro v1 w1 hb1 hw1
                          have HB1 := Lib.hid hb1
                          have HW1 : Hid (Below B wr w1) := (Below.alloc' hsz _).trans hw1
                          clear hb1 hw1)
             refine Handed.u2 hJ lb _ _ ⟨rfl, rfl, rfl, rfl, rfl⟩ rfl rfl ?_ ?_
             · have h := HLEN.out; omega
             · exact ⟨q3, k + 1, o ++ [c], by go_num, by rw [HLB.out]; omega, HLB.out.symm, HB1.out, by rw [List.append_assoc]; exact HO.out, by simp; omega, HE3.out, HBT.out.below HW1.out hbB, HBW2.out.trans HW1.out, Nat.le_trans hsz HW1.out.size⟩
         · as_aux_lemma =>
             go_wp2_with (at_builtin
                          refine wpList_app8 rfl (.tmp 307) (.tmp 309) rfl u14 o rfl (HBUF2.out.alloc _) ⟨wr.heap.size, 0, none⟩ 1 1 [c] rfl rfl (HNEW.out _ (Blk.new wr 5 _)) (by simp; omega) (by simp; omega) ?_
                          intro v1 w1 hb1 hw1
                          have HB1 := Lib.hid hb1
                          have HW1 : Hid (Below B wr w1) := (Below.alloc' hsz _).trans hw1
                          clear hb1 hw1)
             refine Handed.u2 hJ lb _ _ ⟨rfl, rfl, rfl, rfl, rfl⟩ rfl rfl ?_ ?_
             · have h := HLEN.out; omega
             · exact ⟨q3, k + 1, o ++ [c], by go_num, by rw [HLB.out]; omega, HLB.out.symm, HB1.out, by rw [List.append_assoc]; exact HO.out, by simp; omega, HE3.out, HBT.out.below HW1.out hbB, HBW2.out.trans HW1.out, Nat.le_trans hsz HW1.out.size⟩
       · rw [srcs_cons, hsrc] at hBt
         simp only [List.cons_append, List.append_assoc] at hBt
         have hc0 : wr.cell? ⟨b, off + k, none⟩ = some (.int .u8 92) := hBt.head.1
         have hBt1 : Bts wr b (off + (k + 1)) (s ++ (srcs q3 ++ 34 :: 34 :: 34 :: rest)) := hBt.head.2
         have hslen := hesc.length
         obtain ⟨c, t, hsc, hc34⟩ := hesc.head
         have hs1 : 0 < s.length := by rw [hsc]; simp
         have hc1 : wr.cell? ⟨b, off + (k + 1), none⟩ = some (.int .u8 c.toNat) := by rw [hsc] at hBt1; exact hBt1.head.1
         have HLEN : Hid ((srcs (p :: q3)).length = (srcs q3).length + s.length + 1) := by show _ = _; rw [srcs_cons, hsrc]; simp; omega
         have HBT : Hid (Bts wr b (off + (k + 1 + s.length)) (srcs q3 ++ 34 :: 34 :: 34 :: rest)) := by rw [← Nat.add_assoc]; exact hBt1.post
         have HO2 : Hid ((o ++ p.out) ++ outs q3 = pre ++ outs ps) := by
           have := HO.out
           rw [outs_cons, ← List.append_assoc] at this
           exact this
         rw [HLEN.out] at hk
         have HC := Lib.hid (unescape_any HBUF2.out s p.out (srcs q3 ++ 34 :: 34 :: 34 :: rest) hesc b off cap (P0 + S + R + 7) (k + 1) hBt1 (by simp only [List.length_append, List.length_cons]; rw [HRR.out]; omega) hc hcb (by omega) hsz)
         have h34 : 34 ≤ (c.toNat : Int) := by omega
         clear hBt hBt1 hC hsrc hesc hsc hc34
         generalize (c.toNat : Int) = x at *
         have f32 : (x == 32) = false := by simp; omega
         have f9 : (x == 9) = false := by simp; omega
         have f10 : (x == 10) = false := by simp; omega
         have f13 : (x == 13) = false := by simp; omega
         generalize hlb : (srcs q3).length = lb at *
         have HLB := Lib.hid hlb
         generalize hla : s.length = la at *
         have HLA := Lib.hid hla
         clear hlb hla
         as_aux_lemma =>
           go_wp2_with fail
           refine HC.out.mono ?_
           rintro e w1 ⟨v1, rfl, hb1, hw1⟩
           have HB1 := Lib.hid hb1
           have HW1 := Lib.hid hw1
           clear hb1 hw1
           go_wp2_with fail
           refine Handed.u2 hJ lb _ _ ⟨rfl, rfl, rfl, rfl, rfl⟩ rfl rfl ?_ ?_
           · have h := HLEN.out; omega
           · exact ⟨q3, k + 1 + la, o ++ p.out, by go_num, by rw [HLB.out]; omega, HLB.out.symm, HB1.out, HO2.out, by rw [List.length_append]; omega, HE3.out, HBT.out.below HW1.out hbB, HBW2.out.trans HW1.out, Nat.le_trans hsz HW1.out.size⟩
       · obtain ⟨b1, b2, q, hb1, hb2, hq0, hqh, hsrc, hpo⟩ := hcont
         rw [srcs_cons, hsrc] at hBt
         simp only [List.cons_append, List.append_assoc] at hBt
         have hc0 : wr.cell? ⟨b, off + k, none⟩ = some (.int .u8 92) := hBt.head.1
         have hBt1 : Bts wr b (off + (k + 1)) (b1 ++ (10 :: (b2 ++ (q.src ++ (srcs q3 ++ 34 :: 34 :: 34 :: rest))))) := hBt.head.2
         have hBt2 : Bts wr b (off + (k + 1 + b1.length)) (10 :: (b2 ++ (q.src ++ (srcs q3 ++ 34 :: 34 :: 34 :: rest)))) := by rw [← Nat.add_assoc off]; exact hBt1.post
         have hnl : wr.cell? ⟨b, off + (k + 1 + b1.length), none⟩ = some (.int .u8 10) := hBt2.head.1
         have hBt3 : Bts wr b (off + (k + 1 + b1.length + 1)) (b2 ++ (q.src ++ (srcs q3 ++ 34 :: 34 :: 34 :: rest))) := hBt2.head.2
         have HBT : Hid (Bts wr b (off + (k + 1 + b1.length + 1 + b2.length)) (srcs (q :: q3) ++ 34 :: 34 :: 34 :: rest)) := by
           have := hBt3.post
           rw [srcs_cons, List.append_assoc, ← Nat.add_assoc off]
           exact this
         obtain ⟨cq, tq, hqs⟩ := hq0.ne
         have hqx : wr.cell? ⟨b, off + (k + 1 + b1.length + 1 + b2.length), none⟩ = some (.int .u8 cq.toNat) := by
           have := HBT.out
           rw [srcs_cons, hqs] at this
           exact this.head.1
         have hcq := hqh cq tq hqs
         have HE4 : Hid (∀ x ∈ q :: q3, MBasP x) := by intro x hx; rcases List.mem_cons.1 hx with rfl | hx; exact .inl hq0; exact HE3.out x hx
         have HO2 : Hid (o ++ outs (q :: q3) = pre ++ outs ps) := by
           have := HO.out
           rw [outs_cons, hpo] at this
           exact this
         have HLEN : Hid ((srcs (p :: q3)).length = (srcs (q :: q3)).length + b1.length + b2.length + 2) := by show _ = _; rw [srcs_cons, srcs_cons, hsrc]; simp; omega
         have hq1 : 0 < (srcs (q :: q3)).length := by rw [srcs_cons, hqs]; simp
         have HB1 : Hid (∀ t, t < b1.length → ∃ x : Int, wr.cell? ⟨b, off + (k + 1 + t), none⟩ = some (.int .u8 x) ∧ (x = 32 ∨ x = 9)) := by
           intro t ht
           have h1 := hBt1.pre t ht
           have h2 := hb1 (b1.getD t 0) (by rw [List.getD_eq_getElem?_getD, List.getElem?_eq_getElem ht]; exact List.getElem_mem ht)
           exact ⟨_, by rw [← Nat.add_assoc]; exact h1, by omega⟩
         have HB2 : Hid (∀ t, t < b2.length → ∃ x : Int, wr.cell? ⟨b, off + (k + 1 + b1.length + 1 + t), none⟩ = some (.int .u8 x) ∧ (x = 32 ∨ x = 9)) := by
           intro t ht
           have h1 := hBt3.pre t ht
           have h2 := hb2 (b2.getD t 0) (by rw [List.getD_eq_getElem?_getD, List.getElem?_eq_getElem ht]; exact List.getElem_mem ht)
           exact ⟨_, by rw [← Nat.add_assoc]; exact h1, by omega⟩
         rw [HLEN.out] at hk
         have hws : ∃ y : Int, wr.cell? ⟨b, off + (k + 1), none⟩ = some (.int .u8 y) ∧ (y = 32 ∨ y = 9 ∨ y = 10) := by
           rcases Nat.eq_zero_or_pos b1.length with h | h
           · rw [h] at hnl
             exact ⟨10, hnl, .inr (.inr rfl)⟩
           · obtain ⟨x, h1, h2⟩ := HB1.out 0 h
             exact ⟨x, h1, by rcases h2 with h | h; exact .inl h; exact .inr (.inl h)⟩
         obtain ⟨y, hy1, hy⟩ := hws
         clear hBt hBt1 hBt2 hBt3 hC hsrc hpo hb1 hb2 hq0 hqh hqs
         generalize hlb : (srcs (q :: q3)).length = lb at *
         have HLB := Lib.hid hlb
         generalize b1.length = l1 at *
         generalize b2.length = l2 at *
         clear hlb
         have hcq32 : (cq.toNat : Int) ≠ 32 ∧ (cq.toNat : Int) ≠ 9 ∧ (cq.toNat : Int) ≠ 10 ∧ (cq.toNat : Int) ≠ 13 := by omega
         clear hcq
         generalize (cq.toNat : Int) = xq at *
         obtain ⟨n32, n9, n10, n13⟩ := hcq32
         have t1 : decide ((k : Int) + 1 < (P0 : Int) + (S : Int) + (R : Int) + 7) = true := by simp; omega
         have t2 : decide ((P0 : Int) + (S : Int) + (R : Int) + 7 ≤ (k : Int) + 1) = false := by simp; omega
         have t3 : decide ((k : Int) < (P0 : Int) + (S : Int) + (R : Int) + 7) = true := by simp; omega
         rcases hy with rfl | rfl | rfl
         · as_aux_lemma =>
             go_wp2_with fail
             go_loopg [18] l1 (fun g2 s18 wx => ∃ t : Nat, s18 = .int .i64 ((k + 1 + t : Nat) : Int) ∧ t + g2 = l1 ∧ wx = wr)
             case atStart => exact ⟨0, by go_num, by omega, rfl⟩
             case round =>
               obtain ⟨t, rfl, ht, rfl⟩ := hrel
               cases gk with
               | succ g3 =>
                 obtain ⟨x, hx1, hx2⟩ := HB1.out t (by omega)
                 rcases hx2 with rfl | rfl
                 · go_wp2_with fail
                   go_roundg g3
                   case measure => omega
                   case rel => exact ⟨t + 1, by go_num, by omega, rfl⟩
                 · go_wp2_with fail
                   go_roundg g3
                   case measure => omega
                   case rel => exact ⟨t + 1, by go_num, by omega, rfl⟩
               | zero =>
                 obtain rfl : t = l1 := by omega
                 clear ht
                 go_wp2_with fail
                 go_loopg [18] l2 (fun g2 s18 wx => ∃ u : Nat, s18 = .int .i64 ((k + 1 + t + 1 + u : Nat) : Int) ∧ u + g2 = l2 ∧ wx = wr)
                 case atStart => exact ⟨0, by go_num, by omega, rfl⟩
                 case round =>
                   obtain ⟨u, rfl, hu, rfl⟩ := hrel
                   cases gk with
                   | succ g3 =>
                     obtain ⟨x, hx1, hx2⟩ := HB2.out u (by omega)
                     rcases hx2 with rfl | rfl
                     · go_wp2_with fail
                       go_roundg g3
                       case measure => omega
                       case rel => exact ⟨u + 1, by go_num, by omega, rfl⟩
                     · go_wp2_with fail
                       go_roundg g3
                       case measure => omega
                       case rel => exact ⟨u + 1, by go_num, by omega, rfl⟩
                   | zero =>
                     obtain rfl : u = l2 := by omega
                     clear hu
                     have f32 : (xq == 32) = false := by simp; exact n32
                     have f9 : (xq == 9) = false := by simp; exact n9
                     have f10 : (xq == 10) = false := by simp; exact n10
                     have f13 : (xq == 13) = false := by simp; exact n13
                     go_wp2_with fail
                     refine Handed.u2 hJ lb _ _ ⟨rfl, rfl, rfl, rfl, rfl⟩ rfl rfl ?_ ?_
                     · have h := HLEN.out; omega
                     · exact ⟨q :: q3, k + 1 + t + 1 + u, o, by go_num, by rw [HLB.out]; omega, HLB.out.symm, HBUF2.out, HO2.out, by omega, HE4.out, HBT.out, HBW2.out, hsz⟩
         · as_aux_lemma =>
             go_wp2_with fail
             go_loopg [18] l1 (fun g2 s18 wx => ∃ t : Nat, s18 = .int .i64 ((k + 1 + t : Nat) : Int) ∧ t + g2 = l1 ∧ wx = wr)
             case atStart => exact ⟨0, by go_num, by omega, rfl⟩
             case round =>
               obtain ⟨t, rfl, ht, rfl⟩ := hrel
               cases gk with
               | succ g3 =>
                 obtain ⟨x, hx1, hx2⟩ := HB1.out t (by omega)
                 rcases hx2 with rfl | rfl
                 · go_wp2_with fail
                   go_roundg g3
                   case measure => omega
                   case rel => exact ⟨t + 1, by go_num, by omega, rfl⟩
                 · go_wp2_with fail
                   go_roundg g3
                   case measure => omega
                   case rel => exact ⟨t + 1, by go_num, by omega, rfl⟩
               | zero =>
                 obtain rfl : t = l1 := by omega
                 clear ht
                 go_wp2_with fail
                 go_loopg [18] l2 (fun g2 s18 wx => ∃ u : Nat, s18 = .int .i64 ((k + 1 + t + 1 + u : Nat) : Int) ∧ u + g2 = l2 ∧ wx = wr)
                 case atStart => exact ⟨0, by go_num, by omega, rfl⟩
                 case round =>
                   obtain ⟨u, rfl, hu, rfl⟩ := hrel
                   cases gk with
                   | succ g3 =>
                     obtain ⟨x, hx1, hx2⟩ := HB2.out u (by omega)
                     rcases hx2 with rfl | rfl
                     · go_wp2_with fail
                       go_roundg g3
                       case measure => omega
                       case rel => exact ⟨u + 1, by go_num, by omega, rfl⟩
                     · go_wp2_with fail
                       go_roundg g3
                       case measure => omega
                       case rel => exact ⟨u + 1, by go_num, by omega, rfl⟩
                   | zero =>
                     obtain rfl : u = l2 := by omega
                     clear hu
                     have f32 : (xq == 32) = false := by simp; exact n32
                     have f9 : (xq == 9) = false := by simp; exact n9
                     have f10 : (xq == 10) = false := by simp; exact n10
                     have f13 : (xq == 13) = false := by simp; exact n13
                     go_wp2_with fail
                     refine Handed.u2 hJ lb _ _ ⟨rfl, rfl, rfl, rfl, rfl⟩ rfl rfl ?_ ?_
                     · have h := HLEN.out; omega
                     · exact ⟨q :: q3, k + 1 + t + 1 + u, o, by go_num, by rw [HLB.out]; omega, HLB.out.symm, HBUF2.out, HO2.out, by omega, HE4.out, HBT.out, HBW2.out, hsz⟩
         · as_aux_lemma =>
             go_wp2_with fail
             go_loopg [18] l1 (fun g2 s18 wx => ∃ t : Nat, s18 = .int .i64 ((k + 1 + t : Nat) : Int) ∧ t + g2 = l1 ∧ wx = wr)
             case atStart => exact ⟨0, by go_num, by omega, rfl⟩
             case round =>
               obtain ⟨t, rfl, ht, rfl⟩ := hrel
               cases gk with
               | succ g3 =>
                 obtain ⟨x, hx1, hx2⟩ := HB1.out t (by omega)
                 rcases hx2 with rfl | rfl
                 · go_wp2_with fail
                   go_roundg g3
                   case measure => omega
                   case rel => exact ⟨t + 1, by go_num, by omega, rfl⟩
                 · go_wp2_with fail
                   go_roundg g3
                   case measure => omega
                   case rel => exact ⟨t + 1, by go_num, by omega, rfl⟩
               | zero =>
                 obtain rfl : t = l1 := by omega
                 clear ht
                 go_wp2_with fail
                 go_loopg [18] l2 (fun g2 s18 wx => ∃ u : Nat, s18 = .int .i64 ((k + 1 + t + 1 + u : Nat) : Int) ∧ u + g2 = l2 ∧ wx = wr)
                 case atStart => exact ⟨0, by go_num, by omega, rfl⟩
                 case round =>
                   obtain ⟨u, rfl, hu, rfl⟩ := hrel
                   cases gk with
                   | succ g3 =>
                     obtain ⟨x, hx1, hx2⟩ := HB2.out u (by omega)
                     rcases hx2 with rfl | rfl
                     · go_wp2_with fail
                       go_roundg g3
                       case measure => omega
                       case rel => exact ⟨u + 1, by go_num, by omega, rfl⟩
                     · go_wp2_with fail
                       go_roundg g3
                       case measure => omega
                       case rel => exact ⟨u + 1, by go_num, by omega, rfl⟩
                   | zero =>
                     obtain rfl : u = l2 := by omega
                     clear hu
                     have f32 : (xq == 32) = false := by simp; exact n32
                     have f9 : (xq == 9) = false := by simp; exact n9
                     have f10 : (xq == 10) = false := by simp; exact n10
                     have f13 : (xq == 13) = false := by simp; exact n13
                     go_wp2_with fail
                     refine Handed.u2 hJ lb _ _ ⟨rfl, rfl, rfl, rfl, rfl⟩ rfl rfl ?_ ?_
                     · have h := HLEN.out; omega
                     · exact ⟨q :: q3, k + 1 + t + 1 + u, o, by go_num, by rw [HLB.out]; omega, HLB.out.symm, HBUF2.out, HO2.out, by omega, HE4.out, HBT.out, HBW2.out, hsz⟩
end Go.Proofs.Ytnlkbbpmpgdmiaa
