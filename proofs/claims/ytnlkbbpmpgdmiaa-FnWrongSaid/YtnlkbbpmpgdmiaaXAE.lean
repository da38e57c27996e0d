/- parseMultilineLiteralString; unescape; a row of bytes that is made and filled; runs of wide pieces; parseBasicStringEscaped. -/
import Derived.Test.YtnlkbbpmpgdmiaaXAD
import Derived.Laws.CopyOwn
namespace Go.Proofs.Ytnlkbbpmpgdmiaa
open Go.RowKit
set_option linter.unusedVariables false
set_option linter.unusedSimpArgs false
theorem wide_split : ∀ {q : List (List UInt8)}, (∀ e ∈ q, Wide e ∨ ∃ c t, e = c :: t ∧ c.toNat < 128) → ∃ a b, q = a ++ b ∧ (∀ e ∈ a, Wide e) ∧ (∀ e r, b = e :: r → ∃ c t, e = c :: t ∧ c.toNat < 128)
 | [], _ => ⟨[], [], rfl, by simp, by simp⟩
 | e :: q, h => by
   rcases h e (by simp) with hw | hc
   · obtain ⟨a, b, rfl, h1, h2⟩ := wide_split (q := q) (fun e he => h e (by simp [he]))
     exact ⟨e :: a, b, rfl, by intro x hx; simp at hx; rcases hx with rfl | hx; exact hw; exact h1 x hx, h2⟩
   · exact ⟨[], e :: q, rfl, by simp, fun x r hx => by injection hx with hx _; subst hx; exact hc⟩
theorem wide_first {e : List UInt8} {q : List (List UInt8)} (hw : Wide e) (hq : ∀ x ∈ q, Wide x ∨ ∃ c t, x = c :: t ∧ c.toNat < 128) {rest : List UInt8} (hr : ∀ c r, rest = c :: r → c.toNat < 128) :
   ∃ (la : Nat) (qb : List (List UInt8)), 0 < la ∧ qb <:+ e :: q ∧ (e :: q).flatten.length = la + qb.flatten.length ∧
     ∀ (b off n k cap : Nat) (w : World), Bts w b (off + k) ((e :: q).flatten ++ rest) → n = k + (e :: q).flatten.length + rest.length → n ≤ cap → (n ≤ 140737488351232 ∧ cap ≤ 9223372036854775807) →
       Calls Try.prog 59 #[.slice (some ⟨b, off, none⟩) n cap, .int .i64 k] w fun e w' => e = .returned (.tuple #[.int .i64 ((k : Int) + la), .bool true]) ∧ w = w' := by
 obtain ⟨a, b, hab, h1, h2⟩ := wide_split (q := e :: q) (by intro x hx; simp at hx; rcases hx with rfl | hx; exact .inl hw; exact hq x hx)
 have ha : 0 < a.flatten.length := by
   cases a with
   | nil =>
     obtain ⟨c, t, he, hc⟩ := h2 e q hab.symm
     obtain ⟨d, t', hd, hd2⟩ := hw.head
     rw [hd] at he
     injection he with he _
     subst he
     omega
   | cons x a =>
     simp at hab
     obtain ⟨c, r, hc, _⟩ := hw.head
     rw [← hab.1, hc]
     simp
 refine ⟨a.flatten.length, b, ha, by rw [hab]; exact List.suffix_append a b, by rw [hab]; simp, ?_⟩
 intro bk off n k cap w hm hn hc hcb
 rw [hab, List.flatten_append, List.append_assoc] at hm
 rw [hab, List.flatten_append, List.length_append] at hn
 refine utf8_run a (b.flatten ++ rest) h1 ?_ bk off n k cap w hm (by rw [List.length_append]; omega) hc hcb
 intro c r h
 cases b with
 | nil => exact hr c r (by simpa using h)
 | cons y b =>
   obtain ⟨d, t, rfl, hd⟩ := h2 y b rfl
   simp at h
   rw [← h.1]
   exact hd
theorem MLitE.first {e : List UInt8} (h : MLitE e) : Wide e ∨ ∃ c t, e = c :: t ∧ c.toNat < 128 := by
 rcases h with (h | ⟨c, hc, rfl⟩) | ⟨e', _, rfl⟩
 · exact .inl h
 · exact .inr ⟨c, [], rfl, hc.lt⟩
 · exact .inr ⟨39, e', rfl, by decide⟩
theorem Chunk.head39 {e : List UInt8} (h : Chunk MLitC e) : ∃ c t, e = c :: t ∧ c.toNat ≠ 39 := by
 rcases h with h | ⟨c, hc, rfl⟩
 · obtain ⟨c, r, rfl, hc⟩ := h.head
   exact ⟨c, r, rfl, by omega⟩
 · exact ⟨c, [], rfl, by unfold MLitC at hc; omega⟩
def StrIs (b off cap : Nat) (l r : List UInt8) (k1 c1 : Nat) (A1 : Addr) (w : World) (e : Ending) (w' : World) : Prop :=
 ∃ m v, m ≤ l.length ∧ e = .returned (.tuple #[.slice (some ⟨b, off, none⟩) m cap, .slice (some A1) k1 c1, v, .nilIface]) ∧ Rest b off cap l r v ∧ ∃ n, w' = w.drewN n
theorem mlit_fin {w w' : World} {b off cap m R j k2 c2 k3 c3 c4 n : Nat} {p rest : List UInt8} {A B : Addr} (hp : p.length = m) (hR : rest.length = R) (hc : m + R + 7 ≤ cap) (e0 : j = m + 7)
   (e1 : k2 = j) (e2 : c2 = cap) (e3 : k3 = m) (e4 : c3 = cap - 4) (eA : A = ⟨b, off + 4, none⟩) (e5 : n = R) (e6 : c4 = cap - j) (hB : 0 < R → B = ⟨b, off + j, none⟩) (hw : ∃ n, w' = w.drewN n) {z : UInt8} :
   StrIs b off cap (z :: z :: z :: 10 :: (p ++ z :: z :: z :: rest)) rest m (cap - 4) ⟨b, off + 4, none⟩ w (.returned (.tuple #[.slice (some ⟨b, off, none⟩) k2 c2, .slice (some A) k3 c3, .slice (some B) n c4, .nilIface])) w' := by
 subst e0 e1 e2 e3 e4 e5 e6 eA hp hR
 exact ⟨_, _, by simp, rfl, Rest.drop (p.length + 7) (by simp) (by simp; omega) rfl (by simp) (fun h => hB (by simp at h; omega)), hw⟩
set_option maxRecDepth 100000 in
set_option maxHeartbeats 4000000 in
theorem mlitStr_any (es : List (List UInt8)) (rest : List UInt8) (he : ∀ e ∈ es, MLitE e) (hr : ∀ c r, rest = c :: r → c.toNat ≠ 39 ∧ c.toNat < 128) (pv : Value) (b off cap M R : Nat) (w : World) (hm : Bts w b off (39 :: 39 :: 39 :: 10 :: (es.flatten ++ 39 :: 39 :: 39 :: rest)))
   (hM : es.flatten.length = M) (hR : rest.length = R) (hc : M + R + 7 ≤ cap) (hcb : M + R + 7 ≤ 140737488351232 ∧ cap ≤ 9223372036854775807) :
   Calls Try.prog 74 #[pv, .slice (some ⟨b, off, none⟩) (M + R + 7) cap] w (StrIs b off cap (39 :: 39 :: 39 :: 10 :: (es.flatten ++ 39 :: 39 :: 39 :: rest)) rest M (cap - 4) ⟨b, off + 4, none⟩ w) := by
 have c3 : w.cell? ⟨b, off + 3, none⟩ = some (.int .u8 10) := hm.head.2.head.2.head.2.head.1
 have HM : Hid (Bts w b (off + 4) (es.flatten ++ 39 :: 39 :: 39 :: rest)) := hm.head.2.head.2.head.2.head.2
 have HMM := Lib.hid hM
 have HRR := Lib.hid hR
 have HR := Lib.hid hr
 clear hm hM hR hr
 go_enter Try.func74, Try.ntmps74
 go_wp2_with fail
 clear c3
 go_loopg [8] M (fun g s8 wx => ∃ (q : List (List UInt8)) (k : Nat), s8 = .int .i64 k ∧ k + q.flatten.length = M + 4 ∧ g = q.flatten.length ∧ 4 ≤ k ∧ Hid (∀ e ∈ q, MLitE e) ∧ Hid (Bts w b (off + k) (q.flatten ++ 39 :: 39 :: 39 :: rest)) ∧ wx = w)
 case atStart => exact ⟨es, 4, rfl, by rw [HMM.out]; omega, HMM.out.symm, by omega, he, HM.out, rfl⟩
 case round =>
   obtain ⟨q, k, rfl, hk, rfl, hk4, HE, HB, rfl⟩ := hrel
   have hB := HB.out
   cases q with
   | nil =>
     simp only [List.flatten_nil, List.nil_append, List.length_nil] at hk hB
     have hka : k ≤ M + 4 := by omega
     have hkb : M + 4 ≤ k := by omega
     clear hk
     have d0 : wr.cell? ⟨b, off + k, none⟩ = some (.int .u8 39) := hB.head.1
     have d1 : wr.cell? ⟨b, off + (k + 1), none⟩ = some (.int .u8 39) := hB.head.2.head.1
     have d2 : wr.cell? ⟨b, off + (k + 2), none⟩ = some (.int .u8 39) := hB.head.2.head.2.head.1
     have HB3 : Hid (Bts wr b (off + (k + 3)) rest) := hB.head.2.head.2.head.2
     clear hB
     have tb : decide ((k : Int) < (M : Int) + (R : Int) + 7) = true := by simp; omega
     go_wp2_with fail
     go_loopg [11] 3 (fun g2 s11 wx => ∃ t : Nat, s11 = .int .i64 ((k + t : Nat) : Int) ∧ t + g2 = 3 ∧ wx = wr)
     case atStart => exact ⟨0, rfl, rfl, rfl⟩
     case round =>
       obtain ⟨t, rfl, ht, rfl⟩ := hrel
       cases gk with
       | zero =>
         obtain rfl : t = 3 := by omega
         clear ht
         by_cases hR0 : R = 0
         · have hkn : ((k : Int) + 3 < (M : Int) + R + 7) = False := by simp; omega
           by_cases hcap : cap = k + 3
           · first
               | (exfalso; omega)
               | (go_wp2_with fail
                  go_quiet (fail)
                  go_wp2
                  ((try simp only [Exit.inBlock, Exit.then]); refine bodyPost_ret (results_tmp4 rfl _ _ _) rfl ?_)
                  exact mlit_fin HMM.out HRR.out (by omega) (j := k + 3) (by omega) (by omega) (by omega) (by omega) (by omega) rfl (by omega) (by omega) (fun h => by omega) ⟨_, rfl⟩)
           · go_wp2_with fail
             go_quiet (fail)
             go_wp2
             ((try simp only [Exit.inBlock, Exit.then]); refine bodyPost_ret (results_tmp4 rfl _ _ _) rfl ?_)
             exact mlit_fin HMM.out HRR.out (by omega) (j := k + 3) (by omega) rfl rfl (by omega) rfl rfl (by omega) rfl (fun h => rfl) ⟨_, rfl⟩
         · obtain ⟨c, r, hcr⟩ : ∃ c r, rest = c :: r := by
             cases rest with
             | nil => have := HRR.out; simp at this; omega
             | cons c r => exact ⟨c, r, rfl⟩
           have hB3 := HB3.out
           rw [hcr] at hB3
           have d3 := hB3.head.1
           have hc39 := (HR.out c r hcr).1
           have e39 : ((c.toNat : Int) == 39) = false := by simp; omega
           clear hB3 hcr hc39
           generalize (c.toNat : Int) = x at *
           by_cases hcap : cap = k + 3
           · first
               | (exfalso; omega)
               | (go_wp2_with fail
                  go_quiet (fail)
                  go_wp2
                  ((try simp only [Exit.inBlock, Exit.then]); refine bodyPost_ret (results_tmp4 rfl _ _ _) rfl ?_)
                  exact mlit_fin HMM.out HRR.out (by omega) (j := k + 3) (by omega) (by omega) (by omega) (by omega) (by omega) rfl (by omega) (by omega) (fun h => by omega) ⟨_, rfl⟩)
           · go_wp2_with fail
             go_quiet (fail)
             go_wp2
             ((try simp only [Exit.inBlock, Exit.then]); refine bodyPost_ret (results_tmp4 rfl _ _ _) rfl ?_)
             exact mlit_fin HMM.out HRR.out (by omega) (j := k + 3) (by omega) rfl rfl (by omega) rfl rfl (by omega) rfl (fun h => rfl) ⟨_, rfl⟩
       | succ g3 =>
         have hcs : t = 0 ∨ t = 1 ∨ t = 2 := by omega
         rcases hcs with rfl | rfl | rfl
         all_goals
           go_wp2_with fail
           go_roundg g3
           case measure => omega
           case rel => exact ⟨_ + 1, by go_num, by omega, rfl⟩
   | cons e q3 =>
     have HE3 : Hid (∀ x ∈ q3, MLitE x) := fun x hx => HE.out x (by simp [hx])
     rcases HE.out e (by simp) with (hwide | ⟨c, hC, rfl⟩) | ⟨e', hC, rfl⟩
     · obtain ⟨la, qb, hla, hsuf, hlen, hcall⟩ := wide_first hwide (q := q3) (fun x hx => (HE3.out x hx).first) (rest := 39 :: 39 :: 39 :: rest) (fun c r h => by injection h with h _; subst h; decide)
       obtain ⟨c, t, hce, hc128⟩ := hwide.head
       have hB0 := hB
       rw [List.flatten_cons, hce] at hB0
       have hc0 := hB0.head.1
       have h128 : 128 ≤ (c.toNat : Int) := by omega
       have h255 : (c.toNat : Int) ≤ 255 := by have := c.toNat_lt; omega
       have HC := Lib.hid (hcall b off (M + R + 7) k cap wr hB (by simp only [List.length_cons]; rw [HRR.out]; omega) (by omega) hcb)
       have HEB : Hid (∀ x ∈ qb, MLitE x) := fun x hx => HE.out x (hsuf.subset hx)
       have HBB : Hid (Bts wr b (off + (k + la)) (qb.flatten ++ 39 :: 39 :: 39 :: rest)) := by
         obtain ⟨t, ht⟩ := hsuf
         have h1 := hB
         have h2 := hlen
         rw [← ht, List.flatten_append] at h1 h2
         rw [List.append_assoc] at h1
         rw [List.length_append] at h2
         have h3 := h1.post
         rw [show t.flatten.length = la from by omega] at h3
         rw [← Nat.add_assoc]
         exact h3
       rw [hlen] at hk
       have HLEN := Lib.hid hlen
       clear hB hB0 hce hwide hsuf hlen hcall hc128
       generalize (c.toNat : Int) = x at *
       have e39 : (x == 39) = false := by simp; omega
       have e9 : (x == 9) = false := by simp; omega
       have e10 : (x == 10) = false := by simp; omega
       have e13 : (x == 13) = false := by simp; omega
       generalize hlb : qb.flatten.length = lb at *
       have HLB := Lib.hid hlb
       clear hlb
       go_wp2_with fail
       refine HC.out.mono ?_
       rintro e w1 ⟨rfl, rfl⟩
       go_wp2_with fail
       go_roundg lb
       case measure => have h := HLEN.out; omega
       case rel => exact ⟨qb, k + la, by go_num, by rw [HLB.out]; omega, HLB.out.symm, by omega, HEB.out, HBB.out, rfl⟩
     · simp only [List.flatten_cons, List.cons_append, List.nil_append, List.length_cons, List.length_append, List.length_nil] at hk hB
       have hc0 := hB.head.1
       have HB1 : Hid (Bts wr b (off + (k + 1)) (q3.flatten ++ 39 :: 39 :: 39 :: rest)) := hB.head.2
       have hC2 : (32 ≤ (c.toNat : Int) ∧ (c.toNat : Int) < 127 ∧ (c.toNat : Int) ≠ 39) ∨ (c.toNat : Int) = 9 ∨ (c.toNat : Int) = 10 := by unfold MLitC at hC; omega
       clear hB hC
       have HLEN : Hid (([c] :: q3).flatten.length = q3.flatten.length + 1) := by show _ = _; simp [Nat.add_comm]
       generalize hlb : q3.flatten.length = lb at *
       have HLB := Lib.hid hlb
       clear hlb
       generalize (c.toNat : Int) = x at *
       rcases hC2 with ⟨h1, h2, h3⟩ | rfl | rfl
       · have e39 : (x == 39) = false := by simp; omega
         go_wp2_with fail
         go_roundg lb
         case measure => have h := HLEN.out; omega
         case rel => exact ⟨q3, k + 1, by go_num, by rw [HLB.out]; omega, HLB.out.symm, by omega, HE3.out, HB1.out, rfl⟩
       · go_wp2_with fail
         go_roundg lb
         case measure => have h := HLEN.out; omega
         case rel => exact ⟨q3, k + 1, by go_num, by rw [HLB.out]; omega, HLB.out.symm, by omega, HE3.out, HB1.out, rfl⟩
       · go_wp2_with fail
         go_roundg lb
         case measure => have h := HLEN.out; omega
         case rel => exact ⟨q3, k + 1, by go_num, by rw [HLB.out]; omega, HLB.out.symm, by omega, HE3.out, HB1.out, rfl⟩
     · obtain ⟨c, t, rfl, hc39⟩ := hC.head39
       have hEt : MLitE (c :: t) := .inl hC
       have HE4 : Hid (∀ x ∈ (c :: t) :: q3, MLitE x) := by intro x hx; rcases List.mem_cons.1 hx with rfl | hx; exact hEt; exact HE3.out x hx
       simp only [List.flatten_cons, List.cons_append, List.nil_append, List.length_cons, List.length_append, List.length_nil] at hk hB
       have d0 : wr.cell? ⟨b, off + k, none⟩ = some (.int .u8 39) := hB.head.1
       have d1 := hB.head.2.head.1
       rw [Nat.add_assoc] at d1
       have HB1 : Hid (Bts wr b (off + (k + 1)) (((c :: t) :: q3).flatten ++ 39 :: 39 :: 39 :: rest)) := by
         have h := hB.head.2
         rw [show ((c :: t) :: q3).flatten ++ 39 :: 39 :: 39 :: rest = c :: (t ++ q3.flatten ++ 39 :: 39 :: 39 :: rest) from by simp]
         exact h
       have e39 : ((c.toNat : Int) == 39) = false := by simp; omega
       clear hB hC hEt
       have HLEN : Hid (((39 :: c :: t) :: q3).flatten.length = (t.length + q3.flatten.length + 1) + 1) := by show _ = _; simp only [List.flatten_cons, List.length_append, List.length_cons]; omega
       have HLB : Hid (((c :: t) :: q3).flatten.length = t.length + q3.flatten.length + 1) := by show _ = _; simp only [List.flatten_cons, List.length_append, List.length_cons]; omega
       have hk2 : k + 1 + (t.length + q3.flatten.length + 1) = M + 4 := by omega
       clear hk
       generalize t.length + q3.flatten.length + 1 = lb at *
       generalize (c.toNat : Int) = x at *
       have tb : decide ((k : Int) < (M : Int) + (R : Int) + 7) = true := by simp; omega
       go_wp2_with fail
       go_loopg [11] 1 (fun g2 s11 wx => ∃ t : Nat, s11 = .int .i64 ((k + t : Nat) : Int) ∧ t + g2 = 1 ∧ wx = wr)
       case atStart => exact ⟨0, rfl, rfl, rfl⟩
       case round =>
         obtain ⟨t, rfl, ht, rfl⟩ := hrel
         cases gk with
         | zero =>
           obtain rfl : t = 1 := by omega
           clear ht
           go_wp2_with fail
           go_roundg lb
           case measure => have h := HLEN.out; omega
           case rel => exact ⟨_, k + 1, by go_num, by rw [HLB.out]; omega, HLB.out.symm, by omega, HE4.out, HB1.out, rfl⟩
         | succ g3 =>
           obtain rfl : t = 0 := by omega
           go_wp2_with fail
           go_roundg g3
           case measure => omega
           case rel => exact ⟨1, by go_num, by omega, rfl⟩
end Go.Proofs.Ytnlkbbpmpgdmiaa
namespace Go.Proofs.Ytnlkbbpmpgdmiaa
open Go.RowKit
set_option linter.unusedVariables false
set_option linter.unusedSimpArgs false
set_option maxRecDepth 100000 in
set_option maxHeartbeats 1000000 in
theorem unescape_any {B : Nat} {w : World} {v : Value} {l : List UInt8} (hbuf : Buf B w v l) (s o rest : List UInt8) (hs : Esc s o) (b off cap n i : Nat) (hm : Bts w b (off + i) (s ++ rest)) (hn : n = i + s.length + rest.length)
   (hc : n ≤ cap) (hcb : n ≤ 140737488351232 ∧ cap ≤ 9223372036854775807) (hl : l.length ≤ 140737488351232) (hB : B ≤ w.heap.size) :
   Calls Try.prog 93 #[v, .slice (some ⟨b, off, none⟩) n cap, .int .i64 i] w (BufAt B (l ++ o) (i + s.length) w) := by
 have H := Lib.hid hbuf
 have HA : Hid (∀ cs, Buf B (w.alloc (.cells cs 5)) v l) := fun cs => H.out.alloc _
 rcases hs with ⟨rfl, rfl⟩ | ⟨rfl, rfl⟩ | ⟨rfl, rfl⟩ | ⟨rfl, rfl⟩ | ⟨rfl, rfl⟩ | ⟨rfl, rfl⟩ | ⟨rfl, rfl⟩ | ⟨h, rfl, h4, hh, hA, rfl⟩ | ⟨h, rfl, h8, hh, hA, rfl⟩
 · have c0 : w.cell? ⟨b, off + i, none⟩ = some (.int .u8 34) := hm.head.1
   simp only [List.length_cons, List.length_nil] at hn ⊢
   clear hm hbuf
   go_enter Try.func93, Try.ntmps93
   go_wp2_with (at_builtin; refine wpList_app8 rfl (.tmp 24) (.tmp 25) rfl v l rfl (HA.out _) ⟨w.heap.size, 0, none⟩ 1 1 [34] rfl rfl (Blk.add (l := [.int .u8 34]) (Blk.new w 5 _)) (by simp; omega) (by simp; omega) ?_; intro v1 w1 hb1 hw1)
   go_ret3
   exact ⟨v1, rfl, hb1, (Below.alloc' hB _).trans hw1⟩
 · have c0 : w.cell? ⟨b, off + i, none⟩ = some (.int .u8 92) := hm.head.1
   simp only [List.length_cons, List.length_nil] at hn ⊢
   clear hm hbuf
   go_enter Try.func93, Try.ntmps93
   go_wp2_with (at_builtin; refine wpList_app8 rfl (.tmp 31) (.tmp 32) rfl v l rfl (HA.out _) ⟨w.heap.size, 0, none⟩ 1 1 [92] rfl rfl (Blk.add (l := [.int .u8 92]) (Blk.new w 5 _)) (by simp; omega) (by simp; omega) ?_; intro v1 w1 hb1 hw1)
   go_ret3
   exact ⟨v1, rfl, hb1, (Below.alloc' hB _).trans hw1⟩
 · have c0 : w.cell? ⟨b, off + i, none⟩ = some (.int .u8 98) := hm.head.1
   simp only [List.length_cons, List.length_nil] at hn ⊢
   clear hm hbuf
   go_enter Try.func93, Try.ntmps93
   go_wp2_with (at_builtin; refine wpList_app8 rfl (.tmp 38) (.tmp 39) rfl v l rfl (HA.out _) ⟨w.heap.size, 0, none⟩ 1 1 [8] rfl rfl (Blk.add (l := [.int .u8 8]) (Blk.new w 5 _)) (by simp; omega) (by simp; omega) ?_; intro v1 w1 hb1 hw1)
   go_ret3
   exact ⟨v1, rfl, hb1, (Below.alloc' hB _).trans hw1⟩
 · have c0 : w.cell? ⟨b, off + i, none⟩ = some (.int .u8 102) := hm.head.1
   simp only [List.length_cons, List.length_nil] at hn ⊢
   clear hm hbuf
   go_enter Try.func93, Try.ntmps93
   go_wp2_with (at_builtin; refine wpList_app8 rfl (.tmp 45) (.tmp 46) rfl v l rfl (HA.out _) ⟨w.heap.size, 0, none⟩ 1 1 [12] rfl rfl (Blk.add (l := [.int .u8 12]) (Blk.new w 5 _)) (by simp; omega) (by simp; omega) ?_; intro v1 w1 hb1 hw1)
   go_ret3
   exact ⟨v1, rfl, hb1, (Below.alloc' hB _).trans hw1⟩
 · have c0 : w.cell? ⟨b, off + i, none⟩ = some (.int .u8 110) := hm.head.1
   simp only [List.length_cons, List.length_nil] at hn ⊢
   clear hm hbuf
   go_enter Try.func93, Try.ntmps93
   go_wp2_with (at_builtin; refine wpList_app8 rfl (.tmp 52) (.tmp 53) rfl v l rfl (HA.out _) ⟨w.heap.size, 0, none⟩ 1 1 [10] rfl rfl (Blk.add (l := [.int .u8 10]) (Blk.new w 5 _)) (by simp; omega) (by simp; omega) ?_; intro v1 w1 hb1 hw1)
   go_ret3
   exact ⟨v1, rfl, hb1, (Below.alloc' hB _).trans hw1⟩
 · have c0 : w.cell? ⟨b, off + i, none⟩ = some (.int .u8 114) := hm.head.1
   simp only [List.length_cons, List.length_nil] at hn ⊢
   clear hm hbuf
   go_enter Try.func93, Try.ntmps93
   go_wp2_with (at_builtin; refine wpList_app8 rfl (.tmp 59) (.tmp 60) rfl v l rfl (HA.out _) ⟨w.heap.size, 0, none⟩ 1 1 [13] rfl rfl (Blk.add (l := [.int .u8 13]) (Blk.new w 5 _)) (by simp; omega) (by simp; omega) ?_; intro v1 w1 hb1 hw1)
   go_ret3
   exact ⟨v1, rfl, hb1, (Below.alloc' hB _).trans hw1⟩
 · have c0 : w.cell? ⟨b, off + i, none⟩ = some (.int .u8 116) := hm.head.1
   simp only [List.length_cons, List.length_nil] at hn ⊢
   clear hm hbuf
   go_enter Try.func93, Try.ntmps93
   go_wp2_with (at_builtin; refine wpList_app8 rfl (.tmp 66) (.tmp 67) rfl v l rfl (HA.out _) ⟨w.heap.size, 0, none⟩ 1 1 [9] rfl rfl (Blk.add (l := [.int .u8 9]) (Blk.new w 5 _)) (by simp; omega) (by simp; omega) ?_; intro v1 w1 hb1 hw1)
   go_ret3
   exact ⟨v1, rfl, hb1, (Below.alloc' hB _).trans hw1⟩
 · have c0 : w.cell? ⟨b, off + i, none⟩ = some (.int .u8 117) := hm.head.1
   have HM : Hid (Bts w b (off + (i + 1)) (h ++ rest)) := hm.head.2
   simp only [List.length_cons, h4] at hn ⊢
   have hin : i < n := by omega
   clear hm hbuf HA
   have HC := Lib.hid (unicode_any H.out h rest hh hA b off cap n (i + 1) 4 HM.out h4 (by omega) (by omega) hc hcb hl hB)
   clear hn hh hA h4
   go_enter Try.func93, Try.ntmps93
   go_wp2_with fail
   refine HC.out.mono ?_
   rintro e w1 ⟨v1, rfl, hb1, hw1⟩
   go_wp2_with fail
   go_ret3
   exact ⟨v1, rfl, hb1, hw1⟩
 · have c0 : w.cell? ⟨b, off + i, none⟩ = some (.int .u8 85) := hm.head.1
   have HM : Hid (Bts w b (off + (i + 1)) (h ++ rest)) := hm.head.2
   simp only [List.length_cons, h8] at hn ⊢
   have hin : i < n := by omega
   clear hm hbuf HA
   have HC := Lib.hid (unicode_any H.out h rest hh hA b off cap n (i + 1) 8 HM.out h8 (by omega) (by omega) hc hcb hl hB)
   clear hn hh hA h8
   go_enter Try.func93, Try.ntmps93
   go_wp2_with fail
   refine HC.out.mono ?_
   rintro e w1 ⟨v1, rfl, hb1, hw1⟩
   go_wp2_with fail
   go_ret3
   exact ⟨v1, rfl, hb1, hw1⟩
end Go.Proofs.Ytnlkbbpmpgdmiaa
namespace Go.Proofs.Ytnlkbbpmpgdmiaa
open Go.RowKit
set_option linter.unusedVariables false
set_option linter.unusedSimpArgs false
theorem buf_made {B g P m : Nat} {w : World} {pre : List UInt8} {z : Array Value} (hg : w.heap[g]? = some (.cells (splice (madeCells z m).toList 0 (pre.map fun c => Value.int .u8 c.toNat)).toArray 5 (0, 0))) (hP : pre.length = P) (hPm : P ≤ m) (hm : m ≤ 9223372036854775807) (hB : B ≤ g) : Buf B w (.slice (some ⟨g, 0, none⟩) P m) pre := by
 subst hP
 refine ⟨⟨by simp, .inr ⟨g, m, _, rfl, hB, hg, hPm, by simpa [maxLen] using hm, ?_, ?_⟩⟩, by simp⟩
 · rw [List.size_toArray, length_splice _ _ _ (by simp [size_madeCells]; omega)]
   simp [size_madeCells]
 · simp only [List.toList_toArray, Nat.mul_one, splice, List.take_zero, List.nil_append]
   rw [List.take_left' (by simp)]
theorem srcs_cons (p : Pc) (q : List Pc) : srcs (p :: q) = p.src ++ srcs q := rfl
theorem outs_cons (p : Pc) (q : List Pc) : outs (p :: q) = p.out ++ outs q := rfl
theorem srcs_append (a b : List Pc) : srcs (a ++ b) = srcs a ++ srcs b := by simp [srcs]
theorem outs_append (a b : List Pc) : outs (a ++ b) = outs a ++ outs b := by simp [outs]
theorem EscP.first {p : Pc} (h : EscP p) : ∃ c t, p.src = c :: t ∧ c.toNat < 128 := by
 obtain ⟨s, _, hs⟩ := h
 exact ⟨92, s, hs, by decide⟩
theorem BasP.first {p : Pc} (h : BasP p) : (Wide p.src ∧ p.out = p.src) ∨ ∃ c t, p.src = c :: t ∧ c.toNat < 128 := by
 rcases h with ⟨hw | ⟨c, hc, he⟩, ho⟩ | h
 · exact .inl ⟨hw, ho⟩
 · exact .inr ⟨c, [], he, hc.lt⟩
 · exact .inr h.first
theorem MBasP0.first {p : Pc} (h : MBasP0 p) : (Wide p.src ∧ p.out = p.src) ∨ ∃ c t, p.src = c :: t ∧ c.toNat < 128 := by
 rcases h with ⟨hw | ⟨c, hc, he⟩, ho⟩ | h
 · exact .inl ⟨hw, ho⟩
 · exact .inr ⟨c, [], he, hc.lt⟩
 · exact .inr h.first
theorem MBasP.first {p : Pc} (h : MBasP p) : (Wide p.src ∧ p.out = p.src) ∨ ∃ c t, p.src = c :: t ∧ c.toNat < 128 := by
 rcases h with h | ⟨b1, b2, q, _, _, _, _, hs, _⟩
 · exact h.first
 · exact .inr ⟨92, _, hs, by decide⟩
theorem wide_psplit : ∀ {q : List Pc}, (∀ p ∈ q, (Wide p.src ∧ p.out = p.src) ∨ ∃ c t, p.src = c :: t ∧ c.toNat < 128) → ∃ a b, q = a ++ b ∧ (∀ p ∈ a, Wide p.src ∧ p.out = p.src) ∧ (∀ p r, b = p :: r → ∃ c t, p.src = c :: t ∧ c.toNat < 128)
 | [], _ => ⟨[], [], rfl, by simp, by simp⟩
 | p :: q, h => by
   rcases h p (by simp) with hw | hc
   · obtain ⟨a, b, rfl, h1, h2⟩ := wide_psplit (q := q) (fun e he => h e (by simp [he]))
     exact ⟨p :: a, b, rfl, by intro x hx; simp at hx; rcases hx with rfl | hx; exact hw; exact h1 x hx, h2⟩
   · exact ⟨[], p :: q, rfl, by simp, fun x r hx => by injection hx with hx _; subst hx; exact hc⟩
theorem wide_pcs {p : Pc} {q : List Pc} (hw : Wide p.src ∧ p.out = p.src) (hq : ∀ x ∈ q, (Wide x.src ∧ x.out = x.src) ∨ ∃ c t, x.src = c :: t ∧ c.toNat < 128) {rest : List UInt8} (hr : ∀ c r, rest = c :: r → c.toNat < 128) :
   ∃ (run : List UInt8) (qb : List Pc), 0 < run.length ∧ (∀ x ∈ qb, x ∈ p :: q) ∧ srcs (p :: q) = run ++ srcs qb ∧ outs (p :: q) = run ++ outs qb ∧
     ∀ (b off n k cap : Nat) (w : World), Bts w b (off + k) (srcs (p :: q) ++ rest) → n = k + (srcs (p :: q)).length + rest.length → n ≤ cap → (n ≤ 140737488351232 ∧ cap ≤ 9223372036854775807) →
       Calls Try.prog 59 #[.slice (some ⟨b, off, none⟩) n cap, .int .i64 k] w fun e w' => e = .returned (.tuple #[.int .i64 ((k : Int) + run.length), .bool true]) ∧ w = w' := by
 obtain ⟨a, b, hab, h1, h2⟩ := wide_psplit (q := p :: q) (by intro x hx; simp at hx; rcases hx with rfl | hx; exact .inl hw; exact hq x hx)
 have hsa : srcs a = (a.map Pc.src).flatten := rfl
 have hoa : outs a = srcs a := by
   clear hab hsa
   induction a with
   | nil => rfl
   | cons x a ih =>
     rw [srcs_cons, outs_cons, ih (fun y hy => h1 y (by simp [hy])), (h1 x (by simp)).2]
 have ha : 0 < (srcs a).length := by
   cases a with
   | nil =>
     obtain ⟨c, t, he, hc⟩ := h2 p q hab.symm
     obtain ⟨d, t', hd, hd2⟩ := hw.1.head
     rw [hd] at he
     injection he with he _
     subst he
     omega
   | cons x a =>
     simp at hab
     obtain ⟨c, r, hc, _⟩ := hw.1.head
     rw [← hab.1, srcs_cons, hc]
     simp
 refine ⟨srcs a, b, ha, fun x hx => by rw [hab]; simp [hx], by rw [hab, srcs_append], by rw [hab, outs_append, hoa], ?_⟩
 intro bk off n k cap w hm hn hc hcb
 rw [hab, srcs_append, List.append_assoc, hsa] at hm
 rw [hab, srcs_append, List.length_append, hsa] at hn
 rw [hsa]
 refine utf8_run (a.map Pc.src) (srcs b ++ rest) (fun e he => ?_) ?_ bk off n k cap w hm (by rw [List.length_append]; omega) hc hcb
 · obtain ⟨x, hx, rfl⟩ := List.mem_map.1 he
   exact (h1 x hx).1
 · intro c r h
   cases b with
   | nil => exact hr c r (by simpa [srcs] using h)
   | cons y b =>
     obtain ⟨d, t, hy, hd⟩ := h2 y b rfl
     rw [srcs_cons, hy] at h
     simp at h
     rw [← h.1]
     exact hd
def StrNew (B b off cap : Nat) (l r : List UInt8) (s : List UInt8) (w : World) (e : Ending) (w' : World) : Prop :=
 ∃ m v dv, m ≤ l.length ∧ e = .returned (.tuple #[.slice (some ⟨b, off, none⟩) m cap, dv, v, .nilIface]) ∧ Rest b off cap l r v ∧ Buf B w' dv s ∧ Below B w w'
def BRel (B b off P : Nat) (pre rest : List UInt8) (ps : List Pc) (C : Pc → Prop) (w : World) (g : Nat) (s2 s12 : Value) (wx : World) : Prop :=
 ∃ (qs : List Pc) (k : Nat) (o : List UInt8), s2 = .int .i64 k ∧ k + (srcs qs).length = P ∧ g = (srcs qs).length ∧ Buf B wx s12 o ∧ o ++ outs qs = pre ++ outs ps ∧ o.length ≤ k ∧ (∀ p ∈ qs, C p) ∧ Bts wx b (off + k) (srcs qs ++ rest) ∧ Below B w wx ∧ B ≤ wx.heap.size
theorem encN_length (r : Nat) : (encN r).length ≤ 4 := by unfold encN; split; simp; split; simp; split <;> simp
theorem Esc.length {s o : List UInt8} (h : Esc s o) : o.length ≤ s.length := by
 rcases h with ⟨rfl, rfl⟩ | ⟨rfl, rfl⟩ | ⟨rfl, rfl⟩ | ⟨rfl, rfl⟩ | ⟨rfl, rfl⟩ | ⟨rfl, rfl⟩ | ⟨rfl, rfl⟩ | ⟨h, rfl, h4, _, _, rfl⟩ | ⟨h, rfl, h4, _, _, rfl⟩
 all_goals first | (simp; done) | (have := encN_length (hexN h); simp; omega)
theorem findBas_at (n : Nat) {l : List UInt8} {b off cap i : Nat} {w : World} (hn : n = l.length) (hm : Bts w b off l) (hc : n ≤ cap) (hcb : n ≤ 140737488351232 ∧ cap ≤ 9223372036854775807) (hi : i ≤ n) :
   Calls Try.prog 94 #[.slice (some ⟨b, off, none⟩) n cap, .int .i64 i] w (FoundIs i n w) := by
 subst hn
 exact findBas_any l b off cap i w hm hc hcb hi
theorem info5s : (Try.prog.info? 5).map (fun i => i.size) = some 1 := by kernel_rfl
theorem copy_made {w wm : World} {B b off P0 m sc : Nat} {z : Array Value} {pre : List UInt8} (hg : Blk wm B 5 (madeCells z (m * 1))) (hm : Bts wm b off pre) (hP : pre.length = P0) (hPm : P0 ≤ m) (hm9 : m ≤ 9223372036854775807) (hb : Below B w wm) :
   ∃ wc, (Builtin.copy_ #[25, 25] 3 #[.slice (some ⟨B, 0, none⟩) P0 m, .slice (some ⟨b, off, none⟩) P0 sc]).run Try.prog wm = .ok (goInt P0) wc ∧ Buf B wc (.slice (some ⟨B, 0, none⟩) P0 m) pre ∧ Below B w wc := by
 have hr := run_copy_row (P := Try.prog) wm 25 25 3 5 B 0 P0 m ⟨b, off, none⟩ P0 sc _ 5 (pre.map fun c => Value.int .u8 c.toNat) Try.underlying25 info5s hg (by simp [hP]) hm.news (by simp [size_madeCells, hP]; omega) (by intro u hu; obtain ⟨c, _, rfl⟩ := List.mem_map.1 hu; rfl)
 rw [List.length_map, hP] at hr
 refine ⟨_, hr, ?_, below_setRow hb (Nat.le_refl _) _⟩
 refine buf_made (z := z) ?_ hP hPm hm9 (Nat.le_refl _)
 rw [setRow_heap wm B _ _ _ _ hg]
 simp only [splice, Nat.mul_one, List.length_map, hP, List.take_zero, List.nil_append]
theorem strnew_fin {B b off cap m L R k2 c2 c4 n : Nat} {l rest o s : List UInt8} {Bd : Addr} {w w' : World} {dv : Value} (hL : l.length = L) (hR : rest.length = R) (hc : L ≤ cap) (hlm : m ≤ L) (hcl : l.drop m = rest) (hd : L = m + R)
   (e1 : k2 = m) (e2 : c2 = cap) (e5 : n = R) (e6 : c4 = cap - m) (hB : 0 < R → Bd = ⟨b, off + m, none⟩) (ho : o ++ outs [] = s) (hbuf : Buf B w' dv o) (hw : Below B w w') :
   StrNew B b off cap l rest s w (.returned (.tuple #[.slice (some ⟨b, off, none⟩) k2 c2, dv, .slice (some Bd) n c4, .nilIface])) w' := by
 subst e1 e2 e5 e6 hL hR
 simp only [outs, List.flatMap_nil, List.append_nil] at ho
 subst ho
 exact ⟨_, _, _, hlm, rfl, Rest.drop k2 hcl.symm (by omega) rfl hlm (fun h => hB (by omega)), hbuf, hw⟩
set_option maxRecDepth 100000 in
set_option maxHeartbeats 4000000 in
theorem basEsc_any (pre rest : List UInt8) (ps : List Pc) (hps : ∀ p ∈ ps, BasP p) (pv : Value) (b off cap P0 S R : Nat) (w : World) (hm : Bts w b off (34 :: (pre ++ (srcs ps ++ 34 :: rest)))) (hP : pre.length = P0) (hS : (srcs ps).length = S) (hR : rest.length = R)
   (hc : P0 + S + R + 2 ≤ cap) (hcb : P0 + S + R + 2 ≤ 140737488351232 ∧ cap ≤ 9223372036854775807) :
   Calls Try.prog 84 #[pv, .slice (some ⟨b, off, none⟩) (P0 + S + R + 2) cap, .int .i64 ((P0 : Int) + 1)] w (StrNew w.heap.size b off cap (34 :: (pre ++ (srcs ps ++ 34 :: rest))) rest (pre ++ outs ps) w) := by
 have HM := Lib.hid hm
 have HE := Lib.hid hps
 have HPP := Lib.hid hP
 have HSS := Lib.hid hS
 have HRR := Lib.hid hR
 clear hm hps hP hS hR
 have HF : Hid (Calls Try.prog 94 #[.slice (some ⟨b, off, none⟩) (P0 + S + R + 2) cap, .int .i64 ((P0 : Int) + 1)] w (FoundIs (P0 + 1) (P0 + S + R + 2) w)) :=
   findBas_at (i := P0 + 1) _ (by simp only [List.length_cons, List.length_append]; rw [HPP.out, HSS.out, HRR.out]; omega) HM.out hc hcb (by omega)
 have HbB : Hid (b < w.heap.size) := lt_of_cell HM.out.head.1
 have HLL : Hid ((34 :: (pre ++ (srcs ps ++ 34 :: rest))).length = P0 + S + R + 2) := by show _ = _; simp only [List.length_cons, List.length_append]; rw [HPP.out, HSS.out, HRR.out]; omega
 have HDR : Hid ((34 :: (pre ++ (srcs ps ++ 34 :: rest))).drop (P0 + S + 2) = rest) := by
   show _ = _
   rw [← HPP.out, ← HSS.out, show pre.length + (srcs ps).length + 2 = (34 :: (pre ++ (srcs ps ++ [34]))).length from by simp; omega, show 34 :: (pre ++ (srcs ps ++ 34 :: rest)) = (34 :: (pre ++ (srcs ps ++ [34]))) ++ rest from by simp]
   exact List.drop_left
 generalize hB : w.heap.size = B at *
 have HB := Lib.hid hB
 clear hB
 obtain ⟨i5, hi5, hz5, hs5, hb5⟩ := info_parts info5
 have HB5 : Hid (∀ m : Nat, m ≤ 140737488351232 → i5.bytes * m ≤ 281474976710656) := fun m hm => by rw [hb5]; omega
 have HI5 := Lib.hid hi5
 have HZ5 := Lib.hid hz5
 have HS5 := Lib.hid hs5
 clear hi5 hz5 hs5 hb5
 go_enter Try.func84, Try.ntmps84
 go_wp2_with fail
 refine HF.out.mono ?_
 rintro e w1 ⟨r, hr, rfl, rfl⟩
 rcases hr with rfl | ⟨hr1, hr2⟩
 · go_upto_region 7 with (at_make
                          refine wpList_mk rfl _ _ 25 rfl 5 i5 _ 1 Try.underlying25 HI5.out HZ5.out HS5.out _ _ _ _ P0 ((P0 + S + R + 1)) rfl rfl (by first | rfl | simp) (by first | rfl | omega | (simp; omega)) (by omega) (HB5.out _ (by omega)) (by omega) ?_
                          intro wm hwm
                          rw [HB.out]
                          have HG : Hid (Blk wm B 5 (madeCells (Value.int IntKind.u8 0).cells (((P0 + S + R + 1)) * 1))) := by
                            rw [hwm, ← HB.out]
                            exact Blk.new w 5 _
                          have HBW : Hid (Below B w wm) := by rw [hwm]; exact Below.alloc' (by rw [HB.out]; exact Nat.le_refl _) _
                          have HMW : Hid (Bts wm b (off + 1) (pre ++ (srcs ps ++ 34 :: rest))) := by rw [hwm]; exact (HM.out.head.2).alloc (lt_of_cell HM.out.head.1) _
                          obtain ⟨wc, hr3, hbuf, hbw⟩ := copy_made (sc := cap - 1) HG.out HMW.out.pre HPP.out (by omega) (by omega) HBW.out
                          have HBUF := Lib.hid hbuf
                          have HBC := Lib.hid hbw
                          have HBS : Hid (Bts wc b (off + (P0 + 1)) (srcs ps ++ 34 :: rest)) := by
                            have h1 := (HM.out.head.2.post).below hbw HbB.out
                            rw [HPP.out] at h1
                            rw [show off + (P0 + 1) = off + 1 + P0 from by omega]
                            exact h1
                          have HBZ : Hid (B ≤ wc.heap.size) := by have := hbw.size; have := HB.out; show _ ≤ _; omega
                          clear hwm hbuf hbw)
   go_loopg [2, 12] S (fun g s2 s12 wx => BRel B b off (P0 + S + 1) pre (34 :: rest) ps BasP w g s2 s12 wx)
   case atStart => exact ⟨ps, P0 + 1, pre, by go_num, by rw [HSS.out]; omega, HSS.out.symm, HBUF.out, rfl, by rw [HPP.out]; omega, HE.out, HBS.out, HBC.out, HBZ.out⟩
   case round =>
     obtain ⟨qs, k, o, rfl, hk, rfl, hbuf, ho, hol, hC, hBt, hbw, hsz⟩ := hrel
     have HBUF2 := Lib.hid hbuf
     have HO := Lib.hid ho
     have HBW2 := Lib.hid hbw
     have hbB := HbB.out
     clear hbuf ho hbw
     cases qs with
     | nil =>
       simp only [srcs, List.flatMap_nil, List.length_nil, List.nil_append] at hk hBt
       have hka : k ≤ P0 + S + 1 := by omega
       have hkb : P0 + S + 1 ≤ k := by omega
       have hc0 : wr.cell? ⟨b, off + k, none⟩ = some (.int .u8 34) := hBt.head.1
       clear hk hBt
       have hlm : k + 1 ≤ P0 + S + R + 2 := by omega
       have hcl : k + 1 = P0 + S + 2 := by omega
       have HDK : Hid ((34 :: (pre ++ (srcs ps ++ 34 :: rest))).drop (k + 1) = rest) := by rw [hcl]; exact HDR.out
       clear hcl
       by_cases hcap : cap = k + 1
       · first
           | (exfalso; omega)
           | (go_wp2_with fail
              go_quiet (fail)
              go_wp2
              ((try simp only [Exit.inBlock, Exit.then]); refine bodyPost_ret (results_tmp4 rfl _ _ _) rfl ?_)
              exact strnew_fin HLL.out HRR.out (by omega) hlm HDK.out (by omega) rfl hcap.symm (by omega) (by omega) (fun h => by omega) HO.out (HBUF2.out.drewN _) (HBW2.out.trans (Fr.drewN _ _).1))
       · go_wp2_with fail
         go_quiet (fail)
         go_wp2
         ((try simp only [Exit.inBlock, Exit.then]); refine bodyPost_ret (results_tmp4 rfl _ _ _) rfl ?_)
         exact strnew_fin HLL.out HRR.out (by omega) hlm HDK.out (by omega) rfl rfl (by omega) rfl (fun h => rfl) HO.out (HBUF2.out.drewN _) (HBW2.out.trans (Fr.drewN _ _).1)
     | cons p q3 =>
       have HE3 : Hid (∀ x ∈ q3, BasP x) := fun x hx => hC x (by simp [hx])
       rcases hC p (by simp) with ⟨hw | ⟨c, hcc, hsrc⟩, hpo⟩ | ⟨s, hesc, hsrc⟩
       · obtain ⟨run, qb, hrl, hsub, hsr, hou, hcall⟩ := wide_pcs (p := p) (q := q3) ⟨hw, hpo⟩ (fun x hx => (HE3.out x hx).first) (rest := 34 :: rest) (fun c r h => by injection h with h _; subst h; decide)
         obtain ⟨c, t, hce, hc128⟩ := hw.head
         have hB0 := hBt
         rw [srcs_cons, hce] at hB0
         have hc0 := hB0.head.1
         have h128 : 128 ≤ (c.toNat : Int) := by omega
         have h255 : (c.toNat : Int) ≤ 255 := by have := c.toNat_lt; omega
         have hLN : (srcs (p :: q3)).length = run.length + (srcs qb).length := by rw [hsr, List.length_append]
         have HC := Lib.hid (hcall b off (P0 + S + R + 2) k cap wr hBt (by rw [hLN] at hk ⊢; simp only [List.length_cons]; rw [HRR.out]; omega) hc hcb)
         have HEB : Hid (∀ x ∈ qb, BasP x) := fun x hx => hC x (hsub x hx)
         rw [hsr, List.append_assoc] at hBt
         have HRUN : Hid (Bts wr b (off + k) run) := hBt.pre
         have HBT : Hid (Bts wr b (off + (k + run.length)) (srcs qb ++ 34 :: rest)) := by rw [← Nat.add_assoc]; exact hBt.post
         have HO2 : Hid ((o ++ run) ++ outs qb = pre ++ outs ps) := by
           have := HO.out
           rw [hou, ← List.append_assoc] at this
           exact this
         rw [hLN] at hk
         have HLEN := Lib.hid hLN
         clear hBt hB0 hce hw hsub hsr hou hcall hc128 hLN hC hpo HE3
         generalize (c.toNat : Int) = x at *
         have e34 : (x == 34) = false := by simp; omega
         have e92 : (x == 92) = false := by simp; omega
         have e9 : (x == 9) = false := by simp; omega
         have e10 : (x == 10) = false := by simp; omega
         have e13 : (x == 13) = false := by simp; omega
         generalize hlb : (srcs qb).length = lb at *
         have HLB := Lib.hid hlb
         generalize hla : run.length = la at *
         have HLA := Lib.hid hla
         clear hlb hla
         have hkc : k < cap := by omega
         go_wp2_with fail
         refine HC.out.mono ?_
         rintro e w1 ⟨rfl, rfl⟩
         go_wp2_with (at_builtin
                      refine wpList_app8 rfl (.tmp 58) (.tmp 62) rfl u12 o rfl HBUF2.out ⟨b, off + k, none⟩ _ _ run rfl (by rw [HLA.out]; omega) HRUN.out.news (by rw [HLA.out]; omega) hsz ?_
                      intro v1 w1 hb1 hw1
                      have HB1 := Lib.hid hb1
                      have HW1 := Lib.hid hw1
                      clear hb1 hw1)
         go_roundg lb
         case measure => have h := HLEN.out; omega
         case rel => exact ⟨qb, k + la, o ++ run, by go_num, by rw [HLB.out]; omega, HLB.out.symm, HB1.out, HO2.out, by rw [List.length_append, HLA.out]; omega, HEB.out, HBT.out.below HW1.out hbB, HBW2.out.trans HW1.out, Nat.le_trans hsz HW1.out.size⟩
       · rw [srcs_cons, hsrc] at hBt
         have hc0 := hBt.head.1
         have HBT : Hid (Bts wr b (off + (k + 1)) (srcs q3 ++ 34 :: rest)) := hBt.head.2
         have HLEN : Hid ((srcs (p :: q3)).length = (srcs q3).length + 1) := by show _ = _; rw [srcs_cons, hsrc]; simp [Nat.add_comm]
         have HO : Hid (o ++ ([c] ++ outs q3) = pre ++ outs ps) := by
           have := HO.out
           rw [outs_cons, hpo, hsrc] at this
           exact this
         have HNEW : Hid (∀ W : World, Blk W wr.heap.size 5 #[.int .u8 c.toNat] → ∀ j u, ([c].map fun c => Value.int .u8 c.toNat)[j]? = some u → W.cell? ((⟨wr.heap.size, 0, none⟩ : Addr).add j) = some u) := fun W hW => Blk.add (l := [.int .u8 c.toNat]) hW
         have hC2 : (32 ≤ (c.toNat : Int) ∧ (c.toNat : Int) < 127 ∧ (c.toNat : Int) ≠ 34 ∧ (c.toNat : Int) ≠ 92) ∨ (c.toNat : Int) = 9 := by unfold BasC at hcc; omega
         rw [HLEN.out] at hk
         clear hBt hcc hC hsrc hpo
         generalize hlb : (srcs q3).length = lb at *
         have HLB := Lib.hid hlb
         clear hlb
         generalize (c.toNat : Int) = x at *
         rcases hC2 with ⟨h1, h2, h3, h4⟩ | rfl
         · have e34 : (x == 34) = false := by simp; omega
           have e92 : (x == 92) = false := by simp; omega
           go_wp2_with (at_builtin
                        refine wpList_app8 rfl (.tmp 109) (.tmp 111) rfl u12 o rfl (HBUF2.out.alloc _) ⟨wr.heap.size, 0, none⟩ 1 1 [c] rfl rfl (HNEW.out _ (Blk.new wr 5 _)) (by simp; omega) (by simp; omega) ?_
                        intro v1 w1 hb1 hw1
                        have HB1 := Lib.hid hb1
                        have HW1 : Hid (Below B wr w1) := (Below.alloc' hsz _).trans hw1
                        clear hb1 hw1)
           go_roundg lb
           case measure => have h := HLEN.out; omega
           case rel => exact ⟨q3, k + 1, o ++ [c], by go_num, by rw [HLB.out]; omega, HLB.out.symm, HB1.out, by rw [List.append_assoc]; exact HO.out, by simp; omega, HE3.out, HBT.out.below HW1.out hbB, HBW2.out.trans HW1.out, Nat.le_trans hsz HW1.out.size⟩
         · go_wp2_with (at_builtin
                        refine wpList_app8 rfl (.tmp 118) (.tmp 120) rfl u12 o rfl (HBUF2.out.alloc _) ⟨wr.heap.size, 0, none⟩ 1 1 [c] rfl rfl (HNEW.out _ (Blk.new wr 5 _)) (by simp; omega) (by simp; omega) ?_
                        intro v1 w1 hb1 hw1
                        have HB1 := Lib.hid hb1
                        have HW1 : Hid (Below B wr w1) := (Below.alloc' hsz _).trans hw1
                        clear hb1 hw1)
           go_roundg lb
           case measure => have h := HLEN.out; omega
           case rel => exact ⟨q3, k + 1, o ++ [c], by go_num, by rw [HLB.out]; omega, HLB.out.symm, HB1.out, by rw [List.append_assoc]; exact HO.out, by simp; omega, HE3.out, HBT.out.below HW1.out hbB, HBW2.out.trans HW1.out, Nat.le_trans hsz HW1.out.size⟩
       · rw [srcs_cons, hsrc] at hBt
         simp only [List.cons_append, List.append_assoc] at hBt
         have hc0 : wr.cell? ⟨b, off + k, none⟩ = some (.int .u8 92) := hBt.head.1
         have hBt1 : Bts wr b (off + (k + 1)) (s ++ (srcs q3 ++ 34 :: rest)) := hBt.head.2
         have hslen := hesc.length
         have hs1 : 0 < s.length := by
           rcases hesc with ⟨rfl, _⟩ | ⟨rfl, _⟩ | ⟨rfl, _⟩ | ⟨rfl, _⟩ | ⟨rfl, _⟩ | ⟨rfl, _⟩ | ⟨rfl, _⟩ | ⟨h, rfl, _⟩ | ⟨h, rfl, _⟩ <;> simp
         have HLEN : Hid ((srcs (p :: q3)).length = (srcs q3).length + s.length + 1) := by show _ = _; rw [srcs_cons, hsrc]; simp; omega
         have HBT : Hid (Bts wr b (off + (k + 1 + s.length)) (srcs q3 ++ 34 :: rest)) := by rw [← Nat.add_assoc]; exact hBt1.post
         have HO2 : Hid ((o ++ p.out) ++ outs q3 = pre ++ outs ps) := by
           have := HO.out
           rw [outs_cons, ← List.append_assoc] at this
           exact this
         rw [HLEN.out] at hk
         have HC := Lib.hid (unescape_any HBUF2.out s p.out (srcs q3 ++ 34 :: rest) hesc b off cap (P0 + S + R + 2) (k + 1) hBt1 (by simp only [List.length_append, List.length_cons]; rw [HRR.out]; omega) hc hcb (by omega) hsz)
         clear hBt hBt1 hC hsrc hesc
         generalize hlb : (srcs q3).length = lb at *
         have HLB := Lib.hid hlb
         generalize hla : s.length = la at *
         have HLA := Lib.hid hla
         clear hlb hla
         go_wp2_with fail
         refine HC.out.mono ?_
         rintro e w1 ⟨v1, rfl, hb1, hw1⟩
         have HB1 := Lib.hid hb1
         have HW1 := Lib.hid hw1
         clear hb1 hw1
         go_wp2_with fail
         go_roundg lb
         case measure => have h := HLEN.out; omega
         case rel => exact ⟨q3, k + 1 + la, o ++ p.out, by go_num, by rw [HLB.out]; omega, HLB.out.symm, HB1.out, HO2.out, by rw [List.length_append]; omega, HE3.out, HBT.out.below HW1.out hbB, HBW2.out.trans HW1.out, Nat.le_trans hsz HW1.out.size⟩
 · obtain ⟨q, rfl⟩ : ∃ q : Nat, r = q := ⟨r.toNat, by omega⟩
   have hq1 : P0 + 1 ≤ q := by omega
   have hq2 : q < P0 + S + R + 2 := by omega
   clear hr1 hr2
   go_upto_region 7 with (at_make
                          refine wpList_mk rfl _ _ 25 rfl 5 i5 _ 1 Try.underlying25 HI5.out HZ5.out HS5.out _ _ _ _ P0 ((q - 1)) rfl rfl (by first | rfl | simp) (by first | rfl | omega | (simp; omega)) (by omega) (HB5.out _ (by omega)) (by omega) ?_
                          intro wm hwm
                          rw [HB.out]
                          have HG : Hid (Blk wm B 5 (madeCells (Value.int IntKind.u8 0).cells (((q - 1)) * 1))) := by
                            rw [hwm, ← HB.out]
                            exact Blk.new w 5 _
                          have HBW : Hid (Below B w wm) := by rw [hwm]; exact Below.alloc' (by rw [HB.out]; exact Nat.le_refl _) _
                          have HMW : Hid (Bts wm b (off + 1) (pre ++ (srcs ps ++ 34 :: rest))) := by rw [hwm]; exact (HM.out.head.2).alloc (lt_of_cell HM.out.head.1) _
                          obtain ⟨wc, hr3, hbuf, hbw⟩ := copy_made (sc := cap - 1) HG.out HMW.out.pre HPP.out (by omega) (by omega) HBW.out
                          have HBUF := Lib.hid hbuf
                          have HBC := Lib.hid hbw
                          have HBS : Hid (Bts wc b (off + (P0 + 1)) (srcs ps ++ 34 :: rest)) := by
                            have h1 := (HM.out.head.2.post).below hbw HbB.out
                            rw [HPP.out] at h1
                            rw [show off + (P0 + 1) = off + 1 + P0 from by omega]
                            exact h1
                          have HBZ : Hid (B ≤ wc.heap.size) := by have := hbw.size; have := HB.out; show _ ≤ _; omega
                          clear hwm hbuf hbw)
   go_loopg [2, 12] S (fun g s2 s12 wx => BRel B b off (P0 + S + 1) pre (34 :: rest) ps BasP w g s2 s12 wx)
   case atStart => exact ⟨ps, P0 + 1, pre, by go_num, by rw [HSS.out]; omega, HSS.out.symm, HBUF.out, rfl, by rw [HPP.out]; omega, HE.out, HBS.out, HBC.out, HBZ.out⟩
   case round =>
     obtain ⟨qs, k, o, rfl, hk, rfl, hbuf, ho, hol, hC, hBt, hbw, hsz⟩ := hrel
     have HBUF2 := Lib.hid hbuf
     have HO := Lib.hid ho
     have HBW2 := Lib.hid hbw
     have hbB := HbB.out
     clear hbuf ho hbw
     cases qs with
     | nil =>
       simp only [srcs, List.flatMap_nil, List.length_nil, List.nil_append] at hk hBt
       have hka : k ≤ P0 + S + 1 := by omega
       have hkb : P0 + S + 1 ≤ k := by omega
       have hc0 : wr.cell? ⟨b, off + k, none⟩ = some (.int .u8 34) := hBt.head.1
       clear hk hBt
       have hlm : k + 1 ≤ P0 + S + R + 2 := by omega
       have hcl : k + 1 = P0 + S + 2 := by omega
       have HDK : Hid ((34 :: (pre ++ (srcs ps ++ 34 :: rest))).drop (k + 1) = rest) := by rw [hcl]; exact HDR.out
       clear hcl
       by_cases hcap : cap = k + 1
       · first
           | (exfalso; omega)
           | (go_wp2_with fail
              go_quiet (fail)
              go_wp2
              ((try simp only [Exit.inBlock, Exit.then]); refine bodyPost_ret (results_tmp4 rfl _ _ _) rfl ?_)
              exact strnew_fin HLL.out HRR.out (by omega) hlm HDK.out (by omega) rfl hcap.symm (by omega) (by omega) (fun h => by omega) HO.out (HBUF2.out.drewN _) (HBW2.out.trans (Fr.drewN _ _).1))
       · go_wp2_with fail
         go_quiet (fail)
         go_wp2
         ((try simp only [Exit.inBlock, Exit.then]); refine bodyPost_ret (results_tmp4 rfl _ _ _) rfl ?_)
         exact strnew_fin HLL.out HRR.out (by omega) hlm HDK.out (by omega) rfl rfl (by omega) rfl (fun h => rfl) HO.out (HBUF2.out.drewN _) (HBW2.out.trans (Fr.drewN _ _).1)
     | cons p q3 =>
       have HE3 : Hid (∀ x ∈ q3, BasP x) := fun x hx => hC x (by simp [hx])
       rcases hC p (by simp) with ⟨hw | ⟨c, hcc, hsrc⟩, hpo⟩ | ⟨s, hesc, hsrc⟩
       · obtain ⟨run, qb, hrl, hsub, hsr, hou, hcall⟩ := wide_pcs (p := p) (q := q3) ⟨hw, hpo⟩ (fun x hx => (HE3.out x hx).first) (rest := 34 :: rest) (fun c r h => by injection h with h _; subst h; decide)
         obtain ⟨c, t, hce, hc128⟩ := hw.head
         have hB0 := hBt
         rw [srcs_cons, hce] at hB0
         have hc0 := hB0.head.1
         have h128 : 128 ≤ (c.toNat : Int) := by omega
         have h255 : (c.toNat : Int) ≤ 255 := by have := c.toNat_lt; omega
         have hLN : (srcs (p :: q3)).length = run.length + (srcs qb).length := by rw [hsr, List.length_append]
         have HC := Lib.hid (hcall b off (P0 + S + R + 2) k cap wr hBt (by rw [hLN] at hk ⊢; simp only [List.length_cons]; rw [HRR.out]; omega) hc hcb)
         have HEB : Hid (∀ x ∈ qb, BasP x) := fun x hx => hC x (hsub x hx)
         rw [hsr, List.append_assoc] at hBt
         have HRUN : Hid (Bts wr b (off + k) run) := hBt.pre
         have HBT : Hid (Bts wr b (off + (k + run.length)) (srcs qb ++ 34 :: rest)) := by rw [← Nat.add_assoc]; exact hBt.post
         have HO2 : Hid ((o ++ run) ++ outs qb = pre ++ outs ps) := by
           have := HO.out
           rw [hou, ← List.append_assoc] at this
           exact this
         rw [hLN] at hk
         have HLEN := Lib.hid hLN
         clear hBt hB0 hce hw hsub hsr hou hcall hc128 hLN hC hpo HE3
         generalize (c.toNat : Int) = x at *
         have e34 : (x == 34) = false := by simp; omega
         have e92 : (x == 92) = false := by simp; omega
         have e9 : (x == 9) = false := by simp; omega
         have e10 : (x == 10) = false := by simp; omega
         have e13 : (x == 13) = false := by simp; omega
         generalize hlb : (srcs qb).length = lb at *
         have HLB := Lib.hid hlb
         generalize hla : run.length = la at *
         have HLA := Lib.hid hla
         clear hlb hla
         have hkc : k < cap := by omega
         go_wp2_with fail
         refine HC.out.mono ?_
         rintro e w1 ⟨rfl, rfl⟩
         go_wp2_with (at_builtin
                      refine wpList_app8 rfl (.tmp 58) (.tmp 62) rfl u12 o rfl HBUF2.out ⟨b, off + k, none⟩ _ _ run rfl (by rw [HLA.out]; omega) HRUN.out.news (by rw [HLA.out]; omega) hsz ?_
                      intro v1 w1 hb1 hw1
                      have HB1 := Lib.hid hb1
                      have HW1 := Lib.hid hw1
                      clear hb1 hw1)
         go_roundg lb
         case measure => have h := HLEN.out; omega
         case rel => exact ⟨qb, k + la, o ++ run, by go_num, by rw [HLB.out]; omega, HLB.out.symm, HB1.out, HO2.out, by rw [List.length_append, HLA.out]; omega, HEB.out, HBT.out.below HW1.out hbB, HBW2.out.trans HW1.out, Nat.le_trans hsz HW1.out.size⟩
       · rw [srcs_cons, hsrc] at hBt
         have hc0 := hBt.head.1
         have HBT : Hid (Bts wr b (off + (k + 1)) (srcs q3 ++ 34 :: rest)) := hBt.head.2
         have HLEN : Hid ((srcs (p :: q3)).length = (srcs q3).length + 1) := by show _ = _; rw [srcs_cons, hsrc]; simp [Nat.add_comm]
         have HO : Hid (o ++ ([c] ++ outs q3) = pre ++ outs ps) := by
           have := HO.out
           rw [outs_cons, hpo, hsrc] at this
           exact this
         have HNEW : Hid (∀ W : World, Blk W wr.heap.size 5 #[.int .u8 c.toNat] → ∀ j u, ([c].map fun c => Value.int .u8 c.toNat)[j]? = some u → W.cell? ((⟨wr.heap.size, 0, none⟩ : Addr).add j) = some u) := fun W hW => Blk.add (l := [.int .u8 c.toNat]) hW
         have hC2 : (32 ≤ (c.toNat : Int) ∧ (c.toNat : Int) < 127 ∧ (c.toNat : Int) ≠ 34 ∧ (c.toNat : Int) ≠ 92) ∨ (c.toNat : Int) = 9 := by unfold BasC at hcc; omega
         rw [HLEN.out] at hk
         clear hBt hcc hC hsrc hpo
         generalize hlb : (srcs q3).length = lb at *
         have HLB := Lib.hid hlb
         clear hlb
         generalize (c.toNat : Int) = x at *
         rcases hC2 with ⟨h1, h2, h3, h4⟩ | rfl
         · have e34 : (x == 34) = false := by simp; omega
           have e92 : (x == 92) = false := by simp; omega
           go_wp2_with (at_builtin
                        refine wpList_app8 rfl (.tmp 109) (.tmp 111) rfl u12 o rfl (HBUF2.out.alloc _) ⟨wr.heap.size, 0, none⟩ 1 1 [c] rfl rfl (HNEW.out _ (Blk.new wr 5 _)) (by simp; omega) (by simp; omega) ?_
                        intro v1 w1 hb1 hw1
                        have HB1 := Lib.hid hb1
                        have HW1 : Hid (Below B wr w1) := (Below.alloc' hsz _).trans hw1
                        clear hb1 hw1)
           go_roundg lb
           case measure => have h := HLEN.out; omega
           case rel => exact ⟨q3, k + 1, o ++ [c], by go_num, by rw [HLB.out]; omega, HLB.out.symm, HB1.out, by rw [List.append_assoc]; exact HO.out, by simp; omega, HE3.out, HBT.out.below HW1.out hbB, HBW2.out.trans HW1.out, Nat.le_trans hsz HW1.out.size⟩
         · go_wp2_with (at_builtin
                        refine wpList_app8 rfl (.tmp 118) (.tmp 120) rfl u12 o rfl (HBUF2.out.alloc _) ⟨wr.heap.size, 0, none⟩ 1 1 [c] rfl rfl (HNEW.out _ (Blk.new wr 5 _)) (by simp; omega) (by simp; omega) ?_
                        intro v1 w1 hb1 hw1
                        have HB1 := Lib.hid hb1
                        have HW1 : Hid (Below B wr w1) := (Below.alloc' hsz _).trans hw1
                        clear hb1 hw1)
           go_roundg lb
           case measure => have h := HLEN.out; omega
           case rel => exact ⟨q3, k + 1, o ++ [c], by go_num, by rw [HLB.out]; omega, HLB.out.symm, HB1.out, by rw [List.append_assoc]; exact HO.out, by simp; omega, HE3.out, HBT.out.below HW1.out hbB, HBW2.out.trans HW1.out, Nat.le_trans hsz HW1.out.size⟩
       · rw [srcs_cons, hsrc] at hBt
         simp only [List.cons_append, List.append_assoc] at hBt
         have hc0 : wr.cell? ⟨b, off + k, none⟩ = some (.int .u8 92) := hBt.head.1
         have hBt1 : Bts wr b (off + (k + 1)) (s ++ (srcs q3 ++ 34 :: rest)) := hBt.head.2
         have hslen := hesc.length
         have hs1 : 0 < s.length := by
           rcases hesc with ⟨rfl, _⟩ | ⟨rfl, _⟩ | ⟨rfl, _⟩ | ⟨rfl, _⟩ | ⟨rfl, _⟩ | ⟨rfl, _⟩ | ⟨rfl, _⟩ | ⟨h, rfl, _⟩ | ⟨h, rfl, _⟩ <;> simp
         have HLEN : Hid ((srcs (p :: q3)).length = (srcs q3).length + s.length + 1) := by show _ = _; rw [srcs_cons, hsrc]; simp; omega
         have HBT : Hid (Bts wr b (off + (k + 1 + s.length)) (srcs q3 ++ 34 :: rest)) := by rw [← Nat.add_assoc]; exact hBt1.post
         have HO2 : Hid ((o ++ p.out) ++ outs q3 = pre ++ outs ps) := by
           have := HO.out
           rw [outs_cons, ← List.append_assoc] at this
           exact this
         rw [HLEN.out] at hk
         have HC := Lib.hid (unescape_any HBUF2.out s p.out (srcs q3 ++ 34 :: rest) hesc b off cap (P0 + S + R + 2) (k + 1) hBt1 (by simp only [List.length_append, List.length_cons]; rw [HRR.out]; omega) hc hcb (by omega) hsz)
         clear hBt hBt1 hC hsrc hesc
         generalize hlb : (srcs q3).length = lb at *
         have HLB := Lib.hid hlb
         generalize hla : s.length = la at *
         have HLA := Lib.hid hla
         clear hlb hla
         go_wp2_with fail
         refine HC.out.mono ?_
         rintro e w1 ⟨v1, rfl, hb1, hw1⟩
         have HB1 := Lib.hid hb1
         have HW1 := Lib.hid hw1
         clear hb1 hw1
         go_wp2_with fail
         go_roundg lb
         case measure => have h := HLEN.out; omega
         case rel => exact ⟨q3, k + 1 + la, o ++ p.out, by go_num, by rw [HLB.out]; omega, HLB.out.symm, HB1.out, HO2.out, by rw [List.length_append]; omega, HE3.out, HBT.out.below HW1.out hbB, HBW2.out.trans HW1.out, Nat.le_trans hsz HW1.out.size⟩
end Go.Proofs.Ytnlkbbpmpgdmiaa
