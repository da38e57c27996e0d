/- The reference's writer: range over a string in a world that grows; plain; The reference's writer: a letter as it stands between double quotes; The laws' own documents: words. -/
import Derived.Test.YtnlkbbpmpgdmiaaXAP
import Derived.Laws.RangeAny
import Derived.Laws.RangeString
import Derived.Laws.Cover4
import Derived.Maps.AppendAt
import Derived.Deep.LoopGhost
import Derived.OwnWalk
import Derived.Deep.AppendLies
namespace Go.Proofs.Ytnlkbbpmpgdmiaa
open Go.RowKit
set_option linter.unusedVariables false
set_option linter.unusedSimpArgs false
def It (w : World) (g : Nat) (s : ByteArray) (pos : Nat) : Prop := w.heap[g]? = some (.stringIter s pos)
def World.setIt (w : World) (g : Nat) (s : ByteArray) (pos : Nat) : World := { w with heap := w.heap.setIfInBounds g (.stringIter s pos) }
theorem run_next_it {P : Program} {w : World} {g : Nat} {s : ByteArray} {pos : Nat} (h : It w g s pos) (ty : TypeId) (hp : pos < s.size) :
   (Instr.next (.pointer (some ⟨g, 0, none⟩)) true ty).run P w =
     .ok (.tuple #[.bool true, .int .i64 pos, .int .i32 (Utf8.decode s pos).1]) (World.setIt w g s (pos + (Utf8.decode s pos).2)) := by
 unfold It at h
 simp only [Instr.next, getObj, setObj, Sem.run_bind, Sem.run, h, Result.andThen, hp, if_true]
 simp [goInt, World.setIt]
theorem run_next_it_end {P : Program} {w : World} {g : Nat} {s : ByteArray} {pos : Nat} (h : It w g s pos) (ty : TypeId) (hp : ¬ pos < s.size) :
   (Instr.next (.pointer (some ⟨g, 0, none⟩)) true ty).run P w = .ok (.tuple #[.bool false]) w := by
 unfold It at h
 simp [Instr.next, getObj, Sem.run, h, hp]
theorem It.setIt {w : World} {g : Nat} {s : ByteArray} {pos : Nat} (h : It w g s pos) (pos' : Nat) : It (World.setIt w g s pos') g s pos' := by
 have := heap_lt h
 unfold It World.setIt
 simp [Array.getElem?_setIfInBounds, this]
theorem It.new (w : World) (s : ByteArray) (pos : Nat) : It (w.iter s pos) w.heap.size s pos := World.iter_heap w s pos
theorem It.keep {w w' : World} {sb g : Nat} {s : ByteArray} {pos : Nat} (h : It w g s pos) (hf : SF sb w w') (hne : g ≠ sb) : It w' g s pos := hf.2 g _ hne h
theorem It.below {w w' : World} {g : Nat} {s : ByteArray} {pos : Nat} (h : It w g s pos) (hf : Below w.heap.size w w') : It w' g s pos := (hf.block g (heap_lt h)).trans h
theorem setIt_below {B g : Nat} {w w1 : World} {s : ByteArray} {pos : Nat} (h : Below B w w1) (hg : B ≤ g) : Below B w (World.setIt w1 g s pos) := by
 refine ⟨h.os, h.tape, h.output, ?_, fun k hk => ?_⟩
 · simpa [World.setIt] using h.size
 · rw [← h.block k hk]
   simp only [World.setIt]
   rw [Array.getElem?_setIfInBounds_ne (by omega)]
theorem setIt_SF {B g sb : Nat} {w w1 : World} {s : ByteArray} {pos : Nat} (h : SF sb w w1) (hsb : sb < g) (hg : w.heap.size ≤ g) : SF sb w (World.setIt w1 g s pos) := by
 refine ⟨setIt_below h.1 (Nat.le_of_lt hsb), fun k o hk ho => ?_⟩
 have hlt := heap_lt ho
 simp only [World.setIt]
 rw [Array.getElem?_setIfInBounds_ne (by omega)]
 exact h.2 k o hk ho
theorem Sty.setIt {w : World} {sb g : Nat} {C : Value} {cs : List UInt8} {a : Nat} (h : Sty w sb C cs a) (hg : sb < g) (s : ByteArray) (pos : Nat) : Sty (World.setIt w g s pos) sb C cs a := by
 refine h.move (setIt_below (Below.refl sb w) (Nat.le_of_lt hg)) ?_
 unfold Blk World.setIt
 simp only
 rw [Array.getElem?_setIfInBounds_ne (by omega)]
 exact h.1
def Wd (rs : List Nat) : List UInt8 := (rs.map encN).flatten
theorem Wd.cons (r : Nat) (rs : List Nat) : Wd (r :: rs) = encN r ++ Wd rs := rfl
theorem Wd.append (a b : List Nat) : Wd (a ++ b) = Wd a ++ Wd b := by simp [Wd]
theorem ba_size (l : List UInt8) : ByteArray.size ⟨l.toArray⟩ = l.length := rfl
theorem encN_len (r : Nat) : 1 ≤ (encN r).length ∧ (encN r).length ≤ 4 := by
 unfold encN
 repeat' split
 all_goals simp
theorem ba_get (l : List UInt8) (k : Nat) (h : k < l.length) : ByteArray.get! ⟨l.toArray⟩ k = l[k] := by
 simp [ByteArray.get!, h]
theorem decode_enc {r : Nat} (h : Alpha r) (p q : List UInt8) : Utf8.decode ⟨(p ++ (encN r ++ q)).toArray⟩ p.length = (r, (encN r).length) := by
 have hg : ∀ j (c : UInt8), (encN r)[j]? = some c → ByteArray.get! ⟨(p ++ (encN r ++ q)).toArray⟩ (p.length + j) = c := by
   intro j c hj
   have hlt := (List.getElem?_eq_some_iff.1 hj).1
   rw [ba_get _ _ (by simp; omega)]
   apply Option.some.inj
   rw [← List.getElem?_eq_getElem, List.getElem?_append_right (by omega), List.getElem?_append_left (by omega), ← hj]
   congr 1
   omega
 have hs : ByteArray.size ⟨(p ++ (encN r ++ q)).toArray⟩ = p.length + ((encN r).length + q.length) := by rw [ba_size]; simp
 generalize (⟨(p ++ (encN r ++ q)).toArray⟩ : ByteArray) = s at *
 rcases h with h | rfl | rfl | rfl
 · have he : encN r = [UInt8.ofNat r] := by unfold encN; rw [if_pos h]
   rw [he] at hg hs ⊢
   have h0 := hg 0 _ rfl
   have hr : (UInt8.ofNat r).toNat = r := by simp; omega
   simp only [Utf8.decode, h0, hr, h, if_true]
   rfl
 · have h0 := hg 0 0xC3 rfl
   have h1 := hg 1 0xA4 rfl
   rw [Nat.add_zero] at h0
   simp [Utf8.decode, h0, h1, hs, encN]
   omega
 · have h0 := hg 0 0xE4 rfl
   have h1 := hg 1 0xB8 rfl
   have h2 := hg 2 0xAD rfl
   rw [Nat.add_zero] at h0
   simp [Utf8.decode, h0, h1, h2, hs, encN]
   rw [if_pos (by omega), if_pos (by decide)]
 · have h0 := hg 0 0xF0 rfl
   have h1 := hg 1 0x9F rfl
   have h2 := hg 2 0x98 rfl
   have h3 := hg 3 0x80 rfl
   rw [Nat.add_zero] at h0
   simp [Utf8.decode, h0, h1, h2, h3, hs, encN]
   rw [if_pos (by omega), if_pos (by decide)]
def badP (long : Bool) (r : Nat) (rs : List Nat) : Bool :=
 (r == 39 && (!long || rs.isEmpty || rs.head? == some 39)) || (decide (r < 32) && r != 9 && (r != 10 || !long)) || r == 127
def plainB (long : Bool) : List Nat → Bool
 | [] => true
 | r :: rs => !badP long r rs && plainB long rs
def PlRel (B : Nat) (long : Bool) (rs0 : List Nat) (w : World) (g : Nat) (wx : World) : Prop :=
 ∃ (p : List Nat) (rs : List Nat), rs0 = p ++ rs ∧ g = rs.length ∧ plainB long rs0 = plainB long rs ∧ It wx B ⟨(Wd rs0).toArray⟩ (Wd p).length ∧ Below B w wx
set_option maxRecDepth 100000 in
set_option maxHeartbeats 4000000 in
theorem plain_any {w : World} {rs0 : List Nat} (hA : ∀ r ∈ rs0, Alpha r) (long : Bool) (hlen : (Wd rs0).length ≤ 1000000000) :
   Calls Try.prog 52 #[.string ⟨(Wd rs0).toArray⟩, .bool long] w (fun e w' => e = .returned (.bool (plainB long rs0)) ∧ Below w.heap.size w w') := by
 have HA := Lib.hid hA
 have HLEN := Lib.hid hlen
 clear hA hlen
 generalize hB : w.heap.size = B
 have HBE := Lib.hid hB
 have HI : Hid (It (World.iter w ⟨(Wd rs0).toArray⟩ 0) B ⟨(Wd rs0).toArray⟩ 0) := by show It _ _ _ _; rw [← hB]; exact It.new _ _ _
 have HIB : Hid (Below B w (World.iter w ⟨(Wd rs0).toArray⟩ 0)) := (Below.refl B w).alloc (by omega) _
 generalize hS : (⟨(Wd rs0).toArray⟩ : ByteArray) = S at *
 have HSE := Lib.hid hS
 clear hS
 go_enter Try.func52, Try.ntmps52
 go_wp2_with fail
 go_loopg [5] rs0.length (fun g s5 wx => Hid (PlRel B long rs0 w g wx))
 case atStart => 
   refine ⟨[], rs0, rfl, rfl, rfl, ?_, HIB.out⟩
   rw [HSE.out]
   exact HI.out
 case round =>
   obtain ⟨p, rs, he, hgk, hpb, hit, hbel⟩ := hrel.out
   rw [HSE.out] at hit
   have HE := Lib.hid he
   have HPB := Lib.hid hpb
   have HBEL := Lib.hid hbel
   clear hrel he hpb hbel
   cases rs with
   | nil =>
     have hsz : ¬ ((Wd p).length < S.size) := by
       rw [← HSE.out, ba_size, HE.out]
       simp
     have hnx : ∀ ty, (Instr.next (.pointer (some ⟨B, 0, none⟩)) true ty).run Try.prog wr = _ := fun ty => run_next_it_end hit ty hsz
     go_wp2_with fail
     go_ret
     rw [HPB.out]
     exact ⟨rfl, HBEL.out⟩
   | cons r rs =>
     have hsz : (Wd p).length < S.size := by
       rw [← HSE.out, ba_size, HE.out, Wd.append, Wd.cons]
       have := encN_len r
       simp
       omega
     have hdec : Utf8.decode S (Wd p).length = (r, (encN r).length) := by
       rw [← HSE.out, HE.out, Wd.append, Wd.cons]
       exact decode_enc (HA.out r (by rw [HE.out]; simp)) _ _
     have hnx : ∀ ty, (Instr.next (.pointer (some ⟨B, 0, none⟩)) true ty).run Try.prog wr = _ := fun ty => run_next_it hit ty hsz
     rw [hdec] at hnx
     have hn : (Wd p).length + (encN r).length + (Wd rs).length = S.size := by
       rw [← HSE.out, ba_size, HE.out, Wd.append, Wd.cons]
       simp
       omega
     have hnl : S.size ≤ 1000000000 := by rw [← HSE.out, ba_size]; exact HLEN.out
     have HIT := Lib.hid hit
     have hnext : ∀ r2 rs2, rs = r2 :: rs2 → ∀ k, k = (Wd p).length + (encN r).length → ∀ (h : k < S.size), ((S[k]'h).toNat = 39 ↔ r2 = 39) := by
       rintro r2 rs2 rfl k rfl h
       have hA2 := HA.out r2 (by rw [HE.out]; simp)
       have hS : S = ⟨(Wd p ++ (encN r ++ (encN r2 ++ Wd rs2))).toArray⟩ := by rw [← HSE.out, HE.out, Wd.append, Wd.cons, Wd.cons]
       subst hS
       have e : (ByteArray.mk (Wd p ++ (encN r ++ (encN r2 ++ Wd rs2))).toArray)[(Wd p).length + (encN r).length]'h = (encN r2)[0]'(encN_len r2).1 := by
         show (Wd p ++ (encN r ++ (encN r2 ++ Wd rs2)))[(Wd p).length + (encN r).length]'_ = _
         rw [List.getElem_append_right (by omega)]
         simp only [Nat.add_sub_cancel_left]
         rw [List.getElem_append_right (by omega)]
         simp only [Nat.sub_self]
         rw [List.getElem_append_left]
       rw [e]
       rcases hA2 with h | rfl | rfl | rfl
       · have he : encN r2 = [UInt8.ofNat r2] := by unfold encN; rw [if_pos h]
         simp [he]
         omega
       · decide
       · decide
       · decide
     clear hdec hsz
     obtain ⟨i, HIE'⟩ : ∃ i, (Wd p).length = i := ⟨_, rfl⟩
     rw [HIE'] at hnx hit hn
     have HIT := Lib.hid hit
     have HIE := Lib.hid HIE'
     have hi : i ≤ 1000000000 := by omega
     clear hit
     by_cases h39 : r = 39
     · subst h39
       have he : encN 39 = [39] := rfl
       rw [he] at hnext hn
       simp only [List.length_singleton] at hnext hn
       have hi1 : ¬ (9223372036854775807 < (i : Int) + 1) := by omega
       cases long with
       | false =>
         clear hnext HIE' hn
         go_wp2_with fail
         go_ret
         refine ⟨?_, setIt_below HBEL.out (Nat.le_refl _)⟩
         rw [HPB.out]
         simp [plainB, badP]
         try omega
       | true =>
         cases rs with
         | nil =>
           simp [Wd] at hn
           have hn' : (i : Int) + 1 = S.size := by omega
           clear hnext HIE' hn
           go_wp2_with fail
           go_ret
           refine ⟨?_, setIt_below HBEL.out (Nat.le_refl _)⟩
           rw [HPB.out]
           simp [plainB, badP]
           try omega
         | cons r2 rs2 =>
           have hn1 : i + 1 < S.size := by
             rw [Wd.cons] at hn
             have := encN_len r2
             simp at hn
             omega
           have hn2 : ¬ ((i : Int) + 1 = S.size) := by omega
           have hn3 : ((i : Int) + 1 == S.size) = false := by simp; omega
           have hx := hnext r2 rs2 rfl (i + 1) (by rw [HIE']) hn1
           clear hnext hn HIE'
           by_cases h2 : r2 = 39
           · subst h2
             have hx' : (S[i + 1]'hn1).toNat = 39 := hx.2 rfl
             have hx2 : ∀ h, (S[i + 1]'h).toNat = 39 := fun h => hx'
             have hn4 : (0 : Int) ≤ (i : Int) + 1 := by omega
             have hn5 : (i : Int) + 1 < S.size := by omega
             have hw : wrap64 ((i : Int) + 1) = (i : Int) + 1 := by first | (unfold wrap64; omega) | (simp only [wrap64]; omega) | (apply wrap64_of_range <;> omega)
             clear hx hx' hn1 hnl hi hi1
             go_wp2_with fail
             go_ret
             refine ⟨?_, setIt_below HBEL.out (Nat.le_refl _)⟩
             rw [HPB.out]
             simp [plainB, badP]
             try omega
           · obtain ⟨x, hxe⟩ : ∃ x, (S[i + 1]'hn1).toNat = x := ⟨_, rfl⟩
             have hx3 : ((x : Int) == 39) = false := by
               simp only [beq_eq_false_iff_ne, ne_eq]
               intro h
               exact h2 (hx.1 (by omega))
             have hx2 : ∀ h, (S[i + 1]'h).toNat = x := fun h => hxe
             have hn4 : (0 : Int) ≤ (i : Int) + 1 := by omega
             have hn5 : (i : Int) + 1 < S.size := by omega
             have hw : wrap64 ((i : Int) + 1) = (i : Int) + 1 := by first | (unfold wrap64; omega) | (simp only [wrap64]; omega) | (apply wrap64_of_range <;> omega)
             clear hxe hx hn1 hnl hi hi1
             go_wp2_with fail
             go_roundg ((r2::rs2)).length
             case measure => simp
             case rel =>
               refine ⟨p ++ [39], (r2::rs2), by rw [HE.out]; simp, rfl, ?_, ?_, setIt_below HBEL.out (Nat.le_refl _)⟩
               · rw [HPB.out, plainB]
                 simp [badP]
                 try omega
               · rw [HSE.out, Wd.append]
                 rw [show (Wd p ++ Wd [39]).length = i + (encN 39).length from by rw [List.length_append, HIE.out]; simp [Wd]]
                 exact HIT.out.setIt _
     · clear hnext HIE'
       have f39 : ((r : Int) == 39) = false := by simp; omega
       have f39' : ¬ ((r : Int) = 39) := by omega
       clear hi hnl hn
       by_cases h9 : r = 9
       · subst h9
         go_wp2_with fail
         go_roundg (rs).length
         case measure => simp
         case rel =>
           refine ⟨p ++ [9], rs, by rw [HE.out]; simp, rfl, ?_, ?_, setIt_below HBEL.out (Nat.le_refl _)⟩
           · rw [HPB.out, plainB]
             simp [badP]
             try omega
           · rw [HSE.out, Wd.append]
             rw [show (Wd p ++ Wd [9]).length = i + (encN 9).length from by rw [List.length_append, HIE.out]; simp [Wd]]
             exact HIT.out.setIt _
       · by_cases h10 : r = 10
         · subst h10
           cases long with
           | false => (
                        go_wp2_with fail
                        go_ret
                        refine ⟨?_, setIt_below HBEL.out (Nat.le_refl _)⟩
                        rw [HPB.out]
                        simp [plainB, badP]
                        try omega)
           | true => (
                       go_wp2_with fail
                       go_roundg (rs).length
                       case measure => simp
                       case rel =>
                         refine ⟨p ++ [10], rs, by rw [HE.out]; simp, rfl, ?_, ?_, setIt_below HBEL.out (Nat.le_refl _)⟩
                         · rw [HPB.out, plainB]
                           simp [badP]
                           try omega
                         · rw [HSE.out, Wd.append]
                           rw [show (Wd p ++ Wd [10]).length = i + (encN 10).length from by rw [List.length_append, HIE.out]; simp [Wd]]
                           exact HIT.out.setIt _)
         · by_cases h127 : r = 127
           · subst h127
             go_wp2_with fail
             go_ret
             refine ⟨?_, setIt_below HBEL.out (Nat.le_refl _)⟩
             rw [HPB.out]
             simp [plainB, badP]
             try omega
           · have f9 : ((r : Int) == 9) = false := by simp; omega
             have f10 : ((r : Int) == 10) = false := by simp; omega
             have f127 : ((r : Int) == 127) = false := by simp; omega
             have f9' : ¬ ((r : Int) = 9) := by omega
             have f10' : ¬ ((r : Int) = 10) := by omega
             have f127' : ¬ ((r : Int) = 127) := by omega
             by_cases h32 : r < 32
             · have f32 : (r : Int) < 32 := by omega
               go_wp2_with fail
               go_ret
               refine ⟨?_, setIt_below HBEL.out (Nat.le_refl _)⟩
               rw [HPB.out]
               simp [plainB, badP]
               try omega
             · have f32 : ¬ ((r : Int) < 32) := by omega
               have f32' : (32 : Int) ≤ (r : Int) := by omega
               go_wp2_with fail
               go_roundg (rs).length
               case measure => simp
               case rel =>
                 refine ⟨p ++ [r], rs, by rw [HE.out]; simp, rfl, ?_, ?_, setIt_below HBEL.out (Nat.le_refl _)⟩
                 · rw [HPB.out, plainB]
                   simp [badP]
                   try omega
                 · rw [HSE.out, Wd.append]
                   rw [show (Wd p ++ Wd [r]).length = i + (encN r).length from by rw [List.length_append, HIE.out]; simp [Wd]]
                   exact HIT.out.setIt _
end Go.Proofs.Ytnlkbbpmpgdmiaa
namespace Go.Proofs.Ytnlkbbpmpgdmiaa
open Go.RowKit
set_option linter.unusedVariables false
set_option linter.unusedSimpArgs false
theorem encode_enc {r : Nat} (h : Alpha r) : Utf8.encode (r : Int) = ⟨(encN r).toArray⟩ := by
 rcases h with h | rfl | rfl | rfl
 · have he : encN r = [UInt8.ofNat r] := by unfold encN; rw [if_pos h]
   have hv : Utf8.valid (r : Int) = true := by simp [Utf8.valid]; omega
   rw [he]
   unfold Utf8.encode
   simp [hv, h]
 · decide
 · decide
 · decide
theorem hx_hex {d : Nat} (h : d < 16) : HexC (hx d) ∧ hexV (hx d) = d := by
 have : d = 0 ∨ d = 1 ∨ d = 2 ∨ d = 3 ∨ d = 4 ∨ d = 5 ∨ d = 6 ∨ d = 7 ∨ d = 8 ∨ d = 9 ∨ d = 10 ∨ d = 11 ∨ d = 12 ∨ d = 13 ∨ d = 14 ∨ d = 15 := by omega
 unfold HexC
 rcases this with rfl | rfl | rfl | rfl | rfl | rfl | rfl | rfl | rfl | rfl | rfl | rfl | rfl | rfl | rfl | rfl <;> decide
theorem hexT_all (v n : Nat) : ∀ c ∈ hexT v n, HexC c := by
 induction n with
 | zero => intro c h; cases h
 | succ n ih =>
   intro c h
   rcases List.mem_cons.1 h with rfl | h
   · exact (hx_hex (Nat.mod_lt _ (by omega))).1
   · exact ih c h
theorem hexN_from (l : List UInt8) (a : Nat) : l.foldl (fun r c => 16 * r + hexV c) a = a * 16 ^ l.length + hexN l := by
 induction l generalizing a with
 | nil => simp [hexN]
 | cons c l ih =>
   unfold hexN
   rw [List.foldl_cons, List.foldl_cons, ih, ih (16 * 0 + hexV c)]
   simp only [List.length_cons, Nat.pow_succ, Nat.mul_zero, Nat.zero_add]
   rw [Nat.add_mul, Nat.mul_comm 16 a, Nat.mul_assoc, Nat.mul_comm 16 (16 ^ l.length)]
   omega
theorem hexN_hexT (v n : Nat) : hexN (hexT v n) = v % 16 ^ n := by
 induction n with
 | zero => simp [hexT, hexN, Nat.mod_one]
 | succ n ih =>
   have h := hexN_from (hexT v n) (16 * 0 + hexV (hx (v / 16 ^ n % 16)))
   unfold hexT hexN
   rw [List.foldl_cons, h, ih, hexT_len, (hx_hex (Nat.mod_lt _ (by omega))).2]
   rw [Nat.pow_succ, Nat.mod_mul, Nat.mul_zero, Nat.zero_add, Nat.mul_comm (16 ^ n)]
   omega
def EscOk (long : Bool) (r : Nat) (s : List UInt8) : Prop :=
 s.length ≤ 10 ∧ (long = false → BasP ⟨s, encN r⟩) ∧ (long = true → MBasP0 ⟨s, encN r⟩ ∧ (r ≠ 32 → r ≠ 9 → r ≠ 10 → ∀ c t, s = c :: t → c.toNat ≠ 32 ∧ c.toNat ≠ 9 ∧ c.toNat ≠ 10 ∧ c.toNat ≠ 13))
theorem EscOk.esc {long : Bool} {r : Nat} {s : List UInt8} (h : Esc s (encN r)) (hl : s.length ≤ 9) : EscOk long r (92 :: s) :=
 ⟨by simp; omega, fun _ => .inr ⟨s, h, rfl⟩, fun _ => ⟨.inr ⟨s, h, rfl⟩, fun _ _ _ c t e => by injection e with e1 e2; subst e1; decide⟩⟩
theorem EscOk.u4 {long : Bool} {r : Nat} (hA : Alpha r) (h : r < 65536) : EscOk long r (92 :: 117 :: hexT r 4) := by
 refine EscOk.esc (.inr (.inr (.inr (.inr (.inr (.inr (.inr (.inl ⟨hexT r 4, rfl, hexT_len _ _, hexT_all _ _, ?_⟩)))))))) (by simp [hexT_len])
 rw [hexN_hexT, Nat.mod_eq_of_lt (by omega)]
 exact ⟨hA, rfl⟩
theorem EscOk.u8 {long : Bool} {r : Nat} (hA : Alpha r) : EscOk long r (92 :: 85 :: hexT r 8) := by
 refine EscOk.esc (.inr (.inr (.inr (.inr (.inr (.inr (.inr (.inr ⟨hexT r 8, rfl, hexT_len _ _, hexT_all _ _, ?_⟩)))))))) (by simp [hexT_len])
 have : r < 16 ^ 8 := by unfold Alpha at hA; omega
 rw [hexN_hexT, Nat.mod_eq_of_lt this]
 exact ⟨hA, rfl⟩
theorem EscOk.self {long : Bool} {r : Nat} (hA : Alpha r) (h : 32 ≤ r) (h34 : r ≠ 34) (h92 : r ≠ 92) (h127 : r ≠ 127) : EscOk long r (encN r) := by
 have hlen := encN_len r
 have hch : Chunk BasC (encN r) ∧ Chunk MBasC (encN r) ∧ ∀ c t, encN r = c :: t → r ≠ 32 → c.toNat ≠ 32 ∧ c.toNat ≠ 9 ∧ c.toNat ≠ 10 ∧ c.toNat ≠ 13 := by
   rcases hA with hr | rfl | rfl | rfl
   · have he : encN r = [UInt8.ofNat r] := by unfold encN; rw [if_pos hr]
     have hn : (UInt8.ofNat r).toNat = r := by simp; omega
     rw [he]
     refine ⟨.inr ⟨_, .inl (by rw [hn]; omega), rfl⟩, .inr ⟨_, .inl (by rw [hn]; omega), rfl⟩, fun c t e h32 => ?_⟩
     injection e with e1 e2
     subst e1
     rw [hn]
     omega
   · exact ⟨.inl (.inl rfl), .inl (.inl rfl), fun c t e h32 => by injection e with e1 e2; subst e1; decide⟩
   · exact ⟨.inl (.inr (.inl rfl)), .inl (.inr (.inl rfl)), fun c t e h32 => by injection e with e1 e2; subst e1; decide⟩
   · exact ⟨.inl (.inr (.inr rfl)), .inl (.inr (.inr rfl)), fun c t e h32 => by injection e with e1 e2; subst e1; decide⟩
 exact ⟨by omega, fun _ => .inl ⟨hch.1, rfl⟩, fun _ => ⟨.inl ⟨hch.2.1, rfl⟩, fun h _ _ c t e => hch.2.2 c t e h⟩⟩
abbrev escK : ByteArray := ⟨#[8, 9, 12, 13, 34, 92]⟩
def escL : List Nat := [8, 9, 12, 13, 34, 92]
def EcRel (r : Nat) (sb : Nat) (C : Value) (cs : List UInt8) (a B : Nat) (w : World) (g : Nat) (wx : World) : Prop :=
 ∃ k, k + g = 6 ∧ r ∉ escL.take k ∧ It wx B escK k ∧ Sty wx sb C cs a ∧ SF sb w wx
theorem strU (b : UInt8) (l : List UInt8) : (⟨#[92, b]⟩ : ByteArray) ++ ⟨l.toArray⟩ = ⟨(92 :: b :: l).toArray⟩ := by
 apply ByteArray.ext
 simp [ByteArray.data_append]
theorem fin_below {w w1 : World} {sb : Nat} {C : Value} {cs : List UInt8} {a : Nat} (h : Sty w sb C cs a) (hb : Below w.heap.size w w1) : Sty w1 sb C cs a ∧ SF sb w w1 :=
 ⟨h.move (hb.mono (Nat.le_of_lt h.1.lt)) (h.1.below hb h.1.lt), hb.mono (Nat.le_of_lt h.1.lt), fun g o _ ho => (hb.block g (heap_lt ho)).trans ho⟩
set_option maxRecDepth 100000 in
set_option maxHeartbeats 4000000 in
theorem escaped_any {w : World} {sb : Nat} {C : Value} {cs : List UInt8} {a : Nat} (h : Sty w sb C cs a) (ha : a ≤ 999999990) {r : Nat} (hA : Alpha r) (long : Bool) :
   Calls Try.prog 53 #[.pointer (some ⟨sb, 0, none⟩), .int .i32 r, .bool long] w (Told (EscOk long r) sb C cs a 2 w) := by
 have hl := h.1.lt
 obtain ⟨B, hB⟩ : ∃ B, w.heap.size = B := ⟨_, rfl⟩
 have HI : Hid (It (World.iter w escK 0) B escK 0) := by show It _ _ _ _; rw [← hB]; exact It.new _ _ _
 have HIS : Hid (Sty (World.iter w escK 0) sb C cs a) := h.alloc _
 have HIF : Hid (SF sb w (World.iter w escK 0)) := SF.alloc (Nat.le_of_lt hl) _
 have HA := Lib.hid hA
 have hsb : sb < B := by omega
 clear h hA
 go_enter Try.func53, Try.ntmps53
 go_wp2_with fail
 go_loopg [7] 6 (fun g s7 wx => Hid (EcRel r sb C cs a B w g wx))
 case atStart => exact ⟨0, rfl, by simp [escL], HI.out, HIS.out, HIF.out⟩
 case round =>
   obtain ⟨k, hkg, hni, hit, hst, hf⟩ := hrel.out
   clear hrel
   have hk : k = 0 ∨ k = 1 ∨ k = 2 ∨ k = 3 ∨ k = 4 ∨ k = 5 ∨ k = 6 := by omega
   have HNI := Lib.hid hni
   have HST := Lib.hid hst
   have HF := Lib.hid hf
   clear hni hst hf
   rcases hk with rfl | rfl | rfl | rfl | rfl | rfl | rfl
   · have hnx : ∀ ty, (Instr.next (.pointer (some ⟨B, 0, none⟩)) true ty).run Try.prog wr = _ := fun ty => run_next_it hit ty (by decide)
     rw [show Utf8.decode escK 0 = (8, 1) from by decide] at hnx
     have hgk : gk = 5 + 1 := by omega
     have HST2 : Hid (Sty (World.setIt wr B escK 1) sb C cs a) := HST.out.setIt hsb _ _
     have HF2 : Hid (SF sb w (World.setIt wr B escK 1)) := setIt_SF (B := 0) HF.out hsb (Nat.le_of_eq hB)
     have HIT2 : Hid (It (World.setIt wr B escK 1) B escK 1) := hit.setIt _
     clear hit
     by_cases hr : r = 8
     · subst hr
       (go_wp2_with fail
        go_ret
        exact ⟨[92, 98], _, rfl, EscOk.esc (by unfold Esc; simp [encN]) (by decide), Nat.le_refl _, Nat.le_add_right _ _, HST2.out.alloc _, HF2.out.trans (SF.alloc (Nat.le_of_lt HST2.out.1.lt) _)⟩)
     · have fr : ((r : Int) == 8) = false := by simp; omega
       have fr' : ¬ ((r : Int) = 8) := by omega
       go_wp2_with fail
       subst hgk
       go_roundg 5
       case measure => simp
       case rel =>
         refine ⟨1, by omega, ?_, HIT2.out, HST2.out, HF2.out⟩
         have := HNI.out
         simp only [escL, List.take, List.mem_cons, List.mem_nil_iff, not_or] at this ⊢
         simp [this, hr]
   · have hnx : ∀ ty, (Instr.next (.pointer (some ⟨B, 0, none⟩)) true ty).run Try.prog wr = _ := fun ty => run_next_it hit ty (by decide)
     rw [show Utf8.decode escK 1 = (9, 1) from by decide] at hnx
     have hgk : gk = 4 + 1 := by omega
     have HST2 : Hid (Sty (World.setIt wr B escK 2) sb C cs a) := HST.out.setIt hsb _ _
     have HF2 : Hid (SF sb w (World.setIt wr B escK 2)) := setIt_SF (B := 0) HF.out hsb (Nat.le_of_eq hB)
     have HIT2 : Hid (It (World.setIt wr B escK 2) B escK 2) := hit.setIt _
     clear hit
     by_cases hr : r = 9
     · subst hr
       have hpv := pickV_lt cs a (n := 2) (by omega)
       go_wp2_with fail
       refine (pick_any HST2.out (by omega) 2 (by omega) (by omega)).mono ?_
       rintro e w1 ⟨rfl, hst1, hf1⟩
       have HF1 := Lib.hid (HF2.out.trans hf1)
       have HST1 := Lib.hid hst1
       clear hst1 hf1
       generalize pickV cs a 2 = p at *
       have hp : p = 0 ∨ p = 1 := by omega
       rcases hp with rfl | rfl
       · go_wp2_with fail
         go_ret
         exact ⟨[9], _, rfl, ⟨by decide, fun _ => .inl ⟨.inr ⟨9, .inr rfl, rfl⟩, rfl⟩, fun _ => ⟨.inl ⟨.inr ⟨9, .inr (.inl rfl), rfl⟩, rfl⟩, fun _ h => absurd rfl h⟩⟩, Nat.le_add_right _ _, by omega, HST1.out, HF1.out⟩
       · go_wp2_with fail
         go_ret
         exact ⟨[92, 116], _, rfl, EscOk.esc (by unfold Esc; simp [encN]) (by decide), Nat.le_add_right _ _, by omega, HST1.out.alloc _, HF1.out.trans (SF.alloc (Nat.le_of_lt HST1.out.1.lt) _)⟩
     · have fr : ((r : Int) == 9) = false := by simp; omega
       have fr' : ¬ ((r : Int) = 9) := by omega
       go_wp2_with fail
       subst hgk
       go_roundg 4
       case measure => simp
       case rel =>
         refine ⟨2, by omega, ?_, HIT2.out, HST2.out, HF2.out⟩
         have := HNI.out
         simp only [escL, List.take, List.mem_cons, List.mem_nil_iff, not_or] at this ⊢
         simp [this, hr]
   · have hnx : ∀ ty, (Instr.next (.pointer (some ⟨B, 0, none⟩)) true ty).run Try.prog wr = _ := fun ty => run_next_it hit ty (by decide)
     rw [show Utf8.decode escK 2 = (12, 1) from by decide] at hnx
     have hgk : gk = 3 + 1 := by omega
     have HST2 : Hid (Sty (World.setIt wr B escK 3) sb C cs a) := HST.out.setIt hsb _ _
     have HF2 : Hid (SF sb w (World.setIt wr B escK 3)) := setIt_SF (B := 0) HF.out hsb (Nat.le_of_eq hB)
     have HIT2 : Hid (It (World.setIt wr B escK 3) B escK 3) := hit.setIt _
     clear hit
     by_cases hr : r = 12
     · subst hr
       (go_wp2_with fail
        go_ret
        exact ⟨[92, 102], _, rfl, EscOk.esc (by unfold Esc; simp [encN]) (by decide), Nat.le_refl _, Nat.le_add_right _ _, HST2.out.alloc _, HF2.out.trans (SF.alloc (Nat.le_of_lt HST2.out.1.lt) _)⟩)
     · have fr : ((r : Int) == 12) = false := by simp; omega
       have fr' : ¬ ((r : Int) = 12) := by omega
       go_wp2_with fail
       subst hgk
       go_roundg 3
       case measure => simp
       case rel =>
         refine ⟨3, by omega, ?_, HIT2.out, HST2.out, HF2.out⟩
         have := HNI.out
         simp only [escL, List.take, List.mem_cons, List.mem_nil_iff, not_or] at this ⊢
         simp [this, hr]
   · have hnx : ∀ ty, (Instr.next (.pointer (some ⟨B, 0, none⟩)) true ty).run Try.prog wr = _ := fun ty => run_next_it hit ty (by decide)
     rw [show Utf8.decode escK 3 = (13, 1) from by decide] at hnx
     have hgk : gk = 2 + 1 := by omega
     have HST2 : Hid (Sty (World.setIt wr B escK 4) sb C cs a) := HST.out.setIt hsb _ _
     have HF2 : Hid (SF sb w (World.setIt wr B escK 4)) := setIt_SF (B := 0) HF.out hsb (Nat.le_of_eq hB)
     have HIT2 : Hid (It (World.setIt wr B escK 4) B escK 4) := hit.setIt _
     clear hit
     by_cases hr : r = 13
     · subst hr
       (go_wp2_with fail
        go_ret
        exact ⟨[92, 114], _, rfl, EscOk.esc (by unfold Esc; simp [encN]) (by decide), Nat.le_refl _, Nat.le_add_right _ _, HST2.out.alloc _, HF2.out.trans (SF.alloc (Nat.le_of_lt HST2.out.1.lt) _)⟩)
     · have fr : ((r : Int) == 13) = false := by simp; omega
       have fr' : ¬ ((r : Int) = 13) := by omega
       go_wp2_with fail
       subst hgk
       go_roundg 2
       case measure => simp
       case rel =>
         refine ⟨4, by omega, ?_, HIT2.out, HST2.out, HF2.out⟩
         have := HNI.out
         simp only [escL, List.take, List.mem_cons, List.mem_nil_iff, not_or] at this ⊢
         simp [this, hr]
   · have hnx : ∀ ty, (Instr.next (.pointer (some ⟨B, 0, none⟩)) true ty).run Try.prog wr = _ := fun ty => run_next_it hit ty (by decide)
     rw [show Utf8.decode escK 4 = (34, 1) from by decide] at hnx
     have hgk : gk = 1 + 1 := by omega
     have HST2 : Hid (Sty (World.setIt wr B escK 5) sb C cs a) := HST.out.setIt hsb _ _
     have HF2 : Hid (SF sb w (World.setIt wr B escK 5)) := setIt_SF (B := 0) HF.out hsb (Nat.le_of_eq hB)
     have HIT2 : Hid (It (World.setIt wr B escK 5) B escK 5) := hit.setIt _
     clear hit
     by_cases hr : r = 34
     · subst hr
       (go_wp2_with fail
        go_ret
        exact ⟨[92, 34], _, rfl, EscOk.esc (by unfold Esc; simp [encN]) (by decide), Nat.le_refl _, Nat.le_add_right _ _, HST2.out.alloc _, HF2.out.trans (SF.alloc (Nat.le_of_lt HST2.out.1.lt) _)⟩)
     · have fr : ((r : Int) == 34) = false := by simp; omega
       have fr' : ¬ ((r : Int) = 34) := by omega
       go_wp2_with fail
       subst hgk
       go_roundg 1
       case measure => simp
       case rel =>
         refine ⟨5, by omega, ?_, HIT2.out, HST2.out, HF2.out⟩
         have := HNI.out
         simp only [escL, List.take, List.mem_cons, List.mem_nil_iff, not_or] at this ⊢
         simp [this, hr]
   · have hnx : ∀ ty, (Instr.next (.pointer (some ⟨B, 0, none⟩)) true ty).run Try.prog wr = _ := fun ty => run_next_it hit ty (by decide)
     rw [show Utf8.decode escK 5 = (92, 1) from by decide] at hnx
     have hgk : gk = 0 + 1 := by omega
     have HST2 : Hid (Sty (World.setIt wr B escK 6) sb C cs a) := HST.out.setIt hsb _ _
     have HF2 : Hid (SF sb w (World.setIt wr B escK 6)) := setIt_SF (B := 0) HF.out hsb (Nat.le_of_eq hB)
     have HIT2 : Hid (It (World.setIt wr B escK 6) B escK 6) := hit.setIt _
     clear hit
     by_cases hr : r = 92
     · subst hr
       (go_wp2_with fail
        go_ret
        exact ⟨[92, 92], _, rfl, EscOk.esc (by unfold Esc; simp [encN]) (by decide), Nat.le_refl _, Nat.le_add_right _ _, HST2.out.alloc _, HF2.out.trans (SF.alloc (Nat.le_of_lt HST2.out.1.lt) _)⟩)
     · have fr : ((r : Int) == 92) = false := by simp; omega
       have fr' : ¬ ((r : Int) = 92) := by omega
       go_wp2_with fail
       subst hgk
       go_roundg 0
       case measure => simp
       case rel =>
         refine ⟨6, by omega, ?_, HIT2.out, HST2.out, HF2.out⟩
         have := HNI.out
         simp only [escL, List.take, List.mem_cons, List.mem_nil_iff, not_or] at this ⊢
         simp [this, hr]
   · have hnx : ∀ ty, (Instr.next (.pointer (some ⟨B, 0, none⟩)) true ty).run Try.prog wr = _ := fun ty => run_next_it_end hit ty (by decide)
     have hne : r ≠ 8 ∧ r ≠ 9 ∧ r ≠ 12 ∧ r ≠ 13 ∧ r ≠ 34 ∧ r ≠ 92 := by
       have := HNI.out
       simpa [escL, List.take] using this
     have hr0 : (0 : Int) ≤ (r : Int) := by omega
     have hr2 : r ≤ 0x1F600 := by have := HA.out; unfold Alpha at this; omega
     have hr3 : (r : Int) ≤ 0x1F600 := by omega
     have hl4 : (hexT r 4).length = 4 := hexT_len _ _
     have hl8 : (hexT r 8).length = 8 := hexT_len _ _
     clear hit
     by_cases h10 : r = 10
     · subst h10
       cases long with
       | true =>
         go_wp2_with fail
         go_ret
         exact ⟨[10], _, rfl, ⟨by decide, fun h => (by cases h), fun _ => ⟨.inl ⟨.inr ⟨10, .inr (.inr rfl), rfl⟩, rfl⟩, fun _ _ h => absurd rfl h⟩⟩, Nat.le_refl _, Nat.le_add_right _ _, HST.out, HF.out⟩
       | false =>
         go_wp2_with fail
         go_ret
         exact ⟨[92, 110], _, rfl, EscOk.esc (by unfold Esc; simp [encN]) (by decide), Nat.le_refl _, Nat.le_add_right _ _, HST.out, HF.out⟩
     · have f10 : ((r : Int) == 10) = false := by simp; omega
       have f10' : ¬ ((r : Int) = 10) := by omega
       by_cases h127 : r = 127
       · subst h127
         go_wp2_with fail
         refine (hex_any (v := 127) (n := 4) (by omega) (by omega)).mono ?_
         rintro e w1 ⟨rfl, hb⟩
         go_wp2_with fail
         go_ret
         have hfb := fin_below HST.out hb
         refine ⟨(92 :: 117 :: hexT 127 4), _, by rw [← strU]; rfl, (EscOk.u4 HA.out (by omega)), ?_, ?_, hfb.1, (HF.out).trans hfb.2⟩
         · omega
         · omega
       · have f127 : ((r : Int) == 127) = false := by simp; omega
         have f127' : ¬ ((r : Int) = 127) := by omega
         by_cases h32 : r < 32
         · have f32 : (r : Int) < 32 := by omega
           go_wp2_with fail
           refine (hex_any (v := r) (n := 4) (by omega) (by omega)).mono ?_
           rintro e w1 ⟨rfl, hb⟩
           go_wp2_with fail
           go_ret
           have hfb := fin_below HST.out hb
           refine ⟨(92 :: 117 :: hexT r 4), _, by rw [← strU]; rfl, (EscOk.u4 HA.out (by omega)), ?_, ?_, hfb.1, (HF.out).trans hfb.2⟩
           · omega
           · omega
         · have f32 : ¬ ((r : Int) < 32) := by omega
           have f32' : (32 : Int) ≤ (r : Int) := by omega
           go_wp2_with fail
           refine (pick_any HST.out (by omega) 9 (by omega) (by omega)).mono ?_
           rintro e w1 ⟨rfl, hst1, hf1⟩
           have HF1 := Lib.hid (HF.out.trans hf1)
           have HST1 := Lib.hid hst1
           clear hst1 hf1
           generalize pickV cs a 9 = p at *
           by_cases h64 : p = 0 ∧ r < 65536
           · obtain ⟨rfl, h64⟩ := h64
             have f64 : (r : Int) < 65536 := by omega
             go_wp2_with fail
             refine (hex_any (v := r) (n := 4) (by omega) (by omega)).mono ?_
             rintro e w2 ⟨rfl, hb⟩
             go_wp2_with fail
             go_ret
             have hfb := fin_below HST1.out hb
             refine ⟨(92 :: 117 :: hexT r 4), _, by rw [← strU]; rfl, (EscOk.u4 HA.out (by omega)), ?_, ?_, hfb.1, (HF1.out).trans hfb.2⟩
             · omega
             · omega
           · by_cases hp : p = 0
             · subst hp
               obtain rfl : r = 128512 := by have := HA.out; unfold Alpha at this; omega
               clear hr0 hr2 hr3 f10 f10' f127 f127' f32 f32' h64 hne
               go_wp2_with fail
               refine (pick_any HST1.out (by omega) 9 (by omega) (by omega)).mono ?_
               rintro e w2 ⟨rfl, hst1, hf1⟩
               have HF2 := Lib.hid (HF1.out.trans hf1)
               have HST2 := Lib.hid hst1
               clear hst1 hf1
               generalize pickV cs (a + 1) 9 = q at *
               by_cases hq : q = 0
               · subst hq
                 go_wp2_with fail
                 refine (hex_any (v := 128512) (n := 8) (by omega) (by omega)).mono ?_
                 rintro e w3 ⟨rfl, hb⟩
                 go_wp2_with fail
                 go_ret
                 have hfb := fin_below HST2.out hb
                 refine ⟨(92 :: 85 :: hexT 128512 8), _, by rw [← strU]; rfl, (EscOk.u8 HA.out), ?_, ?_, hfb.1, (HF2.out).trans hfb.2⟩
                 · omega
                 · omega
               · have fq : ((q : Int) == 0) = false := by simp; omega
                 have fq' : ¬ ((q : Int) = 0) := by omega
                 go_wp2_with fail
                 go_ret
                 have he := encode_enc HA.out
                 refine ⟨encN 128512, _, by rw [← he]; rfl, EscOk.self HA.out (by omega) (by omega) (by omega) h127, ?_, ?_, HST2.out, HF2.out⟩
                 · omega
                 · omega
             · have fp : ((p : Int) == 0) = false := by simp; omega
               have fp' : ¬ ((p : Int) = 0) := by omega
               go_wp2_with fail
               refine (pick_any HST1.out (by omega) 9 (by omega) (by omega)).mono ?_
               rintro e w2 ⟨rfl, hst1, hf1⟩
               have HF2 := Lib.hid (HF1.out.trans hf1)
               have HST2 := Lib.hid hst1
               clear hst1 hf1
               generalize pickV cs (a + 1) 9 = q at *
               by_cases hq : q = 0
               · subst hq
                 go_wp2_with fail
                 refine (hex_any (v := r) (n := 8) (by omega) (by omega)).mono ?_
                 rintro e w3 ⟨rfl, hb⟩
                 go_wp2_with fail
                 go_ret
                 have hfb := fin_below HST2.out hb
                 refine ⟨(92 :: 85 :: hexT r 8), _, by rw [← strU]; rfl, (EscOk.u8 HA.out), ?_, ?_, hfb.1, (HF2.out).trans hfb.2⟩
                 · omega
                 · omega
               · have fq : ((q : Int) == 0) = false := by simp; omega
                 have fq' : ¬ ((q : Int) = 0) := by omega
                 go_wp2_with fail
                 go_ret
                 have he := encode_enc HA.out
                 refine ⟨encN r, _, by rw [← he]; rfl, EscOk.self HA.out (by omega) (by omega) (by omega) h127, ?_, ?_, HST2.out, HF2.out⟩
                 · omega
                 · omega
end Go.Proofs.Ytnlkbbpmpgdmiaa
namespace Go.Proofs.Ytnlkbbpmpgdmiaa
open Go.RowKit
set_option linter.unusedVariables false
set_option linter.unusedSimpArgs false
theorem info21 : (Try.prog.info? 21).map (fun i => (i.zero, i.size, i.bytes)) = some (some (.int .i32 0), 1, 4) := by kernel_rfl
def Word46 (w : World) (e : Ending) (w' : World) : Prop := ∃ rs : List Nat, e = .returned (.string ⟨((rs.map encN).flatten).toArray⟩) ∧ (∀ r ∈ rs, Alpha r) ∧ rs.length ≤ 6 ∧ Below w.heap.size w w'
def Letters : List Nat := [97, 66, 55, 95, 45, 32, 34, 39, 92, 10, 9, 46, 35, 61, 228, 20013, 128512, 31, 127, 91, 93, 13]
theorem letters_alpha : ∀ r ∈ Letters, Alpha r := by unfold Letters Alpha; decide
theorem runes_fold : ∀ (rs : List Nat) (b : List UInt8), (∀ r ∈ rs, Alpha r) → (rs.map fun r : Nat => (r : Int)).foldl (fun r n => r ++ Utf8.encode n) (⟨b.toArray⟩ : ByteArray) = ⟨(b ++ (rs.map encN).flatten).toArray⟩
 | [], b, _ => by simp
 | r :: rs, b, h => by
   rw [List.map_cons, List.foldl_cons, encode_enc (h r (by simp))]
   rw [show (⟨b.toArray⟩ : ByteArray) ++ ⟨(encN r).toArray⟩ = ⟨(b ++ encN r).toArray⟩ from by apply ByteArray.ext; simp [ByteArray.data_append]]
   rw [runes_fold rs _ (fun r' h' => h r' (by simp [h']))]
   simp
theorem runes_enc (rs : List Nat) (h : ∀ r ∈ rs, Alpha r) : runesBytes (rs.map fun r : Nat => (r : Int)) = ⟨((rs.map encN).flatten).toArray⟩ := runes_fold rs [] h
theorem own_conv {w : World} {B : Nat} {v : Value} {rs : List Nat} (h : w.ownsRow B 21 1 v rs.length (rs.map fun r : Nat => Value.int .i32 r)) (hA : ∀ r ∈ rs, Alpha r) : (convert 117 9 v).run Try.prog w = .ok (.string ⟨((rs.map encN).flatten).toArray⟩) w := by
 obtain ⟨_, h2⟩ := h
 rcases h2 with ⟨rfl, h3⟩ | ⟨g, cap, cur, rfl, _, hc, hn, _, hs, ht⟩
 · have : rs = [] := List.eq_nil_of_length_eq_zero h3
   subst this
   exact run_convert_runes_nil w 117 9 21 0 0 Try.underlying117 Try.underlying21 Try.underlying9
 · rw [run_convert_runes w 117 9 21 ⟨g, 0, none⟩ rs.length cap (rs.map fun r : Nat => (r : Int)) (by simp) Try.underlying117 Try.underlying21 Try.underlying9 ?_]
   · rw [List.take_of_length_le (by simp), runes_enc rs hA]
   · intro j hj
     rw [List.length_map] at hj
     have hb : Blk w g 21 cur := hc
     rw [Addr.add_lit, Nat.zero_add, hb.cell, ← Array.getElem?_toList]
     have h1 : (cur.toList.take (rs.length * 1))[j]? = (rs.map fun r : Nat => Value.int .i32 r)[j]? := by rw [ht]
     rw [List.getElem?_take_of_lt (by omega)] at h1
     rw [h1]
     simp [List.getD, hj]
def WdRel (m : Nat) (w : World) (g : Nat) (s3 s8 : Value) (wx : World) : Prop :=
 ∃ (k : Nat) (rs : List Nat), k + g = m ∧ s8 = .int .u32 k ∧ rs.length = k ∧ (∀ r ∈ rs, Alpha r) ∧ wx.ownsRow w.heap.size 21 1 s3 rs.length (rs.map fun r : Nat => Value.int .i32 r) ∧ Below w.heap.size w wx
theorem size_alloc1 (w : World) (o : Obj) : (w.alloc o).heap.size = w.heap.size + 1 := by simp
theorem own_slice {w : World} {B : Nat} {e : TypeId} {sz n : Nat} {v : Value} {xs : List Value} (h : w.ownsRow B e sz v n xs) : ∃ a m c, v = .slice a m c := by
 rcases h.2 with ⟨rfl, _⟩ | ⟨g, cap, cur, rfl, _⟩ <;> exact ⟨_, _, _, rfl⟩
theorem own_row {B : Nat} {w w' : World} {e : TypeId} {sz n : Nat} {v : Value} {xs : List Value} (h : w.ownsRow B e sz v n xs) (hk : ∀ g cs, Blk w g e cs → Blk w' g e cs) : w'.ownsRow B e sz v n xs := by
 obtain ⟨h1, h2⟩ := h
 refine ⟨h1, ?_⟩
 rcases h2 with h2 | ⟨g, cap, cur, a, b, c, d, e, f, k⟩
 · exact .inl h2
 · exact .inr ⟨g, cap, cur, a, b, hk g cur c, d, e, f, k⟩
set_option maxRecDepth 100000 in
set_option maxHeartbeats 4000000 in
theorem word_any (n : Nat) (hn : (n : Int) ≤ 4294967295) (w : World) : Calls Try.prog 46 #[.int .u32 n] w (Word46 w) := by
 obtain ⟨i0, hi0, hz0, hz1, hz2⟩ := info_parts info21
 have HI0 := Lib.hid hi0
 clear hi0
 obtain ⟨m, hm⟩ : ∃ m : Nat, (n : Int) % 7 = m := ⟨n % 7, by simp⟩
 have hm6 : m ≤ 6 := by omega
 have hm1 : (n : Int) % 7 ≤ m := by omega
 have hm2 : (m : Int) ≤ (n : Int) % 7 := by omega
 have HM := Lib.hid hm
 clear hm
 go_enter Try.func46, Try.ntmps46
 go_wp2_with fail
 go_loopg [3, 8] m (fun g s3 s8 wx => Hid (WdRel m w g s3 s8 wx))
 case atStart => exact ⟨0, [], by omega, rfl, rfl, by simp, World.ownsRow_made w #[] 0 (Nat.le_refl _) (by simp [maxLen]) rfl, (Below.refl _ w).alloc (Nat.le_refl _) _⟩
 case round =>
   obtain ⟨k, rs, hk, rfl, hl, hA, hown, hb⟩ := hrel.out
   clear hrel
   obtain ⟨ia, inn, ic, rfl⟩ := own_slice hown
   by_cases hlt : k < m
   · have hlt' : (k : Int) < (n : Int) % 7 := by omega
     obtain ⟨i, hi⟩ : ∃ i, (n / 8 + k * (n / 32 + 7)) % 4294967296 % 22 = i := ⟨_, rfl⟩
     have hi22 : i < 22 := by rw [← hi]; exact Nat.mod_lt _ (by omega)
     obtain ⟨r, hr⟩ : ∃ r, Letters[i]? = some r := ⟨_, List.getElem?_eq_getElem (by simpa [Letters] using hi22)⟩
     have HR := Lib.hid (letters_alpha r (List.mem_of_getElem? hr))
     have hget : (Letters.map fun r : Nat => Value.int .i32 r)[i]? = some (.int .i32 r) := by rw [List.getElem?_map, hr]; rfl
     have hget2 : ∀ h, (Letters.map fun r : Nat => Value.int .i32 r)[i]'h = .int .i32 r := fun h => by
       have := List.getElem?_eq_getElem h
       rw [hget] at this
       injection this with this
       exact this.symm
     simp only [Letters, List.map_cons, List.map_nil, Int.cast_ofNat_Int] at hget2
     clear hget
     have HB := Lib.hid hb
     have HA := Lib.hid hA
     have HL := Lib.hid hl
     have HOW : Hid (((wr.alloc (.cells #[.int .i32 97, .int .i32 66, .int .i32 55, .int .i32 95, .int .i32 45, .int .i32 32, .int .i32 34, .int .i32 39, .int .i32 92, .int .i32 10, .int .i32 9, .int .i32 46, .int .i32 35, .int .i32 61, .int .i32 228, .int .i32 20013, .int .i32 128512, .int .i32 31, .int .i32 127, .int .i32 91, .int .i32 93, .int .i32 13] 21)).alloc (.cells #[.int .i32 r] 21)).ownsRow w.heap.size 21 1 (.slice ia inn ic) rs.length (rs.map fun r : Nat => Value.int .i32 r)) := own_row hown (fun g cs h => (h.alloc _).alloc _)
     have hrl : rs.length ≤ 6 := by omega
     have hsw := hb.size
     have HNW : Hid (∀ j u, ([.int .i32 r] : List Value)[j]? = some u → ((wr.alloc (.cells #[.int .i32 97, .int .i32 66, .int .i32 55, .int .i32 95, .int .i32 45, .int .i32 32, .int .i32 34, .int .i32 39, .int .i32 92, .int .i32 10, .int .i32 9, .int .i32 46, .int .i32 35, .int .i32 61, .int .i32 228, .int .i32 20013, .int .i32 128512, .int .i32 31, .int .i32 127, .int .i32 91, .int .i32 93, .int .i32 13] 21)).alloc (.cells #[.int .i32 r] 21)).cell? ((⟨wr.heap.size + 1, 0, none⟩ : Addr).add j) = some u) := by
       have h1 := Blk.new (wr.alloc (.cells #[.int .i32 97, .int .i32 66, .int .i32 55, .int .i32 95, .int .i32 45, .int .i32 32, .int .i32 34, .int .i32 39, .int .i32 92, .int .i32 10, .int .i32 9, .int .i32 46, .int .i32 35, .int .i32 61, .int .i32 228, .int .i32 20013, .int .i32 128512, .int .i32 31, .int .i32 127, .int .i32 91, .int .i32 93, .int .i32 13] 21)) 21 #[.int .i32 r]
       rw [size_alloc1] at h1
       exact Blk.add (l := [.int .i32 r]) h1
     clear hr hb hA hown hl HM
     go_wp2_with (first
       | (at_builtin; refine wpList_append_lies _ rfl (.tmp 11) (.tmp 24) 117 rfl w.heap.size 21 i0 _ 1 4 Try.underlying117 HI0.out hz0 hz1 hz2 rfl (by decide) (.slice ia inn ic) rs.length (rs.map fun r : Nat => Value.int .i32 r) (by rfl) HOW.out ⟨wr.heap.size + 1, 0, none⟩ 1 1 [.int .i32 r] (by rfl) rfl ?c1 ?c2 ?mp ?mx ?by_ ?bs (wr.heap.size + 2) ?hH ?_
          case c1 => exact HNW.out
          case c2 => intro u hu; simp at hu; subst hu; rfl
          case mp => omega
          case mx => simp only [maxLen]; omega
          case by_ => omega
          case bs => simp; omega
          case hH => simp
          intro g7 c7 w7 hown7 hgrow7 hlies7 hlt7
          have HOWN7 := Lib.hid hown7
          have HGROW7 := Lib.hid hgrow7
          clear hown7 hgrow7 hlies7))
     go_roundg (gk - 1)
     case measure => omega
     case rel =>
       refine ⟨k + 1, rs ++ [r], by omega, by go_num, by simp [HL.out], ?_, ?_, ?_⟩
       · intro r' h
         rcases List.mem_append.1 h with h | h
         · exact HA.out r' h
         · have : r' = r := by simpa using h
           rw [this]; exact HR.out
       · rw [List.length_append, List.map_append]
         exact HOWN7.out
       · have hs := HB.out.size
         refine ((HB.out.alloc hs _).alloc (by simp; omega) _).grown HGROW7.out (by simp; omega) ?_
         intro k' hk'
         exact (HOW.out.lt k' hk').1
   · have hlt' : (n : Int) % 7 ≤ (k : Int) := by omega
     have hcv := own_conv hown hA
     have HFIN : Hid (Word46 w (.returned (.string ⟨((rs.map encN).flatten).toArray⟩)) wr) := ⟨rs, rfl, hA, by omega, hb⟩
     clear hown hA hb hl hk HM
     generalize (rs.map encN).flatten = t at *
     go_wp2_with fail
     go_ret
     exact HFIN.out
end Go.Proofs.Ytnlkbbpmpgdmiaa
