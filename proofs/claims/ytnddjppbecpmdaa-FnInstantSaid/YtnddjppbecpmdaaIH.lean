/- Texts of instants, and what the thin package says of them. -/
import Derived.Test.YtnddjppbecpmdaaIG
import Derived.Test.YtnddjppbecpmdaaDB
namespace Go.Proofs.Ytnddjppbecpmdaa
open Go.RowKit
set_option linter.unusedVariables false
set_option linter.unusedSimpArgs false

/-- a text of an instant -/
def InstText (l : List UInt8) (u n o : Int) : Prop :=
  ∀ (w : World) (b cap : Nat), Bts w b 0 l → b < w.heap.size → l.length ≤ cap → Calls Try.prog 28 #[.slice (some ⟨b, 0, none⟩) l.length cap] w (InstRes u n o w)

theorem restOk_cons {c : UInt8} {q : List UInt8} (h : (c.toNat < 48 ∨ 57 < c.toNat) ∧ c.toNat ≠ 46) : RestOk (c :: q) := by
  intro a r e
  injection e with e1 _
  rw [← e1]
  exact h

theorem dt_calls {ys ms ds tl r : List UInt8} {y m d h mi s n p : Int} (ho : DayOk ys ms ds y m d) (ht : TimeText tl h mi s n p) (hr : RestOk r) (htl : 8 ≤ tl.length) {w : World} {b cap len : Nat}
    (hb : Bts w b 0 (dateL ys ms ds ++ (84 :: (tl ++ r)))) (lt : b < w.heap.size) (hlen : len = 11 + (tl ++ r).length) (hcap : len ≤ cap) (o : Obj) :
    Calls Try.prog 27 #[.slice (some ⟨b, 0, none⟩) len cap] (w.alloc o) (DtRes y m d h mi s n p b (11 + tl.length) r.length (w.alloc o)) :=
  pldt_any ys ms ds tl r 84 y m d h mi s n p b cap len (w.alloc o) ho (by decide) ht hr (hb.alloc lt o) (by simp; omega) hlen hcap htl

theorem zone_bts {ys ms ds tl r : List UInt8} {y m d : Int} (ho : DayOk ys ms ds y m d) {w : World} {b : Nat} (hb : Bts w b 0 (dateL ys ms ds ++ (84 :: (tl ++ r)))) : Bts w b (11 + tl.length) r := by
  have h1 := hb.post
  have hl : (dateL ys ms ds).length = 10 := by simp [dateL, ho.ly, ho.lm, ho.ld]
  rw [hl] at h1
  have h2 := h1.head.2.post
  rw [show 0 + 10 + 1 + tl.length = 11 + tl.length from by omega] at h2
  exact h2

theorem dl_length {ys ms ds tl r : List UInt8} {y m d : Int} (ho : DayOk ys ms ds y m d) : (dateL ys ms ds ++ (84 :: (tl ++ r))).length = 11 + (tl ++ r).length := by
  simp [dateL, ho.ly, ho.lm, ho.ld]
  omega

theorem instText_z {ys ms ds tl : List UInt8} {y m d h mi s n p : Int} (ho : DayOk ys ms ds y m d) (hn : Nums y m d h mi s n) (ht : TimeText tl h mi s n p) (htl : 8 ≤ tl.length) :
    InstText (dateL ys ms ds ++ (84 :: (tl ++ [90]))) (daysT y m d * 86400 + (h * 3600 + mi * 60 + s)) n 0 := by
  intro w b cap hb lt hcap
  have hl := dl_length (tl := tl) (r := [90]) ho
  rw [hl] at hcap ⊢
  exact pdt_z y m d h mi s n p b (11 + tl.length) cap _ w hn (dt_calls ho ht (restOk_cons (by decide)) htl hb lt rfl hcap) (zone_bts ho hb).head.1 lt

theorem instText_plus {ys ms ds tl H M : List UInt8} {y m d h mi s n p : Int} (ho : DayOk ys ms ds y m d) (hn : Nums y m d h mi s n) (ht : TimeText tl h mi s n p) (htl : 8 ≤ tl.length)
    (lH : H.length = 2) (lM : M.length = 2) (gH : Digs H) (gM : Digs M) (vH : val H ≤ 23) (vM : val M ≤ 59) :
    InstText (dateL ys ms ds ++ (84 :: (tl ++ (43 :: (H ++ 58 :: M))))) (daysT y m d * 86400 + (h * 3600 + mi * 60 + s) - ((val H : Int) * 3600 + (val M : Int) * 60)) n ((val H : Int) * 3600 + (val M : Int) * 60) := by
  intro w b cap hb lt hcap
  have hl := dl_length (tl := tl) (r := 43 :: (H ++ 58 :: M)) ho
  rw [hl] at hcap ⊢
  have hz := (zone_bts ho hb).head
  have h2 := hz.2.post.head
  rw [lH] at h2
  have hc := dt_calls ho ht (restOk_cons (q := H ++ 58 :: M) (by decide)) htl hb lt rfl hcap
  rw [show (43 :: (H ++ 58 :: M) : List UInt8).length = 6 from by simp [lH, lM]] at hc
  exact pdt_plus y m d h mi s n p 43 H M b (11 + tl.length) cap _ w hn hc hz.1 rfl hz.2.pre h2.1 h2.2 lH lM gH gM vH vM lt

theorem instText_minus {ys ms ds tl H M : List UInt8} {y m d h mi s n p : Int} (ho : DayOk ys ms ds y m d) (hn : Nums y m d h mi s n) (ht : TimeText tl h mi s n p) (htl : 8 ≤ tl.length)
    (lH : H.length = 2) (lM : M.length = 2) (gH : Digs H) (gM : Digs M) (vH : val H ≤ 23) (vM : val M ≤ 59) :
    InstText (dateL ys ms ds ++ (84 :: (tl ++ (45 :: (H ++ 58 :: M))))) (daysT y m d * 86400 + (h * 3600 + mi * 60 + s) - (-((val H : Int) * 3600 + (val M : Int) * 60))) n (-((val H : Int) * 3600 + (val M : Int) * 60)) := by
  intro w b cap hb lt hcap
  have hl := dl_length (tl := tl) (r := 45 :: (H ++ 58 :: M)) ho
  rw [hl] at hcap ⊢
  have hz := (zone_bts ho hb).head
  have h2 := hz.2.post.head
  rw [lH] at h2
  have hc := dt_calls ho ht (restOk_cons (q := H ++ 58 :: M) (by decide)) htl hb lt rfl hcap
  rw [show (45 :: (H ++ 58 :: M) : List UInt8).length = 6 from by simp [lH, lM]] at hc
  exact pdt_minus y m d h mi s n p 45 H M b (11 + tl.length) cap _ w hn hc hz.1 rfl hz.2.pre h2.1 h2.2 lH lM gH gM vH vM lt

def ImRes (u n o : Int) (w : World) (e : Ending) (w' : World) : Prop := e = .returned (.tuple #[.int .i64 u, .int .i64 n, .int .i64 o, .bool true]) ∧ Below w.heap.size w w'

theorem nums_bd {y m d h mi s n : Int} (hn : Nums y m d h mi s n) : -70000000000 ≤ daysT y m d * 86400 + (h * 3600 + mi * 60 + s) ∧ daysT y m d * 86400 + (h * 3600 + mi * 60 + s) ≤ 330000000000 := by
  have hb := daysT_bd y m d hn.y0 hn.y1 hn.m0 hn.m1 hn.d0 hn.d1
  obtain ⟨_, _, _, _, _, _, h0, h1, i0, i1, s0, s1, _, _⟩ := hn
  omega

theorem impl_of_text {l : List UInt8} {u n o : Int} (hl : InstText l u n o) (n0 : 0 ≤ n) (n1 : n ≤ 999999999) (u0 : -100000000000 ≤ u) (u1 : u ≤ 400000000000) (w : World) :
    Calls Try.prog 16 #[.string ⟨l.toArray⟩] w (ImRes u n o w) :=
  implInst_any l u n o w n0 n1 u0 u1 hl

/-- the zone's text -/
def zoneL (o : Int) (L4 L5 : List UInt8) : List UInt8 := (if o < 0 then 45 else 43) :: (L4 ++ 58 :: L5)

theorem impl_z (y m d h mi s n p : Int) (L1 L2 L3 tl : List UInt8) (w : World) (hn : Nums y m d h mi s n) (d2 : d ≤ mdays y m) (e1 : L1 = fig 4 y.toNat) (e2 : L2 = fig 2 m.toNat) (e3 : L3 = fig 2 d.toNat) (ht : TimeText tl h mi s n p) (htl : 8 ≤ tl.length) :
    Calls Try.prog 16 #[.string (⟨L1.toArray⟩ ++ ⟨#[45]⟩ ++ ⟨L2.toArray⟩ ++ ⟨#[45]⟩ ++ ⟨L3.toArray⟩ ++ ⟨#[84]⟩ ++ ⟨tl.toArray⟩ ++ ⟨#[90]⟩)] w (ImRes (daysT y m d * 86400 + (h * 3600 + mi * 60 + s)) n 0 w) := by
  have hb := nums_bd hn
  have hc := impl_of_text (instText_z (dayOk_int y m d hn.y0 hn.y1 hn.m0 hn.m1 hn.d0 d2) hn ht htl) hn.n0 hn.n1 (by omega) (by omega) w
  rw [← e1, ← e2, ← e3] at hc
  have hs : (⟨(dateL L1 L2 L3 ++ (84 :: (tl ++ [90]))).toArray⟩ : ByteArray) = ⟨L1.toArray⟩ ++ ⟨#[45]⟩ ++ ⟨L2.toArray⟩ ++ ⟨#[45]⟩ ++ ⟨L3.toArray⟩ ++ ⟨#[84]⟩ ++ ⟨tl.toArray⟩ ++ ⟨#[90]⟩ := by
    apply ByteArray.ext
    simp [ByteArray.data_append, dateL]
  rw [hs] at hc
  exact hc

theorem impl_off (y m d h mi s n p a : Int) (sg : UInt8) (o : Int) (L1 L2 L3 L4 L5 tl : List UInt8) (w : World) (hn : Nums y m d h mi s n) (d2 : d ≤ mdays y m) (e1 : L1 = fig 4 y.toNat) (e2 : L2 = fig 2 m.toNat) (e3 : L3 = fig 2 d.toNat) (ht : TimeText tl h mi s n p) (htl : 8 ≤ tl.length)
    (a0 : 0 ≤ a) (a1 : a ≤ 1439) (e4 : L4 = fig 2 (a / 60).toNat) (e5 : L5 = fig 2 (a % 60).toNat) (hsg : (sg = 43 ∧ o = a) ∨ (sg = 45 ∧ o = -a)) :
    Calls Try.prog 16 #[.string (⟨L1.toArray⟩ ++ ⟨#[45]⟩ ++ ⟨L2.toArray⟩ ++ ⟨#[45]⟩ ++ ⟨L3.toArray⟩ ++ ⟨#[84]⟩ ++ ⟨tl.toArray⟩ ++ (⟨#[sg]⟩ ++ ⟨L4.toArray⟩ ++ ⟨#[58]⟩ ++ ⟨L5.toArray⟩))] w (ImRes (daysT y m d * 86400 + (h * 3600 + mi * 60 + s) - o * 60) n (o * 60) w) := by
  have hb := nums_bd hn
  have v4 := val_figI 2 (a / 60) (by omega) (by omega)
  have v5 := val_figI 2 (a % 60) (by omega) (by omega)
  have hday := dayOk_int y m d hn.y0 hn.y1 hn.m0 hn.m1 hn.d0 d2
  have hs : ∀ c : UInt8, (⟨(dateL L1 L2 L3 ++ (84 :: (tl ++ (c :: (L4 ++ 58 :: L5))))).toArray⟩ : ByteArray) = ⟨L1.toArray⟩ ++ ⟨#[45]⟩ ++ ⟨L2.toArray⟩ ++ ⟨#[45]⟩ ++ ⟨L3.toArray⟩ ++ ⟨#[84]⟩ ++ ⟨tl.toArray⟩ ++ (⟨#[c]⟩ ++ ⟨L4.toArray⟩ ++ ⟨#[58]⟩ ++ ⟨L5.toArray⟩) := by
    intro c
    apply ByteArray.ext
    simp [ByteArray.data_append, dateL]
  rcases hsg with ⟨rfl, rfl⟩ | ⟨rfl, rfl⟩
  · have hc := impl_of_text (instText_plus hday hn ht htl (fig_length 2 (o / 60).toNat) (fig_length 2 (o % 60).toNat) (fig_digs _ _) (fig_digs _ _) (by omega) (by omega)) hn.n0 hn.n1 (by omega) (by omega) w
    rw [v4, v5, ← e1, ← e2, ← e3, ← e4, ← e5, hs, show o / 60 * 3600 + o % 60 * 60 = o * 60 from by omega] at hc
    exact hc
  · have hc := impl_of_text (instText_minus hday hn ht htl (fig_length 2 (a / 60).toNat) (fig_length 2 (a % 60).toNat) (fig_digs _ _) (fig_digs _ _) (by omega) (by omega)) hn.n0 hn.n1 (by omega) (by omega) w
    rw [v4, v5, ← e1, ← e2, ← e3, ← e4, ← e5, hs, show -(a / 60 * 3600 + a % 60 * 60) = -a * 60 from by omega] at hc
    exact hc
end Go.Proofs.Ytnddjppbecpmdaa
