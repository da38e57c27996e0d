/- Figures of any base, with strokes between: what they tell (plain facts). -/
import Derived.Test.YtnddjppbecpmdaaC
namespace Go.Proofs.Ytnddjppbecpmdaa
open Go.RowKit
set_option linter.unusedVariables false
set_option linter.unusedSimpArgs false

/-- the sign of a figure below sixteen -/
def dch (d : Nat) : UInt8 := if d < 10 then UInt8.ofNat (48 + d) else UInt8.ofNat (87 + d)
/-- what such a sign tells -/
def cdg (c : UInt8) : Nat := if c.toNat ≤ 57 then c.toNat - 48 else c.toNat - 87

theorem dch_nat (d : Nat) (h : d < 16) : (dch d).toNat = if d < 10 then 48 + d else 87 + d := by
  unfold dch
  split
  · simp; omega
  · simp; omega

theorem cdg_dch (d : Nat) (h : d < 16) : cdg (dch d) = d := by
  unfold cdg
  rw [dch_nat d h]
  by_cases h1 : d < 10
  · rw [if_pos h1, if_pos (by omega)]; omega
  · rw [if_neg h1, if_neg (by omega)]; omega

/-- what figures with strokes tell, going on from a -/
def bv (β : Nat) : Nat → List UInt8 → Nat
  | a, [] => a
  | a, c :: l => bv β (if c.toNat = 95 then a else a * β + cdg c) l

theorem bv_append (β a : Nat) (p q : List UInt8) : bv β a (p ++ q) = bv β (bv β a p) q := by
  induction p generalizing a with
  | nil => rfl
  | cons c p ih => exact ih _

/-- how many figures there are -/
def nd : List UInt8 → Nat
  | [] => 0
  | c :: l => (if c.toNat = 95 then 0 else 1) + nd l

theorem bv_base (β a : Nat) (l : List UInt8) : bv β a l = a * β ^ nd l + bv β 0 l := by
  induction l generalizing a with
  | nil => simp [bv, nd]
  | cons c l ih =>
    simp only [bv, nd]
    by_cases h : c.toNat = 95
    · rw [if_pos h, if_pos h, if_pos h, ih a, Nat.zero_add]
    · rw [if_neg h, if_neg h, if_neg h, ih (a * β + cdg c), ih (0 * β + cdg c), Nat.add_comm 1, Nat.pow_succ, Nat.zero_mul, Nat.zero_add, Nat.add_mul]
      have e : a * β * β ^ nd l = a * (β ^ nd l * β) := by rw [Nat.mul_assoc, Nat.mul_comm β]
      omega

theorem bv_mono (β a : Nat) (l : List UInt8) (hβ : 1 ≤ β) : a ≤ bv β a l := by
  rw [bv_base]
  have h1 : 1 ≤ β ^ nd l := Nat.pow_pos (by omega)
  have h2 : a * 1 ≤ a * β ^ nd l := Nat.mul_le_mul_left a h1
  omega

/-- figures of a base and strokes -/
def DigB (β : Nat) (l : List UInt8) : Prop := ∀ c ∈ l, c.toNat = 95 ∨ ∃ d, d < β ∧ c = dch d

theorem digB_cons {β : Nat} {c : UInt8} {l : List UInt8} (h : DigB β (c :: l)) : DigB β l := fun x hx => h x (List.mem_cons_of_mem _ hx)

theorem dch_ne (d : Nat) (h : d < 16) : (dch d).toNat ≠ 95 := by
  rw [dch_nat d h]
  split <;> omega

/-- the state of the reference's loop behind k rounds: u is what is left of V -/
def RI (β V u k : Nat) (out : List UInt8) : Prop :=
  DigB β out ∧ nd out = k ∧ u * β ^ k + bv β 0 out = V ∧ (0 < u → u * 2 ^ k ≤ 9223372036854775808) ∧
    ((k = 0 ∧ out = [] ∧ u = V) ∨ (0 < k ∧ ∃ d l, d < β ∧ out = dch d :: l ∧ (u = 0 → 0 < d ∨ (l = [] ∧ V = 0))))

theorem ri_start (β V : Nat) (h : V ≤ 9223372036854775808) : RI β V V 0 [] :=
  ⟨(fun c hc => by cases hc), rfl, by simp [bv], (fun _ => by simpa using h), Or.inl ⟨rfl, rfl, rfl⟩⟩

theorem ri_step_aux {β V u k : Nat} {out x : List UInt8} (h : RI β V u k out) (h2 : 2 ≤ β) (h16 : β ≤ 16) (hu : 0 < u ∨ k = 0) (hx : x = out ∨ x = 95 :: out) (hk : x = 95 :: out → 0 < k) :
    RI β V (u / β) (k + 1) (dch (u % β) :: x) := by
  obtain ⟨hd, hn, hv, hb, ho⟩ := h
  have hm : u % β < β := Nat.mod_lt _ (by omega)
  have hx0 : bv β (u % β) x = bv β (u % β) out ∧ nd x = nd out ∧ DigB β x := by
    rcases hx with rfl | rfl
    · exact ⟨rfl, rfl, hd⟩
    · refine ⟨rfl, by simp [nd], fun c hc => ?_⟩
      rcases List.mem_cons.1 hc with rfl | hc
      · exact Or.inl rfl
      · exact hd c hc
  refine ⟨fun c hc => ?_, ?_, ?_, ?_, Or.inr ⟨by omega, u % β, x, hm, rfl, ?_⟩⟩
  · rcases List.mem_cons.1 hc with rfl | hc
    · exact Or.inr ⟨_, hm, rfl⟩
    · exact hx0.2.2 c hc
  · simp only [nd, hx0.2.1, hn]
    rw [if_neg (dch_ne _ (by omega))]
    omega
  · simp only [bv]
    rw [if_neg (dch_ne _ (by omega)), cdg_dch _ (by omega), Nat.zero_mul, Nat.zero_add, hx0.1, bv_base, hn, Nat.pow_succ]
    have e : u / β * (β ^ k * β) + u % β * β ^ k = u * β ^ k := by
      have h3 := Nat.div_add_mod u β
      calc u / β * (β ^ k * β) + u % β * β ^ k = (β * (u / β) + u % β) * β ^ k := by rw [Nat.add_mul, Nat.mul_comm β (u / β), Nat.mul_assoc, Nat.mul_comm β (β ^ k)]
        _ = u * β ^ k := by rw [h3]
    omega
  · intro hp
    have hu' : 0 < u := Nat.lt_of_lt_of_le hp (Nat.div_le_self _ _)
    have h3 := hb hu'
    have h4 : u / β * 2 ≤ u := Nat.le_trans (Nat.mul_le_mul_left _ h2) (Nat.div_mul_le_self u β)
    rw [Nat.pow_succ]
    calc u / β * (2 ^ k * 2) = (u / β * 2) * 2 ^ k := by rw [Nat.mul_assoc, Nat.mul_comm 2]
      _ ≤ u * 2 ^ k := Nat.mul_le_mul_right _ h4
      _ ≤ _ := h3
  · intro hz
    have hlt : u < β := by
      rcases Nat.div_eq_zero_iff.1 hz with h5 | h5 <;> omega
    rw [Nat.mod_eq_of_lt hlt]
    by_cases hu0 : 0 < u
    · exact Or.inl hu0
    · right
      have hk0 : k = 0 := by omega
      rcases ho with ⟨_, rfl, hV⟩ | ⟨h5, _⟩
      · rcases hx with rfl | hx
        · exact ⟨rfl, by omega⟩
        · exact absurd (hk hx) (by omega)
      · omega

theorem ri_lt {β V u k : Nat} {out : List UInt8} (h : RI β V u k out) (hu : 0 < u) : k < 64 := by
  have h1 := h.2.2.2.1 hu
  rcases Nat.lt_or_ge k 64 with h2 | h2
  · exact h2
  · have h3 : 2 ^ 64 ≤ 2 ^ k := Nat.pow_le_pow_right (by omega) h2
    have h4 : 1 * 2 ^ k ≤ u * 2 ^ k := Nat.mul_le_mul_right _ hu
    omega

/-- a body of figures that tells V -/
structure Body (β V : Nat) (o : List UInt8) : Prop where
  dig : DigB β o
  tells : bv β 0 o = V
  head : ∃ d l, d < β ∧ o = dch d :: l ∧ (0 < d ∨ (l = [] ∧ V = 0))

theorem ri_end {β V k : Nat} {out : List UInt8} (h : RI β V 0 k out) (hk : 0 < k) : Body β V out := by
  obtain ⟨hd, hn, hv, hb, ho⟩ := h
  refine ⟨hd, by omega, ?_⟩
  rcases ho with ⟨h0, _⟩ | ⟨_, d, l, h1, h2, h3⟩
  · omega
  · exact ⟨d, l, h1, h2, h3 rfl⟩

theorem enc_hex_fin : ∀ d : Fin 16, (Utf8.encode (((⟨#[48, 49, 50, 51, 52, 53, 54, 55, 56, 57, 97, 98, 99, 100, 101, 102]⟩ : ByteArray)[d.val]'d.isLt).toNat : Int)).data = #[dch d.val] := by decide +kernel

theorem enc_hex (d : Nat) (h : d < 16) : Utf8.encode (((⟨#[48, 49, 50, 51, 52, 53, 54, 55, 56, 57, 97, 98, 99, 100, 101, 102]⟩ : ByteArray)[d]'h).toNat : Int) = ⟨#[dch d]⟩ :=
  ByteArray.ext (enc_hex_fin ⟨d, h⟩)
end Go.Proofs.Ytnddjppbecpmdaa
