/- Numbers in digits of sixteen bits. Conditions: none; plain definitions and theorems. Digits of sixteen bits: one round of settling. Conditions: none; plain definitions and theorems. Settling: what a round keeps; digits compared from the top. Conditions: none; plain definitions and theorems. Products of numbers in digits. Conditions: none; plain definitions and theorems. A product's digits brought below 2^130. Conditions: none; plain definitions and theorems. Words of 64 bits with carries. Conditions: none; plain definitions and theorems. Numbers in bytes, and what Poly1305 of a message is. Conditions: none; plain definitions and theorems. Poly1305 by words: one block's step, many blocks. Conditions: none; plain definitions and theorems. Poly1305 by words: the end; the key's words. Conditions: none; plain definitions and theorems. Conditions: none. -/
import Derived.Test.YtbkobeclkeojoaaGreatDoorSx32
set_option linter.unusedVariables false
namespace Go.Sx

def val : List (BitVec 64) → Nat
  | [] => 0
  | x :: r => x.toNat + 65536 * val r
/-- n digits of v -/
def digs : Nat → Nat → List (BitVec 64)
  | 0, _ => []
  | n + 1, v => BitVec.ofNat 64 (v % 65536) :: digs n (v / 65536)
theorem digs_length : ∀ n v, (digs n v).length = n
  | 0, _ => rfl
  | n + 1, v => by simp [digs, digs_length n]
theorem val_digs : ∀ n v, val (digs n v) = v % 65536 ^ n
  | 0, v => by simp [digs, val, Nat.mod_one]
  | n + 1, v => by
    simp only [digs, val, val_digs n, BitVec.toNat_ofNat]
    rw [Nat.mod_eq_of_lt (show v % 65536 < 2 ^ 64 by omega), Nat.pow_succ, Nat.mul_comm (65536 ^ n), Nat.mod_mul]

/-- carries run through: the digits, and what is left -/
def pass : BitVec 64 → List (BitVec 64) → List (BitVec 64) × BitVec 64
  | c, [] => ([], c)
  | c, x :: r => ((c + x) % 65536#64 :: (pass ((c + x) / 65536#64) r).1, (pass ((c + x) / 65536#64) r).2)

theorem pass_eq : ∀ (l : List (BitVec 64)) (c : BitVec 64), c.toNat < 2 ^ 62 → (∀ x ∈ l, x.toNat < 2 ^ 62) → (pass c l).1 = digs l.length (c.toNat + val l) ∧ (pass c l).2.toNat = (c.toNat + val l) / 65536 ^ l.length
  | [], c, _, _ => by simp [pass, digs, val]
  | x :: r, c, hc, hx => by
    have h1 := hx x (by simp)
    have hs : (c + x).toNat = c.toNat + x.toNat := by rw [BitVec.toNat_add]; omega
    have hq : ((c + x) / 65536#64).toNat = (c.toNat + x.toNat) / 65536 := by rw [BitVec.toNat_udiv, hs]; rfl
    have hr : (c + x) % 65536#64 = BitVec.ofNat 64 ((c.toNat + x.toNat) % 65536) := by
      apply BitVec.eq_of_toNat_eq
      rw [BitVec.toNat_umod, hs, BitVec.toNat_ofNat]
      show _ % 65536 = _ % 65536 % _
      omega
    have ih := pass_eq r ((c + x) / 65536#64) (by rw [hq]; omega) (fun y hy => hx y (by simp [hy]))
    rw [hq] at ih
    have e : (c.toNat + (x.toNat + 65536 * val r)) / 65536 = (c.toNat + x.toNat) / 65536 + val r := by omega
    refine ⟨?_, ?_⟩
    · simp only [pass, List.length_cons, digs, val]
      rw [ih.1, hr, e]
      congr 2
      omega
    · simp only [pass, List.length_cons, val]
      rw [ih.2, Nat.pow_succ, Nat.mul_comm (65536 ^ _), ← Nat.div_div_eq_div_mul, e]

def P130 : Nat := 1361129467683753853853498429727072845819
theorem P130_eq : P130 = 2 ^ 130 - 5 := by decide
end Go.Sx

set_option linter.unusedVariables false
namespace Go.Sx

theorem val_le {b : Nat} : ∀ (l : List (BitVec 64)), (∀ x ∈ l, x.toNat ≤ b) → 65535 * val l + b ≤ b * 65536 ^ l.length
  | [], _ => by simp [val]
  | x :: r, h => by
    have h1 := h x (by simp)
    have ih := val_le r (fun y hy => h y (by simp [hy]))
    simp only [val, List.length_cons, Nat.pow_succ]
    rw [← Nat.mul_assoc, Nat.mul_comm (b * 65536 ^ r.length)]
    omega

theorem val_append (l : List (BitVec 64)) (x : BitVec 64) : val (l ++ [x]) = val l + 65536 ^ l.length * x.toNat := by
  induction l with
  | nil => simp [val]
  | cons y r ih =>
    simp only [List.cons_append, val, ih, List.length_cons, Nat.pow_succ]
    rw [Nat.mul_add, ← Nat.mul_assoc, Nat.mul_comm 65536 (65536 ^ r.length)]
    omega

theorem digs_val : ∀ (l : List (BitVec 64)), (∀ x ∈ l, x.toNat < 65536) → digs l.length (val l) = l
  | [], _ => rfl
  | x :: r, h => by
    have h1 := h x (by simp)
    have ih := digs_val r (fun y hy => h y (by simp [hy]))
    simp only [List.length_cons, digs, val]
    rw [show (x.toNat + 65536 * val r) / 65536 = val r by omega, ih, show (x.toNat + 65536 * val r) % 65536 = x.toNat by omega]
    simp

theorem digs_lt : ∀ n v, ∀ x ∈ digs n v, x.toNat < 65536
  | 0, v, x, h => by simp [digs] at h
  | n + 1, v, x, h => by
    simp only [digs, List.mem_cons] at h
    rcases h with rfl | h
    · rw [BitVec.toNat_ofNat]; omega
    · exact digs_lt n _ x h

theorem val_lt : ∀ (l : List (BitVec 64)), (∀ x ∈ l, x.toNat < 65536) → val l < 65536 ^ l.length
  | [], _ => by simp [val]
  | x :: r, h => by
    have h1 := h x (by simp)
    have ih := val_lt r (fun y hy => h y (by simp [hy]))
    simp only [val, List.length_cons, Nat.pow_succ]
    omega

/-- one round -/
def spc (x : List (BitVec 64)) : BitVec 64 := ((pass 0#64 (lit 0 8 x)).2 + x.getD 8 0) / 4#64
def spd (x : List (BitVec 64)) : List (BitVec 64) := (pass 0#64 (lit 0 8 x)).1 ++ [((pass 0#64 (lit 0 8 x)).2 + x.getD 8 0) % 4#64]
def spx (x : List (BitVec 64)) : List (BitVec 64) := (spd x).set 0 ((spd x).getD 0 0 + 5#64 * spc x)

theorem lit_take {α : Type} {z : α} {n : Nat} {l : List α} (h : n ≤ l.length) : lit z n l = l.take n := by
  apply List.ext_getElem?
  intro i
  simp only [lit, List.getElem?_map, List.getElem?_take]
  rcases Nat.lt_or_ge i n with hi | hi
  · rw [List.getElem?_range hi, if_pos hi]
    simp [List.getD, show i < l.length by omega]
  · rw [List.getElem?_eq_none (by simpa using hi), if_neg (by omega)]; rfl

theorem sp_spec (x : List (BitVec 64)) (hl : x.length = 9) (hb : ∀ y ∈ x, y.toNat < 2 ^ 62) (hv : val x < 2 ^ 189) :
    spd x = digs 9 (val x % 2 ^ 130) ∧ (spc x).toNat = val x / 2 ^ 130 := by
  have hx : x = lit 0 8 x ++ [x.getD 8 0] := by
    rw [lit_take (by omega)]
    apply List.ext_getElem?
    intro i
    rw [List.getElem?_append]
    simp only [List.length_take, hl]
    split
    · rw [List.getElem?_take, if_pos (by omega)]
    · rcases Nat.lt_or_ge i 9 with hi | hi
      · obtain rfl : i = 8 := by omega
        simp [List.getD, show 8 < x.length by omega]
      · rw [List.getElem?_eq_none (by omega), List.getElem?_eq_none (by simp; omega)]
  have hb8 : ∀ y ∈ lit 0 8 x, y.toNat < 2 ^ 62 := fun y hy => hb y (by rw [hx]; exact List.mem_append_left _ hy)
  have hll : (lit 0 8 x).length = 8 := lit_length _ _ _
  have hp := pass_eq (lit 0 8 x) 0#64 (by decide) hb8
  rw [hll] at hp
  have hval : val x = val (lit 0 8 x) + 65536 ^ 8 * (x.getD 8 0).toNat := by
    have := val_append (lit 0 8 x) (x.getD 8 0)
    rw [← hx, hll] at this
    exact this
  have hm : x.getD 8 0 ∈ lit 0 8 x ++ [x.getD 8 0] := List.mem_append_right _ (List.mem_singleton.2 rfl)
  rw [← hx] at hm
  have hx8 : (x.getD 8 0).toNat < 2 ^ 62 := hb _ hm
  have e0 : (0#64).toNat = 0 := rfl
  rw [e0, Nat.zero_add] at hp
  obtain ⟨hp1, hp2⟩ := hp
  have ht : ((pass 0#64 (lit 0 8 x)).2 + x.getD 8 0).toNat = val x / 65536 ^ 8 := by
    rw [BitVec.toNat_add, hp2, hval]
    omega
  have hc : (spc x).toNat = val x / 2 ^ 130 := by
    unfold spc
    rw [BitVec.toNat_udiv, ht]
    show _ / 4 = _
    omega
  refine ⟨?_, hc⟩
  have hd : spd x = digs 8 (val (lit 0 8 x)) ++ [((pass 0#64 (lit 0 8 x)).2 + x.getD 8 0) % 4#64] := by unfold spd; rw [hp1]
  have htop : (((pass 0#64 (lit 0 8 x)).2 + x.getD 8 0) % 4#64).toNat = val x / 65536 ^ 8 % 4 := by
    rw [BitVec.toNat_umod, ht]; rfl
  have hlen : (spd x).length = 9 := by rw [hd]; simp [digs_length]
  have hlt : ∀ y ∈ spd x, y.toNat < 65536 := by
    intro y hy
    rw [hd, List.mem_append] at hy
    rcases hy with hy | hy
    · exact digs_lt _ _ y hy
    · simp only [List.mem_singleton] at hy
      rw [hy, htop]; omega
  have hv : val (spd x) = val x % 2 ^ 130 := by
    rw [hd, val_append, val_digs, digs_length, htop, hval]
    omega
  rw [← digs_val (spd x) hlt, hlen, hv]
end Go.Sx

set_option linter.unusedVariables false
namespace Go.Sx

theorem spx_spec (x : List (BitVec 64)) (hl : x.length = 9) (hb : ∀ y ∈ x, y.toNat < 2 ^ 62) (hv : val x < 2 ^ 189) :
    (spx x).length = 9 ∧ (∀ y ∈ spx x, y.toNat < 2 ^ 62) ∧ val (spx x) = val x % 2 ^ 130 + 5 * (val x / 2 ^ 130) ∧ (spc x = 0#64 → spx x = digs 9 (val (spx x)) ∧ val (spx x) < 2 ^ 130) := by
  obtain ⟨hd, hc⟩ := sp_spec x hl hb hv
  have hq : val x / 2 ^ 130 < 2 ^ 59 := by omega
  generalize hw : val x % 2 ^ 130 = w at *
  have hwlt : w < 2 ^ 130 := by omega
  have hlen : (spd x).length = 9 := by rw [hd, digs_length]
  have hlt := digs_lt 9 w
  have hvw : val (digs 9 w) = w := by rw [val_digs, Nat.mod_eq_of_lt (by omega)]
  have e : digs 9 w = BitVec.ofNat 64 (w % 65536) :: digs 8 (w / 65536) := rfl
  have hh : (BitVec.ofNat 64 (w % 65536) + 5#64 * spc x).toNat = w % 65536 + 5 * (val x / 2 ^ 130) := by
    rw [BitVec.toNat_add, BitVec.toNat_mul, hc, BitVec.toNat_ofNat]
    show (_ + 5 * _ % _) % _ = _
    omega
  have ex : spx x = (BitVec.ofNat 64 (w % 65536) + 5#64 * spc x) :: digs 8 (w / 65536) := by
    unfold spx; rw [hd, e]; rfl
  have hv2 : val (spx x) = w + 5 * (val x / 2 ^ 130) := by
    rw [ex, val, hh]
    rw [e, val, BitVec.toNat_ofNat] at hvw
    omega
  refine ⟨by rw [ex]; simp [digs_length], fun y hy => ?_, hv2, fun h0 => ?_⟩
  · rw [ex, List.mem_cons] at hy
    rcases hy with rfl | hy
    · rw [hh]; omega
    · have := digs_lt 8 _ y hy; omega
  · have hq0 : val x / 2 ^ 130 = 0 := by rw [← hc, h0]; rfl
    rw [hv2, hq0, Nat.mul_zero, Nat.add_zero]
    refine ⟨?_, hwlt⟩
    rw [ex, h0, e]
    simp

theorem settle_mod (a : Nat) : (a % 2 ^ 130 + 5 * (a / 2 ^ 130)) % P130 = a % P130 := by
  have h : a = a % 2 ^ 130 + 5 * (a / 2 ^ 130) + P130 * (a / 2 ^ 130) := by
    have := Nat.mod_add_div a (2 ^ 130)
    rw [P130_eq]
    omega
  conv => rhs; rw [h]
  rw [Nat.add_mul_mod_self_left]

/-- digits from k on are alike, and below them one is smaller -/
theorem val_cmp : ∀ (k : Nat) (l m : List (BitVec 64)), l.length = m.length → (∀ x ∈ l, x.toNat < 65536) → k < l.length → (∀ i, k < i → l.getD i 0 = m.getD i 0) → (l.getD k 0).toNat < (m.getD k 0).toNat → val l < val m
  | 0, x :: r, y :: s, hl, hx, hk, ha, hlt => by
    have e : r = s := by
      apply List.ext_getElem?
      intro i
      have h := ha (i + 1) (by omega)
      simp only [List.getD_cons_succ] at h
      simp only [List.length_cons, Nat.add_right_cancel_iff] at hl
      rcases Nat.lt_or_ge i r.length with hi | hi
      · have h1 : i < s.length := by omega
        simp only [List.getD, List.getElem?_eq_getElem hi, List.getElem?_eq_getElem h1, Option.getD_some] at h ⊢
        rw [h]
      · rw [List.getElem?_eq_none hi, List.getElem?_eq_none (by omega)]
    subst e
    simp only [List.getD_cons_zero] at hlt
    simp only [val]
    omega
  | k + 1, x :: r, y :: s, hl, hx, hk, ha, hlt => by
    simp only [List.length_cons, Nat.add_right_cancel_iff] at hl hk
    have := val_cmp k r s hl (fun z hz => hx z (by simp [hz])) (by omega) (fun i hi => by
      have := ha (i + 1) (by omega)
      simpa only [List.getD_cons_succ] using this) (by simpa only [List.getD_cons_succ] using hlt)
    have h1 := hx x (by simp)
    simp only [val]
    omega
  | _, [], _, _, _, hk, _, _ => by simp at hk
  | _, x :: r, [], hl, _, _, _, _ => by simp at hl

/-- the modulus in digits -/
def pd : List (BitVec 64) := [65531#64, 65535#64, 65535#64, 65535#64, 65535#64, 65535#64, 65535#64, 65535#64, 3#64]
theorem val_pd : val pd = P130 := by simp [val, pd, P130]
theorem pd_lt : ∀ x ∈ pd, x.toNat < 65536 := by simp [pd]

end Go.Sx

set_option linter.unusedVariables false
namespace Go.Sx

/-- x times the digits r, put on p -/
def axpyD (x : BitVec 64) : List (BitVec 64) → List (BitVec 64) → List (BitVec 64)
  | y :: r, z :: p => (z + x * y) :: axpyD x r p
  | _, p => p
/-- the product's entries, put on p -/
def convD : List (BitVec 64) → List (BitVec 64) → List (BitVec 64) → List (BitVec 64)
  | [], r, p => p
  | x :: a, r, p => match axpyD x r p with
    | [] => []
    | z :: q => z :: convD a r q

theorem axpyD_length (x : BitVec 64) : ∀ r p, (axpyD x r p).length = p.length
  | [], p => by cases p <;> rfl
  | _ :: _, [] => rfl
  | y :: r, z :: p => by simp [axpyD, axpyD_length x r p]

theorem axpyD_spec (x : BitVec 64) (hx : x.toNat < 65536) : ∀ (r p : List (BitVec 64)) (b : Nat), (∀ y ∈ r, y.toNat < 65536) → (∀ z ∈ p, z.toNat ≤ b) → b + 4294967296 < 2 ^ 64 → r.length ≤ p.length →
    val (axpyD x r p) = val p + x.toNat * val r ∧ ∀ z ∈ axpyD x r p, z.toNat ≤ b + 4294967296
  | [], p, b, _, hp, hb, _ => by
    have e : axpyD x [] p = p := by cases p <;> rfl
    rw [e]
    exact ⟨by simp [val], fun z hz => Nat.le_trans (hp z hz) (by omega)⟩
  | y :: r, [], b, _, _, _, hl => by simp at hl
  | y :: r, z :: p, b, hr, hp, hb, hl => by
    have hy := hr y (by simp)
    have hz := hp z (by simp)
    have ih := axpyD_spec x hx r p b (fun w hw => hr w (by simp [hw])) (fun w hw => hp w (by simp [hw])) hb (by simpa using hl)
    have hm : x.toNat * y.toNat ≤ 65535 * 65535 := Nat.mul_le_mul (by omega) (by omega)
    have e : (z + x * y).toNat = z.toNat + x.toNat * y.toNat := by
      rw [BitVec.toNat_add, BitVec.toNat_mul, Nat.mod_eq_of_lt (a := x.toNat * y.toNat) (by omega), Nat.mod_eq_of_lt (by omega)]
    refine ⟨?_, fun w hw => ?_⟩
    · simp only [axpyD, val, ih.1, e]
      rw [Nat.mul_add x.toNat, Nat.mul_left_comm x.toNat 65536]
      omega
    · simp only [axpyD, List.mem_cons] at hw
      rcases hw with rfl | hw
      · rw [e]; omega
      · exact ih.2 w hw

theorem convD_spec : ∀ (a r p : List (BitVec 64)) (b : Nat), (∀ x ∈ a, x.toNat < 65536) → (∀ y ∈ r, y.toNat < 65536) → (∀ z ∈ p, z.toNat ≤ b) → b + a.length * 4294967296 < 2 ^ 64 → a.length + r.length ≤ p.length →
    val (convD a r p) = val p + val a * val r ∧ (convD a r p).length = p.length ∧ ∀ z ∈ convD a r p, z.toNat ≤ b + a.length * 4294967296
  | [], r, p, b, _, _, hp, _, _ => by simpa [convD, val] using hp
  | x :: a, r, p, b, ha, hr, hp, hb, hl => by
    have hx := ha x (by simp)
    simp only [List.length_cons] at hb hl
    have h1 := axpyD_spec x hx r p b hr hp (by omega) (by omega)
    have hl1 := axpyD_length x r p
    simp only [convD]
    cases hq : axpyD x r p with
    | nil => rw [hq] at hl1; simp at hl1; omega
    | cons z q =>
      rw [hq] at h1 hl1
      simp only [List.length_cons] at hl1
      have ih := convD_spec a r q (b + 4294967296) (fun w hw => ha w (by simp [hw])) hr (fun w hw => h1.2 w (by simp [hw])) (by omega) (by omega)
      have h2 := h1.1
      simp only [val] at h2
      refine ⟨?_, by simp [ih.2.1, hl1], fun w hw => ?_⟩
      · simp only [val, ih.1]
        rw [Nat.mul_add 65536, Nat.add_mul, Nat.mul_assoc 65536 (val a)]
        omega
      · simp only [List.mem_cons] at hw
        rcases hw with rfl | hw
        · have := h1.2 w (by simp); simp only [List.length_cons]; omega
        · have := ih.2.2 w hw; simp only [List.length_cons]; omega

theorem digs_getD : ∀ (n v i : Nat), i < n → (digs n v).getD i 0 = BitVec.ofNat 64 (v / 65536 ^ i % 65536)
  | 0, _, _, h => by omega
  | n + 1, v, 0, _ => by simp [digs]
  | n + 1, v, i + 1, h => by
    simp only [digs, List.getD_cons_succ]
    rw [digs_getD n (v / 65536) i (by omega), Nat.div_div_eq_div_mul, Nat.pow_succ, Nat.mul_comm (65536 ^ i)]

theorem digs_take : ∀ (n m v : Nat), m ≤ n → (digs n v).take m = digs m v
  | _, 0, _, _ => by simp [digs]
  | 0, m + 1, _, h => by omega
  | n + 1, m + 1, v, h => by simp [digs, digs_take n m _ (by omega)]

/-- numbers of fewer digits -/
theorem digs_mod : ∀ (n v : Nat), digs n (v % 65536 ^ n) = digs n v
  | 0, _ => rfl
  | n + 1, v => by
    simp only [digs]
    rw [Nat.pow_succ, Nat.mul_comm (65536 ^ n), Nat.mod_mul, ← digs_mod n (v / 65536)]
    congr 2
    · omega
    · congr 1
      omega

/-- a difference, digit by digit, with a borrow -/
def bpass : BitVec 64 → List (BitVec 64) → List (BitVec 64) → List (BitVec 64)
  | b, x :: l, y :: p => (x + 65536#64 - y - b) % 65536#64 :: bpass (1#64 - (x + 65536#64 - y - b) / 65536#64) l p
  | _, _, _ => []
theorem bpass_spec : ∀ (l p : List (BitVec 64)) (b : BitVec 64), b.toNat ≤ 1 → (∀ x ∈ l, x.toNat < 65536) → (∀ x ∈ p, x.toNat < 65536) → l.length = p.length →
    bpass b l p = digs l.length (val l + 65536 ^ l.length - val p - b.toNat)
  | [], [], b, _, _, _, _ => rfl
  | [], _ :: _, _, _, _, _, h => by simp at h
  | _ :: _, [], _, _, _, _, h => by simp at h
  | x :: l, y :: p, b, hb, hl, hp, h => by
    have hx := hl x (by simp)
    have hy := hp y (by simp)
    have hlen : l.length = p.length := by simpa using h
    have hvp := val_lt p (fun z hz => hp z (by simp [hz]))
    rw [← hlen] at hvp
    have e : (x + 65536#64 - y - b).toNat = x.toNat + 65536 - y.toNat - b.toNat := by
      rw [BitVec.toNat_sub, BitVec.toNat_sub, BitVec.toNat_add]
      show _ = _
      have : (65536#64).toNat = 65536 := rfl
      omega
    have eq1 : ((x + 65536#64 - y - b) / 65536#64).toNat = (x.toNat + 65536 - y.toNat - b.toNat) / 65536 := by rw [BitVec.toNat_udiv, e]; rfl
    have eb : (1#64 - (x + 65536#64 - y - b) / 65536#64).toNat = 1 - (x.toNat + 65536 - y.toNat - b.toNat) / 65536 := by
      rw [BitVec.toNat_sub, eq1]
      have : (1#64).toNat = 1 := rfl
      omega
    have er : (x + 65536#64 - y - b) % 65536#64 = BitVec.ofNat 64 ((x.toNat + 65536 - y.toNat - b.toNat) % 65536) := by
      apply BitVec.eq_of_toNat_eq
      have z : (65536#64).toNat = 65536 := rfl
      rw [BitVec.toNat_umod, e, z, BitVec.toNat_ofNat]
      omega
    have ih := bpass_spec l p (1#64 - (x + 65536#64 - y - b) / 65536#64) (by rw [eb]; omega) (fun z hz => hl z (by simp [hz])) (fun z hz => hp z (by simp [hz])) hlen
    show (x + 65536#64 - y - b) % 65536#64 :: bpass (1#64 - (x + 65536#64 - y - b) / 65536#64) l p = BitVec.ofNat 64 ((x.toNat + 65536 * val l + 65536 ^ (l.length + 1) - (y.toNat + 65536 * val p) - b.toNat) % 65536) :: digs l.length ((x.toNat + 65536 * val l + 65536 ^ (l.length + 1) - (y.toNat + 65536 * val p) - b.toNat) / 65536)
    rw [ih, er, eb, Nat.pow_succ]
    generalize 65536 ^ l.length = N at *
    have e1 : (x.toNat + 65536 * val l + N * 65536 - (y.toNat + 65536 * val p) - b.toNat) % 65536 = (x.toNat + 65536 - y.toNat - b.toNat) % 65536 := by omega
    have e2 : (x.toNat + 65536 * val l + N * 65536 - (y.toNat + 65536 * val p) - b.toNat) / 65536 = val l + N - val p - (1 - (x.toNat + 65536 - y.toNat - b.toNat) / 65536) := by omega
    rw [e1, e2]
end Go.Sx

set_option linter.unusedVariables false
namespace Go.Sx

/-- digits shifted down by two bits -/
def sh2 : List (BitVec 64) → List (BitVec 64)
  | x :: y :: r => (x / 4#64 + y % 4#64 * 16384#64) :: sh2 (y :: r)
  | [x] => [x / 4#64]
  | [] => []
theorem sh2_length : ∀ l, (sh2 l).length = l.length
  | [] => rfl
  | [_] => rfl
  | x :: y :: r => by simp [sh2, sh2_length (y :: r)]

theorem sh2_spec : ∀ (l : List (BitVec 64)), (∀ x ∈ l, x.toNat < 65536) → val (sh2 l) = val l / 4 ∧ ∀ x ∈ sh2 l, x.toNat < 65536
  | [], _ => by simp [sh2, val]
  | [x], h => by
    have h1 := h x (by simp)
    have e : (x / 4#64).toNat = x.toNat / 4 := by rw [BitVec.toNat_udiv]; rfl
    refine ⟨by simp only [sh2, val, e]; omega, fun y hy => ?_⟩
    simp only [sh2, List.mem_singleton] at hy
    subst hy
    rw [e]; omega
  | x :: y :: r, h => by
    have h1 := h x (by simp)
    have h2 := h y (by simp)
    have ih := sh2_spec (y :: r) (fun z hz => h z (by simp only [List.mem_cons] at hz ⊢; exact .inr hz))
    have e1 : (x / 4#64).toNat = x.toNat / 4 := by rw [BitVec.toNat_udiv]; rfl
    have e2 : (y % 4#64).toNat = y.toNat % 4 := by rw [BitVec.toNat_umod]; rfl
    have e : (x / 4#64 + y % 4#64 * 16384#64).toNat = x.toNat / 4 + y.toNat % 4 * 16384 := by
      rw [BitVec.toNat_add, BitVec.toNat_mul, e1, e2]
      show (_ + _ * 16384 % _) % _ = _
      omega
    refine ⟨?_, fun z hz => ?_⟩
    · simp only [sh2]
      rw [val, ih.1, e]
      simp only [val]
      omega
    · simp only [sh2, List.mem_cons] at hz
      rcases hz with rfl | hz
      · rw [e]; omega
      · exact ih.2 z hz

/-- one and five times the other -/
def add5 : List (BitVec 64) → List (BitVec 64) → List (BitVec 64)
  | x :: a, y :: b => (x + 5#64 * y) :: add5 a b
  | _, _ => []
theorem add5_spec : ∀ (a b : List (BitVec 64)), a.length = b.length → (∀ x ∈ a, x.toNat < 65536) → (∀ x ∈ b, x.toNat < 65536) → val (add5 a b) = val a + 5 * val b ∧ (add5 a b).length = a.length ∧ ∀ x ∈ add5 a b, x.toNat < 2 ^ 20
  | [], [], _, _, _ => by simp [add5, val]
  | x :: a, y :: b, hl, ha, hb => by
    have h1 := ha x (by simp)
    have h2 := hb y (by simp)
    have ih := add5_spec a b (by simpa using hl) (fun z hz => ha z (by simp [hz])) (fun z hz => hb z (by simp [hz]))
    have e : (x + 5#64 * y).toNat = x.toNat + 5 * y.toNat := by
      rw [BitVec.toNat_add, BitVec.toNat_mul]
      show (_ + 5 * _ % _) % _ = _
      omega
    refine ⟨?_, by simp [add5, ih.2.1], fun z hz => ?_⟩
    · simp only [add5, val, ih.1, e]; omega
    · simp only [add5, List.mem_cons] at hz
      rcases hz with rfl | hz
      · rw [e]; omega
      · exact ih.2.2 z hz
  | [], _ :: _, hl, _, _ => by simp at hl
  | _ :: _, [], hl, _, _ => by simp at hl

/-- what a product's digits come to: the lower 130 bits, and five times what is above -/
def low5 (d : List (BitVec 64)) : List (BitVec 64) := add5 (lit 0 8 d ++ [d.getD 8 0 % 4#64]) ((sh2 (lit 0 10 (d.drop 8))).take 9)

theorem val_take {l : List (BitVec 64)} {n : Nat} (h : l.length = n + 1) : val l = val (l.take n) + 65536 ^ n * (l.getD n 0).toNat := by
  have e : l = l.take n ++ [l.getD n 0] := by
    apply List.ext_getElem?
    intro i
    rw [List.getElem?_append]
    simp only [List.length_take, h]
    split
    · rw [List.getElem?_take, if_pos (by omega)]
    · rcases Nat.lt_or_ge i (n + 1) with hi | hi
      · obtain rfl : i = n := by omega
        simp [List.getD, show i < l.length by omega]
      · rw [List.getElem?_eq_none (by omega), List.getElem?_eq_none (by simp; omega)]
  have h1 := val_append (l.take n) (l.getD n 0)
  rw [← e] at h1
  rw [h1, List.length_take, h, Nat.min_eq_left (by omega)]

theorem val_split : ∀ (n : Nat) (l : List (BitVec 64)), n ≤ l.length → val l = val (l.take n) + 65536 ^ n * val (l.drop n)
  | 0, l, _ => by simp [val]
  | n + 1, [], h => by simp at h
  | n + 1, x :: l, h => by
    simp only [List.take_succ_cons, List.drop_succ_cons, val]
    rw [val_split n l (by simpa using h), Nat.mul_add, ← Nat.mul_assoc, Nat.pow_succ, Nat.mul_comm (65536 ^ n)]
    omega

theorem low5_spec (v : Nat) (hv : v < 2 ^ 274) : val (low5 (digs 18 v)) = v % 2 ^ 130 + 5 * (v / 2 ^ 130) ∧ (low5 (digs 18 v)).length = 9 ∧ ∀ x ∈ low5 (digs 18 v), x.toNat < 2 ^ 20 := by
  have hlen := digs_length 18 v
  have hlt := digs_lt 18 v
  have hval : val (digs 18 v) = v := by rw [val_digs, Nat.mod_eq_of_lt (by omega)]
  generalize digs 18 v = d at hlen hlt hval
  have hld : (d.drop 8).length = 10 := by simp [hlen]
  have e8 : lit 0 8 d = d.take 8 := lit_take (by omega)
  have e10 : lit 0 10 (d.drop 8) = d.drop 8 := lit_eq hld
  have hs := val_split 8 d (by omega)
  have hmd : ∀ x ∈ d.drop 8, x.toNat < 65536 := fun x hx => hlt x (List.mem_of_mem_drop hx)
  have hsh := sh2_spec (d.drop 8) hmd
  have hshl := sh2_length (d.drop 8)
  have ht8 : val (d.take 8) < 65536 ^ 8 := by
    have := val_lt (d.take 8) (fun x hx => hlt x (List.mem_of_mem_take hx))
    rwa [List.length_take, hlen] at this
  have hmem : ∀ x ∈ (sh2 (d.drop 8)).take 9, x.toNat < 65536 := fun x hx => hsh.2 x (List.mem_of_mem_take hx)
  have ht := val_take (n := 9) (by rw [hshl, hld] : (sh2 (d.drop 8)).length = 9 + 1)
  have h9 : val ((sh2 (d.drop 8)).take 9) = val (d.drop 8) / 4 := by
    rw [hsh.1] at ht
    rw [hval] at hs
    have : val (d.drop 8) / 4 < 65536 ^ 9 := by omega
    rcases Nat.eq_zero_or_pos ((sh2 (d.drop 8)).getD 9 0).toNat with h0 | h0
    · rw [h0] at ht; omega
    · exfalso; omega
  have hd8 : (d.getD 8 0).toNat = val (d.drop 8) % 65536 := by
    rcases hdd : d.drop 8 with _ | ⟨y, r⟩
    · rw [hdd] at hld; simp at hld
    · have hg : d.getD 8 0 = y := by
        have := congrArg (fun l => l.getD 0 0) hdd
        simpa [List.getD] using this
      have hy := hmd y (by rw [hdd]; simp)
      rw [hg, val]; omega
  have em : (d.getD 8 0 % 4#64).toNat = val (d.drop 8) % 4 := by rw [BitVec.toNat_umod, hd8]; show _ % 4 = _; omega
  have hmem8 : ∀ x ∈ d.take 8 ++ [d.getD 8 0 % 4#64], x.toNat < 65536 := by
    intro x hx
    rw [List.mem_append, List.mem_singleton] at hx
    rcases hx with hx | rfl
    · exact hlt x (List.mem_of_mem_take hx)
    · rw [em]; omega
  have h5 := add5_spec (d.take 8 ++ [d.getD 8 0 % 4#64]) ((sh2 (d.drop 8)).take 9) (by simp [hlen, hshl]) hmem8 hmem
  unfold low5
  rw [e8, e10]
  refine ⟨?_, ?_, h5.2.2⟩
  · rw [h5.1, h9, val_append, em, List.length_take, hlen, Nat.min_eq_left (by omega)]
    rw [hval] at hs
    omega
  · rw [h5.2.1]; simp [hlen]
end Go.Sx

set_option linter.unusedVariables false
namespace Go.Sx

/-- the upper half of a product -/
def mhi (x y : BitVec 64) : BitVec 64 := BitVec.ofNat 64 (x.toNat * y.toNat / 2 ^ 64)
theorem mhi_nat (x y : BitVec 64) : (mhi x y).toNat = x.toNat * y.toNat / 2 ^ 64 := by
  have hx := x.isLt
  have hy := y.isLt
  have h : x.toNat * y.toNat ≤ (2 ^ 64 - 1) * (2 ^ 64 - 1) := Nat.mul_le_mul (by omega) (by omega)
  unfold mhi
  rw [BitVec.toNat_ofNat, Nat.mod_eq_of_lt (by omega)]
theorem mlo_nat (x y : BitVec 64) : (x * y).toNat = x.toNat * y.toNat % 2 ^ 64 := BitVec.toNat_mul x y
/-- bits masked off -/
theorem and_low (x : BitVec 64) (n : Nat) (m : BitVec 64) (hm : m.toNat = 2 ^ n - 1) : (x &&& m).toNat = x.toNat % 2 ^ n := by
  rw [BitVec.toNat_and, hm, Nat.and_two_pow_sub_one_eq_mod]
theorem shr_nat (x : BitVec 64) (n : Nat) : (x >>> n).toNat = x.toNat / 2 ^ n := by
  rw [BitVec.toNat_ushiftRight, Nat.shiftRight_eq_div_pow]
theorem and_not3 (x : BitVec 64) : (x &&& 18446744073709551612#64).toNat = 4 * (x.toNat / 4) := by
  have e : x &&& 18446744073709551612#64 = (x >>> 2) <<< 2 := by
    have h : ∀ i : _root_.Fin 64, (18446744073709551612#64).getLsbD i.val = decide (2 ≤ i.val) := by decide
    apply BitVec.eq_of_getLsbD_eq
    intro i hi
    rw [BitVec.getLsbD_and, h ⟨i, hi⟩, BitVec.getLsbD_shiftLeft, BitVec.getLsbD_ushiftRight]
    by_cases h2 : 2 ≤ i
    · simp [h2, hi, show ¬ i < 2 by omega, show 2 + (i - 2) = i by omega]
    · simp [h2, show i < 2 by omega]
  have hx := x.isLt
  rw [e, BitVec.toNat_shiftLeft, shr_nat, Nat.shiftLeft_eq]
  omega
/-- low bits beside high ones -/
theorem or_nat {x y : BitVec 64} {i a : Nat} (hx : x.toNat < 2 ^ i) (hy : y.toNat = 2 ^ i * a) : (x ||| y).toNat = x.toNat + 2 ^ i * a := by
  rw [BitVec.toNat_or, hy, Nat.or_comm, ← Nat.two_pow_add_eq_or_of_lt hx, Nat.add_comm]

/-- what three words stand for -/
def val3 (h0 h1 h2 : BitVec 64) : Nat := h0.toNat + 2 ^ 64 * h1.toNat + 2 ^ 128 * h2.toNat

/-- a wide sum: its lower word, its upper one -/
def a128l (xl yl : BitVec 64) : BitVec 64 := xl + yl + 0#64
def a128h (xl xh yl yh : BitVec 64) : BitVec 64 := xh + yh + acy xl yl 0#64

/-- the accumulator times the key, brought down -/
structure PW where
  t0 : BitVec 64
  t1 : BitVec 64
  t2 : BitVec 64
  t3 : BitVec 64
def pmul (h0 h1 h2 r0 r1 : BitVec 64) : PW :=
  let m1l := a128l (h1 * r0) (h0 * r1)
  let m1h := a128h (h1 * r0) (mhi h1 r0) (h0 * r1) (mhi h0 r1)
  let m2l := a128l (h2 * r0) (h1 * r1)
  let m2h := a128h (h2 * r0) (mhi h2 r0) (h1 * r1) (mhi h1 r1)
  let t1 := m1l + mhi h0 r0 + 0#64
  let c1 := acy m1l (mhi h0 r0) 0#64
  let t2 := m2l + m1h + c1
  let c2 := acy m2l m1h c1
  let t3 := h2 * r1 + m2h + c2
  ⟨h0 * r0, t1, t2, t3⟩

theorem pmul_spec (h0 h1 h2 r0 r1 : BitVec 64) (hh : h2.toNat ≤ 7) (hr0 : r0.toNat < 2 ^ 60) (hr1 : r1.toNat < 2 ^ 60) :
    (pmul h0 h1 h2 r0 r1).t0.toNat + 2 ^ 64 * (pmul h0 h1 h2 r0 r1).t1.toNat + 2 ^ 128 * (pmul h0 h1 h2 r0 r1).t2.toNat + 2 ^ 192 * (pmul h0 h1 h2 r0 r1).t3.toNat = val3 h0 h1 h2 * (r0.toNat + 2 ^ 64 * r1.toNat) ∧
    mhi h2 r0 = 0#64 ∧ mhi h2 r1 = 0#64 ∧
    acy (mhi h1 r0) (mhi h0 r1) (acy (h1 * r0) (h0 * r1) 0#64) = 0#64 ∧ acy (mhi h2 r0) (mhi h1 r1) (acy (h2 * r0) (h1 * r1) 0#64) = 0#64 := by
  have b0 := h0.isLt
  have b1 := h1.isLt
  have p00 : h0.toNat * r0.toNat ≤ (2 ^ 64 - 1) * (2 ^ 60 - 1) := Nat.mul_le_mul (by omega) (by omega)
  have p10 : h1.toNat * r0.toNat ≤ (2 ^ 64 - 1) * (2 ^ 60 - 1) := Nat.mul_le_mul (by omega) (by omega)
  have p20 : h2.toNat * r0.toNat ≤ 7 * (2 ^ 60 - 1) := Nat.mul_le_mul (by omega) (by omega)
  have p01 : h0.toNat * r1.toNat ≤ (2 ^ 64 - 1) * (2 ^ 60 - 1) := Nat.mul_le_mul (by omega) (by omega)
  have p11 : h1.toNat * r1.toNat ≤ (2 ^ 64 - 1) * (2 ^ 60 - 1) := Nat.mul_le_mul (by omega) (by omega)
  have p21 : h2.toNat * r1.toNat ≤ 7 * (2 ^ 60 - 1) := Nat.mul_le_mul (by omega) (by omega)
  have q00 := mhi_nat h0 r0
  have q10 := mhi_nat h1 r0
  have q20 := mhi_nat h2 r0
  have q01 := mhi_nat h0 r1
  have q11 := mhi_nat h1 r1
  have q21 := mhi_nat h2 r1
  have l00 := mlo_nat h0 r0
  have l10 := mlo_nat h1 r0
  have l20 := mlo_nat h2 r0
  have l01 := mlo_nat h0 r1
  have l11 := mlo_nat h1 r1
  have l21 := mlo_nat h2 r1
  have z : (0#64).toNat = 0 := rfl
  have ex : val3 h0 h1 h2 * (r0.toNat + 2 ^ 64 * r1.toNat) = h0.toNat * r0.toNat + 2 ^ 64 * (h1.toNat * r0.toNat) + 2 ^ 128 * (h2.toNat * r0.toNat) + 2 ^ 64 * (h0.toNat * r1.toNat) + 2 ^ 128 * (h1.toNat * r1.toNat) + 2 ^ 192 * (h2.toNat * r1.toNat) := by
    unfold val3; grind
  rw [ex]
  generalize h0.toNat * r0.toNat = P00 at *
  generalize h1.toNat * r0.toNat = P10 at *
  generalize h2.toNat * r0.toNat = P20 at *
  generalize h0.toNat * r1.toNat = P01 at *
  generalize h1.toNat * r1.toNat = P11 at *
  generalize h2.toNat * r1.toNat = P21 at *
  have zero : ∀ x : BitVec 64, x.toNat = 0 → x = 0#64 := fun x h => BitVec.eq_of_toNat_eq h
  have e1 : (acy (h1 * r0) (h0 * r1) 0#64).toNat = ((h1 * r0).toNat + (h0 * r1).toNat) / 2 ^ 64 := by rw [acy_nat, z, Nat.add_zero]
  have e2 : (acy (h2 * r0) (h1 * r1) 0#64).toNat = ((h2 * r0).toNat + (h1 * r1).toNat) / 2 ^ 64 := by rw [acy_nat, z, Nat.add_zero]
  refine ⟨?_, zero _ (by omega), zero _ (by omega), zero _ ?_, zero _ ?_⟩
  · simp only [pmul, a128l, a128h, asm_nat, acy_nat, z, Nat.add_zero]
    generalize h0 * r0 = L00 at *
    generalize h1 * r0 = L10 at *
    generalize h2 * r0 = L20 at *
    generalize h0 * r1 = L01 at *
    generalize h1 * r1 = L11 at *
    generalize h2 * r1 = L21 at *
    omega
  · rw [acy_nat, e1]; omega
  · rw [acy_nat, e2]; omega
end Go.Sx

set_option linter.unusedVariables false
namespace Go.Sx

/-- the number of bytes, the lowest first -/
def leN : List (BitVec 8) → Nat
  | [] => 0
  | x :: r => x.toNat + 256 * leN r
/-- n bytes of v -/
def bytesN : Nat → Nat → List (BitVec 8)
  | 0, _ => []
  | n + 1, v => BitVec.ofNat 8 v :: bytesN n (v / 256)
theorem bytesN_length : ∀ n v, (bytesN n v).length = n
  | 0, _ => rfl
  | n + 1, v => by simp [bytesN, bytesN_length n]
theorem leN_lt : ∀ l : List (BitVec 8), leN l < 256 ^ l.length
  | [] => by simp [leN]
  | x :: r => by
    have := leN_lt r
    have hx := x.isLt
    simp only [leN, List.length_cons, Nat.pow_succ]
    omega
theorem leN_append : ∀ a b : List (BitVec 8), leN (a ++ b) = leN a + 256 ^ a.length * leN b
  | [], b => by simp [leN]
  | x :: a, b => by
    simp only [List.cons_append, leN, leN_append a b, List.length_cons, Nat.pow_succ]
    rw [Nat.mul_add, ← Nat.mul_assoc, Nat.mul_comm 256 (256 ^ a.length)]
    omega
theorem leN_bytesN : ∀ n v, leN (bytesN n v) = v % 256 ^ n
  | 0, v => by simp [bytesN, leN, Nat.mod_one]
  | n + 1, v => by
    simp only [bytesN, leN, leN_bytesN n, BitVec.toNat_ofNat]
    rw [show 256 ^ (n + 1) = 256 * 256 ^ n from by rw [Nat.pow_succ, Nat.mul_comm], Nat.mod_mul]
theorem bytesN_leN : ∀ l : List (BitVec 8), bytesN l.length (leN l) = l
  | [] => rfl
  | x :: r => by
    have hx := x.isLt
    simp only [List.length_cons, bytesN, leN]
    rw [show (x.toNat + 256 * leN r) / 256 = leN r by omega, bytesN_leN r]
    congr 1
    apply BitVec.eq_of_toNat_eq
    rw [BitVec.toNat_ofNat]; omega
theorem leN_inj {a b : List (BitVec 8)} (hl : a.length = b.length) (h : leN a = leN b) : a = b := by
  rw [← bytesN_leN a, ← bytesN_leN b, hl, h]
theorem bytesN_mod (n v : Nat) : bytesN n (v % 256 ^ n) = bytesN n v := leN_inj (by simp [bytesN_length]) (by rw [leN_bytesN, leN_bytesN, Nat.mod_mod])
theorem bytesN_add : ∀ m n v, bytesN (m + n) v = bytesN m v ++ bytesN n (v / 256 ^ m)
  | 0, n, v => by simp [bytesN]
  | m + 1, n, v => by
    rw [show m + 1 + n = (m + n) + 1 by omega]
    simp only [bytesN, bytesN_add m n, List.cons_append]
    rw [Nat.div_div_eq_div_mul, Nat.pow_succ, Nat.mul_comm 256]

/-- block n of a message, with a one behind it -/
def blkN (m : List (BitVec 8)) (n : Nat) : Nat := leN ((m.drop (16 * n)).take 16) + 256 ^ ((m.drop (16 * n)).take 16).length
/-- the accumulator behind n blocks -/
def pAcc (r : Nat) (m : List (BitVec 8)) : Nat → Nat
  | 0 => 0
  | n + 1 => (pAcc r m n + blkN m n) * r % P130
def nBlk (m : List (BitVec 8)) : Nat := (m.length + 15) / 16
theorem pAcc_lt (r : Nat) (m : List (BitVec 8)) : ∀ n, pAcc r m n < P130
  | 0 => by show 0 < P130; decide
  | n + 1 => Nat.mod_lt _ (by decide)
/-- the key's part that is multiplied with -/
def rB (k : List (BitVec 8)) : List (BitVec 8) :=
  [k.getD 0 0, k.getD 1 0, k.getD 2 0, k.getD 3 0 &&& 15#8, k.getD 4 0 &&& 252#8, k.getD 5 0, k.getD 6 0, k.getD 7 0 &&& 15#8, k.getD 8 0 &&& 252#8, k.getD 9 0, k.getD 10 0, k.getD 11 0 &&& 15#8, k.getD 12 0 &&& 252#8, k.getD 13 0, k.getD 14 0, k.getD 15 0 &&& 15#8]
/-- **Poly1305** -/
def poly (key m : List (BitVec 8)) : List (BitVec 8) := bytesN 16 (pAcc (leN (rB key)) m (nBlk m) + leN ((key.drop 16).take 16))
theorem poly_length (key m : List (BitVec 8)) : (poly key m).length = 16 := bytesN_length _ _

/-- bytes put together to digits -/
def d16 : List (BitVec 8) → List (BitVec 64)
  | x :: y :: r => (0#64 + x.setWidth 64 <<< 0 + y.setWidth 64 <<< 8) :: d16 r
  | [x] => [0#64 + x.setWidth 64 <<< 0]
  | [] => []
theorem w8 (x : BitVec 8) : (x.setWidth 64).toNat = x.toNat := by
  have := x.isLt
  rw [BitVec.toNat_setWidth]; omega
theorem w8s (x : BitVec 8) (n : Nat) (hn : n ≤ 56) : (x.setWidth 64 <<< n).toNat = 2 ^ n * x.toNat := by
  have := x.isLt
  have hp : 2 ^ n ≤ 2 ^ 56 := Nat.pow_le_pow_right (by omega) hn
  have hm : 2 ^ n * x.toNat ≤ 2 ^ 56 * 255 := Nat.mul_le_mul hp (by omega)
  rw [BitVec.toNat_shiftLeft, w8, Nat.shiftLeft_eq, Nat.mul_comm, Nat.mod_eq_of_lt (by omega)]
theorem d16_spec : ∀ l, val (d16 l) = leN l ∧ ∀ x ∈ d16 l, x.toNat < 65536
  | [] => by simp [d16, val, leN]
  | [x] => by
    have hx := x.isLt
    have e : (0#64 + x.setWidth 64 <<< 0).toNat = x.toNat := by rw [BitVec.zero_add, w8s x 0 (by omega)]; simp
    exact ⟨by simp only [d16, val, leN, e], fun y hy => by simp only [d16, List.mem_singleton] at hy; subst hy; rw [e]; omega⟩
  | x :: y :: r => by
    have hx := x.isLt
    have hy := y.isLt
    have ih := d16_spec r
    have e : (0#64 + x.setWidth 64 <<< 0 + y.setWidth 64 <<< 8).toNat = x.toNat + 256 * y.toNat := by
      rw [BitVec.zero_add, BitVec.toNat_add, w8s x 0 (by omega), w8s y 8 (by omega)]
      omega
    refine ⟨?_, fun z hz => ?_⟩
    · simp only [d16, val, leN, e, ih.1]; omega
    · simp only [d16, List.mem_cons] at hz
      rcases hz with rfl | hz
      · rw [e]; omega
      · exact ih.2 z hz

/-- the tag's bytes: digits and bytes summed -/
def spOut : BitVec 64 → List (BitVec 64) → List (BitVec 8) → List (BitVec 8)
  | c, x :: l, k0 :: k1 :: k => let c' := c + x + k0.setWidth 64 + k1.setWidth 64 <<< 8
    c'.setWidth 8 :: (c' >>> 8).setWidth 8 :: spOut (c' >>> 16) l k
  | _, _, _ => []
theorem spOut_spec : ∀ (l : List (BitVec 64)) (k : List (BitVec 8)) (c : BitVec 64), k.length = 2 * l.length → c.toNat < 2 ^ 20 → (∀ x ∈ l, x.toNat < 65536) → spOut c l k = bytesN (2 * l.length) (c.toNat + val l + leN k)
  | [], k, c, _, _, _ => by cases k <;> simp [spOut, bytesN]
  | x :: l, [], c, h, _, _ => by simp at h
  | x :: l, [_], c, h, _, _ => by simp at h; omega
  | x :: l, k0 :: k1 :: k, c, h, hc, hl => by
    have hx := hl x (by simp)
    have h0 := k0.isLt
    have h1 := k1.isLt
    have e : (c + x + k0.setWidth 64 + k1.setWidth 64 <<< 8).toNat = c.toNat + x.toNat + k0.toNat + 256 * k1.toNat := by
      rw [BitVec.toNat_add, BitVec.toNat_add, BitVec.toNat_add, w8, w8s k1 8 (by omega)]
      omega
    have ih := spOut_spec l k ((c + x + k0.setWidth 64 + k1.setWidth 64 <<< 8) >>> 16) (by simp at h; omega) (by rw [shr_nat, e]; omega) (fun z hz => hl z (by simp [hz]))
    simp only [spOut, ih, List.length_cons]
    rw [show 2 * (l.length + 1) = 2 * l.length + 1 + 1 by omega]
    simp only [bytesN, val, leN]
    rw [shr_nat, e]
    congr 1
    · apply BitVec.eq_of_toNat_eq
      rw [BitVec.toNat_setWidth, e, BitVec.toNat_ofNat]; omega
    · congr 1
      · apply BitVec.eq_of_toNat_eq
        rw [BitVec.toNat_setWidth, shr_nat, e, BitVec.toNat_ofNat]; omega
      · congr 1
        omega

/-- eight bytes as a word -/
def le64 (l : List (BitVec 8)) : BitVec 64 := (l.getD 0 0).setWidth 64 ||| (l.getD 1 0).setWidth 64 <<< 8 ||| (l.getD 2 0).setWidth 64 <<< 16 ||| (l.getD 3 0).setWidth 64 <<< 24 ||| (l.getD 4 0).setWidth 64 <<< 32 ||| (l.getD 5 0).setWidth 64 <<< 40 ||| (l.getD 6 0).setWidth 64 <<< 48 ||| (l.getD 7 0).setWidth 64 <<< 56
theorem le64_nat (l : List (BitVec 8)) (h : l.length = 8) : (le64 l).toNat = leN l := by
  match l, h with
  | [a, b, c, d, e, f, g, i], _ =>
    have ha := a.isLt; have hb := b.isLt; have hc := c.isLt; have hd := d.isLt; have he := e.isLt; have hf := f.isLt; have hg := g.isLt; have hi := i.isLt
    simp only [le64, List.getD_cons_zero, List.getD_cons_succ, leN]
    have s1 := or_nat (x := a.setWidth 64) (y := b.setWidth 64 <<< 8) (i := 8) (a := b.toNat) (by rw [w8]; omega) (w8s b 8 (by omega))
    have s2 := or_nat (y := c.setWidth 64 <<< 16) (i := 16) (a := c.toNat) (by rw [s1, w8]; omega) (w8s c 16 (by omega))
    have s3 := or_nat (y := d.setWidth 64 <<< 24) (i := 24) (a := d.toNat) (by rw [s2, s1, w8]; omega) (w8s d 24 (by omega))
    have s4 := or_nat (y := e.setWidth 64 <<< 32) (i := 32) (a := e.toNat) (by rw [s3, s2, s1, w8]; omega) (w8s e 32 (by omega))
    have s5 := or_nat (y := f.setWidth 64 <<< 40) (i := 40) (a := f.toNat) (by rw [s4, s3, s2, s1, w8]; omega) (w8s f 40 (by omega))
    have s6 := or_nat (y := g.setWidth 64 <<< 48) (i := 48) (a := g.toNat) (by rw [s5, s4, s3, s2, s1, w8]; omega) (w8s g 48 (by omega))
    have s7 := or_nat (y := i.setWidth 64 <<< 56) (i := 56) (a := i.toNat) (by rw [s6, s5, s4, s3, s2, s1, w8]; omega) (w8s i 56 (by omega))
    rw [s7, s6, s5, s4, s3, s2, s1, w8]
    omega

/-- a byte's bits under a mask -/
theorem mask_byte (b : BitVec 8) (m : BitVec 64) (k : Nat) : (b.setWidth 64 <<< k) &&& m = (b &&& (m >>> k).setWidth 8).setWidth 64 <<< k := by
  apply BitVec.eq_of_getLsbD_eq
  intro i hi
  rw [BitVec.getLsbD_and, BitVec.getLsbD_shiftLeft, BitVec.getLsbD_shiftLeft, BitVec.getLsbD_setWidth, BitVec.getLsbD_setWidth, BitVec.getLsbD_and, BitVec.getLsbD_setWidth, BitVec.getLsbD_ushiftRight]
  by_cases h : i < k
  · simp [h]
  · rw [show k + (i - k) = i by omega]
    by_cases h8 : i - k < 8
    · simp [h, hi, h8, Bool.and_assoc]
    · have : b.getLsbD (i - k) = false := BitVec.getLsbD_of_ge _ _ (by omega)
      simp [this]
theorem and255 (b : BitVec 8) : b &&& 255#8 = b := by
  apply BitVec.eq_of_toNat_eq
  rw [BitVec.toNat_and]
  show _ &&& (2 ^ 8 - 1) = _
  rw [Nat.and_two_pow_sub_one_eq_mod, Nat.mod_eq_of_lt b.isLt]
/-- a word's bytes under a mask -/
theorem mask_le64 (l : List (BitVec 8)) (m : BitVec 64) : le64 l &&& m = le64 [l.getD 0 0 &&& (m >>> 0).setWidth 8, l.getD 1 0 &&& (m >>> 8).setWidth 8, l.getD 2 0 &&& (m >>> 16).setWidth 8, l.getD 3 0 &&& (m >>> 24).setWidth 8,
    l.getD 4 0 &&& (m >>> 32).setWidth 8, l.getD 5 0 &&& (m >>> 40).setWidth 8, l.getD 6 0 &&& (m >>> 48).setWidth 8, l.getD 7 0 &&& (m >>> 56).setWidth 8] := by
  have h0 := mask_byte (l.getD 0 0) m 0
  rw [BitVec.shiftLeft_zero, BitVec.shiftLeft_zero] at h0
  simp only [le64, List.getD_cons_zero, List.getD_cons_succ]
  simp only [BitVec.and_or_distrib_right, mask_byte, h0]
end Go.Sx

set_option linter.unusedVariables false
namespace Go.Sx

structure H3 where
  x : BitVec 64
  y : BitVec 64
  z : BitVec 64

/-- what stands beyond 2^130 counts five times -/
def red (t : PW) : H3 :=
  let h2 := t.t2 &&& 3#64
  let cl := t.t2 &&& 18446744073709551612#64
  let ch := t.t3
  let b0 := t.t0 + cl + 0#64
  let c := acy t.t0 cl 0#64
  let b1 := t.t1 + ch + c
  let c := acy t.t1 ch c
  let b2 := h2 + c
  let sl := cl >>> 2 ||| (ch &&& 3#64) <<< 62
  let sh := ch >>> 2
  let d0 := b0 + sl + 0#64
  let c := acy b0 sl 0#64
  let d1 := b1 + sh + c
  let c := acy b1 sh c
  ⟨d0, d1, b2 + c⟩

theorem a64 (x y c : BitVec 64) (hc : c.toNat ≤ 1) : (x + y + c).toNat + 2 ^ 64 * (acy x y c).toNat = x.toNat + y.toNat + c.toNat ∧ (acy x y c).toNat ≤ 1 := by
  refine ⟨?_, acy_le hc⟩
  rw [asm_nat, acy_nat]
  omega

theorem sm3 {a b c : BitVec 64} (ha : a.toNat ≤ 3) (hb : b.toNat ≤ 1) (hc : c.toNat ≤ 1) : (a + b + c).toNat = a.toNat + b.toNat + c.toNat ∧ (a + b + c).toNat ≤ 5 := by
  have : (a + b + c).toNat = a.toNat + b.toNat + c.toNat := by rw [BitVec.toNat_add, BitVec.toNat_add]; omega
  exact ⟨this, by omega⟩
theorem redN {t0 t1 t2 t3 cl sl sh u0 u1 v0 v1 c0 c1 c2 c3 : Nat} (p1 : u0 + 2 ^ 64 * c0 = t0 + cl) (p3 : u1 + 2 ^ 64 * c1 = t1 + t3 + c0) (p5 : v0 + 2 ^ 64 * c2 = u0 + sl) (p7 : v1 + 2 ^ 64 * c3 = u1 + sh + c2)
    (el : cl = 4 * (t2 / 4)) (eo : sl = t2 / 4 + 2 ^ 62 * (t3 % 4)) (eh : sh = t3 / 4) : v0 + 2 ^ 64 * v1 + 2 ^ 128 * (t2 % 4 + c1 + c3) = t0 + 2 ^ 64 * t1 + 2 ^ 128 * (t2 % 4) + 5 * (t2 / 4 + 2 ^ 62 * t3) := by
  have d3 : t3 = 4 * (t3 / 4) + t3 % 4 := by omega
  generalize t2 / 4 = Q at *
  generalize t2 % 4 = L at *
  generalize t3 / 4 = S at *
  generalize t3 % 4 = T at *
  omega

theorem red_spec (t : PW) (V : Nat) (hV : t.t0.toNat + 2 ^ 64 * t.t1.toNat + 2 ^ 128 * t.t2.toNat + 2 ^ 192 * t.t3.toNat = V) :
    val3 (red t).x (red t).y (red t).z = V % 2 ^ 130 + 5 * (V / 2 ^ 130) ∧ (red t).z.toNat ≤ 5 := by
  obtain ⟨t0, t1, t2, t3⟩ := t
  simp only at hV
  have b0 := t0.isLt
  have b1 := t1.isLt
  have b2 := t2.isLt
  have b3 := t3.isLt
  have e2 := and_low t2 2 3#64 rfl
  have el := and_not3 t2
  have e3 := and_low t3 2 3#64 rfl
  have es := shr_nat (t2 &&& 18446744073709551612#64) 2
  have eh := shr_nat t3 2
  have ef : ((t3 &&& 3#64) <<< 62).toNat = 2 ^ 62 * (t3.toNat % 4) := by
    rw [BitVec.toNat_shiftLeft, e3, Nat.shiftLeft_eq]; omega
  have eo := or_nat (x := (t2 &&& 18446744073709551612#64) >>> 2) (y := (t3 &&& 3#64) <<< 62) (i := 62) (a := t3.toNat % 4) (by rw [es, el]; omega) ef
  have hv : V / 2 ^ 130 = t2.toNat / 4 + 2 ^ 62 * t3.toNat := by omega
  have hm : V % 2 ^ 130 = t0.toNat + 2 ^ 64 * t1.toNat + 2 ^ 128 * (t2.toNat % 4) := by omega
  unfold red val3
  dsimp only
  rw [hv, hm]
  generalize (t2 &&& 18446744073709551612#64) >>> 2 ||| (t3 &&& 3#64) <<< 62 = sl at *
  rw [es] at eo
  generalize (t2 &&& 18446744073709551612#64) = cl at *
  generalize (t2 &&& 3#64) = lo at *
  generalize t3 >>> 2 = sh at *
  obtain ⟨p1, p2⟩ := a64 t0 cl 0#64 (by decide)
  generalize t0 + cl + 0#64 = u0 at *
  generalize acy t0 cl 0#64 = c0 at *
  obtain ⟨p3, p4⟩ := a64 t1 t3 c0 p2
  generalize t1 + t3 + c0 = u1 at *
  generalize acy t1 t3 c0 = c1 at *
  obtain ⟨p5, p6⟩ := a64 u0 sl 0#64 (by decide)
  generalize u0 + sl + 0#64 = v0 at *
  generalize acy u0 sl 0#64 = c2 at *
  obtain ⟨p7, p8⟩ := a64 u1 sh c2 p6
  generalize u1 + sh + c2 = v1 at *
  generalize acy u1 sh c2 = c3 at *
  have z : (0#64).toNat = 0 := rfl
  rw [z, Nat.add_zero] at p1 p5
  have l1 : lo.toNat ≤ 3 := by rw [e2]; exact Nat.le_of_lt_succ (Nat.mod_lt _ (by decide))
  obtain ⟨p9, p10⟩ := sm3 l1 p4 p8
  refine ⟨?_, p10⟩
  rw [p9, e2]
  have dc : cl.toNat / 4 = t2.toNat / 4 := by rw [el]; exact Nat.mul_div_cancel_left _ (by decide)
  exact redN p1 p3 p5 p7 el (by rw [eo, show (2 : Nat) ^ 2 = 4 from rfl, dc]) eh

def uAdd (h : H3) (m0 m1 : BitVec 64) (f : Bool) : H3 :=
  let c := acy h.x m0 0#64
  let c1 := acy h.y m1 c
  ⟨h.x + m0 + 0#64, h.y + m1 + c, h.z + (bif f then c1 + 1#64 else c1)⟩
def H3.val (h : H3) : Nat := val3 h.x h.y h.z
theorem uAdd_spec (h : H3) (m0 m1 : BitVec 64) (f : Bool) (hz : h.z.toNat ≤ 5) :
    (uAdd h m0 m1 f).val = h.val + (m0.toNat + 2 ^ 64 * m1.toNat + bif f then 2 ^ 128 else 0) ∧ (uAdd h m0 m1 f).z.toNat ≤ 7 := by
  obtain ⟨x, y, w⟩ := h
  have b0 := x.isLt
  have b1 := y.isLt
  have b2 := m0.isLt
  have b3 := m1.isLt
  have z : (0#64).toNat = 0 := rfl
  have z1 : (1#64).toNat = 1 := rfl
  simp only at hz
  cases f <;> simp only [uAdd, H3.val, val3, cond_true, cond_false, acy_nat, BitVec.toNat_add, z, z1, Nat.add_zero] <;> constructor <;> omega

/-- one block -/
def uMul (h : H3) (r0 r1 : BitVec 64) : H3 := red (pmul h.x h.y h.z r0 r1)
theorem uMul_spec (h : H3) (r0 r1 : BitVec 64) (hz : h.z.toNat ≤ 7) (hr0 : r0.toNat < 2 ^ 60) (hr1 : r1.toNat < 2 ^ 60) :
    (uMul h r0 r1).val % P130 = (h.val * (r0.toNat + 2 ^ 64 * r1.toNat)) % P130 ∧ (uMul h r0 r1).z.toNat ≤ 5 := by
  have hp := (pmul_spec h.x h.y h.z r0 r1 hz hr0 hr1).1
  have hr := red_spec _ _ hp
  refine ⟨?_, hr.2⟩
  unfold H3.val uMul
  rw [hr.1, settle_mod]

def uStep (h : H3) (r0 r1 m0 m1 : BitVec 64) (f : Bool) : H3 := uMul (uAdd h m0 m1 f) r0 r1

/-- a whole block -/
def uFull (h : H3) (r0 r1 : BitVec 64) (b : List (BitVec 8)) : H3 := uStep h r0 r1 (le64 (b.take 8)) (le64 ((b.drop 8).take 8)) true
/-- the last bytes, with a one behind them -/
def uBuf (b : List (BitVec 8)) : List (BitVec 8) := (splice (List.replicate 16 0#8) 0 b).set b.length 1#8
def uTail (h : H3) (r0 r1 : BitVec 64) (b : List (BitVec 8)) : H3 := uStep h r0 r1 (le64 ((uBuf b).take 8)) (le64 (((uBuf b).drop 8).take 8)) false
/-- behind k whole blocks -/
def updK (h : H3) (r0 r1 : BitVec 64) (m : List (BitVec 8)) : Nat → H3
  | 0 => h
  | k + 1 => uFull (updK h r0 r1 m k) r0 r1 (m.drop (16 * k))
/-- behind all of it -/
def updS (h : H3) (r0 r1 : BitVec 64) (m : List (BitVec 8)) : H3 :=
  if m.length % 16 = 0 then updK h r0 r1 m (m.length / 16) else uTail (updK h r0 r1 m (m.length / 16)) r0 r1 (m.drop (16 * (m.length / 16)))

theorem le64_two (b : List (BitVec 8)) (h : b.length = 16) : (le64 (b.take 8)).toNat + 2 ^ 64 * (le64 ((b.drop 8).take 8)).toNat = leN b := by
  rw [le64_nat _ (by simp [h]), le64_nat _ (by simp [h])]
  have e := leN_append (b.take 8) (b.drop 8)
  rw [List.take_append_drop] at e
  rw [e, List.take_of_length_le (l := b.drop 8) (by simp [h])]
  simp [h]

theorem le64_two' (b : List (BitVec 8)) (h : 16 ≤ b.length) : (le64 (b.take 8)).toNat + 2 ^ 64 * (le64 ((b.drop 8).take 8)).toNat = leN (b.take 16) := by
  rw [← le64_two (b.take 16) (by simp; omega), List.take_take, List.drop_take, List.take_take]
  simp

theorem leN_replicate : ∀ n, leN (List.replicate n 0#8) = 0
  | 0 => rfl
  | n + 1 => by simp [List.replicate_succ, leN, leN_replicate n]
theorem uBuf_eq (b : List (BitVec 8)) (h : b.length < 16) : uBuf b = b ++ 1#8 :: List.replicate (15 - b.length) 0#8 := by
  unfold uBuf splice
  rw [List.take_zero, List.nil_append, Nat.zero_add, List.drop_replicate, List.set_append_right _ _ (Nat.le_refl _), Nat.sub_self]
  rw [show 16 - b.length = (15 - b.length) + 1 by omega, List.replicate_succ, List.set_cons_zero]
theorem uBuf_spec (b : List (BitVec 8)) (h : b.length < 16) : (uBuf b).length = 16 ∧ leN (uBuf b) = leN b + 256 ^ b.length := by
  rw [uBuf_eq b h]
  refine ⟨by simp; omega, ?_⟩
  rw [leN_append]
  simp [leN, leN_replicate]

theorem uStep_spec (h : H3) (r0 r1 m0 m1 : BitVec 64) (f : Bool) (hz : h.z.toNat ≤ 5) (hr0 : r0.toNat < 2 ^ 60) (hr1 : r1.toNat < 2 ^ 60) :
    (uStep h r0 r1 m0 m1 f).val % P130 = ((h.val % P130 + (m0.toNat + 2 ^ 64 * m1.toNat + bif f then 2 ^ 128 else 0)) * (r0.toNat + 2 ^ 64 * r1.toNat)) % P130 ∧ (uStep h r0 r1 m0 m1 f).z.toNat ≤ 5 := by
  have ha := uAdd_spec h m0 m1 f hz
  have hm := uMul_spec (uAdd h m0 m1 f) r0 r1 ha.2 hr0 hr1
  refine ⟨?_, hm.2⟩
  unfold uStep
  rw [hm.1, ha.1, Nat.mul_mod, Nat.mul_mod (_ % P130 + _), Nat.mod_add_mod]

/-- from an accumulator on -/
def pFrom (r a : Nat) (m : List (BitVec 8)) : Nat → Nat
  | 0 => a
  | n + 1 => (pFrom r a m n + blkN m n) * r % P130
theorem blkN_app (t m : List (BitVec 8)) (n k : Nat) (h : t.length = 16 * n) : blkN (t ++ m) (n + k) = blkN m k := by
  unfold blkN
  rw [List.drop_append, List.drop_of_length_le (by omega), List.nil_append, h, show 16 * (n + k) - 16 * n = 16 * k by omega]
theorem blkN_pre (t m : List (BitVec 8)) (k : Nat) (h : 16 * k + 16 ≤ t.length) : blkN (t ++ m) k = blkN t k := by
  unfold blkN
  rw [List.drop_append_of_le_length (by omega), List.take_append_of_le_length (by simp; omega)]
theorem pAcc_pre (r : Nat) (t m : List (BitVec 8)) : ∀ k, 16 * k ≤ t.length → pAcc r (t ++ m) k = pAcc r t k
  | 0, _ => rfl
  | k + 1, h => by simp only [pAcc]; rw [pAcc_pre r t m k (by omega), blkN_pre t m k (by omega)]
theorem pFrom_app (r : Nat) (t m : List (BitVec 8)) (n : Nat) (h : t.length = 16 * n) : ∀ k, pFrom r (pAcc r t n) m k = pAcc r (t ++ m) (n + k)
  | 0 => (pAcc_pre r t m n (by omega)).symm
  | k + 1 => by
    rw [← Nat.add_assoc]
    simp only [pFrom, pAcc, pFrom_app r t m n h k, blkN_app t m n k h]

theorem updK_spec (h : H3) (r0 r1 : BitVec 64) (m : List (BitVec 8)) (hz : h.z.toNat ≤ 5) (hr0 : r0.toNat < 2 ^ 60) (hr1 : r1.toNat < 2 ^ 60) : ∀ k, 16 * k ≤ m.length →
    (updK h r0 r1 m k).val % P130 = pFrom (r0.toNat + 2 ^ 64 * r1.toNat) (h.val % P130) m k ∧ (updK h r0 r1 m k).z.toNat ≤ 5
  | 0, _ => ⟨rfl, hz⟩
  | k + 1, hk => by
    obtain ⟨i1, i2⟩ := updK_spec h r0 r1 m hz hr0 hr1 k (by omega)
    have hs := uStep_spec (updK h r0 r1 m k) r0 r1 (le64 ((m.drop (16 * k)).take 8)) (le64 (((m.drop (16 * k)).drop 8).take 8)) true i2 hr0 hr1
    refine ⟨?_, hs.2⟩
    simp only [updK, uFull, pFrom]
    have hl : ((m.drop (16 * k)).take 16).length = 16 := by simp; omega
    rw [hs.1, i1, le64_two' _ (by simp; omega), cond_true]
    unfold blkN
    rw [hl]

theorem updS_spec (h : H3) (r0 r1 : BitVec 64) (m : List (BitVec 8)) (hz : h.z.toNat ≤ 5) (hr0 : r0.toNat < 2 ^ 60) (hr1 : r1.toNat < 2 ^ 60) :
    (updS h r0 r1 m).val % P130 = pFrom (r0.toNat + 2 ^ 64 * r1.toNat) (h.val % P130) m (nBlk m) ∧ (updS h r0 r1 m).z.toNat ≤ 5 := by
  obtain ⟨i1, i2⟩ := updK_spec h r0 r1 m hz hr0 hr1 (m.length / 16) (by omega)
  unfold updS
  split
  · rename_i h0
    rw [show nBlk m = m.length / 16 by unfold nBlk; omega]
    exact ⟨i1, i2⟩
  · rename_i h0
    have hb : (m.drop (16 * (m.length / 16))).length < 16 := by simp; omega
    obtain ⟨b1, b2⟩ := uBuf_spec _ hb
    have hs := uStep_spec (updK h r0 r1 m (m.length / 16)) r0 r1 (le64 ((uBuf (m.drop (16 * (m.length / 16)))).take 8)) (le64 (((uBuf (m.drop (16 * (m.length / 16)))).drop 8).take 8)) false i2 hr0 hr1
    refine ⟨?_, hs.2⟩
    rw [show nBlk m = m.length / 16 + 1 by unfold nBlk; omega]
    simp only [uTail, pFrom]
    rw [hs.1, i1, le64_two _ b1, b2, cond_false, Nat.add_zero]
    unfold blkN
    rw [List.take_of_length_le (Nat.le_of_lt hb)]
end Go.Sx

set_option linter.unusedVariables false
namespace Go.Sx

/-- a word's bytes -/
def b8 (v : BitVec 64) : List (BitVec 8) := [v.setWidth 8, (v >>> 8).setWidth 8, (v >>> 16).setWidth 8, (v >>> 24).setWidth 8, (v >>> 32).setWidth 8, (v >>> 40).setWidth 8, (v >>> 48).setWidth 8, (v >>> 56).setWidth 8]
theorem b8_eq (v : BitVec 64) : b8 v = bytesN 8 v.toNat := by
  have e : ∀ k, (v >>> k).setWidth 8 = BitVec.ofNat 8 (v.toNat / 2 ^ k) := by
    intro k
    apply BitVec.eq_of_toNat_eq
    rw [BitVec.toNat_setWidth, shr_nat, BitVec.toNat_ofNat]
  have e0 : v.setWidth 8 = BitVec.ofNat 8 v.toNat := by
    apply BitVec.eq_of_toNat_eq
    rw [BitVec.toNat_setWidth, BitVec.toNat_ofNat]
  simp only [b8, bytesN, e, e0, Nat.div_div_eq_div_mul]

def sel (v x y : BitVec 64) : BitVec 64 := (~~~(v - 1#64) &&& x) ||| ((v - 1#64) &&& y)
theorem sel_one (x y : BitVec 64) : sel 1#64 x y = x := by
  unfold sel
  rw [show (1#64 : BitVec 64) - 1#64 = 0#64 from rfl, show ~~~(0#64) = BitVec.allOnes 64 from rfl, BitVec.allOnes_and, BitVec.zero_and, BitVec.or_zero]
theorem sel_zero (x y : BitVec 64) : sel 0#64 x y = y := by
  unfold sel
  rw [show (0#64 : BitVec 64) - 1#64 = BitVec.allOnes 64 from rfl, show ~~~(BitVec.allOnes 64) = 0#64 from rfl, BitVec.allOnes_and, BitVec.zero_and, BitVec.zero_or]

def finO (h s : List (BitVec 64)) : List (BitVec 8) :=
  let h0 := h.getD 0 0
  let h1 := h.getD 1 0
  let h2 := h.getD 2 0
  let b0 := sbw h0 18446744073709551611#64 0#64
  let b1 := sbw h1 18446744073709551615#64 b0
  let b2 := sbw h2 3#64 b1
  let x0 := sel b2 h0 (h0 - 18446744073709551611#64 - 0#64)
  let x1 := sel b2 h1 (h1 - 18446744073709551615#64 - b0)
  b8 (x0 + s.getD 0 0 + 0#64) ++ b8 (x1 + s.getD 1 0 + acy x0 (s.getD 0 0) 0#64)

theorem a64w (x0 x1 s0 s1 : BitVec 64) : b8 (x0 + s0 + 0#64) ++ b8 (x1 + s1 + acy x0 s0 0#64) = bytesN 16 (x0.toNat + 2 ^ 64 * x1.toNat + (s0.toNat + 2 ^ 64 * s1.toNat)) := by
  obtain ⟨p1, p2⟩ := a64 x0 s0 0#64 (by decide)
  obtain ⟨p3, p4⟩ := a64 x1 s1 (acy x0 s0 0#64) p2
  rw [b8_eq, b8_eq, show 16 = 8 + 8 from rfl, bytesN_add]
  have q1 := (x0 + s0 + 0#64).isLt
  have z : (0#64).toNat = 0 := rfl
  rw [z] at p1
  generalize (x0 + s0 + 0#64).toNat = u0 at *
  generalize (acy x0 s0 0#64).toNat = c0 at *
  generalize (x1 + s1 + acy x0 s0 0#64).toNat = u1 at *
  generalize (acy x1 s1 (acy x0 s0 0#64)).toNat = c1 at *
  have e : x0.toNat + 2 ^ 64 * x1.toNat + (s0.toNat + 2 ^ 64 * s1.toNat) = u0 + 2 ^ 64 * (u1 + 2 ^ 64 * c1) := by omega
  rw [e]
  congr 1
  · rw [← bytesN_mod 8 (u0 + _)]
    congr 1
    rw [show (256 : Nat) ^ 8 = 2 ^ 64 from rfl, Nat.add_mul_mod_self_left, Nat.mod_eq_of_lt q1]
  · rw [show (256 : Nat) ^ 8 = 2 ^ 64 from rfl, Nat.add_mul_div_left _ _ (by decide), Nat.div_eq_of_lt q1, Nat.zero_add]
    rw [← bytesN_mod 8 (u1 + _), show (256 : Nat) ^ 8 = 2 ^ 64 from rfl, Nat.add_mul_mod_self_left]
    rw [show (2 : Nat) ^ 64 = 256 ^ 8 from rfl, bytesN_mod]

theorem bit01 {b : BitVec 64} (h : b.toNat ≤ 1) : b = 0#64 ∨ b = 1#64 := by
  rcases Nat.lt_or_ge b.toNat 1 with h1 | h1
  · exact .inl (BitVec.eq_of_toNat_eq (by show b.toNat = 0; omega))
  · exact .inr (BitVec.eq_of_toNat_eq (by show b.toNat = 1; omega))

theorem low128 (v : Nat) (s : Nat) : bytesN 16 (v % 2 ^ 128 + s) = bytesN 16 (v + s) := by
  rw [← bytesN_mod 16 (_ + s), ← bytesN_mod 16 (v + s), show (256 : Nat) ^ 16 = 2 ^ 128 from rfl, Nat.mod_add_mod]

/-- a difference with a borrow -/
theorem s64 (x y b : BitVec 64) (hb : b.toNat ≤ 1) : (x - y - b).toNat + y.toNat + b.toNat = x.toNat + 2 ^ 64 * (sbw x y b).toNat ∧ (sbw x y b).toNat ≤ 1 := by
  refine ⟨?_, sbw_le⟩
  have hx := x.isLt
  have hy := y.isLt
  rw [sdf_nat x y b hb, sbw_nat]
  split <;> omega

theorem finN {h0 h1 h2 d0 d1 d2 b0 b1 b2 : Nat} (e0 : d0 + 18446744073709551611 + 0 = h0 + 2 ^ 64 * b0) (e1 : d1 + 18446744073709551615 + b0 = h1 + 2 ^ 64 * b1) (e2 : d2 + 3 + b1 = h2 + 2 ^ 64 * b2) :
    d0 + 2 ^ 64 * d1 + 2 ^ 128 * d2 + P130 = h0 + 2 ^ 64 * h1 + 2 ^ 128 * h2 + 2 ^ 192 * b2 := by
  rw [P130_eq]; omega

theorem finO_spec (h s : List (BitVec 64)) (hz : (h.getD 2 0).toNat ≤ 5) :
    finO h s = bytesN 16 (val3 (h.getD 0 0) (h.getD 1 0) (h.getD 2 0) % P130 + ((s.getD 0 0).toNat + 2 ^ 64 * (s.getD 1 0).toNat)) := by
  unfold finO
  dsimp only
  generalize h.getD 0 0 = h0 at *
  generalize h.getD 1 0 = h1 at *
  generalize h.getD 2 0 = h2 at *
  rw [a64w]
  obtain ⟨e0, c0⟩ := s64 h0 18446744073709551611#64 0#64 (by decide)
  obtain ⟨e1, c1⟩ := s64 h1 18446744073709551615#64 _ c0
  obtain ⟨e2, c2⟩ := s64 h2 3#64 _ c1
  have key := finN e0 e1 e2
  have l0 := (h0 - 18446744073709551611#64 - 0#64).isLt
  have l1 := (h1 - 18446744073709551615#64 - sbw h0 18446744073709551611#64 0#64).isLt
  have l2 := (h2 - 3#64 - sbw h1 18446744073709551615#64 (sbw h0 18446744073709551611#64 0#64)).isLt
  have m0 := h0.isLt
  have m1 := h1.isLt
  generalize sbw h2 3#64 (sbw h1 18446744073709551615#64 (sbw h0 18446744073709551611#64 0#64)) = b at *
  generalize (h2 - 3#64 - sbw h1 18446744073709551615#64 (sbw h0 18446744073709551611#64 0#64)).toNat = d2 at *
  generalize (h1 - 18446744073709551615#64 - sbw h0 18446744073709551611#64 0#64) = d1 at *
  generalize (h0 - 18446744073709551611#64 - 0#64) = d0 at *
  clear e0 e1 c0 c1
  have e2' : d2 + 3 ≤ h2.toNat + 2 ^ 64 * b.toNat := by have : (3#64).toNat = 3 := rfl; omega
  clear e2
  rcases bit01 c2 with rfl | rfl
  · rw [sel_zero, sel_zero]
    rw [show (0#64).toNat = 0 from rfl] at *
    have hv : val3 h0 h1 h2 % P130 = d0.toNat + 2 ^ 64 * d1.toNat + 2 ^ 128 * d2 := by
      have : val3 h0 h1 h2 = d0.toNat + 2 ^ 64 * d1.toNat + 2 ^ 128 * d2 + P130 := by unfold val3; omega
      rw [this, Nat.add_mod_right, Nat.mod_eq_of_lt]
      rw [P130_eq]; omega
    rw [hv, ← low128 (d0.toNat + 2 ^ 64 * d1.toNat + 2 ^ 128 * d2), Nat.add_mul_mod_self_left, Nat.mod_eq_of_lt (by omega)]
  · rw [sel_one, sel_one]
    rw [show (1#64).toNat = 1 from rfl] at *
    have hv : val3 h0 h1 h2 < P130 := by
      unfold val3
      have : d0.toNat + 2 ^ 64 * d1.toNat + 2 ^ 128 * d2 < 2 ^ 192 := by omega
      omega
    rw [Nat.mod_eq_of_lt hv]
    unfold val3
    rw [← low128 (h0.toNat + 2 ^ 64 * h1.toNat + 2 ^ 128 * h2.toNat), Nat.add_mul_mod_self_left, Nat.mod_eq_of_lt (by omega)]
end Go.Sx
