/- Numbers modulo 2^255 - 19 in digits of sixteen bits: settling. Conditions: none; plain definitions and theorems. Numbers modulo 2^255 - 19 in digits: sums, opposites, products. Conditions: none; plain definitions and theorems. Numbers modulo 2^255 - 19: bits, powers, bytes. Conditions: none; plain definitions and theorems. Conditions: none. -/
import Derived.Test.YtnloecdkogckiaaDoorQ2
set_option linter.unusedVariables false
namespace Go.Sx

def P25 : Nat := 57896044618658097711785492504343953926634992332820282019728792003956564819949
/-- 2^256 -/
def W25 : Nat := 115792089237316195423570985008687907853269984665640564039457584007913129639936
theorem W25_eq : 65536 ^ 16 = W25 := by decide
theorem W25_P : W25 = 2 * P25 + 38 := by decide
theorem P25_pos : 0 < P25 := by decide
/-- the prime in digits -/
def pd25 : List (BitVec 64) := [65517#64, 65535#64, 65535#64, 65535#64, 65535#64, 65535#64, 65535#64, 65535#64, 65535#64, 65535#64, 65535#64, 65535#64, 65535#64, 65535#64, 65535#64, 32767#64]
theorem val_pd25 : val pd25 = P25 := by simp [val, pd25, P25]
theorem pd25_lt : ∀ x ∈ pd25, x.toNat < 65536 := by simp [pd25]

/-- one round: the digits, what is left, and the digits behind it -/
def rnd (x : List (BitVec 64)) : List (BitVec 64) := (pass 0#64 (lit 0 16 x)).1
def rnc (x : List (BitVec 64)) : BitVec 64 := (pass 0#64 (lit 0 16 x)).2
def rnx (x : List (BitVec 64)) : List (BitVec 64) := (rnd x).set 0 ((rnd x).getD 0 0 + 38#64 * rnc x)

theorem rn_spec (x : List (BitVec 64)) (hl : x.length = 16) (hb : ∀ y ∈ x, y.toNat < 2 ^ 62) : rnd x = digs 16 (val x) ∧ (rnc x).toNat = val x / W25 := by
  have hp := pass_eq (lit 0 16 x) 0#64 (by decide) (by rw [lit_eq hl]; exact hb)
  rw [lit_eq hl, hl, show (0#64).toNat = 0 from rfl, Nat.zero_add, W25_eq] at hp
  unfold rnd rnc
  rw [lit_eq hl]
  exact hp

theorem small_add (a : BitVec 64) (c : BitVec 64) (ha : a.toNat < 65536) (hc : c.toNat < 2 ^ 56) : (a + 38#64 * c).toNat = a.toNat + 38 * c.toNat := by
  rw [BitVec.toNat_add, BitVec.toNat_mul]
  show (_ + 38 * _ % _) % _ = _
  omega

theorem rnx_spec (x : List (BitVec 64)) (hl : x.length = 16) (hb : ∀ y ∈ x, y.toNat < 2 ^ 62) (hv : val x / W25 < 2 ^ 56) :
    (rnx x).length = 16 ∧ (∀ y ∈ rnx x, y.toNat < 2 ^ 62) ∧ val (rnx x) = val x % W25 + 38 * (val x / W25) ∧ (rnc x = 0#64 → rnx x = digs 16 (val (rnx x)) ∧ val (rnx x) < W25) := by
  obtain ⟨hd, hc⟩ := rn_spec x hl hb
  have hlt := digs_lt 16 (val x)
  have hvw : val (digs 16 (val x)) = val x % W25 := by rw [val_digs, W25_eq]
  have hm : val x % W25 < W25 := Nat.mod_lt _ (by decide)
  rw [← hc] at hv
  have e : digs 16 (val x) = BitVec.ofNat 64 (val x % 65536) :: digs 15 (val x / 65536) := rfl
  have h0 : (BitVec.ofNat 64 (val x % 65536)).toNat < 65536 := hlt _ (by rw [e]; exact List.mem_cons_self)
  have hh := small_add (BitVec.ofNat 64 (val x % 65536)) (rnc x) h0 hv
  have ex : rnx x = (BitVec.ofNat 64 (val x % 65536) + 38#64 * rnc x) :: digs 15 (val x / 65536) := by
    unfold rnx; rw [hd, e]; rfl
  have hv2 : val (rnx x) = val x % W25 + 38 * (val x / W25) := by
    rw [← hvw, ← hc, ex, e]
    simp only [val]
    rw [hh]
    omega
  refine ⟨by rw [ex]; simp [digs_length], fun y hy => ?_, hv2, fun hz => ?_⟩
  · rw [ex, List.mem_cons] at hy
    rcases hy with rfl | hy
    · rw [hh]; clear hvw hm hv2; omega
    · have := digs_lt 15 _ y hy; clear hvw hm hv2; omega
  · have hq0 : val x / W25 = 0 := by rw [← hc, hz]; rfl
    rw [hv2, hq0, Nat.mul_zero, Nat.add_zero]
    refine ⟨?_, hm⟩
    rw [ex, hz, show 38#64 * 0#64 = 0#64 from rfl, BitVec.add_zero, ← e, ← digs_mod 16 (val x), W25_eq]

theorem fold_mod (v : Nat) : (v % W25 + 38 * (v / W25)) % P25 = v % P25 := by
  have h := Nat.div_add_mod v W25
  rw [W25_P] at h ⊢
  generalize v / (2 * P25 + 38) = q at *
  generalize v % (2 * P25 + 38) = r at *
  have : v = r + 38 * q + P25 * (2 * q) := by rw [← h, Nat.add_mul, Nat.mul_comm 2 P25, Nat.mul_assoc]; omega
  rw [this, Nat.add_mul_mod_self_left]

theorem off_mod {v w p : Nat} (h1 : p ≤ v) (h2 : p ≤ w) : (v + w - p) % w = (v - p) % w := by
  rw [show v + w - p = v - p + w by omega, Nat.add_mod_right]
theorem P25_W25 : P25 ≤ W25 := by decide
/-- from digits to digits: what is taken off -/
theorem sub_digs (v : Nat) (h1 : P25 ≤ v) (h2 : v < W25) : bpass 0#64 (digs 16 v) pd25 = digs 16 (v - P25) := by
  have hs := bpass_spec (digs 16 v) pd25 0#64 (by decide) (digs_lt 16 v) pd25_lt (by rw [digs_length]; rfl)
  rw [hs, digs_length, val_digs, W25_eq, Nat.mod_eq_of_lt h2, val_pd25, ← digs_mod, ← digs_mod 16 (v - P25), W25_eq, show (0#64).toNat = 0 from rfl, Nat.sub_zero, off_mod h1 P25_W25]

theorem val_lt16 (a : List (BitVec 64)) (hl : a.length = 16) (h : ∀ y ∈ a, y.toNat < 65536) : val a < W25 := by
  have := val_lt a h
  rw [hl, W25_eq] at this
  exact this
theorem digs_val16 (a : List (BitVec 64)) (hl : a.length = 16) (h : ∀ y ∈ a, y.toNat < 65536) : digs 16 (val a) = a := by
  have := digs_val a h
  rw [hl] at this
  exact this
theorem bound16 (a : List (BitVec 64)) (hl : a.length = 16) (h : ∀ y ∈ a, y.toNat < 2 ^ 60) : val a / W25 < 2 ^ 56 := by
  have h1 := val_le (b := 2 ^ 60 - 1) a (fun y hy => by have := h y hy; omega)
  rw [hl, W25_eq] at h1
  have h2 : val a < W25 * 2 ^ 56 := by
    have hw : 65536 ≤ W25 := by decide
    generalize val a = v at *
    generalize W25 = w at *
    omega
  exact Nat.div_lt_of_lt_mul h2
end Go.Sx

set_option linter.unusedVariables false
namespace Go.Sx

def fadd (a b : Nat) : Nat := (a + b) % P25
def fneg (a : Nat) : Nat := (P25 - a % P25) % P25
def fsub (a b : Nat) : Nat := fadd a (fneg b)
def fmul (a b : Nat) : Nat := a * b % P25
theorem fadd_lt (a b : Nat) : fadd a b < P25 := Nat.mod_lt _ P25_pos
theorem fneg_lt (a : Nat) : fneg a < P25 := Nat.mod_lt _ P25_pos
theorem fsub_lt (a b : Nat) : fsub a b < P25 := Nat.mod_lt _ P25_pos
theorem fmul_lt (a b : Nat) : fmul a b < P25 := Nat.mod_lt _ P25_pos
/-- sixteen digits -/
def dg (v : Nat) : List (BitVec 64) := digs 16 v
theorem dg_length (v : Nat) : (dg v).length = 16 := digs_length 16 v
theorem dg_lt (v : Nat) : ∀ x ∈ dg v, x.toNat < 65536 := digs_lt 16 v
theorem dg_lit (v : Nat) : lit 0 16 (dg v) = dg v := lit_eq (dg_length v)
theorem P25_W : P25 < W25 := by decide
theorem val_dg {v : Nat} (h : v < W25) : val (dg v) = v := by unfold dg; rw [val_digs, W25_eq, Nat.mod_eq_of_lt h]
theorem dg_val {a : List (BitVec 64)} (hl : a.length = 16) (h : ∀ y ∈ a, y.toNat < 65536) : dg (val a) = a := digs_val16 a hl h

/-- digit by digit -/
def zipN : List (BitVec 64) → List (BitVec 64) → List (BitVec 64)
  | x :: a, y :: b => (x + y) :: zipN a b
  | _, _ => []
theorem zipN_spec : ∀ (a b : List (BitVec 64)), a.length = b.length → (∀ x ∈ a, x.toNat < 65536) → (∀ x ∈ b, x.toNat < 65536) → val (zipN a b) = val a + val b ∧ (zipN a b).length = a.length ∧ ∀ x ∈ zipN a b, x.toNat < 2 ^ 60
  | [], [], _, _, _ => by simp [zipN, val]
  | x :: a, y :: b, hl, ha, hb => by
    have h1 := ha x (by simp)
    have h2 := hb y (by simp)
    have ih := zipN_spec a b (by simpa using hl) (fun z hz => ha z (by simp [hz])) (fun z hz => hb z (by simp [hz]))
    have e : (x + y).toNat = x.toNat + y.toNat := by rw [BitVec.toNat_add]; omega
    refine ⟨?_, by simp [zipN, ih.2.1], fun z hz => ?_⟩
    · simp only [zipN, val, ih.1, e]; omega
    · simp only [zipN, List.mem_cons] at hz
      rcases hz with rfl | hz
      · rw [e]; omega
      · exact ih.2.2 z hz
  | [], _ :: _, hl, _, _ => by simp at hl
  | _ :: _, [], hl, _, _ => by simp at hl

/-- cells from o on -/
def segN (l : List (BitVec 64)) (o n : Nat) : List (BitVec 64) := (List.range n).map fun j => l.getD (o + j) 0
theorem segN_eq {l : List (BitVec 64)} {o n : Nat} (h : o + n = l.length) : segN l o n = l.drop o := by
  apply List.ext_getElem?
  intro i
  simp only [segN, List.getElem?_map, List.getElem?_drop]
  rcases Nat.lt_or_ge i n with hi | hi
  · rw [List.getElem?_range hi]
    simp [List.getD, show o + i < l.length by omega]
  · rw [List.getElem?_eq_none (by simpa using hi), List.getElem?_eq_none (by omega)]; rfl

/-- what stands beyond 2^256 counts 38 times -/
def fold38 : List (BitVec 64) → List (BitVec 64) → List (BitVec 64)
  | x :: a, y :: b => (x + 38#64 * y) :: fold38 a b
  | _, _ => []
theorem fold38_spec : ∀ (a b : List (BitVec 64)), a.length = b.length → (∀ x ∈ a, x.toNat ≤ 2 ^ 37) → (∀ x ∈ b, x.toNat ≤ 2 ^ 37) → val (fold38 a b) = val a + 38 * val b ∧ (fold38 a b).length = a.length ∧ ∀ x ∈ fold38 a b, x.toNat < 2 ^ 60
  | [], [], _, _, _ => by simp [fold38, val]
  | x :: a, y :: b, hl, ha, hb => by
    have h1 := ha x (by simp)
    have h2 := hb y (by simp)
    have ih := fold38_spec a b (by simpa using hl) (fun z hz => ha z (by simp [hz])) (fun z hz => hb z (by simp [hz]))
    have e : (x + 38#64 * y).toNat = x.toNat + 38 * y.toNat := by
      rw [BitVec.toNat_add, BitVec.toNat_mul]
      show (_ + 38 * _ % _) % _ = _
      omega
    refine ⟨?_, by simp [fold38, ih.2.1], fun z hz => ?_⟩
    · simp only [fold38, val, ih.1, e]; omega
    · simp only [fold38, List.mem_cons] at hz
      rcases hz with rfl | hz
      · rw [e]; omega
      · exact ih.2.2 z hz
  | [], _ :: _, hl, _, _ => by simp at hl
  | _ :: _, [], hl, _, _ => by simp at hl

theorem fold_prod (a b : Nat) : (a + 38 * b) % P25 = (a + W25 * b) % P25 := by
  rw [W25_P, Nat.add_mul, Nat.mul_assoc, Nat.mul_comm 2, Nat.mul_assoc, show a + (P25 * (b * 2) + 38 * b) = a + 38 * b + P25 * (b * 2) by omega, Nat.add_mul_mod_self_left]

theorem val_app16 : ∀ (a b : List (BitVec 64)), val (a ++ b) = val a + 65536 ^ a.length * val b
  | [], b => by simp [val]
  | x :: a, b => by
    simp only [List.cons_append, val, val_app16 a b, List.length_cons, Nat.pow_succ]
    rw [Nat.mul_add, Nat.mul_comm (65536 ^ a.length) 65536, Nat.mul_assoc]
    omega
theorem val_zero : ∀ n, val (List.replicate n 0#64) = 0
  | 0 => rfl
  | n + 1 => by simp [List.replicate_succ, val, val_zero n]

/-- the product's digits, of any size -/
def prd (a b : List (BitVec 64)) : List (BitVec 64) := convD a b (List.replicate 32 0#64)
theorem prd_spec (a b : List (BitVec 64)) (la : a.length = 16) (lb : b.length = 16) (ha : ∀ x ∈ a, x.toNat < 65536) (hb : ∀ x ∈ b, x.toNat < 65536) :
    val (prd a b) = val a * val b ∧ (prd a b).length = 32 ∧ ∀ x ∈ prd a b, x.toNat ≤ 2 ^ 37 := by
  have := convD_spec a b (List.replicate 32 0#64) 0 ha hb (fun z hz => by rw [(List.mem_replicate.1 hz).2]; exact Nat.le_refl _) (by rw [la]; decide) (by rw [la, lb, List.length_replicate]; decide)
  unfold prd
  refine ⟨by rw [this.1, val_zero, Nat.zero_add], by rw [this.2.1, List.length_replicate], fun x hx => ?_⟩
  have h := this.2.2 x hx
  rw [la] at h
  omega

/-- the product, folded -/
def mulD (d : List (BitVec 64)) : List (BitVec 64) := fold38 (lit 0 16 d) (segN d 16 16)
theorem mulD_spec (d : List (BitVec 64)) (hl : d.length = 32) (hb : ∀ x ∈ d, x.toNat ≤ 2 ^ 37) : val (mulD d) % P25 = val d % P25 ∧ (mulD d).length = 16 ∧ ∀ x ∈ mulD d, x.toNat < 2 ^ 60 := by
  have e1 : lit 0 16 d = d.take 16 := lit_take (by omega)
  have e2 : segN d 16 16 = d.drop 16 := segN_eq (by omega)
  unfold mulD
  rw [e1, e2]
  have h := fold38_spec (d.take 16) (d.drop 16) (by simp [hl]) (fun x hx => hb x (List.mem_of_mem_take hx)) (fun x hx => hb x (List.mem_of_mem_drop hx))
  refine ⟨?_, by rw [h.2.1]; simp [hl], h.2.2⟩
  have hv := val_app16 (d.take 16) (d.drop 16)
  rw [List.take_append_drop, show (d.take 16).length = 16 by simp [hl], W25_eq] at hv
  rw [h.1, hv, fold_prod]

theorem opp_digs (v : Nat) (h0 : 0 < v) (h : v < P25) : bpass 0#64 pd25 (dg v) = dg (fneg v) := by
  have hs := bpass_spec pd25 (dg v) 0#64 (by decide) pd25_lt (dg_lt v) (by rw [dg_length]; rfl)
  have hvW := Nat.lt_trans h P25_W
  have e : fneg v = P25 - v := by
    unfold fneg
    rw [Nat.mod_eq_of_lt h, Nat.mod_eq_of_lt (Nat.sub_lt P25_pos h0)]
  rw [hs, show pd25.length = 16 from rfl, val_pd25, val_dg hvW, W25_eq, show (0#64).toNat = 0 from rfl, Nat.sub_zero, e]
  unfold dg
  rw [← digs_mod, ← digs_mod 16 (P25 - v), W25_eq, off_mod (Nat.le_of_lt h) (Nat.le_of_lt hvW)]
theorem fneg_zero : fneg 0 = 0 := by decide
end Go.Sx

set_option linter.unusedVariables false
namespace Go.Sx

def bitN (v i : Nat) : BitVec 64 := BitVec.ofNat 64 (v / 2 ^ i % 2)
theorem bitN_nat (v i : Nat) : (bitN v i).toNat = v / 2 ^ i % 2 := by
  unfold bitN
  rw [BitVec.toNat_ofNat, Nat.mod_eq_of_lt]
  have := Nat.mod_lt (v / 2 ^ i) (show 0 < 2 by decide)
  omega

theorem bit_digs (v i : Nat) (hi : i < 256) (hv : v < W25) : ((dg v).getD (i / 16) 0 >>> (i % 16)) &&& 1#64 = bitN v i := by
  apply BitVec.eq_of_toNat_eq
  rw [bitN_nat, and_low _ 1 1#64 rfl, shr_nat]
  unfold dg
  rw [digs_getD 16 v (i / 16) (by omega), BitVec.toNat_ofNat]
  have h1 : v / 65536 ^ (i / 16) % 65536 % 2 ^ 64 = v / 65536 ^ (i / 16) % 65536 := Nat.mod_eq_of_lt (by omega)
  have h2 : 65536 ^ (i / 16) = 2 ^ (16 * (i / 16)) := by rw [Nat.pow_mul]
  have h3 : 65536 = 2 ^ (i % 16) * 2 ^ (16 - i % 16) := by rw [← Nat.pow_add, show i % 16 + (16 - i % 16) = 16 by omega]
  have h4 : 2 ^ (16 - i % 16) = 2 * 2 ^ (15 - i % 16) := by rw [← Nat.pow_succ', show (15 - i % 16).succ = 16 - i % 16 by omega]
  rw [h1, h2]
  conv => lhs; rw [h3]
  rw [Nat.mod_mul_right_div_self, h4, Nat.div_div_eq_div_mul, ← Nat.pow_add, show 16 * (i / 16) + i % 16 = i by omega, show (2 : Nat) ^ 1 = 2 from rfl, Nat.mod_mul_right_mod]

def fpow (a e : Nat) : Nat := a ^ e % P25
theorem fpow_lt (a e : Nat) : fpow a e < P25 := Nat.mod_lt _ P25_pos
/-- the power by the bits from i on -/
def pw (a e i : Nat) : Nat := fpow a (e / 2 ^ i)
theorem pw_step (a e i : Nat) : pw a e i = if e / 2 ^ i % 2 = 1 then fmul (fmul (pw a e (i + 1)) (pw a e (i + 1))) a else fmul (pw a e (i + 1)) (pw a e (i + 1)) := by
  have h : e / 2 ^ i = 2 * (e / 2 ^ (i + 1)) + e / 2 ^ i % 2 := by
    rw [Nat.pow_succ, ← Nat.div_div_eq_div_mul]
    generalize e / 2 ^ i = q
    omega
  unfold pw fpow fmul
  generalize e / 2 ^ (i + 1) = q at *
  have hs : a ^ q % P25 * (a ^ q % P25) % P25 = a ^ (2 * q) % P25 := by
    rw [← Nat.mul_mod, ← Nat.pow_add, show q + q = 2 * q by omega]
  split
  · rename_i h1
    rw [h, h1, hs, Nat.mod_mul_mod, Nat.pow_succ]
  · rename_i h1
    have : e / 2 ^ i % 2 = 0 := by omega
    rw [h, this, hs, Nat.add_zero]
theorem pw_top (a e : Nat) (he : e < W25) : pw a e 256 = 1 := by
  unfold pw
  have : e / 2 ^ 256 = 0 := Nat.div_eq_of_lt (Nat.lt_of_lt_of_eq he (by decide))
  rw [this]; rfl
theorem pw_zero (a e : Nat) : pw a e 0 = fpow a e := by unfold pw; simp
theorem pw_lt (a e i : Nat) : pw a e i < P25 := fpow_lt _ _

/-- bytes of digits -/
def bd2 : List (BitVec 64) → List (BitVec 8)
  | [] => []
  | x :: r => (x >>> 0).setWidth 8 :: (x >>> 8).setWidth 8 :: bd2 r
theorem bd2_spec : ∀ l : List (BitVec 64), (∀ x ∈ l, x.toNat < 65536) → bd2 l = bytesN (2 * l.length) (val l)
  | [], _ => rfl
  | x :: r, h => by
    have hx := h x (by simp)
    have ih := bd2_spec r (fun y hy => h y (by simp [hy]))
    simp only [bd2, List.length_cons, val]
    rw [show 2 * (r.length + 1) = 2 * r.length + 1 + 1 by omega]
    simp only [bytesN]
    rw [ih]
    congr 1
    · apply BitVec.eq_of_toNat_eq
      rw [BitVec.toNat_setWidth, shr_nat, BitVec.toNat_ofNat]; omega
    · congr 1
      · apply BitVec.eq_of_toNat_eq
        rw [BitVec.toNat_setWidth, shr_nat, BitVec.toNat_ofNat]; omega
      · congr 1
        omega
theorem bd2_dg (v : Nat) (hv : v < W25) : bd2 (dg v) = bytesN 32 v := by
  rw [bd2_spec _ (dg_lt v), dg_length, val_dg hv]

/-- digits of bytes -/
theorem d16_len : ∀ l : List (BitVec 8), (d16 l).length = (l.length + 1) / 2
  | [] => rfl
  | [x] => by simp [d16]
  | x :: y :: r => by simp only [d16, List.length_cons, d16_len r]; omega
theorem d16_dg (b : List (BitVec 8)) (h : b.length = 32) : d16 b = dg (leN b) := by
  obtain ⟨h1, h2⟩ := d16_spec b
  have hl : (d16 b).length = 16 := by rw [d16_len, h]
  rw [← h1, dg_val hl h2]

/-- a key as X25519 takes it -/
def clampB (k : List (BitVec 8)) : List (BitVec 8) := (k.set 0 (k.getD 0 0 &&& ~~~7#8)).set 31 (k.getD 31 0 &&& 127#8 ||| 64#8)
theorem clampB_length (k : List (BitVec 8)) : (clampB k).length = k.length := by unfold clampB; rw [List.length_set, List.length_set]
end Go.Sx
