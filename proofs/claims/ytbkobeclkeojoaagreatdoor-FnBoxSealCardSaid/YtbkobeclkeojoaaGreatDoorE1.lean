/- The field's elements as numbers: words of 128 bits. Conditions: none; plain definitions and theorems. The field's elements as numbers: product and square. Conditions: none; plain definitions and theorems. The field's elements as numbers: product and square, modulo the prime. Conditions: none; plain definitions and theorems. The field's elements as numbers: all operations modulo the prime. Conditions: none; plain definitions and theorems. The field's elements as numbers: a small factor, swaps, powers, the inverse. Conditions: none; plain definitions and theorems. The field's elements as numbers: powers, the inverse. Conditions: none; plain definitions and theorems. Conditions: none. -/
import Derived.Test.YtbkobeclkeojoaaGreatDoorF7c
import Derived.Test.YtbkobeclkeojoaaGreatDoorR1
import Derived.Test.YtbkobeclkeojoaaGreatDoorX5b
set_option maxRecDepth 100000
set_option linter.unusedVariables false
namespace Go.Sx
open Go.Proofs
def u2 (v : U2) : Nat := v.1.toNat + 2 ^ 64 * v.2.toNat
theorem u2_mu (a b : BitVec 64) : u2 (mu a b) = a.toNat * b.toNat := by
  unfold u2 mu
  rw [mhi_nat, BitVec.toNat_mul]
  omega
theorem am_nat {l h p v1 v2 c s1 s2 : Nat} (hp : p = l + 18446744073709551616 * h) (hl : l < 18446744073709551616) (e1 : s1 = (l + v1 + 0) % 18446744073709551616) (ec : c = (l + v1 + 0) / 18446744073709551616) (e2 : s2 = ((h + v2) % 18446744073709551616 + c) % 18446744073709551616)
    (hb : v1 + 18446744073709551616 * v2 + p < 340282366920938463463374607431768211456) : s1 + 18446744073709551616 * s2 = v1 + 18446744073709551616 * v2 + p := by omega
theorem u2_am (v : U2) (a b : BitVec 64) (h : u2 v + a.toNat * b.toNat < 2 ^ 128) : u2 (am v a b) = u2 v + a.toNat * b.toNat := by
  unfold u2 at h ⊢
  unfold am
  dsimp only
  have hp : a.toNat * b.toNat = (a * b).toNat + 18446744073709551616 * (mhi a b).toNat := by rw [mhi_nat, BitVec.toNat_mul]; omega
  refine am_nat hp (a * b).isLt (asm_nat (a * b) v.1 0#64) (acy_nat (a * b) v.1 0#64) ?_ h
  rw [BitVec.toNat_add, BitVec.toNat_add]
theorem shl_nat (x : BitVec 64) (n : Nat) : (x <<< n).toNat = x.toNat * 2 ^ n % 2 ^ 64 := by
  rw [BitVec.toNat_shiftLeft, Nat.shiftLeft_eq]
theorem m19_nat (x : BitVec 64) (h : 19 * x.toNat < 2 ^ 64) : (m19 x).toNat = 19 * x.toNat := by
  unfold m19
  rw [BitVec.toNat_add, shl_nat, BitVec.toNat_add, shl_nat]
  omega
theorem or_add (a b n : Nat) (h : b < 2 ^ n) : a * 2 ^ n ||| b = a * 2 ^ n + b := by
  rw [← Nat.shiftLeft_eq, Nat.shiftLeft_add_eq_or_of_lt h]
theorem sh51_nat (v : U2) (h : u2 v < 2 ^ 115) : (sh51 v).toNat = u2 v / 2 ^ 51 := by
  unfold u2 at h ⊢
  unfold sh51
  have h1 := v.1.isLt
  rw [BitVec.toNat_or, shl_nat, shr_nat, Nat.mod_eq_of_lt (by omega), or_add _ _ _ (by omega)]
  omega
theorem lo51 (v : U2) : (v.1 &&& mk51).toNat = u2 v % 2 ^ 51 := by
  unfold u2
  rw [and_low v.1 51 mk51 rfl]
  omega
theorem and51 (x : BitVec 64) : (x &&& mk51).toNat = x.toNat % 2 ^ 51 := and_low x 51 mk51 rfl

/-- five limbs as a number -/
def v5 (l : List (BitVec 64)) : Nat := (l.getD 0 0).toNat + 2 ^ 51 * (l.getD 1 0).toNat + 2 ^ 102 * (l.getD 2 0).toNat + 2 ^ 153 * (l.getD 3 0).toNat + 2 ^ 204 * (l.getD 4 0).toNat
def b5 (m : Nat) (l : List (BitVec 64)) : Prop := (l.getD 0 0).toNat < m ∧ (l.getD 1 0).toNat < m ∧ (l.getD 2 0).toNat < m ∧ (l.getD 3 0).toNat < m ∧ (l.getD 4 0).toNat < m
theorem P25_X : 57896044618658097711785492504343953926634992332820282019728792003956564819968 = P25 + 19 := by decide

/-- the carries, over numbers -/
theorem carr {R0 R1 R2 R3 R4 q0 q1 q2 q3 q4 l0 l1 l2 l3 l4 : Nat} (e0 : R0 = l0 + 2251799813685248 * q0) (e1 : R1 = l1 + 2251799813685248 * q1) (e2 : R2 = l2 + 2251799813685248 * q2) (e3 : R3 = l3 + 2251799813685248 * q3) (e4 : R4 = l4 + 2251799813685248 * q4) :
    R0 + 2 ^ 51 * R1 + 2 ^ 102 * R2 + 2 ^ 153 * R3 + 2 ^ 204 * R4 = (l0 + 19 * q4) + 2 ^ 51 * (l1 + q0) + 2 ^ 102 * (l2 + q1) + 2 ^ 153 * (l3 + q2) + 2 ^ 204 * (l4 + q3) + P25 * q4 := by
  subst e0 e1 e2 e3 e4
  unfold P25
  omega
theorem md51 (x : Nat) : x = x % 2 ^ 51 + 2251799813685248 * (x / 2 ^ 51) := by omega

theorem redL_spec (r0 r1 r2 r3 r4 : U2) (h0 : u2 r0 < 2 ^ 112) (h1 : u2 r1 < 2 ^ 112) (h2 : u2 r2 < 2 ^ 112) (h3 : u2 r3 < 2 ^ 112) (h4 : u2 r4 < 2 ^ 109) :
    v5 (redL r0 r1 r2 r3 r4) % P25 = (u2 r0 + 2 ^ 51 * u2 r1 + 2 ^ 102 * u2 r2 + 2 ^ 153 * u2 r3 + 2 ^ 204 * u2 r4) % P25 ∧ b5 (2 ^ 51 + 2 ^ 24) (redL r0 r1 r2 r3 r4) := by
  have c0 := sh51_nat r0 (by omega)
  have c1 := sh51_nat r1 (by omega)
  have c2 := sh51_nat r2 (by omega)
  have c3 := sh51_nat r3 (by omega)
  have c4 := sh51_nat r4 (by omega)
  have m4 := m19_nat (sh51 r4) (by rw [c4]; omega)
  have a0 : ((r0.1 &&& mk51) + m19 (sh51 r4)).toNat = u2 r0 % 2 ^ 51 + 19 * (u2 r4 / 2 ^ 51) := by rw [BitVec.toNat_add, lo51, m4, c4]; omega
  have a1 : ((r1.1 &&& mk51) + sh51 r0).toNat = u2 r1 % 2 ^ 51 + u2 r0 / 2 ^ 51 := by rw [BitVec.toNat_add, lo51, c0]; omega
  have a2 : ((r2.1 &&& mk51) + sh51 r1).toNat = u2 r2 % 2 ^ 51 + u2 r1 / 2 ^ 51 := by rw [BitVec.toNat_add, lo51, c1]; omega
  have a3 : ((r3.1 &&& mk51) + sh51 r2).toNat = u2 r3 % 2 ^ 51 + u2 r2 / 2 ^ 51 := by rw [BitVec.toNat_add, lo51, c2]; omega
  have a4 : ((r4.1 &&& mk51) + sh51 r3).toNat = u2 r4 % 2 ^ 51 + u2 r3 / 2 ^ 51 := by rw [BitVec.toNat_add, lo51, c3]; omega
  have b0 : u2 r0 / 2 ^ 51 < 2 ^ 61 := by omega
  have b1 : u2 r1 / 2 ^ 51 < 2 ^ 61 := by omega
  have b2 : u2 r2 / 2 ^ 51 < 2 ^ 61 := by omega
  have b3 : u2 r3 / 2 ^ 51 < 2 ^ 61 := by omega
  have b4 : u2 r4 / 2 ^ 51 < 2 ^ 58 := by omega
  have E1 := carr (md51 (u2 r0)) (md51 (u2 r1)) (md51 (u2 r2)) (md51 (u2 r3)) (md51 (u2 r4))
  rw [E1]
  clear E1 c0 c1 c2 c3 c4 m4 h0 h1 h2 h3 h4
  have L0 : u2 r0 % 2 ^ 51 < 2 ^ 51 := Nat.mod_lt _ (by decide)
  have L1 : u2 r1 % 2 ^ 51 < 2 ^ 51 := Nat.mod_lt _ (by decide)
  have L2 : u2 r2 % 2 ^ 51 < 2 ^ 51 := Nat.mod_lt _ (by decide)
  have L3 : u2 r3 % 2 ^ 51 < 2 ^ 51 := Nat.mod_lt _ (by decide)
  have L4 : u2 r4 % 2 ^ 51 < 2 ^ 51 := Nat.mod_lt _ (by decide)
  unfold redL
  dsimp only
  generalize (r0.1 &&& mk51) + m19 (sh51 r4) = x0 at *
  generalize (r1.1 &&& mk51) + sh51 r0 = x1 at *
  generalize (r2.1 &&& mk51) + sh51 r1 = x2 at *
  generalize (r3.1 &&& mk51) + sh51 r2 = x3 at *
  generalize (r4.1 &&& mk51) + sh51 r3 = x4 at *
  rw [← a0, ← a1, ← a2, ← a3, ← a4]
  have y0 : x0.toNat < 2 ^ 63 := by omega
  have y1 : x1.toNat < 2 ^ 62 := by omega
  have y2 : x2.toNat < 2 ^ 62 := by omega
  have y3 : x3.toNat < 2 ^ 62 := by omega
  have y4 : x4.toNat < 2 ^ 62 := by omega
  clear a0 a1 a2 a3 a4 b0 b1 b2 b3 b4 L0 L1 L2 L3 L4
  have m := m19_nat (x4 >>> 51) (by rw [shr_nat]; omega)
  have z0 : ((x0 &&& mk51) + m19 (x4 >>> 51)).toNat = x0.toNat % 2 ^ 51 + 19 * (x4.toNat / 2 ^ 51) := by rw [BitVec.toNat_add, and51, m, shr_nat]; omega
  have z1 : ((x1 &&& mk51) + x0 >>> 51).toNat = x1.toNat % 2 ^ 51 + x0.toNat / 2 ^ 51 := by rw [BitVec.toNat_add, and51, shr_nat]; omega
  have z2 : ((x2 &&& mk51) + x1 >>> 51).toNat = x2.toNat % 2 ^ 51 + x1.toNat / 2 ^ 51 := by rw [BitVec.toNat_add, and51, shr_nat]; omega
  have z3 : ((x3 &&& mk51) + x2 >>> 51).toNat = x3.toNat % 2 ^ 51 + x2.toNat / 2 ^ 51 := by rw [BitVec.toNat_add, and51, shr_nat]; omega
  have z4 : ((x4 &&& mk51) + x3 >>> 51).toNat = x4.toNat % 2 ^ 51 + x3.toNat / 2 ^ 51 := by rw [BitVec.toNat_add, and51, shr_nat]; omega
  have E2 := carr (md51 x0.toNat) (md51 x1.toNat) (md51 x2.toNat) (md51 x3.toNat) (md51 x4.toNat)
  rw [E2]
  constructor
  · unfold v5
    simp only [List.getD_cons_zero, List.getD_cons_succ]
    rw [z0, z1, z2, z3, z4, Nat.add_mul_mod_self_left, Nat.add_mul_mod_self_left]
  · unfold b5
    simp only [List.getD_cons_zero, List.getD_cons_succ]
    rw [z0, z1, z2, z3, z4]
    clear E2 z0 z1 z2 z3 z4 m
    omega
end Go.Sx

set_option maxRecDepth 100000
set_option linter.unusedVariables false
namespace Go.Sx
open Go.Proofs
theorem p104 {a b : Nat} (ha : a < 2 ^ 52) (hb : b < 2 ^ 52) : a * b ≤ 20282409603651670423947251286016 := Nat.mul_le_mul (Nat.le_of_lt ha) (Nat.le_of_lt hb)
section
variable {v : U2} {a b : BitVec 64} {k : Nat}
theorem st0 (ha : a.toNat < 2 ^ 52) (hb : b.toNat < 2 ^ 52) : u2 (mu a b) = a.toNat * b.toNat ∧ u2 (mu a b) ≤ 1 * 20282409603651670423947251286016 := by
  have := p104 ha hb
  rw [u2_mu]; exact ⟨rfl, by omega⟩
theorem st1 (hv : u2 v ≤ k * 20282409603651670423947251286016) (hk : k ≤ 1000) (ha : a.toNat < 2 ^ 52) (hb : b.toNat < 2 ^ 52) : u2 (am v a b) = u2 v + a.toNat * b.toNat ∧ u2 (am v a b) ≤ (k + 1) * 20282409603651670423947251286016 := by
  have := p104 ha hb
  rw [u2_am v a b (by omega)]; exact ⟨rfl, by omega⟩
theorem st19 (hv : u2 v ≤ k * 20282409603651670423947251286016) (hk : k ≤ 1000) (ha : a.toNat < 2 ^ 52) (hb : b.toNat < 2 ^ 52) : u2 (am v (m19 a) b) = u2 v + 19 * (a.toNat * b.toNat) ∧ u2 (am v (m19 a) b) ≤ (k + 19) * 20282409603651670423947251286016 := by
  have hp := p104 ha hb
  have hm := m19_nat a (by omega)
  have e : (m19 a).toNat * b.toNat = 19 * (a.toNat * b.toNat) := by rw [hm, Nat.mul_assoc]
  rw [u2_am v (m19 a) b (by rw [e]; omega), e]; exact ⟨rfl, by omega⟩
theorem dbl (hb : b.toNat < 2 ^ 52) : (b * 2#64).toNat = 2 * b.toNat := by rw [BitVec.toNat_mul]; show b.toNat * 2 % 2 ^ 64 = _; omega
theorem st38 (hv : u2 v ≤ k * 20282409603651670423947251286016) (hk : k ≤ 1000) (ha : a.toNat < 2 ^ 52) (hb : b.toNat < 2 ^ 52) : u2 (am v (m19 a) (b * 2#64)) = u2 v + 38 * (a.toNat * b.toNat) ∧ u2 (am v (m19 a) (b * 2#64)) ≤ (k + 38) * 20282409603651670423947251286016 := by
  have hp := p104 ha hb
  have hm := m19_nat a (by omega)
  have e : (m19 a).toNat * (b * 2#64).toNat = 38 * (a.toNat * b.toNat) := by rw [hm, dbl hb]; grind
  rw [u2_am v (m19 a) (b * 2#64) (by rw [e]; omega), e]; exact ⟨rfl, by omega⟩
theorem st2 (hv : u2 v ≤ k * 20282409603651670423947251286016) (hk : k ≤ 1000) (ha : a.toNat < 2 ^ 52) (hb : b.toNat < 2 ^ 52) : u2 (am v (a * 2#64) b) = u2 v + 2 * (a.toNat * b.toNat) ∧ u2 (am v (a * 2#64) b) ≤ (k + 2) * 20282409603651670423947251286016 := by
  have hp := p104 ha hb
  have e : (a * 2#64).toNat * b.toNat = 2 * (a.toNat * b.toNat) := by rw [dbl ha, Nat.mul_assoc]
  rw [u2_am v (a * 2#64) b (by rw [e]; omega), e]; exact ⟨rfl, by omega⟩
theorem st02 (ha : a.toNat < 2 ^ 52) (hb : b.toNat < 2 ^ 52) : u2 (mu (a * 2#64) b) = 2 * (a.toNat * b.toNat) ∧ u2 (mu (a * 2#64) b) ≤ 2 * 20282409603651670423947251286016 := by
  have := p104 ha hb
  rw [u2_mu, dbl ha, Nat.mul_assoc]; exact ⟨rfl, by omega⟩
end

theorem mulX (X a0 a1 a2 a3 a4 b0 b1 b2 b3 b4 : Nat) : (a0 + X * a1 + X ^ 2 * a2 + X ^ 3 * a3 + X ^ 4 * a4) * (b0 + X * b1 + X ^ 2 * b2 + X ^ 3 * b3 + X ^ 4 * b4) =
    (a0 * b0 + X * (a0 * b1 + a1 * b0) + X ^ 2 * (a0 * b2 + a1 * b1 + a2 * b0) + X ^ 3 * (a0 * b3 + a1 * b2 + a2 * b1 + a3 * b0) + X ^ 4 * (a0 * b4 + a1 * b3 + a2 * b2 + a3 * b1 + a4 * b0)) +
    X ^ 5 * ((a1 * b4 + a2 * b3 + a3 * b2 + a4 * b1) + X * (a2 * b4 + a3 * b3 + a4 * b2) + X ^ 2 * (a3 * b4 + a4 * b3) + X ^ 3 * (a4 * b4)) := by grind
end Go.Sx

set_option maxRecDepth 100000
set_option linter.unusedVariables false
namespace Go.Sx
open Go.Proofs
theorem modU {x L U : Nat} (h : x = L + (2 ^ 51) ^ 5 * U) : (L + 19 * U) % P25 = x % P25 := by
  have e : (2 ^ 51) ^ 5 = P25 + 19 := P25_X
  rw [h, e, show L + (P25 + 19) * U = (L + 19 * U) + P25 * U by rw [Nat.add_mul]; omega, Nat.add_mul_mod_self_left]
theorem v5_pow (a0 a1 a2 a3 a4 : Nat) : a0 + 2 ^ 51 * a1 + 2 ^ 102 * a2 + 2 ^ 153 * a3 + 2 ^ 204 * a4 = a0 + (2 ^ 51) * a1 + (2 ^ 51) ^ 2 * a2 + (2 ^ 51) ^ 3 * a3 + (2 ^ 51) ^ 4 * a4 := rfl
theorem mul5_spec (a0 a1 a2 a3 a4 b0 b1 b2 b3 b4 : BitVec 64) (ha0 : a0.toNat < 2 ^ 52) (ha1 : a1.toNat < 2 ^ 52) (ha2 : a2.toNat < 2 ^ 52) (ha3 : a3.toNat < 2 ^ 52) (ha4 : a4.toNat < 2 ^ 52)
    (hb0 : b0.toNat < 2 ^ 52) (hb1 : b1.toNat < 2 ^ 52) (hb2 : b2.toNat < 2 ^ 52) (hb3 : b3.toNat < 2 ^ 52) (hb4 : b4.toNat < 2 ^ 52) :
    v5 (mul5 a0 a1 a2 a3 a4 b0 b1 b2 b3 b4) % P25 = (a0.toNat + 2 ^ 51 * a1.toNat + 2 ^ 102 * a2.toNat + 2 ^ 153 * a3.toNat + 2 ^ 204 * a4.toNat) * (b0.toNat + 2 ^ 51 * b1.toNat + 2 ^ 102 * b2.toNat + 2 ^ 153 * b3.toNat + 2 ^ 204 * b4.toNat) % P25 ∧ b5 (2 ^ 51 + 2 ^ 24) (mul5 a0 a1 a2 a3 a4 b0 b1 b2 b3 b4) := by
  unfold mul5
  have r00 := st0 ha0 hb0
  have r01 := st19 r00.2 (by omega) ha1 hb4
  have r02 := st19 r01.2 (by omega) ha2 hb3
  have r03 := st19 r02.2 (by omega) ha3 hb2
  have r04 := st19 r03.2 (by omega) ha4 hb1
  have r10 := st0 ha0 hb1
  have r11 := st1 r10.2 (by omega) ha1 hb0
  have r12 := st19 r11.2 (by omega) ha2 hb4
  have r13 := st19 r12.2 (by omega) ha3 hb3
  have r14 := st19 r13.2 (by omega) ha4 hb2
  have r20 := st0 ha0 hb2
  have r21 := st1 r20.2 (by omega) ha1 hb1
  have r22 := st1 r21.2 (by omega) ha2 hb0
  have r23 := st19 r22.2 (by omega) ha3 hb4
  have r24 := st19 r23.2 (by omega) ha4 hb3
  have r30 := st0 ha0 hb3
  have r31 := st1 r30.2 (by omega) ha1 hb2
  have r32 := st1 r31.2 (by omega) ha2 hb1
  have r33 := st1 r32.2 (by omega) ha3 hb0
  have r34 := st19 r33.2 (by omega) ha4 hb4
  have r40 := st0 ha0 hb4
  have r41 := st1 r40.2 (by omega) ha1 hb3
  have r42 := st1 r41.2 (by omega) ha2 hb2
  have r43 := st1 r42.2 (by omega) ha3 hb1
  have r44 := st1 r43.2 (by omega) ha4 hb0
  have S := redL_spec _ _ _ _ _ (Nat.lt_of_le_of_lt r04.2 (by decide)) (Nat.lt_of_le_of_lt r14.2 (by decide)) (Nat.lt_of_le_of_lt r24.2 (by decide)) (Nat.lt_of_le_of_lt r34.2 (by decide)) (Nat.lt_of_le_of_lt r44.2 (by decide))
  refine ⟨?_, S.2⟩
  rw [S.1, r04.1, r03.1, r02.1, r01.1, r00.1, r14.1, r13.1, r12.1, r11.1, r10.1, r24.1, r23.1, r22.1, r21.1, r20.1, r34.1, r33.1, r32.1, r31.1, r30.1, r44.1, r43.1, r42.1, r41.1, r40.1]
  clear S r00 r01 r02 r03 r04 r10 r11 r12 r13 r14 r20 r21 r22 r23 r24 r30 r31 r32 r33 r34 r40 r41 r42 r43 r44 ha0 ha1 ha2 ha3 ha4 hb0 hb1 hb2 hb3 hb4
  rw [v5_pow, v5_pow, v5_pow]
  rw [← modU (mulX (2 ^ 51) a0.toNat a1.toNat a2.toNat a3.toNat a4.toNat b0.toNat b1.toNat b2.toNat b3.toNat b4.toNat)]
  congr 1
  generalize (2 : Nat) ^ 51 = X
  generalize a0.toNat = a0
  generalize a1.toNat = a1
  generalize a2.toNat = a2
  generalize a3.toNat = a3
  generalize a4.toNat = a4
  generalize b0.toNat = b0
  generalize b1.toNat = b1
  generalize b2.toNat = b2
  generalize b3.toNat = b3
  generalize b4.toNat = b4
  grind
theorem sq5_spec (a0 a1 a2 a3 a4 : BitVec 64) (ha0 : a0.toNat < 2 ^ 52) (ha1 : a1.toNat < 2 ^ 52) (ha2 : a2.toNat < 2 ^ 52) (ha3 : a3.toNat < 2 ^ 52) (ha4 : a4.toNat < 2 ^ 52) :
    v5 (sq5 a0 a1 a2 a3 a4) % P25 = (a0.toNat + 2 ^ 51 * a1.toNat + 2 ^ 102 * a2.toNat + 2 ^ 153 * a3.toNat + 2 ^ 204 * a4.toNat) * (a0.toNat + 2 ^ 51 * a1.toNat + 2 ^ 102 * a2.toNat + 2 ^ 153 * a3.toNat + 2 ^ 204 * a4.toNat) % P25 ∧ b5 (2 ^ 51 + 2 ^ 24) (sq5 a0 a1 a2 a3 a4) := by
  unfold sq5
  have r00 := st0 ha0 ha0
  have r01 := st38 r00.2 (by omega) ha1 ha4
  have r02 := st38 r01.2 (by omega) ha2 ha3
  have r10 := st02 ha0 ha1
  have r11 := st38 r10.2 (by omega) ha2 ha4
  have r12 := st19 r11.2 (by omega) ha3 ha3
  have r20 := st02 ha0 ha2
  have r21 := st1 r20.2 (by omega) ha1 ha1
  have r22 := st38 r21.2 (by omega) ha3 ha4
  have r30 := st02 ha0 ha3
  have r31 := st2 r30.2 (by omega) ha1 ha2
  have r32 := st19 r31.2 (by omega) ha4 ha4
  have r40 := st02 ha0 ha4
  have r41 := st2 r40.2 (by omega) ha1 ha3
  have r42 := st1 r41.2 (by omega) ha2 ha2
  have S := redL_spec _ _ _ _ _ (Nat.lt_of_le_of_lt r02.2 (by decide)) (Nat.lt_of_le_of_lt r12.2 (by decide)) (Nat.lt_of_le_of_lt r22.2 (by decide)) (Nat.lt_of_le_of_lt r32.2 (by decide)) (Nat.lt_of_le_of_lt r42.2 (by decide))
  refine ⟨?_, S.2⟩
  rw [S.1, r02.1, r01.1, r00.1, r12.1, r11.1, r10.1, r22.1, r21.1, r20.1, r32.1, r31.1, r30.1, r42.1, r41.1, r40.1]
  clear S r00 r01 r02 r10 r11 r12 r20 r21 r22 r30 r31 r32 r40 r41 r42 ha0 ha1 ha2 ha3 ha4
  rw [v5_pow, v5_pow]
  rw [← modU (mulX (2 ^ 51) a0.toNat a1.toNat a2.toNat a3.toNat a4.toNat a0.toNat a1.toNat a2.toNat a3.toNat a4.toNat)]
  congr 1
  generalize (2 : Nat) ^ 51 = X
  generalize a0.toNat = a0
  generalize a1.toNat = a1
  generalize a2.toNat = a2
  generalize a3.toNat = a3
  generalize a4.toNat = a4
  grind
end Go.Sx

set_option maxRecDepth 100000
set_option linter.unusedVariables false
namespace Go.Sx
open Go.Proofs
/-- an element as it stands between operations -/
def T5 (l : List (BitVec 64)) : Prop := b5 (2 ^ 51 + 2 ^ 24) l
def r5 (l : List (BitVec 64)) : Nat := v5 l % P25
theorem r5_lt (l : List (BitVec 64)) : r5 l < P25 := Nat.mod_lt _ P25_pos
theorem T5.w {l : List (BitVec 64)} (h : T5 l) : b5 (2 ^ 52) l := by
  obtain ⟨h0, h1, h2, h3, h4⟩ := h
  exact ⟨by omega, by omega, by omega, by omega, by omega⟩
theorem fmul_r (a b : Nat) : fmul (a % P25) (b % P25) = a * b % P25 := by unfold fmul; rw [← Nat.mul_mod]
theorem fadd_r (a b : Nat) : fadd (a % P25) (b % P25) = (a + b) % P25 := by unfold fadd; rw [← Nat.add_mod]
theorem m5_r {a b : List (BitVec 64)} (ha : T5 a) (hb : T5 b) : r5 (m5 a b) = fmul (r5 a) (r5 b) ∧ T5 (m5 a b) := by
  obtain ⟨h0, h1, h2, h3, h4⟩ := ha.w
  obtain ⟨g0, g1, g2, g3, g4⟩ := hb.w
  have := mul5_spec _ _ _ _ _ _ _ _ _ _ h0 h1 h2 h3 h4 g0 g1 g2 g3 g4
  refine ⟨?_, this.2⟩
  unfold r5
  rw [fmul_r]
  exact this.1
theorem s5_r {a : List (BitVec 64)} (ha : T5 a) : r5 (s5 a) = fmul (r5 a) (r5 a) ∧ T5 (s5 a) := by
  obtain ⟨h0, h1, h2, h3, h4⟩ := ha.w
  have := sq5_spec _ _ _ _ _ h0 h1 h2 h3 h4
  refine ⟨?_, this.2⟩
  unfold r5
  rw [fmul_r]
  exact this.1
theorem cp_spec (x0 x1 x2 x3 x4 : BitVec 64) : v5 (cpL [x0, x1, x2, x3, x4]) % P25 = (x0.toNat + 2 ^ 51 * x1.toNat + 2 ^ 102 * x2.toNat + 2 ^ 153 * x3.toNat + 2 ^ 204 * x4.toNat) % P25 ∧ T5 (cpL [x0, x1, x2, x3, x4]) := by
  unfold cpL
  simp only [List.getD_cons_zero, List.getD_cons_succ]
  have y0 := x0.isLt
  have y1 := x1.isLt
  have y2 := x2.isLt
  have y3 := x3.isLt
  have y4 := x4.isLt
  have m := m19_nat (x4 >>> 51) (by rw [shr_nat]; omega)
  have z0 : ((x0 &&& mk51) + m19 (x4 >>> 51)).toNat = x0.toNat % 2 ^ 51 + 19 * (x4.toNat / 2 ^ 51) := by rw [BitVec.toNat_add, and51, m, shr_nat]; omega
  have z1 : ((x1 &&& mk51) + x0 >>> 51).toNat = x1.toNat % 2 ^ 51 + x0.toNat / 2 ^ 51 := by rw [BitVec.toNat_add, and51, shr_nat]; omega
  have z2 : ((x2 &&& mk51) + x1 >>> 51).toNat = x2.toNat % 2 ^ 51 + x1.toNat / 2 ^ 51 := by rw [BitVec.toNat_add, and51, shr_nat]; omega
  have z3 : ((x3 &&& mk51) + x2 >>> 51).toNat = x3.toNat % 2 ^ 51 + x2.toNat / 2 ^ 51 := by rw [BitVec.toNat_add, and51, shr_nat]; omega
  have z4 : ((x4 &&& mk51) + x3 >>> 51).toNat = x4.toNat % 2 ^ 51 + x3.toNat / 2 ^ 51 := by rw [BitVec.toNat_add, and51, shr_nat]; omega
  have E2 := carr (md51 x0.toNat) (md51 x1.toNat) (md51 x2.toNat) (md51 x3.toNat) (md51 x4.toNat)
  rw [E2]
  constructor
  · unfold v5
    simp only [List.getD_cons_zero, List.getD_cons_succ]
    rw [z0, z1, z2, z3, z4, Nat.add_mul_mod_self_left]
  · unfold T5 b5
    simp only [List.getD_cons_zero, List.getD_cons_succ]
    rw [z0, z1, z2, z3, z4]
    clear E2 z0 z1 z2 z3 z4 m
    omega
theorem add64 {x y : BitVec 64} (hx : x.toNat < 2 ^ 53) (hy : y.toNat < 2 ^ 53) : (x + y).toNat = x.toNat + y.toNat := by rw [BitVec.toNat_add]; omega
theorem addR_r {a b : List (BitVec 64)} (ha : T5 a) (hb : T5 b) : r5 (addR a b) = fadd (r5 a) (r5 b) ∧ T5 (addR a b) := by
  obtain ⟨h0, h1, h2, h3, h4⟩ := ha.w
  obtain ⟨g0, g1, g2, g3, g4⟩ := hb.w
  have S := cp_spec (a.getD 0 0 + b.getD 0 0) (a.getD 1 0 + b.getD 1 0) (a.getD 2 0 + b.getD 2 0) (a.getD 3 0 + b.getD 3 0) (a.getD 4 0 + b.getD 4 0)
  refine ⟨?_, S.2⟩
  unfold r5
  rw [fadd_r]
  refine S.1.trans ?_
  rw [add64 (by omega) (by omega), add64 (by omega) (by omega), add64 (by omega) (by omega), add64 (by omega) (by omega), add64 (by omega) (by omega)]
  congr 1
  unfold v5
  omega
theorem sub64 {x y k : BitVec 64} (hx : x.toNat < 2 ^ 53) (hk : k.toNat < 2 ^ 53) (hy : y.toNat ≤ k.toNat) : (x + k - y).toNat + y.toNat = x.toNat + k.toNat := by
  rw [BitVec.toNat_sub, BitVec.toNat_add]; omega
theorem fsub_of {x a b : Nat} (h : x + b = a + 2 * P25) : x % P25 = fsub (a % P25) (b % P25) := by
  unfold fsub fadd fneg
  unfold P25 at *
  omega
theorem subR_r {a b : List (BitVec 64)} (ha : T5 a) (hb : T5 b) : r5 (subR a b) = fsub (r5 a) (r5 b) ∧ T5 (subR a b) := by
  obtain ⟨h0, h1, h2, h3, h4⟩ := ha.w
  obtain ⟨g0, g1, g2, g3, g4⟩ := hb
  have S := cp_spec (a.getD 0 0 + 4503599627370458#64 - b.getD 0 0) (a.getD 1 0 + 4503599627370494#64 - b.getD 1 0) (a.getD 2 0 + 4503599627370494#64 - b.getD 2 0) (a.getD 3 0 + 4503599627370494#64 - b.getD 3 0) (a.getD 4 0 + 4503599627370494#64 - b.getD 4 0)
  refine ⟨?_, S.2⟩
  refine S.1.trans (fsub_of ?_)
  have k0 : (4503599627370458#64).toNat = 4503599627370458 := rfl
  have k1 : (4503599627370494#64).toNat = 4503599627370494 := rfl
  have e0 := sub64 (x := a.getD 0 0) (y := b.getD 0 0) (k := 4503599627370458#64) (by omega) (by omega) (by omega)
  have e1 := sub64 (x := a.getD 1 0) (y := b.getD 1 0) (k := 4503599627370494#64) (by omega) (by omega) (by omega)
  have e2 := sub64 (x := a.getD 2 0) (y := b.getD 2 0) (k := 4503599627370494#64) (by omega) (by omega) (by omega)
  have e3 := sub64 (x := a.getD 3 0) (y := b.getD 3 0) (k := 4503599627370494#64) (by omega) (by omega) (by omega)
  have e4 := sub64 (x := a.getD 4 0) (y := b.getD 4 0) (k := 4503599627370494#64) (by omega) (by omega) (by omega)
  rw [k0] at e0
  rw [k1] at e1 e2 e3 e4
  clear S h0 h1 h2 h3 h4 g0 g1 g2 g3 g4 k0 k1
  unfold v5
  generalize (a.getD 0 0 + 4503599627370458#64 - b.getD 0 0).toNat = y0 at *
  generalize (a.getD 1 0 + 4503599627370494#64 - b.getD 1 0).toNat = y1 at *
  generalize (a.getD 2 0 + 4503599627370494#64 - b.getD 2 0).toNat = y2 at *
  generalize (a.getD 3 0 + 4503599627370494#64 - b.getD 3 0).toNat = y3 at *
  generalize (a.getD 4 0 + 4503599627370494#64 - b.getD 4 0).toNat = y4 at *
  unfold P25
  omega
end Go.Sx

set_option maxRecDepth 100000
set_option linter.unusedVariables false
namespace Go.Sx
open Go.Proofs
theorem m32_r {a : List (BitVec 64)} (ha : T5 a) : r5 (m32R a) = fmul 121666 (r5 a) ∧ T5 (m32R a) := by
  obtain ⟨h0, h1, h2, h3, h4⟩ := ha.w
  have ey : ((121666#32).setWidth 64).toNat = 121666 := rfl
  have lo : ∀ x : BitVec 64, x.toNat < 2 ^ 52 → (m32l x 121666#32).toNat = x.toNat * 121666 % 2 ^ 51 := fun x hx => by
    show ((mu x ((121666#32).setWidth 64)).1 &&& mk51).toNat = _
    rw [lo51, u2_mu, ey]
  have hi : ∀ x : BitVec 64, x.toNat < 2 ^ 52 → (m32h x 121666#32).toNat = x.toNat * 121666 / 2 ^ 51 := fun x hx => by
    show (sh51 (mu x ((121666#32).setWidth 64))).toNat = _
    rw [sh51_nat _ (by rw [u2_mu, ey]; omega), u2_mu, ey]
  have E2 := carr (md51 ((a.getD 0 0).toNat * 121666)) (md51 ((a.getD 1 0).toNat * 121666)) (md51 ((a.getD 2 0).toNat * 121666)) (md51 ((a.getD 3 0).toNat * 121666)) (md51 ((a.getD 4 0).toNat * 121666))
  have l0 := lo _ h0
  have l1 := lo _ h1
  have l2 := lo _ h2
  have l3 := lo _ h3
  have l4 := lo _ h4
  have i0 := hi _ h0
  have i1 := hi _ h1
  have i2 := hi _ h2
  have i3 := hi _ h3
  have i4 := hi _ h4
  have z0 : (m32l (a.getD 0 0) 121666#32 + 19#64 * m32h (a.getD 4 0) 121666#32).toNat = (a.getD 0 0).toNat * 121666 % 2 ^ 51 + 19 * ((a.getD 4 0).toNat * 121666 / 2 ^ 51) := by
    rw [BitVec.toNat_add, BitVec.toNat_mul, l0, i4]
    show (_ + 19 * _ % 2 ^ 64) % 2 ^ 64 = _
    omega
  have z1 : (m32l (a.getD 1 0) 121666#32 + m32h (a.getD 0 0) 121666#32).toNat = (a.getD 1 0).toNat * 121666 % 2 ^ 51 + (a.getD 0 0).toNat * 121666 / 2 ^ 51 := by rw [BitVec.toNat_add, l1, i0]; omega
  have z2 : (m32l (a.getD 2 0) 121666#32 + m32h (a.getD 1 0) 121666#32).toNat = (a.getD 2 0).toNat * 121666 % 2 ^ 51 + (a.getD 1 0).toNat * 121666 / 2 ^ 51 := by rw [BitVec.toNat_add, l2, i1]; omega
  have z3 : (m32l (a.getD 3 0) 121666#32 + m32h (a.getD 2 0) 121666#32).toNat = (a.getD 3 0).toNat * 121666 % 2 ^ 51 + (a.getD 2 0).toNat * 121666 / 2 ^ 51 := by rw [BitVec.toNat_add, l3, i2]; omega
  have z4 : (m32l (a.getD 4 0) 121666#32 + m32h (a.getD 3 0) 121666#32).toNat = (a.getD 4 0).toNat * 121666 % 2 ^ 51 + (a.getD 3 0).toNat * 121666 / 2 ^ 51 := by rw [BitVec.toNat_add, l4, i3]; omega
  clear l0 l1 l2 l3 l4 i0 i1 i2 i3 i4 lo hi ey
  constructor
  · have e : r5 (m32R a) = (((a.getD 0 0).toNat * 121666) + 2 ^ 51 * ((a.getD 1 0).toNat * 121666) + 2 ^ 102 * ((a.getD 2 0).toNat * 121666) + 2 ^ 153 * ((a.getD 3 0).toNat * 121666) + 2 ^ 204 * ((a.getD 4 0).toNat * 121666)) % P25 := by
      rw [E2, Nat.add_mul_mod_self_left, ← z0, ← z1, ← z2, ← z3, ← z4]; rfl
    rw [e]
    unfold fmul r5
    rw [Nat.mul_mod_mod]
    congr 1
    unfold v5
    omega
  · show b5 _ _
    unfold b5
    have e0 : (m32R a).getD 0 0 = m32l (a.getD 0 0) 121666#32 + 19#64 * m32h (a.getD 4 0) 121666#32 := rfl
    have e1 : (m32R a).getD 1 0 = m32l (a.getD 1 0) 121666#32 + m32h (a.getD 0 0) 121666#32 := rfl
    have e2 : (m32R a).getD 2 0 = m32l (a.getD 2 0) 121666#32 + m32h (a.getD 1 0) 121666#32 := rfl
    have e3 : (m32R a).getD 3 0 = m32l (a.getD 3 0) 121666#32 + m32h (a.getD 2 0) 121666#32 := rfl
    have e4 : (m32R a).getD 4 0 = m32l (a.getD 4 0) 121666#32 + m32h (a.getD 3 0) 121666#32 := rfl
    rw [e0, e1, e2, e3, e4, z0, z1, z2, z3, z4]
    clear E2 z0 z1 z2 z3 z4 e0 e1 e2 e3 e4
    omega
theorem xx (x y : BitVec 64) : x ^^^ (18446744073709551615#64 &&& (x ^^^ y)) = y := by
  apply BitVec.eq_of_getLsbD_eq
  intro i hi
  have h1 : (18446744073709551615#64) = BitVec.allOnes 64 := by decide
  rw [h1]
  simp only [BitVec.getLsbD_xor, BitVec.getLsbD_and, BitVec.getLsbD_allOnes, hi, decide_true, Bool.true_and]
  cases x.getLsbD i <;> cases y.getLsbD i <;> rfl
theorem xx2 (x y : BitVec 64) : y ^^^ (18446744073709551615#64 &&& (x ^^^ y)) = x := by
  rw [BitVec.xor_comm x y]; exact xx y x
theorem xz (x y : BitVec 64) : x ^^^ (0#64 &&& y) = x := by rw [BitVec.zero_and, BitVec.xor_zero]
theorem sw0 (v u : List (BitVec 64)) : lit 0 5 (swV 0 v u) = lit 0 5 v ∧ lit 0 5 (swU 0 v u) = lit 0 5 u := by
  have h : swM 0 = 0#64 := by decide
  unfold swV swU
  rw [h]
  simp only [xz]
  exact ⟨rfl, rfl⟩
theorem sw1 (v u : List (BitVec 64)) : lit 0 5 (swV 1 v u) = lit 0 5 u ∧ lit 0 5 (swU 1 v u) = lit 0 5 v := by
  have h : swM 1 = 18446744073709551615#64 := by decide
  unfold swV swU
  rw [h]
  simp only [xx, xx2]
  exact ⟨rfl, rfl⟩
end Go.Sx

set_option maxRecDepth 100000
set_option linter.unusedVariables false
namespace Go.Sx
open Go.Proofs
theorem fpow_add (z e f : Nat) : fmul (fpow z e) (fpow z f) = fpow z (e + f) := by unfold fmul fpow; rw [← Nat.mul_mod, Nat.pow_add]
/-- a limb list that holds a power -/
def Ip (z e : Nat) (l : List (BitVec 64)) : Prop := r5 l = fpow z e ∧ T5 l
theorem Ip.mul {z e f : Nat} {a b : List (BitVec 64)} (h : Ip z e a) (g : Ip z f b) : Ip z (e + f) (m5 a b) := by
  obtain ⟨h1, h2⟩ := m5_r h.2 g.2
  exact ⟨by rw [h1, h.1, g.1, fpow_add], h2⟩
theorem Ip.sq {z e : Nat} {a : List (BitVec 64)} (h : Ip z e a) : Ip z (2 * e) (s5 a) := by
  obtain ⟨h1, h2⟩ := s5_r h.2
  exact ⟨by rw [h1, h.1, fpow_add, Nat.two_mul], h2⟩
theorem Ip.sqN {z e : Nat} {a : List (BitVec 64)} (h : Ip z e a) : ∀ k, Ip z (2 ^ k * e) (sqN k a)
  | 0 => by rw [Nat.pow_zero, Nat.one_mul]; exact h
  | k + 1 => by
    have := (Ip.sqN h k).sq
    rw [show 2 ^ (k + 1) * e = 2 * (2 ^ k * e) by rw [Nat.pow_succ, Nat.mul_comm (2 ^ k) 2, Nat.mul_assoc]]
    exact this
theorem Ip.n5 {z e : Nat} {a : List (BitVec 64)} (h : Ip z e a) (k : Nat) : Ip z (2 ^ k * e) (n5 k a) := h.sqN k
theorem invL_r {a : List (BitVec 64)} (ha : T5 a) : r5 (invL a) = finv (r5 a) ∧ T5 (invL a) := by
  have I : Ip (r5 a) 1 a := ⟨by unfold fpow; rw [Nat.pow_one, Nat.mod_eq_of_lt (r5_lt a)], ha⟩
  have t1 := I.sq
  have t := t1.sq.sq
  have t2 := t.mul I
  have z11 := t2.mul t1
  have t := z11.sq
  have t0 := t.mul t2
  have t := t0.n5 5
  have t2 := t.mul t0
  have t := t2.n5 5
  have t0 := t.mul t0
  have t := t0.n5 15
  have t1 := t.mul t0
  have t := t1.n5 30
  have t0 := t.mul t1
  have t := t0.n5 60
  have t1 := t.mul t0
  have t := t1.n5 120
  have t := t.mul t1
  have t := t.n5 10
  have t := t.mul t2
  have t := t.n5 5
  have r := t.mul z11
  refine ⟨?_, r.2⟩
  refine Eq.trans r.1 ?_
  unfold finv
  congr 1
end Go.Sx
