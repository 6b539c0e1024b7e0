/- The ladder by limbs and the ladder by numbers. Conditions: none; plain definitions and theorems. The ladder by limbs and the ladder by numbers: all steps. Conditions: none; plain definitions and theorems. The field's elements and bytes. Conditions: none; plain definitions and theorems. The field's elements and bytes: the reduction. Conditions: none; plain definitions and theorems. The field's elements and bytes: the reduction of limbs. Conditions: none; plain definitions and theorems. The field's elements and bytes: limbs to bytes; x25519ScalarMult is the function of RFC 7748. Conditions: none; plain definitions and theorems. The field's elements and bytes: x25519ScalarMult is the function of RFC 7748. Conditions: none; plain definitions and theorems. Conditions: none. -/
import Derived.Test.YtbkobeclkeojoaaGreatDoorE1
import Derived.Test.YtbkobeclkeojoaaGreatDoorX5b
set_option maxRecDepth 100000
set_option linter.unusedVariables false
namespace Go.Sx
open Go.Proofs
theorem fadd_m (a b : Nat) : fadd a b = fadd (a % P25) (b % P25) := by rw [fadd_r]; rfl
theorem fmul_m (a b : Nat) : fmul a b = fmul (a % P25) (b % P25) := by rw [fmul_r]; rfl
theorem fsub_m (a b : Nat) : fsub a b = fsub (a % P25) (b % P25) := by
  unfold fsub
  rw [fadd_m, fadd_m (a % P25), Nat.mod_mod]
  unfold fneg
  rw [Nat.mod_mod b, Nat.mod_mod, Nat.mod_mod]
theorem fsub_add {a b : Nat} (ha : a < P25) (hb : b < P25) : (fsub a b + b) % P25 = a := by
  unfold fsub fadd fneg
  unfold P25 at *
  omega
theorem ladE {a b e : Nat} (h : (e + b) % P25 = a) : fadd b (fmul 121666 e) = fadd a (fmul 121665 e) := by
  unfold fadd fmul
  rw [Nat.add_mod_mod, Nat.add_mod_mod, ← h, Nat.mod_add_mod]
  congr 1
  omega
/-- the two ladders hold the same points -/
structure Rel (w : W5) (x1 : List (BitVec 64)) (s : L6) : Prop where
  e1 : w.x1 % P25 = r5 x1
  e2 : w.x2 % P25 = r5 s.x2
  f2 : w.z2 % P25 = r5 s.z2
  e3 : w.x3 % P25 = r5 s.x3
  f3 : w.z3 % P25 = r5 s.z3
  t1 : T5 x1
  t2 : T5 s.x2
  u2 : T5 s.z2
  t3 : T5 s.x3
  u3 : T5 s.z3
theorem step_rel {w : W5} {x1 x2 z2 x3 z3 a b : List (BitVec 64)} (h : Rel w x1 ⟨x2, z2, x3, z3, a, b⟩) : Rel w.step x1 (stL x1 x2 z2 x3 z3) := by
  obtain ⟨e1, e2, f2, e3, f3, t1, t2, u2, t3, u3⟩ := h
  dsimp only at *
  have A := addR_r t2 u2
  have C := subR_r t2 u2
  have D := subR_r t3 u3
  have E := addR_r t3 u3
  have AA := s5_r A.2
  have BB := s5_r C.2
  have DA := m5_r D.2 A.2
  have CB := m5_r E.2 C.2
  have X := addR_r DA.2 CB.2
  have Y := subR_r DA.2 CB.2
  have EE := subR_r AA.2 BB.2
  have M := m32_r EE.2
  have F := addR_r BB.2 M.2
  have XX := s5_r X.2
  have YY := s5_r Y.2
  have Z3 := m5_r t1 YY.2
  have X2 := m5_r AA.2 BB.2
  have Z2 := m5_r EE.2 F.2
  have ha : fadd w.x2 w.z2 = r5 (addR x2 z2) := by rw [fadd_m, e2, f2, A.1]
  have hc : fsub w.x2 w.z2 = r5 (subR x2 z2) := by rw [fsub_m, e2, f2, C.1]
  have hd : fsub w.x3 w.z3 = r5 (subR x3 z3) := by rw [fsub_m, e3, f3, D.1]
  have he : fadd w.x3 w.z3 = r5 (addR x3 z3) := by rw [fadd_m, e3, f3, E.1]
  have hl := ladE (fsub_add (r5_lt (s5 (addR x2 z2))) (r5_lt (s5 (subR x2 z2))))
  refine ⟨?_, ?_, ?_, ?_, ?_, t1, X2.2, Z2.2, XX.2, Z3.2⟩
  · show w.x1 % P25 % P25 = _
    rw [Nat.mod_mod, e1]
  · show fmul (fmul (fadd w.x2 w.z2) (fadd w.x2 w.z2)) (fmul (fsub w.x2 w.z2) (fsub w.x2 w.z2)) % P25 = r5 (m5 (s5 (addR x2 z2)) (s5 (subR x2 z2)))
    rw [X2.1, AA.1, BB.1, ha, hc, Nat.mod_eq_of_lt (fmul_lt _ _)]
  · show fmul (fsub (fmul (fadd w.x2 w.z2) (fadd w.x2 w.z2)) (fmul (fsub w.x2 w.z2) (fsub w.x2 w.z2))) (fadd (fmul (fadd w.x2 w.z2) (fadd w.x2 w.z2)) (fmul 121665 (fsub (fmul (fadd w.x2 w.z2) (fadd w.x2 w.z2)) (fmul (fsub w.x2 w.z2) (fsub w.x2 w.z2))))) % P25 = r5 (m5 (subR (s5 (addR x2 z2)) (s5 (subR x2 z2))) (addR (s5 (subR x2 z2)) (m32R (subR (s5 (addR x2 z2)) (s5 (subR x2 z2))))))
    rw [Z2.1, F.1, M.1, EE.1, hl, AA.1, BB.1, ha, hc, Nat.mod_eq_of_lt (fmul_lt _ _)]
  · show fmul (fadd (fmul (fsub w.x3 w.z3) (fadd w.x2 w.z2)) (fmul (fadd w.x3 w.z3) (fsub w.x2 w.z2))) (fadd (fmul (fsub w.x3 w.z3) (fadd w.x2 w.z2)) (fmul (fadd w.x3 w.z3) (fsub w.x2 w.z2))) % P25 = r5 (s5 (addR (m5 (subR x3 z3) (addR x2 z2)) (m5 (addR x3 z3) (subR x2 z2))))
    rw [XX.1, X.1, DA.1, CB.1, ha, hc, hd, he, Nat.mod_eq_of_lt (fmul_lt _ _)]
  · show fmul w.x1 (fmul (fsub (fmul (fsub w.x3 w.z3) (fadd w.x2 w.z2)) (fmul (fadd w.x3 w.z3) (fsub w.x2 w.z2))) (fsub (fmul (fsub w.x3 w.z3) (fadd w.x2 w.z2)) (fmul (fadd w.x3 w.z3) (fsub w.x2 w.z2)))) % P25 = r5 (m5 x1 (s5 (subR (m5 (subR x3 z3) (addR x2 z2)) (m5 (addR x3 z3) (subR x2 z2)))))
    rw [Z3.1, YY.1, Y.1, DA.1, CB.1, ha, hc, hd, he, fmul_m w.x1, e1, Nat.mod_eq_of_lt (fmul_lt _ _), Nat.mod_eq_of_lt (fmul_lt _ _)]
end Go.Sx

set_option maxRecDepth 100000
set_option linter.unusedVariables false
namespace Go.Sx
open Go.Proofs
theorem leN_get : ∀ (l : List (BitVec 8)) (k : Nat), leN l / 256 ^ k % 256 = (l.getD k 0).toNat
  | [], k => by simp [leN]
  | x :: r, 0 => by
    have := x.isLt
    simp only [leN, List.getD_cons_zero, Nat.pow_zero, Nat.div_one]; omega
  | x :: r, k + 1 => by
    have hx := x.isLt
    rw [List.getD_cons_succ, ← leN_get r k]
    simp only [leN]
    rw [Nat.pow_succ, Nat.mul_comm (256 ^ k) 256, ← Nat.div_div_eq_div_mul]
    congr 2
    omega
def shI (i : Nat) : Nat := (BitVec.ofInt 64 (IntKind.wrap .i64 (((BitVec.ofInt 64 (i : Int) &&& BitVec.ofInt 64 7).toNat : Nat) : Int))).toNat
theorem shI_all : (List.range 256).all (fun i => Nat.beq (shI i) (i % 8)) = true := by kernel_rfl
theorem shI_eq {i : Nat} (h : i < 256) : shI i = i % 8 := Nat.eq_of_beq_eq_true (List.all_eq_true.1 shI_all i (List.mem_range.2 h))
theorem btX_nat (e : List (BitVec 8)) {i : Nat} (h : i < 256) : (btX e i).toNat = leN e / 2 ^ i % 2 := by
  have e1 : btX e i = (e.getD (i / 8) 0 >>> (i % 8)) &&& 1#8 := by
    unfold btX
    rw [show Int.toNat ((i : Int) / 8) + 0 = i / 8 by omega]
    congr 2
    exact shI_eq h
  rw [e1, BitVec.toNat_and, BitVec.toNat_ushiftRight, Nat.shiftRight_eq_div_pow, ← leN_get]
  show _ &&& 1 = _
  rw [Nat.and_one_is_mod]
  have h2 : (256 : Nat) ^ (i / 8) * 2 ^ (i % 8) = 2 ^ i := by
    rw [show (256 : Nat) = 2 ^ 8 from rfl, ← Nat.pow_mul, ← Nat.pow_add]; congr 1; omega
  rw [← h2, ← Nat.div_div_eq_div_mul]
  generalize leN e / 256 ^ (i / 8) = q
  have h3 : i % 8 < 8 := Nat.mod_lt _ (by decide)
  generalize i % 8 = k at h3
  have h4 : k = 0 ∨ k = 1 ∨ k = 2 ∨ k = 3 ∨ k = 4 ∨ k = 5 ∨ k = 6 ∨ k = 7 := by omega
  rcases h4 with rfl | rfl | rfl | rfl | rfl | rfl | rfl | rfl <;> omega
theorem sw_cases {l : BitVec 64} {bt : BitVec 8} {b : BitVec 64} (hl : l.toNat ≤ 1) (hb : b.toNat = bt.toNat) (h1 : bt.toNat ≤ 1) :
    (swX (l.toNat : Int) bt = 0 ∧ decide ((b ^^^ l).toNat = 1) = false) ∨ (swX (l.toNat : Int) bt = 1 ∧ decide ((b ^^^ l).toNat = 1) = true) := by
  have hl' : l = 0#64 ∨ l = 1#64 := by
    rcases Nat.le_one_iff_eq_zero_or_eq_one.1 hl with h | h
    · exact .inl (BitVec.eq_of_toNat_eq h)
    · exact .inr (BitVec.eq_of_toNat_eq h)
  have hb' : (bt = 0#8 ∧ b = 0#64) ∨ (bt = 1#8 ∧ b = 1#64) := by
    rcases Nat.le_one_iff_eq_zero_or_eq_one.1 h1 with h | h
    · exact .inl ⟨BitVec.eq_of_toNat_eq h, BitVec.eq_of_toNat_eq (hb.trans h)⟩
    · exact .inr ⟨BitVec.eq_of_toNat_eq h, BitVec.eq_of_toNat_eq (hb.trans h)⟩
  rcases hl' with rfl | rfl <;> rcases hb' with ⟨rfl, rfl⟩ | ⟨rfl, rfl⟩
  · exact .inl ⟨by decide, by decide⟩
  · exact .inr ⟨by decide, by decide⟩
  · exact .inr ⟨by decide, by decide⟩
  · exact .inl ⟨by decide, by decide⟩
theorem T5_eq {l m : List (BitVec 64)} (h : lit 0 5 l = lit 0 5 m) (hm : T5 m) : T5 (lit 0 5 l) := by rw [h]; exact hm
theorem r5_eq {l m : List (BitVec 64)} (h : lit 0 5 l = lit 0 5 m) : r5 (lit 0 5 l) = r5 m := by rw [h]; rfl
theorem stp_rel {w : W5} {x1 : List (BitVec 64)} {s : L6} (h : Rel w x1 s) {l b : BitVec 64} {bt : BitVec 8} (hl : l.toNat ≤ 1) (hb : b.toNat = bt.toNat) (h1 : bt.toNat ≤ 1) :
    Rel (w.stp (b ^^^ l)) x1 (stp6 x1 s (swX (l.toNat : Int) bt)) := by
  unfold W5.stp stp6
  rcases sw_cases hl hb h1 with ⟨e1, e2⟩ | ⟨e1, e2⟩
  · rw [e1, e2, cond_false]
    refine step_rel (a := []) (b := []) ⟨h.e1, ?_, ?_, ?_, ?_, h.t1, T5_eq (sw0 _ _).1 h.t2, T5_eq (sw0 _ _).1 h.u2, T5_eq (sw0 _ _).2 h.t3, T5_eq (sw0 _ _).2 h.u3⟩
    · exact h.e2.trans (r5_eq (sw0 _ _).1).symm
    · exact h.f2.trans (r5_eq (sw0 _ _).1).symm
    · exact h.e3.trans (r5_eq (sw0 _ _).2).symm
    · exact h.f3.trans (r5_eq (sw0 _ _).2).symm
  · rw [e1, e2, cond_true]
    refine step_rel (a := []) (b := []) ⟨h.e1, ?_, ?_, ?_, ?_, h.t1, T5_eq (sw1 _ _).1 h.t3, T5_eq (sw1 _ _).1 h.u3, T5_eq (sw1 _ _).2 h.t2, T5_eq (sw1 _ _).2 h.u2⟩
    · exact h.e3.trans (r5_eq (sw1 _ _).1).symm
    · exact h.f3.trans (r5_eq (sw1 _ _).1).symm
    · exact h.e2.trans (r5_eq (sw1 _ _).2).symm
    · exact h.f2.trans (r5_eq (sw1 _ _).2).symm
theorem lad_rel {w0 : W5} {x1 : List (BitVec 64)} {s0 : L6} (e : List (BitVec 8)) (h : Rel w0 x1 s0) : ∀ j, j ≤ 255 → Rel (ladJ (leN e) w0 j).1 x1 (ljS e x1 s0 j).1 ∧ (ljS e x1 s0 j).2 = ((ladJ (leN e) w0 j).2.toNat : Int) ∧ (ladJ (leN e) w0 j).2.toNat ≤ 1
  | 0, _ => ⟨h, rfl, show (0#64).toNat ≤ 1 by decide⟩
  | j + 1, hj => by
    obtain ⟨h1, h2, h3⟩ := lad_rel e h j (by omega)
    have hb : (bitN (leN e) (254 - j)).toNat = (btX e (254 - j)).toNat := by rw [bitN_nat, btX_nat e (by omega)]
    have h4 : (btX e (254 - j)).toNat ≤ 1 := by rw [btX_nat e (by omega)]; omega
    have := stp_rel h1 h3 hb h4
    rw [← h2] at this
    refine ⟨this, ?_, by rw [show (ladJ (leN e) w0 (j + 1)).2 = bitN (leN e) (254 - j) from rfl, hb]; exact h4⟩
    rw [show (ladJ (leN e) w0 (j + 1)).2 = bitN (leN e) (254 - j) from rfl, hb]
    rfl
end Go.Sx

set_option maxRecDepth 100000
set_option linter.unusedVariables false
namespace Go.Sx
open Go.Proofs
theorem or8 (y : BitVec 64) (x : BitVec 8) (h : y.toNat < 2 ^ 56) : (y <<< 8 ||| x.setWidth 64).toNat = y.toNat * 256 + x.toNat := by
  have hx := x.isLt
  rw [BitVec.toNat_or, shl_nat, w8, Nat.mod_eq_of_lt (by omega), show (256 : Nat) = 2 ^ 8 from rfl, or_add _ _ 8 hx]
theorem leU_nat (b : List (BitVec 8)) : (leU b).toNat = (b.getD 0 0).toNat + 256 * (b.getD 1 0).toNat + 65536 * (b.getD 2 0).toNat + 16777216 * (b.getD 3 0).toNat + 4294967296 * (b.getD 4 0).toNat + 1099511627776 * (b.getD 5 0).toNat + 281474976710656 * (b.getD 6 0).toNat + 72057594037927936 * (b.getD 7 0).toNat := by
  unfold leU
  have h0 := (b.getD 0 0).isLt
  have h1 := (b.getD 1 0).isLt
  have h2 := (b.getD 2 0).isLt
  have h3 := (b.getD 3 0).isLt
  have h4 := (b.getD 4 0).isLt
  have h5 := (b.getD 5 0).isLt
  have h6 := (b.getD 6 0).isLt
  have h7 := (b.getD 7 0).isLt
  have e7 := or8 0#64 (b.getD 7 0) (by decide)
  have z : (0#64).toNat = 0 := rfl
  rw [z, Nat.zero_mul, Nat.zero_add] at e7
  generalize 0#64 <<< 8 ||| (b.getD 7 0).setWidth 64 = y7 at *
  have e6 := or8 y7 (b.getD 6 0) (by omega)
  generalize y7 <<< 8 ||| (b.getD 6 0).setWidth 64 = y6 at *
  have e5 := or8 y6 (b.getD 5 0) (by omega)
  generalize y6 <<< 8 ||| (b.getD 5 0).setWidth 64 = y5 at *
  have e4 := or8 y5 (b.getD 4 0) (by omega)
  generalize y5 <<< 8 ||| (b.getD 4 0).setWidth 64 = y4 at *
  have e3 := or8 y4 (b.getD 3 0) (by omega)
  generalize y4 <<< 8 ||| (b.getD 3 0).setWidth 64 = y3 at *
  have e2 := or8 y3 (b.getD 2 0) (by omega)
  generalize y3 <<< 8 ||| (b.getD 2 0).setWidth 64 = y2 at *
  have e1 := or8 y2 (b.getD 1 0) (by omega)
  generalize y2 <<< 8 ||| (b.getD 1 0).setWidth 64 = y1 at *
  have e0 := or8 y1 (b.getD 0 0) (by omega)
  rw [e0]
  omega
theorem get_dt (x : List (BitVec 8)) (k j : Nat) (hj : j < 8) : ((x.drop k).take 8).getD j 0 = x.getD (k + j) 0 := by
  rw [List.getD_eq_getElem?_getD, List.getD_eq_getElem?_getD, List.getElem?_take_of_lt hj, List.getElem?_drop]
/-- eight bytes of a number -/
theorem oct (q : Nat) : q % 256 + 256 * (q / 256 % 256) + 65536 * (q / 65536 % 256) + 16777216 * (q / 16777216 % 256) + 4294967296 * (q / 4294967296 % 256) + 1099511627776 * (q / 1099511627776 % 256) + 281474976710656 * (q / 281474976710656 % 256) + 72057594037927936 * (q / 72057594037927936 % 256) = q % 2 ^ 64 := by omega
theorem leU_dt (x : List (BitVec 8)) (k : Nat) : (leU ((x.drop k).take 8)).toNat = leN x / 256 ^ k % 2 ^ 64 := by
  rw [leU_nat]
  rw [get_dt x k 0 (by decide), get_dt x k 1 (by decide), get_dt x k 2 (by decide), get_dt x k 3 (by decide), get_dt x k 4 (by decide), get_dt x k 5 (by decide), get_dt x k 6 (by decide), get_dt x k 7 (by decide)]
  simp only [← leN_get, Nat.pow_add, ← Nat.div_div_eq_div_mul]
  rw [← oct]
  simp only [Nat.pow_zero, Nat.div_one]
theorem sb_nat (N : Nat) : N / 256 ^ 0 % 2 ^ 64 % 2 ^ 51 + 2 ^ 51 * (N / 256 ^ 6 % 2 ^ 64 / 2 ^ 3 % 2 ^ 51) + 2 ^ 102 * (N / 256 ^ 12 % 2 ^ 64 / 2 ^ 6 % 2 ^ 51) + 2 ^ 153 * (N / 256 ^ 19 % 2 ^ 64 / 2 ^ 1 % 2 ^ 51) + 2 ^ 204 * (N / 256 ^ 24 % 2 ^ 64 / 2 ^ 12 % 2 ^ 51) = N % 57896044618658097711785492504343953926634992332820282019728792003956564819968 := by omega
theorem sbL_r (x : List (BitVec 8)) : v5 (sbL x) = leN x % 57896044618658097711785492504343953926634992332820282019728792003956564819968 ∧ T5 (sbL x) := by
  have L : ∀ (y : BitVec 64), (y &&& mk51).toNat < 2 ^ 51 + 2 ^ 24 := fun y => by rw [and51]; have := Nat.mod_lt y.toNat (show 0 < 2 ^ 51 by decide); omega
  constructor
  · unfold v5 sbL
    simp only [List.getD_cons_zero, List.getD_cons_succ]
    rw [and51, and51, and51, and51, and51, shr_nat, shr_nat, shr_nat, shr_nat, leU_dt, leU_dt, leU_dt, leU_dt, leU_dt]
    exact sb_nat _
  · exact ⟨L _, L _, L _, L _, L _⟩
theorem leN_set : ∀ (l : List (BitVec 8)) (k : Nat) (v : BitVec 8), k < l.length → leN (l.set k v) + 256 ^ k * (l.getD k 0).toNat = leN l + 256 ^ k * v.toNat
  | [], k, v, h => by simp at h
  | x :: r, 0, v, h => by
    simp only [List.set_cons_zero, leN, List.getD_cons_zero, Nat.pow_zero, Nat.one_mul]; omega
  | x :: r, k + 1, v, h => by
    have := leN_set r k v (by simpa using h)
    simp only [List.set_cons_succ, leN, List.getD_cons_succ]
    rw [Nat.pow_succ, Nat.mul_comm (256 ^ k) 256, Nat.mul_assoc, Nat.mul_assoc]
    omega
theorem mask_nat (p : List (BitVec 8)) (h : p.length = 32) : leN (maskP p) = leN p % 57896044618658097711785492504343953926634992332820282019728792003956564819968 := by
  have h1 := leN_set p 31 (p.getD 31 0 &&& 127#8) (by omega)
  have h2 : (p.getD 31 0 &&& 127#8).toNat = (p.getD 31 0).toNat % 128 := by
    rw [BitVec.toNat_and]; exact Nat.and_two_pow_sub_one_eq_mod _ 7
  have h3 := leN_get p 31
  have h4 := leN_lt p
  rw [h] at h4
  rw [h2] at h1
  unfold maskP
  generalize leN (p.set 31 (p.getD 31 0 &&& 127#8)) = m at *
  generalize leN p = N at *
  generalize (p.getD 31 0).toNat = b at *
  omega
theorem clamp_eq (s : List (BitVec 8)) : clampE s = clampB s := by
  unfold clampE clampB
  rw [List.set_set]
  have e : (~~~7#8 : BitVec 8) = 248#8 := by decide
  rw [e]
end Go.Sx

set_option maxRecDepth 100000
set_option linter.unusedVariables false
namespace Go.Sx
open Go.Proofs
theorem rd_nat {v0 v1 v2 v3 v4 c0 c1 c2 c3 c4 w0 w1 w2 w3 w4 : Nat} (h0 : v0 < 2251799830462464) (h1 : v1 < 2251799830462464) (h2 : v2 < 2251799830462464) (h3 : v3 < 2251799830462464) (h4 : v4 < 2251799830462464)
    (e0 : c0 = (v0 + 19) / 2251799813685248) (e1 : c1 = (v1 + c0) / 2251799813685248) (e2 : c2 = (v2 + c1) / 2251799813685248) (e3 : c3 = (v3 + c2) / 2251799813685248) (e4 : c4 = (v4 + c3) / 2251799813685248)
    (f0 : w0 = v0 + 19 * c4) (f1 : w1 = v1 + w0 / 2251799813685248) (f2 : w2 = v2 + w1 / 2251799813685248) (f3 : w3 = v3 + w2 / 2251799813685248) (f4 : w4 = v4 + w3 / 2251799813685248) :
    w0 % 2251799813685248 + 2 ^ 51 * (w1 % 2251799813685248) + 2 ^ 102 * (w2 % 2251799813685248) + 2 ^ 153 * (w3 % 2251799813685248) + 2 ^ 204 * (w4 % 2251799813685248) = (v0 + 2 ^ 51 * v1 + 2 ^ 102 * v2 + 2 ^ 153 * v3 + 2 ^ 204 * v4) % 57896044618658097711785492504343953926634992332820282019728792003956564819949 := by
  have hc : c4 ≤ 1 := by omega
  have hV : c4 = (v0 + 2 ^ 51 * v1 + 2 ^ 102 * v2 + 2 ^ 153 * v3 + 2 ^ 204 * v4 + 19) / 57896044618658097711785492504343953926634992332820282019728792003956564819968 := by omega
  have hW : w0 % 2251799813685248 + 2 ^ 51 * (w1 % 2251799813685248) + 2 ^ 102 * (w2 % 2251799813685248) + 2 ^ 153 * (w3 % 2251799813685248) + 2 ^ 204 * (w4 % 2251799813685248) = (v0 + 2 ^ 51 * v1 + 2 ^ 102 * v2 + 2 ^ 153 * v3 + 2 ^ 204 * v4 + 19 * c4) % 57896044618658097711785492504343953926634992332820282019728792003956564819968 := by
    clear hV e0 e1 e2 e3 e4 hc
    omega
  rw [hW]
  have hB : v0 + 2 ^ 51 * v1 + 2 ^ 102 * v2 + 2 ^ 153 * v3 + 2 ^ 204 * v4 < 57896044618658097711785492504343953926634992332820282019728792003956564819968 + 57896044618658097711785492504343953926634992332820282019728792003956564819900 := by omega
  clear hW e0 e1 e2 e3 e4 f0 f1 f2 f3 f4 h0 h1 h2 h3 h4
  generalize v0 + 2 ^ 51 * v1 + 2 ^ 102 * v2 + 2 ^ 153 * v3 + 2 ^ 204 * v4 = V at *
  have h01 : c4 = 0 ∨ c4 = 1 := by omega
  rcases h01 with rfl | rfl
  · have hl : V < 57896044618658097711785492504343953926634992332820282019728792003956564819949 := by omega
    rw [Nat.mod_eq_of_lt hl, Nat.mod_eq_of_lt (by omega)]; omega
  · obtain ⟨t, ht⟩ : ∃ t, V = t + 57896044618658097711785492504343953926634992332820282019728792003956564819949 := ⟨V - 57896044618658097711785492504343953926634992332820282019728792003956564819949, by omega⟩
    subst ht
    have ht : t < 57896044618658097711785492504343953926634992332820282019728792003956564819949 := by omega
    rw [Nat.add_mod_right, Nat.mod_eq_of_lt ht, show t + 57896044618658097711785492504343953926634992332820282019728792003956564819949 + 19 * 1 = t + 57896044618658097711785492504343953926634992332820282019728792003956564819968 by omega, Nat.add_mod_right, Nat.mod_eq_of_lt (by omega)]
end Go.Sx

set_option maxRecDepth 100000
set_option linter.unusedVariables false
namespace Go.Sx
open Go.Proofs
theorem rd5 (v0 v1 v2 v3 v4 : BitVec 64) (h0 : v0.toNat < 2 ^ 51 + 2 ^ 24) (h1 : v1.toNat < 2 ^ 51 + 2 ^ 24) (h2 : v2.toNat < 2 ^ 51 + 2 ^ 24) (h3 : v3.toNat < 2 ^ 51 + 2 ^ 24) (h4 : v4.toNat < 2 ^ 51 + 2 ^ 24)
    (c0 c1 c2 c3 c4 w0 w1 w2 w3 w4 : BitVec 64) (e0 : c0 = (v0 + 19#64) >>> 51) (e1 : c1 = (v1 + c0) >>> 51) (e2 : c2 = (v2 + c1) >>> 51) (e3 : c3 = (v3 + c2) >>> 51) (e4 : c4 = (v4 + c3) >>> 51)
    (f0 : w0 = v0 + 19#64 * c4) (f1 : w1 = v1 + w0 >>> 51) (f2 : w2 = v2 + w1 >>> 51) (f3 : w3 = v3 + w2 >>> 51) (f4 : w4 = v4 + w3 >>> 51) :
    (w0 &&& mk51).toNat + 2 ^ 51 * (w1 &&& mk51).toNat + 2 ^ 102 * (w2 &&& mk51).toNat + 2 ^ 153 * (w3 &&& mk51).toNat + 2 ^ 204 * (w4 &&& mk51).toNat = (v0.toNat + 2 ^ 51 * v1.toNat + 2 ^ 102 * v2.toNat + 2 ^ 153 * v3.toNat + 2 ^ 204 * v4.toNat) % P25 := by
  have k19 : (19#64).toNat = 19 := rfl
  have g0 : c0.toNat = (v0.toNat + 19) / 2251799813685248 := by rw [e0, shr_nat, BitVec.toNat_add, k19]; omega
  have g1 : c1.toNat = (v1.toNat + c0.toNat) / 2251799813685248 := by rw [e1, shr_nat, BitVec.toNat_add]; omega
  have g2 : c2.toNat = (v2.toNat + c1.toNat) / 2251799813685248 := by rw [e2, shr_nat, BitVec.toNat_add]; omega
  have g3 : c3.toNat = (v3.toNat + c2.toNat) / 2251799813685248 := by rw [e3, shr_nat, BitVec.toNat_add]; omega
  have g4 : c4.toNat = (v4.toNat + c3.toNat) / 2251799813685248 := by rw [e4, shr_nat, BitVec.toNat_add]; omega
  have hc : c4.toNat ≤ 1 := by omega
  have i0 : w0.toNat = v0.toNat + 19 * c4.toNat := by rw [f0, BitVec.toNat_add, BitVec.toNat_mul, k19]; omega
  have i1 : w1.toNat = v1.toNat + w0.toNat / 2251799813685248 := by rw [f1, BitVec.toNat_add, shr_nat]; omega
  have i2 : w2.toNat = v2.toNat + w1.toNat / 2251799813685248 := by rw [f2, BitVec.toNat_add, shr_nat]; omega
  have i3 : w3.toNat = v3.toNat + w2.toNat / 2251799813685248 := by rw [f3, BitVec.toNat_add, shr_nat]; omega
  have i4 : w4.toNat = v4.toNat + w3.toNat / 2251799813685248 := by rw [f4, BitVec.toNat_add, shr_nat]; omega
  rw [and51, and51, and51, and51, and51]
  exact rd_nat h0 h1 h2 h3 h4 g0 g1 g2 g3 g4 i0 i1 i2 i3 i4
theorem rdL_r {a : List (BitVec 64)} : v5 (rdL a) = r5 a ∧ b5 (2 ^ 51) (rdL a) := by
  have C := cp_spec (a.getD 0 0) (a.getD 1 0) (a.getD 2 0) (a.getD 3 0) (a.getD 4 0)
  have hc : cpL [a.getD 0 0, a.getD 1 0, a.getD 2 0, a.getD 3 0, a.getD 4 0] = cpL a := rfl
  rw [hc] at C
  obtain ⟨C1, h0, h1, h2, h3, h4⟩ := C
  constructor
  · refine (rd5 _ _ _ _ _ h0 h1 h2 h3 h4 _ _ _ _ _ _ _ _ _ _ rfl rfl rfl rfl rfl rfl rfl rfl rfl rfl).trans ?_
    exact C1
  · have L : ∀ (y : BitVec 64), (y &&& mk51).toNat < 2 ^ 51 := fun y => by rw [and51]; exact Nat.mod_lt _ (by decide)
    exact ⟨L _, L _, L _, L _, L _⟩
end Go.Sx

set_option maxRecDepth 100000
set_option linter.unusedVariables false
namespace Go.Sx
open Go.Proofs
theorem b8z_eq (v : BitVec 64) : b8z v = bytesN 8 v.toNat := by
  rw [← b8_eq]
  unfold b8z b8
  rw [BitVec.ushiftRight_zero]
theorem orS (a b : BitVec 64) (n : Nat) (c : Nat) (h : a.toNat * 2 ^ n % 2 ^ 64 = c * 2 ^ n) (hb : b.toNat < 2 ^ n) : (a <<< n ||| b).toNat = c * 2 ^ n + b.toNat := by
  rw [BitVec.toNat_or, shl_nat, h, or_add _ _ _ hb]
theorem pk_nat {r0 r1 r2 r3 r4 : Nat} (h0 : r0 < 2251799813685248) (h1 : r1 < 2251799813685248) (h2 : r2 < 2251799813685248) (h3 : r3 < 2251799813685248) (h4 : r4 < 2251799813685248) {V : Nat} (hV : V = r0 + 2 ^ 51 * r1 + 2 ^ 102 * r2 + 2 ^ 153 * r3 + 2 ^ 204 * r4) :
    r1 % 2 ^ 13 * 2 ^ 51 + r0 = V % 256 ^ 8 ∧ r2 % 2 ^ 26 * 2 ^ 38 + r1 / 2 ^ 13 = V / 256 ^ 8 % 256 ^ 8 ∧ r3 % 2 ^ 39 * 2 ^ 25 + r2 / 2 ^ 26 = V / 256 ^ 8 / 256 ^ 8 % 256 ^ 8 ∧ r4 * 2 ^ 12 + r3 / 2 ^ 39 = V / 256 ^ 8 / 256 ^ 8 / 256 ^ 8 := by
  subst hV
  refine ⟨by omega, by omega, by omega, by omega⟩
theorem pkL_r {r : List (BitVec 64)} (h : b5 (2 ^ 51) r) : pkL r = bytesN 32 (v5 r) := by
  obtain ⟨h0, h1, h2, h3, h4⟩ := h
  unfold pkL
  rw [b8z_eq, b8z_eq, b8z_eq, b8z_eq]
  rw [orS (r.getD 1 0) (r.getD 0 0) 51 ((r.getD 1 0).toNat % 2 ^ 13) (by omega) h0]
  rw [orS (r.getD 2 0) (r.getD 1 0 >>> 13) 38 ((r.getD 2 0).toNat % 2 ^ 26) (by omega) (by rw [shr_nat]; omega)]
  rw [orS (r.getD 3 0) (r.getD 2 0 >>> 26) 25 ((r.getD 3 0).toNat % 2 ^ 39) (by omega) (by rw [shr_nat]; omega)]
  rw [orS (r.getD 4 0) (r.getD 3 0 >>> 39) 12 (r.getD 4 0).toNat (by omega) (by rw [shr_nat]; omega)]
  rw [shr_nat, shr_nat, shr_nat]
  obtain ⟨p0, p1, p2, p3⟩ := pk_nat h0 h1 h2 h3 h4 (V := v5 r) rfl
  rw [p0, p1, p2, p3, bytesN_mod, bytesN_mod, bytesN_mod]
  rw [bytesN_add 8 24, bytesN_add 8 16, bytesN_add 8 8]
end Go.Sx

set_option maxRecDepth 100000
set_option linter.unusedVariables false
namespace Go.Sx
open Go.Proofs
theorem fpow_mod (z e : Nat) : fpow (z % P25) e = fpow z e := by unfold fpow; rw [← Nat.pow_mod]
theorem finv_mod (z : Nat) : finv (z % P25) = finv z := fpow_mod z _
theorem fmul_modl (x f : Nat) : fmul (x % P25) f = fmul x f := by unfold fmul; rw [Nat.mod_mul_mod]
def xend (r : W5 × BitVec 64) : Nat := bif decide (r.2.toNat = 1) then fmul r.1.x3 (finv r.1.z3) else fmul r.1.x2 (finv r.1.z2)
theorem xend_0 {r : W5 × BitVec 64} (h : r.2.toNat = 0) : xend r = fmul r.1.x2 (finv r.1.z2) := by
  unfold xend
  rw [decide_eq_false (by omega), cond_false]
theorem xend_1 {r : W5 × BitVec 64} (h : r.2.toNat = 1) : xend r = fmul r.1.x3 (finv r.1.z3) := by
  unfold xend
  rw [decide_eq_true h, cond_true]
theorem x25519_def (s p : List (BitVec 8)) : x25519 s p = bytesN 32 (xend (ladJ (leN (clampB s)) ⟨leN (maskP p), 1, 0, leN (maskP p), 1⟩ 255)) := by
  unfold x25519 xlad xend; rfl
theorem smF_def (s p : List (BitVec 8)) : smF s p = smFin (ljS (clampE s) (sbL p) (l60 (sbL p)) 255).1 (ljS (clampE s) (sbL p) (l60 (sbL p)) 255).2 := by
  unfold smF; rfl
attribute [local irreducible] finv fmul in
theorem smF_eq (s p : List (BitVec 8)) (ls : s.length = 32) (lp : p.length = 32) : smF s p = x25519 s p := by
  have S := sbL_r p
  have hx1 : leN (maskP p) % P25 = r5 (sbL p) := by unfold r5; rw [S.1, mask_nat p lp]
  have one : (1 : Nat) % P25 = r5 one5 := by kernel_rfl
  have zer : (0 : Nat) % P25 = r5 (List.replicate 5 0) := by kernel_rfl
  have t1 : T5 one5 := by unfold T5 b5; decide
  have t0 : T5 (List.replicate 5 0) := by unfold T5 b5; decide
  have R0 : Rel ⟨leN (maskP p), 1, 0, leN (maskP p), 1⟩ (sbL p) (l60 (sbL p)) := ⟨hx1, one, zer, hx1, one, S.2, t1, t0, S.2, t1⟩
  obtain ⟨R, h2, h3⟩ := lad_rel (clampE s) R0 255 (Nat.le_refl _)
  rw [clamp_eq] at R h2 h3
  rw [smF_def, x25519_def, clamp_eq]
  generalize ladJ (leN (clampB s)) ⟨leN (maskP p), 1, 0, leN (maskP p), 1⟩ 255 = A at *
  generalize ljS (clampB s) (sbL p) (l60 (sbL p)) 255 = C at *
  rw [h2]
  have key : ∀ (x z : List (BitVec 64)) (X Z : Nat), X % P25 = r5 x → Z % P25 = r5 z → T5 x → T5 z → pkL (rdL (m5 (lit 0 5 x) (invL (lit 0 5 z)))) = bytesN 32 (fmul X (finv Z)) := by
    intro x z X Z hx hz tx tz
    have I := invL_r (a := lit 0 5 z) tz
    have M := m5_r (a := lit 0 5 x) tx I.2
    have D := rdL_r (a := m5 (lit 0 5 x) (invL (lit 0 5 z)))
    rw [pkL_r D.2, D.1, M.1, I.1]
    have e1 : r5 (lit 0 5 x) = X % P25 := hx.symm
    have e2 : r5 (lit 0 5 z) = Z % P25 := hz.symm
    have e3 : finv (Z % P25) = finv Z := finv_mod Z
    rw [e1, e2, e3]
    exact congrArg (bytesN 32) (fmul_modl X _)
  rcases Nat.le_one_iff_eq_zero_or_eq_one.1 h3 with h | h
  · rw [xend_0 h, h]
    unfold smFin
    rw [show (((0 : Nat) : Int)) = 0 from rfl, (sw0 _ _).1, (sw0 _ _).1]
    exact key _ _ _ _ R.e2 R.f2 R.t2 R.u2
  · rw [xend_1 h, h]
    unfold smFin
    rw [show (((1 : Nat) : Int)) = 1 from rfl, (sw1 _ _).1, (sw1 _ _).1]
    exact key _ _ _ _ R.e3 R.f3 R.t3 R.u3
end Go.Sx
