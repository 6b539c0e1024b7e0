/- Words of 128 bits of the field's elements. The field's product and square: contracts, one for each way the pointers are shared. The field's repeated square: contracts. The field's functions: hooks. The field's functions: contracts. The field's functions of bytes: contracts. The field's functions: those that are walked into. The field's inverse. x25519ScalarMult: the states. Conditions: none. -/
import Derived.Test.YtbkobeclkeojoaaGreatDoorSx37
import Derived.Test.YtbkobeclkeojoaaGreatDoorS1
import Derived.Test.YtbkobeclkeojoaaGreatDoorQ2
set_option maxRecDepth 1000000
set_option linter.unusedVariables false
namespace Go.Sx
open Go.Proofs

/-- the upper half of a product, by halves -/
def mulH (x y : BitVec 64) : BitVec 64 :=
  let x0 := x &&& 4294967295#64
  let x1 := x >>> 32
  let y0 := y &&& 4294967295#64
  let y1 := y >>> 32
  let w0 := x0 * y0
  let t := x1 * y0 + w0 >>> 32
  let w1 := (t &&& 4294967295#64) + x0 * y1
  x1 * y1 + t >>> 32 + w1 >>> 32

theorem mulH_eq (x y : BitVec 64) : mulH x y = mhi x y := by
  apply BitVec.eq_of_toNat_eq
  have hx := x.isLt
  have hy := y.isLt
  have a0 := and_low x 32 4294967295#64 rfl
  have b0 := and_low y 32 4294967295#64 rfl
  have a1 := shr_nat x 32
  have b1 := shr_nat y 32
  have ex : x.toNat = (x >>> 32).toNat * 2 ^ 32 + (x &&& 4294967295#64).toNat := by omega
  have ey : y.toNat = (y >>> 32).toNat * 2 ^ 32 + (y &&& 4294967295#64).toNat := by omega
  rw [mhi_nat, ex, ey]
  unfold mulH
  dsimp only
  have l0 : (x &&& 4294967295#64).toNat ≤ 2 ^ 32 - 1 := by omega
  have l1 : (x >>> 32).toNat ≤ 2 ^ 32 - 1 := by omega
  have m0 : (y &&& 4294967295#64).toNat ≤ 2 ^ 32 - 1 := by omega
  have m1 : (y >>> 32).toNat ≤ 2 ^ 32 - 1 := by omega
  clear ex ey a0 a1 b0 b1 hx hy
  generalize (x &&& 4294967295#64) = X0 at *
  generalize (x >>> 32) = X1 at *
  generalize (y &&& 4294967295#64) = Y0 at *
  generalize (y >>> 32) = Y1 at *
  have p00 : X0.toNat * Y0.toNat ≤ (2 ^ 32 - 1) * (2 ^ 32 - 1) := Nat.mul_le_mul l0 m0
  have p01 : X0.toNat * Y1.toNat ≤ (2 ^ 32 - 1) * (2 ^ 32 - 1) := Nat.mul_le_mul l0 m1
  have p10 : X1.toNat * Y0.toNat ≤ (2 ^ 32 - 1) * (2 ^ 32 - 1) := Nat.mul_le_mul l1 m0
  have p11 : X1.toNat * Y1.toNat ≤ (2 ^ 32 - 1) * (2 ^ 32 - 1) := Nat.mul_le_mul l1 m1
  have e : (X1.toNat * 2 ^ 32 + X0.toNat) * (Y1.toNat * 2 ^ 32 + Y0.toNat) = X1.toNat * Y1.toNat * 2 ^ 64 + (X1.toNat * Y0.toNat + X0.toNat * Y1.toNat) * 2 ^ 32 + X0.toNat * Y0.toNat := by grind
  rw [e]
  have q00 : (X0 * Y0).toNat = X0.toNat * Y0.toNat := by rw [BitVec.toNat_mul, Nat.mod_eq_of_lt (by omega)]
  have q01 : (X0 * Y1).toNat = X0.toNat * Y1.toNat := by rw [BitVec.toNat_mul, Nat.mod_eq_of_lt (by omega)]
  have q10 : (X1 * Y0).toNat = X1.toNat * Y0.toNat := by rw [BitVec.toNat_mul, Nat.mod_eq_of_lt (by omega)]
  have q11 : (X1 * Y1).toNat = X1.toNat * Y1.toNat := by rw [BitVec.toNat_mul, Nat.mod_eq_of_lt (by omega)]
  generalize X0.toNat * Y0.toNat = P00 at *
  generalize X0.toNat * Y1.toNat = P01 at *
  generalize X1.toNat * Y0.toNat = P10 at *
  generalize X1.toNat * Y1.toNat = P11 at *
  generalize X0 * Y0 = W00 at *
  generalize X0 * Y1 = W01 at *
  generalize X1 * Y0 = W10 at *
  generalize X1 * Y1 = W11 at *
  have t1 : (W10 + W00 >>> 32).toNat = P10 + P00 / 2 ^ 32 := by rw [BitVec.toNat_add, shr_nat, q10, q00]; omega
  generalize W10 + W00 >>> 32 = T at *
  have t2 : (T &&& 4294967295#64).toNat = (P10 + P00 / 2 ^ 32) % 2 ^ 32 := by rw [and_low T 32 _ rfl, t1]
  have t3 : ((T &&& 4294967295#64) + W01).toNat = (P10 + P00 / 2 ^ 32) % 2 ^ 32 + P01 := by rw [BitVec.toNat_add, t2, q01]; omega
  generalize (T &&& 4294967295#64) + W01 = U at *
  rw [BitVec.toNat_add, BitVec.toNat_add, shr_nat, shr_nat, t1, t3, q11]
  omega

theorem mul1 (B : Nat) (x y : BitVec 64) : FnE P0 B 2 104 [.one (.s (.u64 x)), .one (.s (.u64 y))] [] 2 ⟨.tup [.s (.u64 (mulH x y)), .s (.u64 (x * y))], [], 2, .eff, []⟩ := by
  refine FnE.tri (cx := cxb true) (sz := 51) (fn := Tryz.f104) (c := bodyOf Tryz.f104) T0ok (by kernel_rfl) (by kernel_rfl) (by kernel_rfl) (by kernel_rfl) (by kernel_rfl) (by kernel_rfl) (Nat.le_refl _) ?_
  exact Tri.ret (cx := cxb true) mix T0ok (H0ok B true) 0 noOrc [4, 5] [] 2 ⟨[(4, .one (.s (.u64 (mulH x y)))), (5, .one (.s (.u64 (x * y))))], [], 2⟩ [] .r (by kernel_rfl) obNil (by kernel_rfl) rfl [] [] (by kernel_rfl) obNil

def mulCt : Ct := ⟨[.val, .val], [], fun vs ds gs => match vs, ds, gs with
  | [.one (.s (.u64 x)), .one (.s (.u64 y))], [], [] => some ⟨.tup [.s (.u64 (mhi x y)), .s (.u64 (x * y))], [], [], []⟩
  | _, _, _ => none⟩

theorem mulW_ok (B : Nat) : mulCt.Ok P0 B 2 104 := by
  intro vs ds gs out h hpre hn
  unfold mulCt at h
  dsimp only at h
  split at h <;> first | (cases h; done) | skip
  rename_i x y
  cases h
  have := mul1 B x y
  rw [mulH_eq] at this
  exact this

noncomputable def HFw (c : Bool) : Hook := hookC 104 (hookOf (cxb c) mulCt) (hookC 90 exAdd (H0 c))
theorem HFwok (B : Nat) (c : Bool) : HookOk P0 B 2 (HFw c) := .cons (.ct (cx := cxb c) (mulW_ok B)) (.cons (HkOk.exAdd (fn := Tryz.f90) ⟨by kernel_rfl, by kernel_rfl, by kernel_rfl, by kernel_rfl, by kernel_rfl⟩) (H0ok B c))
noncomputable def in97 : In := ⟨Tryz.f97, bodyOf Tryz.f97, 0, .read, noOrc⟩
theorem io97 : InOk P0 97 in97 := ⟨by kernel_rfl, by kernel_rfl, by kernel_rfl⟩
noncomputable def HFm0 (c : Bool) : Hook := hookC 97 (inl (cxb c) (HFw c) in97) (HFw c)
theorem HFm0ok (B : Nat) (c : Bool) : HookOk P0 B 2 (HFm0 c) := HookOk.cons (HkOk.inl (cx := cxb c) mix T0ok (HFwok B c) io97) (HFwok B c)
noncomputable def in99 : In := ⟨Tryz.f99, bodyOf Tryz.f99, 0, .read, noOrc⟩
theorem io99 : InOk P0 99 in99 := ⟨by kernel_rfl, by kernel_rfl, by kernel_rfl⟩
noncomputable def HFm1 (c : Bool) : Hook := hookC 99 (inl (cxb c) (HFm0 c) in99) (HFm0 c)
theorem HFm1ok (B : Nat) (c : Bool) : HookOk P0 B 2 (HFm1 c) := HookOk.cons (HkOk.inl (cx := cxb c) mix T0ok (HFm0ok B c) io99) (HFm0ok B c)
noncomputable def in103 : In := ⟨Tryz.f103, bodyOf Tryz.f103, 0, .read, noOrc⟩
theorem io103 : InOk P0 103 in103 := ⟨by kernel_rfl, by kernel_rfl, by kernel_rfl⟩
noncomputable def HFm (c : Bool) : Hook := hookC 103 (inl (cxb c) (HFm1 c) in103) (HFm1 c)
theorem HFmok (B : Nat) (c : Bool) : HookOk P0 B 2 (HFm c) := HookOk.cons (HkOk.inl (cx := cxb c) mix T0ok (HFm1ok B c) io103) (HFm1ok B c)
/-- 128 bits: the lower and the upper word -/
abbrev U2 := BitVec 64 × BitVec 64
def mu (a b : BitVec 64) : U2 := (a * b, mhi a b)
def am (v : U2) (a b : BitVec 64) : U2 := (a * b + v.1 + 0#64, mhi a b + v.2 + acy (a * b) v.1 0#64)
def m19 (v : BitVec 64) : BitVec 64 := v + (v + v <<< 3) <<< 1
def sh51 (v : U2) : BitVec 64 := v.2 <<< 13 ||| v.1 >>> 51
def mk51 : BitVec 64 := 2251799813685247#64
/-- the same over lists -/
def amL (v : List (BitVec 64)) (a b : BitVec 64) : List (BitVec 64) := [(am (v.getD 0 0, v.getD 1 0) a b).1, (am (v.getD 0 0, v.getD 1 0) a b).2]
def amCt (f g : BitVec 64 → BitVec 64) : Ct := ⟨[.val, .val, .val], [], fun vs ds gs => match vs, ds, gs with
  | [.one (.ag [.d64 v]), .one (.s (.u64 a)), .one (.s (.u64 b))], [], [] => bif Nat.beq v.length 2 then some ⟨.one (.ag [.d64 (amL v (f a) (g b))]), [], [], []⟩ else none
  | _, _, _ => none⟩
theorem amCt_ok (B : Nat) (f g : BitVec 64 → BitVec 64) (fn : FuncId) (h1 : ∀ (v : List (BitVec 64)) (a b : BitVec 64), FnE P0 B 2 fn [.one (.ag [.d64 (lit 0 2 v)]), .one (.s (.u64 a)), .one (.s (.u64 b))] [] 2 ⟨.one (.ag [.d64 (amL (lit 0 2 v) (f a) (g b))]), [], 2, .eff, []⟩) : (amCt f g).Ok P0 B 2 fn := by
  intro vs ds gs out h hpre hn
  unfold amCt at h
  dsimp only at h
  split at h <;> first | (cases h; done) | skip
  rename_i v a b
  cases hb : Nat.beq v.length 2 with
  | false => rw [hb] at h; cases h
  | true =>
    rw [hb, cond_true] at h
    cases h
    have := h1 v a b
    rw [lit_eq (Nat.eq_of_beq_eq_true hb)] at this
    exact this
theorem addMul_ok (B : Nat) : (amCt id id).Ok P0 B 2 102 := amCt_ok B _ _ _ fun v a b => by
  refine FnE.tri (cx := cxb true) (sz := 34) (fn := Tryz.f102) (c := bodyOf Tryz.f102) T0ok (by kernel_rfl) (by kernel_rfl) (by kernel_rfl) (by kernel_rfl) (by kernel_rfl) (by kernel_rfl) (Nat.le_refl _) ?_
  exact Tri.ret (cx := cxb true) mix T0ok (HFmok B true) 0 noOrc [6] [2 + 1] (2 + 9) ⟨[(6, .one (.s (.p (2 + 1) 0)))], [(2 + 1, ⟨2, .d64 (amL (lit 0 2 v) a b), true, false, false⟩)], 2 + 9⟩ [(0#64).toNat ≤ 1, (acy (a * b) (v.getD 0 0) 0#64).toNat ≤ 1] .r (by kernel_rfl) (obCons (by decide) <| obCons (acy_le (by decide)) obNil) (by kernel_rfl) rfl [] [] (by kernel_rfl) obNil
theorem addMul19_ok (B : Nat) : (amCt m19 id).Ok P0 B 2 101 := amCt_ok B _ _ _ fun v a b => by
  refine FnE.tri (cx := cxb true) (sz := 35) (fn := Tryz.f101) (c := bodyOf Tryz.f101) T0ok (by kernel_rfl) (by kernel_rfl) (by kernel_rfl) (by kernel_rfl) (by kernel_rfl) (by kernel_rfl) (Nat.le_refl _) ?_
  exact Tri.ret (cx := cxb true) mix T0ok (HFmok B true) 0 noOrc [6] [2 + 1] (2 + 9) ⟨[(6, .one (.s (.p (2 + 1) 0)))], [(2 + 1, ⟨2, .d64 (amL (lit 0 2 v) (m19 a) b), true, false, false⟩)], 2 + 9⟩ [(0#64).toNat ≤ 1, (acy ((m19 a) * b) (v.getD 0 0) 0#64).toNat ≤ 1] .r (by kernel_rfl) (obCons (by decide) <| obCons (acy_le (by decide)) obNil) (by kernel_rfl) rfl [] [] (by kernel_rfl) obNil
theorem addMul38_ok (B : Nat) : (amCt m19 (fun x => x * 2#64)).Ok P0 B 2 100 := amCt_ok B _ _ _ fun v a b => by
  refine FnE.tri (cx := cxb true) (sz := 36) (fn := Tryz.f100) (c := bodyOf Tryz.f100) T0ok (by kernel_rfl) (by kernel_rfl) (by kernel_rfl) (by kernel_rfl) (by kernel_rfl) (by kernel_rfl) (Nat.le_refl _) ?_
  exact Tri.ret (cx := cxb true) mix T0ok (HFmok B true) 0 noOrc [6] [2 + 1] (2 + 9) ⟨[(6, .one (.s (.p (2 + 1) 0)))], [(2 + 1, ⟨2, .d64 (amL (lit 0 2 v) (m19 a) (b * 2#64)), true, false, false⟩)], 2 + 9⟩ [(0#64).toNat ≤ 1, (acy ((m19 a) * (b * 2#64)) (v.getD 0 0) 0#64).toNat ≤ 1] .r (by kernel_rfl) (obCons (by decide) <| obCons (acy_le (by decide)) obNil) (by kernel_rfl) rfl [] [] (by kernel_rfl) obNil
noncomputable def HF (c : Bool) : Hook := hookC 102 (hookOf (cxb c) (amCt id id)) (hookC 101 (hookOf (cxb c) (amCt m19 id)) (hookC 100 (hookOf (cxb c) (amCt m19 (fun x => x * 2#64))) (HFm c)))
theorem HFok (B : Nat) (c : Bool) : HookOk P0 B 2 (HF c) := .cons (.ct (cx := cxb c) (addMul_ok B)) (.cons (.ct (cx := cxb c) (addMul19_ok B)) (.cons (.ct (cx := cxb c) (addMul38_ok B)) (HFmok B c)))

/-- five sums of products brought down to five words -/
def redL (r0 r1 r2 r3 r4 : U2) : List (BitVec 64) :=
  let rr0 := (r0.1 &&& mk51) + m19 (sh51 r4)
  let rr1 := (r1.1 &&& mk51) + sh51 r0
  let rr2 := (r2.1 &&& mk51) + sh51 r1
  let rr3 := (r3.1 &&& mk51) + sh51 r2
  let rr4 := (r4.1 &&& mk51) + sh51 r3
  [(rr0 &&& mk51) + m19 (rr4 >>> 51), (rr1 &&& mk51) + rr0 >>> 51, (rr2 &&& mk51) + rr1 >>> 51, (rr3 &&& mk51) + rr2 >>> 51, (rr4 &&& mk51) + rr3 >>> 51]
def mul5 (a0 a1 a2 a3 a4 b0 b1 b2 b3 b4 : BitVec 64) : List (BitVec 64) := redL
  (am (am (am (am (mu a0 b0) (m19 a1) b4) (m19 a2) b3) (m19 a3) b2) (m19 a4) b1)
  (am (am (am (am (mu a0 b1) a1 b0) (m19 a2) b4) (m19 a3) b3) (m19 a4) b2)
  (am (am (am (am (mu a0 b2) a1 b1) a2 b0) (m19 a3) b4) (m19 a4) b3)
  (am (am (am (am (mu a0 b3) a1 b2) a2 b1) a3 b0) (m19 a4) b4)
  (am (am (am (am (mu a0 b4) a1 b3) a2 b2) a3 b1) a4 b0)
def sq5 (a0 a1 a2 a3 a4 : BitVec 64) : List (BitVec 64) := redL
  (am (am (mu a0 a0) (m19 a1) (a4 * 2#64)) (m19 a2) (a3 * 2#64))
  (am (am (mu (a0 * 2#64) a1) (m19 a2) (a4 * 2#64)) (m19 a3) a3)
  (am (am (mu (a0 * 2#64) a2) a1 a1) (m19 a3) (a4 * 2#64))
  (am (am (mu (a0 * 2#64) a3) (a1 * 2#64) a2) (m19 a4) a4)
  (am (am (mu (a0 * 2#64) a4) (a1 * 2#64) a3) a2 a2)
def mulL (a b : List (BitVec 64)) : List (BitVec 64) := mul5 (a.getD 0 0) (a.getD 1 0) (a.getD 2 0) (a.getD 3 0) (a.getD 4 0) (b.getD 0 0) (b.getD 1 0) (b.getD 2 0) (b.getD 3 0) (b.getD 4 0)
def sqL (a : List (BitVec 64)) : List (BitVec 64) := sq5 (a.getD 0 0) (a.getD 1 0) (a.getD 2 0) (a.getD 3 0) (a.getD 4 0)
def sg (l : List (BitVec 64)) (o : Bool) : Seg := ⟨5, .d64 (lit 0 5 l), o, false, false⟩
end Go.Sx

set_option maxRecDepth 1000000
set_option linter.unusedVariables false
namespace Go.Sx
open Go.Proofs
theorem mulD1 (B : Nat) (v a b : List (BitVec 64)) : FnE P0 B 2 98 [.one (.s (.p 2 0)), .one (.s (.p (2 + 1) 0)), .one (.s (.p (2 + 2) 0))] [(2, sg v true), ((2 + 1), sg a false), ((2 + 2), sg b false)] (2 + 3) ⟨.tup [], [(2, sg (mulL a b) true), ((2 + 1), sg a false), ((2 + 2), sg b false)], (2 + 3), .eff, []⟩ := by
  refine FnE.tri (cx := cxb true) (sz := 243) (fn := Tryz.f98) (c := bodyOf Tryz.f98) T0ok (by kernel_rfl) (by kernel_rfl) (by kernel_rfl) (by kernel_rfl) (by kernel_rfl) (by kernel_rfl) (Nat.le_refl _) ?_
  exact Tri.ret (cx := cxb true) mix T0ok (HFok B true) 0 noOrc [] [2, (2 + 1), (2 + 2)] (2 + 3) ⟨[], [(2, sg (mulL a b) true), ((2 + 1), sg a false), ((2 + 2), sg b false)], (2 + 3)⟩ [] .n (by kernel_rfl) obNil (by kernel_rfl) rfl [2, (2 + 1), (2 + 2)] [] (by kernel_rfl) obNil
def mulDCt : Ct := ⟨[.ptr 5 true, .ptr 5 false, .ptr 5 false], [], fun vs ds gs => match vs, ds, gs with
  | [], [.d64 v, .d64 a, .d64 b], [] => bif Nat.beq v.length 5 && Nat.beq a.length 5 && Nat.beq b.length 5 then some ⟨.tup [], [.d64 (lit 0 5 (mulL a b)), .d64 a, .d64 b], [], []⟩ else none
  | _, _, _ => none⟩
theorem mulD_ok (B : Nat) : mulDCt.OkD P0 B 2 98 [0, 1, 2] := by
  intro vs ds gs out h hpre hn
  unfold mulDCt at h
  dsimp only at h
  split at h <;> first | (cases h; done) | skip
  rename_i v a b
  cases hb : (Nat.beq v.length 5 && Nat.beq a.length 5 && Nat.beq b.length 5) with
  | false => rw [hb] at h; cases h
  | true =>
    rw [hb, cond_true] at h
    cases h
    simp only [Bool.and_eq_true] at hb
    have k0 := Nat.eq_of_beq_eq_true hb.1.1
    have k1 := Nat.eq_of_beq_eq_true hb.1.2
    have k2 := Nat.eq_of_beq_eq_true hb.2
    have := mulD1 B v a b
    unfold sg at this
    rw [lit_eq k0, lit_eq k1, lit_eq k2] at this
    simp only [mulDCt, canArgs, segsOf, globs, addM, SegD.len, lit_length, k0, k1, k2]
    exact this

theorem mulA1 (B : Nat) (a b : List (BitVec 64)) : FnE P0 B 2 98 [.one (.s (.p 2 0)), .one (.s (.p 2 0)), .one (.s (.p (2 + 1) 0))] [(2, sg a true), ((2 + 1), sg b false)] (2 + 2) ⟨.tup [], [(2, sg (mulL a b) true), ((2 + 1), sg b false)], (2 + 2), .eff, []⟩ := by
  refine FnE.tri (cx := cxb true) (sz := 243) (fn := Tryz.f98) (c := bodyOf Tryz.f98) T0ok (by kernel_rfl) (by kernel_rfl) (by kernel_rfl) (by kernel_rfl) (by kernel_rfl) (by kernel_rfl) (Nat.le_refl _) ?_
  exact Tri.ret (cx := cxb true) mix T0ok (HFok B true) 0 noOrc [] [2, (2 + 1)] (2 + 2) ⟨[], [(2, sg (mulL a b) true), ((2 + 1), sg b false)], (2 + 2)⟩ [] .n (by kernel_rfl) obNil (by kernel_rfl) rfl [2, (2 + 1)] [] (by kernel_rfl) obNil
def mulACt : Ct := ⟨[.ptr 5 true, .ptr 5 false], [], fun vs ds gs => match vs, ds, gs with
  | [], [.d64 a, .d64 b], [] => bif Nat.beq a.length 5 && Nat.beq b.length 5 then some ⟨.tup [], [.d64 (lit 0 5 (mulL a b)), .d64 b], [], []⟩ else none
  | _, _, _ => none⟩
theorem mulA_ok (B : Nat) : mulACt.OkD P0 B 2 98 [0, 0, 1] := by
  intro vs ds gs out h hpre hn
  unfold mulACt at h
  dsimp only at h
  split at h <;> first | (cases h; done) | skip
  rename_i a b
  cases hb : (Nat.beq a.length 5 && Nat.beq b.length 5) with
  | false => rw [hb] at h; cases h
  | true =>
    rw [hb, cond_true] at h
    cases h
    simp only [Bool.and_eq_true] at hb
    have k0 := Nat.eq_of_beq_eq_true hb.1
    have k1 := Nat.eq_of_beq_eq_true hb.2
    have := mulA1 B a b
    unfold sg at this
    rw [lit_eq k0, lit_eq k1] at this
    simp only [mulACt, canArgs, segsOf, globs, addM, SegD.len, lit_length, k0, k1]
    exact this

theorem mulB1 (B : Nat) (b a : List (BitVec 64)) : FnE P0 B 2 98 [.one (.s (.p 2 0)), .one (.s (.p (2 + 1) 0)), .one (.s (.p 2 0))] [(2, sg b true), ((2 + 1), sg a false)] (2 + 2) ⟨.tup [], [(2, sg (mulL a b) true), ((2 + 1), sg a false)], (2 + 2), .eff, []⟩ := by
  refine FnE.tri (cx := cxb true) (sz := 243) (fn := Tryz.f98) (c := bodyOf Tryz.f98) T0ok (by kernel_rfl) (by kernel_rfl) (by kernel_rfl) (by kernel_rfl) (by kernel_rfl) (by kernel_rfl) (Nat.le_refl _) ?_
  exact Tri.ret (cx := cxb true) mix T0ok (HFok B true) 0 noOrc [] [2, (2 + 1)] (2 + 2) ⟨[], [(2, sg (mulL a b) true), ((2 + 1), sg a false)], (2 + 2)⟩ [] .n (by kernel_rfl) obNil (by kernel_rfl) rfl [2, (2 + 1)] [] (by kernel_rfl) obNil
def mulBCt : Ct := ⟨[.ptr 5 true, .ptr 5 false], [], fun vs ds gs => match vs, ds, gs with
  | [], [.d64 b, .d64 a], [] => bif Nat.beq b.length 5 && Nat.beq a.length 5 then some ⟨.tup [], [.d64 (lit 0 5 (mulL a b)), .d64 a], [], []⟩ else none
  | _, _, _ => none⟩
theorem mulB_ok (B : Nat) : mulBCt.OkD P0 B 2 98 [0, 1, 0] := by
  intro vs ds gs out h hpre hn
  unfold mulBCt at h
  dsimp only at h
  split at h <;> first | (cases h; done) | skip
  rename_i b a
  cases hb : (Nat.beq b.length 5 && Nat.beq a.length 5) with
  | false => rw [hb] at h; cases h
  | true =>
    rw [hb, cond_true] at h
    cases h
    simp only [Bool.and_eq_true] at hb
    have k0 := Nat.eq_of_beq_eq_true hb.1
    have k1 := Nat.eq_of_beq_eq_true hb.2
    have := mulB1 B b a
    unfold sg at this
    rw [lit_eq k0, lit_eq k1] at this
    simp only [mulBCt, canArgs, segsOf, globs, addM, SegD.len, lit_length, k0, k1]
    exact this

theorem sqD1 (B : Nat) (v a : List (BitVec 64)) : FnE P0 B 2 86 [.one (.s (.p 2 0)), .one (.s (.p (2 + 1) 0))] [(2, sg v true), ((2 + 1), sg a false)] (2 + 2) ⟨.tup [], [(2, sg (sqL a) true), ((2 + 1), sg a false)], (2 + 2), .eff, []⟩ := by
  refine FnE.tri (cx := cxb true) (sz := 182) (fn := Tryz.f86) (c := bodyOf Tryz.f86) T0ok (by kernel_rfl) (by kernel_rfl) (by kernel_rfl) (by kernel_rfl) (by kernel_rfl) (by kernel_rfl) (Nat.le_refl _) ?_
  exact Tri.ret (cx := cxb true) mix T0ok (HFok B true) 0 noOrc [] [2, (2 + 1)] (2 + 2) ⟨[], [(2, sg (sqL a) true), ((2 + 1), sg a false)], (2 + 2)⟩ [] .n (by kernel_rfl) obNil (by kernel_rfl) rfl [2, (2 + 1)] [] (by kernel_rfl) obNil
def sqDCt : Ct := ⟨[.ptr 5 true, .ptr 5 false], [], fun vs ds gs => match vs, ds, gs with
  | [], [.d64 v, .d64 a], [] => bif Nat.beq v.length 5 && Nat.beq a.length 5 then some ⟨.tup [], [.d64 (lit 0 5 (sqL a)), .d64 a], [], []⟩ else none
  | _, _, _ => none⟩
theorem sqD_ok (B : Nat) : sqDCt.OkD P0 B 2 86 [0, 1] := by
  intro vs ds gs out h hpre hn
  unfold sqDCt at h
  dsimp only at h
  split at h <;> first | (cases h; done) | skip
  rename_i v a
  cases hb : (Nat.beq v.length 5 && Nat.beq a.length 5) with
  | false => rw [hb] at h; cases h
  | true =>
    rw [hb, cond_true] at h
    cases h
    simp only [Bool.and_eq_true] at hb
    have k0 := Nat.eq_of_beq_eq_true hb.1
    have k1 := Nat.eq_of_beq_eq_true hb.2
    have := sqD1 B v a
    unfold sg at this
    rw [lit_eq k0, lit_eq k1] at this
    simp only [sqDCt, canArgs, segsOf, globs, addM, SegD.len, lit_length, k0, k1]
    exact this

theorem sqA1 (B : Nat) (a : List (BitVec 64)) : FnE P0 B 2 86 [.one (.s (.p 2 0)), .one (.s (.p 2 0))] [(2, sg a true)] (2 + 1) ⟨.tup [], [(2, sg (sqL a) true)], (2 + 1), .eff, []⟩ := by
  refine FnE.tri (cx := cxb true) (sz := 182) (fn := Tryz.f86) (c := bodyOf Tryz.f86) T0ok (by kernel_rfl) (by kernel_rfl) (by kernel_rfl) (by kernel_rfl) (by kernel_rfl) (by kernel_rfl) (Nat.le_refl _) ?_
  exact Tri.ret (cx := cxb true) mix T0ok (HFok B true) 0 noOrc [] [2] (2 + 1) ⟨[], [(2, sg (sqL a) true)], (2 + 1)⟩ [] .n (by kernel_rfl) obNil (by kernel_rfl) rfl [2] [] (by kernel_rfl) obNil
def sqACt : Ct := ⟨[.ptr 5 true], [], fun vs ds gs => match vs, ds, gs with
  | [], [.d64 a], [] => bif Nat.beq a.length 5 then some ⟨.tup [], [.d64 (lit 0 5 (sqL a))], [], []⟩ else none
  | _, _, _ => none⟩
theorem sqA_ok (B : Nat) : sqACt.OkD P0 B 2 86 [0, 0] := by
  intro vs ds gs out h hpre hn
  unfold sqACt at h
  dsimp only at h
  split at h <;> first | (cases h; done) | skip
  rename_i a
  cases hb : (Nat.beq a.length 5) with
  | false => rw [hb] at h; cases h
  | true =>
    rw [hb, cond_true] at h
    cases h
    have k0 := Nat.eq_of_beq_eq_true hb
    have := sqA1 B a
    unfold sg at this
    rw [lit_eq k0] at this
    simp only [sqACt, canArgs, segsOf, globs, addM, SegD.len, lit_length, k0]
    exact this

end Go.Sx

set_option maxRecDepth 1000000
set_option linter.unusedVariables false
namespace Go.Sx
open Go.Proofs
/-- squared n times -/
def sqN : Nat → List (BitVec 64) → List (BitVec 64)
  | 0, a => a
  | n + 1, a => sqL (sqN n a)
def snSt (m : Mem) (nx : Nat) (x : List (BitVec 64)) (n i : Int) : St := ⟨[(0, .one (.s (.p 2 0))), (6, .one (.s (.u64 (x.getD 0 0)))), (7, .one (.s (.u64 (x.getD 1 0)))), (8, .one (.s (.u64 (x.getD 2 0)))), (9, .one (.s (.u64 (x.getD 3 0)))), (10, .one (.s (.u64 (x.getD 4 0)))), (46, .one (.s (.i n))), (47, .one (.s (.i i)))], m, nx⟩
theorem snD1 (B : Nat) (v a : List (BitVec 64)) (n : Nat) (hn : n < 1000) : FnE P0 B 2 105 [.one (.s (.p 2 0)), .one (.s (.p (2 + 1) 0)), .one (.s (.i (n : Int)))] [(2, sg v true), ((2 + 1), sg a false)] (2 + 2) ⟨.tup [], [(2, sg (sqN n a) true), ((2 + 1), sg a false)], (2 + 2), .eff, []⟩ := by
  refine FnE.tri (cx := cxb true) (sz := 193) (fn := Tryz.f105) (c := bodyOf Tryz.f105) T0ok (by kernel_rfl) (by kernel_rfl) (by kernel_rfl) (by kernel_rfl) (by kernel_rfl) (by kernel_rfl) (Nat.le_refl _) ?_
  refine Tri.step (cx := cxb true) mix T0ok (HFok B true) 6 0 noOrc [0, 6, 7, 8, 9, 10, 46, 47] [2, (2 + 1)] (2 + 2) (snSt [(2, sg v true), ((2 + 1), sg a false)] (2 + 2) a (n : Int) 0) [] (by kernel_rfl) obNil (by kernel_rfl) ?_
  refine Tri.loop (id := 0) (ι := { i : Nat // i ≤ n }) rfl (fun i => snSt [(2, sg v true), ((2 + 1), sg a false)] (2 + 2) (sqN i.1 a) (n : Int) (i.1 : Int)) (fun i => n - i.1) ⟨0, Nat.zero_le _⟩ rfl (fun i => Nat.le_refl _)
    (R1 := fun st => st = snSt [(2, sg v true), ((2 + 1), sg a false)] (2 + 2) (sqN n a) (n : Int) (n : Int)) (fun ⟨i, hi⟩ => ?_) (fun s' hs => ?_)
  · dsimp only
    rcases Nat.lt_or_ge i n with hl | hl
    · have h0 : decide ((i : Int) < (n : Int)) = true := decide_eq_true (by omega)
      have hr : rng ((i : Int) + 1) := by unfold rng; omega
      have e1 : ((i + 1 : Nat) : Int) = (i : Int) + 1 := by omega
      have e2 : sqN (i + 1) a = sqL (sqN i a) := rfl
      refine Tri.step (cx := cxb true) mix T0ok (HFok B true) 3 0 (orcL [(48, true)]) [0, 6, 7, 8, 9, 10, 46, 47] [2, (2 + 1)] (2 + 2) (snSt [(2, sg v true), ((2 + 1), sg a false)] (2 + 2) (sqL (sqN i a)) (n : Int) (i : Int)) [decide ((i : Int) < (n : Int)) = true] (by kernel_rfl) (obCons h0 obNil) (by kernel_rfl) ?_
      refine Tri.chg (cx := cxb false) rfl ?_
      refine Tri.fin (cx := cxb false) mix T0ok (HFok B false) 0 noOrc [0, 6, 7, 8, 9, 10, 46, 47] [2, (2 + 1)] (2 + 2) .n (snSt [(2, sg v true), ((2 + 1), sg a false)] (2 + 2) (sqL (sqN i a)) (n : Int) ((i : Int) + 1)) [rng ((i : Int) + 1)] (by kernel_rfl) (obCons hr obNil) (by kernel_rfl) ⟨⟨i + 1, hl⟩, by show n - (i + 1) < n - i; omega, ?_⟩
      dsimp only
      rw [e1, e2]
    · have e : i = n := by omega
      subst e
      refine Tri.fin (cx := cxb true) mix T0ok (HFok B true) 0 (orcL [(48, false)]) [0, 6, 7, 8, 9, 10, 46, 47] [2, (2 + 1)] (2 + 2) (.x 0) (snSt [(2, sg v true), ((2 + 1), sg a false)] (2 + 2) (sqN i a) (i : Int) (i : Int)) [decide ((i : Int) < (i : Int)) = false] (by kernel_rfl) (obCons (decide_eq_false (by omega)) obNil) (by kernel_rfl) ?_
      show snSt [(2, sg v true), ((2 + 1), sg a false)] (2 + 2) (sqN i a) (i : Int) (i : Int) = snSt [(2, sg v true), ((2 + 1), sg a false)] (2 + 2) (sqN i a) (i : Int) (i : Int)
      rfl
  · subst hs
    exact Tri.ret (cx := cxb true) mix T0ok (HFok B true) 0 noOrc [] [2, (2 + 1)] (2 + 2) ⟨[], [(2, sg (sqN n a) true), ((2 + 1), sg a false)], (2 + 2)⟩ [] .n (by kernel_rfl) obNil (by kernel_rfl) rfl [2, (2 + 1)] [] (by kernel_rfl) obNil
def snDCt : Ct := ⟨[.ptr 5 true, .ptr 5 false, .val], [], fun vs ds gs => match vs, ds, gs with
  | [.one (.s (.i n))], [.d64 v, .d64 a], [] => bif Nat.beq v.length 5 && Nat.beq a.length 5 then some ⟨.tup [], [.d64 (lit 0 5 (sqN n.toNat a)), .d64 a], [], [0 ≤ n ∧ n < 1000]⟩ else none
  | _, _, _ => none⟩
theorem snD_ok (B : Nat) : snDCt.Ok P0 B 2 105 := by
  intro vs ds gs out h hpre hn
  unfold snDCt at h
  dsimp only at h
  split at h <;> first | (cases h; done) | skip
  rename_i n v a
  cases hb : (Nat.beq v.length 5 && Nat.beq a.length 5) with
  | false => rw [hb] at h; cases h
  | true =>
    rw [hb, cond_true] at h
    cases h
    obtain ⟨p1, p2⟩ := hpre _ List.mem_cons_self
    obtain ⟨k, rfl⟩ : ∃ k : Nat, n = (k : Int) := ⟨n.toNat, by omega⟩
    simp only [Bool.and_eq_true] at hb
    have k0 := Nat.eq_of_beq_eq_true hb.1
    have k1 := Nat.eq_of_beq_eq_true hb.2
    have := snD1 B v a k (by omega)
    unfold sg at this
    rw [lit_eq k0, lit_eq k1] at this
    simp only [snDCt, canArgs, segsOf, globs, addM, SegD.len, lit_length, Int.toNat_natCast, k0, k1]
    exact this

theorem snA1 (B : Nat) (a : List (BitVec 64)) (n : Nat) (hn : n < 1000) : FnE P0 B 2 105 [.one (.s (.p 2 0)), .one (.s (.p 2 0)), .one (.s (.i (n : Int)))] [(2, sg a true)] (2 + 1) ⟨.tup [], [(2, sg (sqN n a) true)], (2 + 1), .eff, []⟩ := by
  refine FnE.tri (cx := cxb true) (sz := 193) (fn := Tryz.f105) (c := bodyOf Tryz.f105) T0ok (by kernel_rfl) (by kernel_rfl) (by kernel_rfl) (by kernel_rfl) (by kernel_rfl) (by kernel_rfl) (Nat.le_refl _) ?_
  refine Tri.step (cx := cxb true) mix T0ok (HFok B true) 6 0 noOrc [0, 6, 7, 8, 9, 10, 46, 47] [2] (2 + 1) (snSt [(2, sg a true)] (2 + 1) a (n : Int) 0) [] (by kernel_rfl) obNil (by kernel_rfl) ?_
  refine Tri.loop (id := 0) (ι := { i : Nat // i ≤ n }) rfl (fun i => snSt [(2, sg a true)] (2 + 1) (sqN i.1 a) (n : Int) (i.1 : Int)) (fun i => n - i.1) ⟨0, Nat.zero_le _⟩ rfl (fun i => Nat.le_refl _)
    (R1 := fun st => st = snSt [(2, sg a true)] (2 + 1) (sqN n a) (n : Int) (n : Int)) (fun ⟨i, hi⟩ => ?_) (fun s' hs => ?_)
  · dsimp only
    rcases Nat.lt_or_ge i n with hl | hl
    · have h0 : decide ((i : Int) < (n : Int)) = true := decide_eq_true (by omega)
      have hr : rng ((i : Int) + 1) := by unfold rng; omega
      have e1 : ((i + 1 : Nat) : Int) = (i : Int) + 1 := by omega
      have e2 : sqN (i + 1) a = sqL (sqN i a) := rfl
      refine Tri.step (cx := cxb true) mix T0ok (HFok B true) 3 0 (orcL [(48, true)]) [0, 6, 7, 8, 9, 10, 46, 47] [2] (2 + 1) (snSt [(2, sg a true)] (2 + 1) (sqL (sqN i a)) (n : Int) (i : Int)) [decide ((i : Int) < (n : Int)) = true] (by kernel_rfl) (obCons h0 obNil) (by kernel_rfl) ?_
      refine Tri.chg (cx := cxb false) rfl ?_
      refine Tri.fin (cx := cxb false) mix T0ok (HFok B false) 0 noOrc [0, 6, 7, 8, 9, 10, 46, 47] [2] (2 + 1) .n (snSt [(2, sg a true)] (2 + 1) (sqL (sqN i a)) (n : Int) ((i : Int) + 1)) [rng ((i : Int) + 1)] (by kernel_rfl) (obCons hr obNil) (by kernel_rfl) ⟨⟨i + 1, hl⟩, by show n - (i + 1) < n - i; omega, ?_⟩
      dsimp only
      rw [e1, e2]
    · have e : i = n := by omega
      subst e
      refine Tri.fin (cx := cxb true) mix T0ok (HFok B true) 0 (orcL [(48, false)]) [0, 6, 7, 8, 9, 10, 46, 47] [2] (2 + 1) (.x 0) (snSt [(2, sg a true)] (2 + 1) (sqN i a) (i : Int) (i : Int)) [decide ((i : Int) < (i : Int)) = false] (by kernel_rfl) (obCons (decide_eq_false (by omega)) obNil) (by kernel_rfl) ?_
      show snSt [(2, sg a true)] (2 + 1) (sqN i a) (i : Int) (i : Int) = snSt [(2, sg a true)] (2 + 1) (sqN i a) (i : Int) (i : Int)
      rfl
  · subst hs
    exact Tri.ret (cx := cxb true) mix T0ok (HFok B true) 0 noOrc [] [2] (2 + 1) ⟨[], [(2, sg (sqN n a) true)], (2 + 1)⟩ [] .n (by kernel_rfl) obNil (by kernel_rfl) rfl [2] [] (by kernel_rfl) obNil
def snACt : Ct := ⟨[.ptr 5 true, .val], [], fun vs ds gs => match vs, ds, gs with
  | [.one (.s (.i n))], [.d64 a], [] => bif Nat.beq a.length 5 then some ⟨.tup [], [.d64 (lit 0 5 (sqN n.toNat a))], [], [0 ≤ n ∧ n < 1000]⟩ else none
  | _, _, _ => none⟩
theorem snA_ok (B : Nat) : snACt.OkD P0 B 2 105 [0, 0, 1] := by
  intro vs ds gs out h hpre hn
  unfold snACt at h
  dsimp only at h
  split at h <;> first | (cases h; done) | skip
  rename_i n a
  cases hb : (Nat.beq a.length 5) with
  | false => rw [hb] at h; cases h
  | true =>
    rw [hb, cond_true] at h
    cases h
    obtain ⟨p1, p2⟩ := hpre _ List.mem_cons_self
    obtain ⟨k, rfl⟩ : ∃ k : Nat, n = (k : Int) := ⟨n.toNat, by omega⟩
    have k0 := Nat.eq_of_beq_eq_true hb
    have := snA1 B a k (by omega)
    unfold sg at this
    rw [lit_eq k0] at this
    simp only [snACt, canArgs, segsOf, globs, addM, SegD.len, lit_length, Int.toNat_natCast, k0]
    exact this

end Go.Sx

set_option maxRecDepth 1000000
set_option linter.unusedVariables false
namespace Go.Sx
open Go.Proofs
noncomputable def HE0 (c : Bool) : Hook := hookC 98 (hookAlt (hookD (cxb c) mulDCt [0, 1, 2] [0, 1, 2]) (hookAlt (hookD (cxb c) mulACt [0, 2] [0, 0, 1]) (hookD (cxb c) mulBCt [0, 1] [0, 1, 0])))
  (hookC 86 (hookAlt (hookD (cxb c) sqDCt [0, 1] [0, 1]) (hookD (cxb c) sqACt [0] [0, 0]))
  (hookC 105 (hookAlt (hookOf (cxb c) snDCt) (hookD (cxb c) snACt [0, 2] [0, 0, 1])) (HF c)))
theorem HE0ok (B : Nat) (c : Bool) : HookOk P0 B 2 (HE0 c) :=
  .cons (.alt (.dup (cx := cxb c) (mulD_ok B)) (.alt (.dup (cx := cxb c) (mulA_ok B)) (.dup (cx := cxb c) (mulB_ok B))))
  (.cons (.alt (.dup (cx := cxb c) (sqD_ok B)) (.dup (cx := cxb c) (sqA_ok B)))
  (.cons (.alt (.ct (cx := cxb c) (snD_ok B)) (.dup (cx := cxb c) (snA_ok B))) (HFok B c)))
noncomputable def in83 : In := ⟨Tryz.f83, bodyOf Tryz.f83, 0, .read, noOrc⟩
theorem io83 : InOk P0 83 in83 := ⟨by kernel_rfl, by kernel_rfl, by kernel_rfl⟩
noncomputable def HE10 (c : Bool) : Hook := hookC 83 (inl (cxb c) (HE0 c) in83) (HE0 c)
theorem HE10ok (B : Nat) (c : Bool) : HookOk P0 B 2 (HE10 c) := HookOk.cons (HkOk.inl (cx := cxb c) mix T0ok (HE0ok B c) io83) (HE0ok B c)
noncomputable def in87 : In := ⟨Tryz.f87, bodyOf Tryz.f87, 0, .read, noOrc⟩
theorem io87 : InOk P0 87 in87 := ⟨by kernel_rfl, by kernel_rfl, by kernel_rfl⟩
noncomputable def HE1 (c : Bool) : Hook := hookC 87 (inl (cxb c) (HE10 c) in87) (HE10 c)
theorem HE1ok (B : Nat) (c : Bool) : HookOk P0 B 2 (HE1 c) := HookOk.cons (HkOk.inl (cx := cxb c) mix T0ok (HE10ok B c) io87) (HE10ok B c)
def cpL (a : List (BitVec 64)) : List (BitVec 64) := [(a.getD 0 0 &&& mk51) + m19 (a.getD 4 0 >>> 51), (a.getD 1 0 &&& mk51) + a.getD 0 0 >>> 51, (a.getD 2 0 &&& mk51) + a.getD 1 0 >>> 51, (a.getD 3 0 &&& mk51) + a.getD 2 0 >>> 51, (a.getD 4 0 &&& mk51) + a.getD 3 0 >>> 51]
def leU (b : List (BitVec 8)) : BitVec 64 := (((((((((0#64 <<< 8 ||| (b.getD 7 0).setWidth 64) <<< 8 ||| (b.getD 6 0).setWidth 64) <<< 8 ||| (b.getD 5 0).setWidth 64) <<< 8 ||| (b.getD 4 0).setWidth 64) <<< 8 ||| (b.getD 3 0).setWidth 64) <<< 8 ||| (b.getD 2 0).setWidth 64) <<< 8 ||| (b.getD 1 0).setWidth 64) <<< 8 ||| (b.getD 0 0).setWidth 64))
end Go.Sx

set_option maxRecDepth 1000000
set_option linter.unusedVariables false
namespace Go.Sx
open Go.Proofs
def swM (c : Int) : BitVec 64 := ~~~(BitVec.ofInt 64 c - 1#64)
def swV (c : Int) (v u : List (BitVec 64)) : List (BitVec 64) := [v.getD 0 0 ^^^ (swM c &&& (v.getD 0 0 ^^^ u.getD 0 0)), v.getD 1 0 ^^^ (swM c &&& (v.getD 1 0 ^^^ u.getD 1 0)), v.getD 2 0 ^^^ (swM c &&& (v.getD 2 0 ^^^ u.getD 2 0)), v.getD 3 0 ^^^ (swM c &&& (v.getD 3 0 ^^^ u.getD 3 0)), v.getD 4 0 ^^^ (swM c &&& (v.getD 4 0 ^^^ u.getD 4 0))]
def swU (c : Int) (v u : List (BitVec 64)) : List (BitVec 64) := [u.getD 0 0 ^^^ (swM c &&& (v.getD 0 0 ^^^ u.getD 0 0)), u.getD 1 0 ^^^ (swM c &&& (v.getD 1 0 ^^^ u.getD 1 0)), u.getD 2 0 ^^^ (swM c &&& (v.getD 2 0 ^^^ u.getD 2 0)), u.getD 3 0 ^^^ (swM c &&& (v.getD 3 0 ^^^ u.getD 3 0)), u.getD 4 0 ^^^ (swM c &&& (v.getD 4 0 ^^^ u.getD 4 0))]
def m32l (a : BitVec 64) (y : BitVec 32) : BitVec 64 := a * y.setWidth 64 &&& mk51
def m32h (a : BitVec 64) (y : BitVec 32) : BitVec 64 := mhi a (y.setWidth 64) <<< 13 ||| (a * y.setWidth 64) >>> 51
def m32L (x : List (BitVec 64)) (y : BitVec 32) : List (BitVec 64) := [m32l (x.getD 0 0) y + 19#64 * m32h (x.getD 4 0) y, m32l (x.getD 1 0) y + m32h (x.getD 0 0) y, m32l (x.getD 2 0) y + m32h (x.getD 1 0) y, m32l (x.getD 3 0) y + m32h (x.getD 2 0) y, m32l (x.getD 4 0) y + m32h (x.getD 3 0) y]
theorem cpr1 (B : Nat) (a : List (BitVec 64)) : FnE P0 B 2 84 [.one (.s (.p 2 0))] [(2, ⟨5, .d64 (lit 0 5 a), true, false, false⟩)] (2 + 1) ⟨.one (.s (.p 2 0)), [(2, ⟨5, .d64 (lit 0 5 (cpL a)), true, false, false⟩)], (2 + 1), .eff, []⟩ := by
  refine FnE.tri (cx := cxb true) (sz := 77) (fn := Tryz.f84) (c := bodyOf Tryz.f84) T0ok (by kernel_rfl) (by kernel_rfl) (by kernel_rfl) (by kernel_rfl) (by kernel_rfl) (by kernel_rfl) (Nat.le_of_ble_eq_true rfl) ?_
  exact Tri.ret (cx := cxb true) mix T0ok (HE1ok B true) 0 noOrc [2] [2] (2 + 1) ⟨[(2, .one (.s (.p 2 0)))], [(2, ⟨5, .d64 (lit 0 5 (cpL a)), true, false, false⟩)], (2 + 1)⟩ [] .r (by kernel_rfl) obNil (by kernel_rfl) rfl [2] [] (by kernel_rfl) obNil
def cprCt : Ct := ⟨[.ptr 5 true], [], fun vs ds gs => match vs, ds, gs with
  | [], [.d64 a], [] => bif Nat.beq a.length 5 then some ⟨.one (.s (.p 2 0)), [.d64 (lit 0 5 (cpL a))], [], []⟩ else none
  | _, _, _ => none⟩
theorem cpr_ok (B : Nat) : cprCt.Ok P0 B 2 84 := by
  intro vs ds gs out h hpre hn
  unfold cprCt at h
  dsimp only at h
  split at h <;> first | (cases h; done) | skip
  rename_i a
  cases hb : (Nat.beq a.length 5) with
  | false => rw [hb] at h; cases h
  | true =>
    rw [hb, cond_true] at h
    cases h
    have k0 := Nat.eq_of_beq_eq_true hb
    have := cpr1 B a 
    rw [lit_eq k0] at this
    simp only [cprCt, canArgs, segsOf, globs, addM, SegD.len, lit_length, k0]
    exact this

theorem swp1 (B : Nat) (v : List (BitVec 64)) (u : List (BitVec 64)) (c : Int) : FnE P0 B 2 71 [.one (.s (.p 2 0)), .one (.s (.p (2 + 1) 0)), .one (.s (.i c))] [(2, ⟨5, .d64 (lit 0 5 v), true, false, false⟩), ((2 + 1), ⟨5, .d64 (lit 0 5 u), true, false, false⟩)] (2 + 2) ⟨.tup [], [(2, ⟨5, .d64 (lit 0 5 (swV c v u)), true, false, false⟩), ((2 + 1), ⟨5, .d64 (lit 0 5 (swU c v u)), true, false, false⟩)], (2 + 2), .eff, []⟩ := by
  refine FnE.tri (cx := cxb true) (sz := 145) (fn := Tryz.f71) (c := bodyOf Tryz.f71) T0ok (by kernel_rfl) (by kernel_rfl) (by kernel_rfl) (by kernel_rfl) (by kernel_rfl) (by kernel_rfl) (Nat.le_of_ble_eq_true rfl) ?_
  exact Tri.ret (cx := cxb true) mix T0ok (HE1ok B true) 0 noOrc [] [2, (2 + 1)] (2 + 2) ⟨[], [(2, ⟨5, .d64 (lit 0 5 (swV c v u)), true, false, false⟩), ((2 + 1), ⟨5, .d64 (lit 0 5 (swU c v u)), true, false, false⟩)], (2 + 2)⟩ [] .n (by kernel_rfl) obNil (by kernel_rfl) rfl [2, (2 + 1)] [] (by kernel_rfl) obNil
def swpCt : Ct := ⟨[.ptr 5 true, .ptr 5 true, .val], [], fun vs ds gs => match vs, ds, gs with
  | [.one (.s (.i c))], [.d64 v, .d64 u], [] => bif Nat.beq v.length 5 && Nat.beq u.length 5 then some ⟨.tup [], [.d64 (lit 0 5 (swV c v u)), .d64 (lit 0 5 (swU c v u))], [], []⟩ else none
  | _, _, _ => none⟩
theorem swp_ok (B : Nat) : swpCt.Ok P0 B 2 71 := by
  intro vs ds gs out h hpre hn
  unfold swpCt at h
  dsimp only at h
  split at h <;> first | (cases h; done) | skip
  rename_i c v u
  cases hb : (Nat.beq v.length 5 && Nat.beq u.length 5) with
  | false => rw [hb] at h; cases h
  | true =>
    rw [hb, cond_true] at h
    cases h
    simp only [Bool.and_eq_true] at hb
    have k0 := Nat.eq_of_beq_eq_true hb.1
    have k1 := Nat.eq_of_beq_eq_true hb.2
    have := swp1 B v u c
    rw [lit_eq k0, lit_eq k1] at this
    simp only [swpCt, canArgs, segsOf, globs, addM, SegD.len, lit_length, k0, k1]
    exact this

theorem m321 (B : Nat) (v : List (BitVec 64)) (x : List (BitVec 64)) (y : BitVec 32) : FnE P0 B 2 76 [.one (.s (.p 2 0)), .one (.s (.p (2 + 1) 0)), .one (.s (.u32 y))] [(2, ⟨5, .d64 (lit 0 5 v), true, false, false⟩), ((2 + 1), ⟨5, .d64 (lit 0 5 x), false, false, false⟩)] (2 + 2) ⟨.one (.s (.p 2 0)), [(2, ⟨5, .d64 (lit 0 5 (m32L x y)), true, false, false⟩), ((2 + 1), ⟨5, .d64 (lit 0 5 x), false, false, false⟩)], (2 + 2), .eff, []⟩ := by
  refine FnE.tri (cx := cxb true) (sz := 94) (fn := Tryz.f76) (c := bodyOf Tryz.f76) T0ok (by kernel_rfl) (by kernel_rfl) (by kernel_rfl) (by kernel_rfl) (by kernel_rfl) (by kernel_rfl) (Nat.le_of_ble_eq_true rfl) ?_
  exact Tri.ret (cx := cxb true) mix T0ok (HE1ok B true) 0 noOrc [6] [2, (2 + 1)] (2 + 2) ⟨[(6, .one (.s (.p 2 0)))], [(2, ⟨5, .d64 (lit 0 5 (m32L x y)), true, false, false⟩), ((2 + 1), ⟨5, .d64 (lit 0 5 x), false, false, false⟩)], (2 + 2)⟩ [] .r (by kernel_rfl) obNil (by kernel_rfl) rfl [2, (2 + 1)] [] (by kernel_rfl) obNil
def m32Ct : Ct := ⟨[.ptr 5 true, .ptr 5 false, .val], [], fun vs ds gs => match vs, ds, gs with
  | [.one (.s (.u32 y))], [.d64 v, .d64 x], [] => bif Nat.beq v.length 5 && Nat.beq x.length 5 then some ⟨.one (.s (.p 2 0)), [.d64 (lit 0 5 (m32L x y)), .d64 x], [], []⟩ else none
  | _, _, _ => none⟩
theorem m32_ok (B : Nat) : m32Ct.Ok P0 B 2 76 := by
  intro vs ds gs out h hpre hn
  unfold m32Ct at h
  dsimp only at h
  split at h <;> first | (cases h; done) | skip
  rename_i y v x
  cases hb : (Nat.beq v.length 5 && Nat.beq x.length 5) with
  | false => rw [hb] at h; cases h
  | true =>
    rw [hb, cond_true] at h
    cases h
    simp only [Bool.and_eq_true] at hb
    have k0 := Nat.eq_of_beq_eq_true hb.1
    have k1 := Nat.eq_of_beq_eq_true hb.2
    have := m321 B v x y
    rw [lit_eq k0, lit_eq k1] at this
    simp only [m32Ct, canArgs, segsOf, globs, addM, SegD.len, lit_length, k0, k1]
    exact this

theorem le81 (B : Nat) (b : List (BitVec 8)) : FnE P0 B 2 82 [.one (.s (.osl 2 8))] [(2, ⟨8, .d8 (lit 0 8 b), false, false, false⟩)] (2 + 1) ⟨.one (.s (.u64 (leU b))), [(2, ⟨8, .d8 (lit 0 8 b), false, false, false⟩)], (2 + 1), .eff, []⟩ := by
  refine FnE.tri (cx := cxb true) (sz := 18) (fn := Tryz.f82) (c := bodyOf Tryz.f82) T0ok (by kernel_rfl) (by kernel_rfl) (by kernel_rfl) (by kernel_rfl) (by kernel_rfl) (by kernel_rfl) (Nat.le_of_ble_eq_true rfl) ?_
  exact Tri.ret (cx := cxb true) mix T0ok (HE1ok B true) 9 noOrc [2] [2] (2 + 1) ⟨[(2, .one (.s (.u64 (leU b))))], [(2, ⟨8, .d8 (lit 0 8 b), false, false, false⟩)], (2 + 1)⟩ [] .r (by kernel_rfl) obNil (by kernel_rfl) rfl [2] [] (by kernel_rfl) obNil
def le8Ct : Ct := ⟨[.slc false], [], fun vs ds gs => match vs, ds, gs with
  | [], [.d8 b], [] => bif Nat.beq b.length 8 then some ⟨.one (.s (.u64 (leU b))), [.d8 b], [], []⟩ else none
  | _, _, _ => none⟩
theorem le8_ok (B : Nat) : le8Ct.Ok P0 B 2 82 := by
  intro vs ds gs out h hpre hn
  unfold le8Ct at h
  dsimp only at h
  split at h <;> first | (cases h; done) | skip
  rename_i b
  cases hb : (Nat.beq b.length 8) with
  | false => rw [hb] at h; cases h
  | true =>
    rw [hb, cond_true] at h
    cases h
    have k0 := Nat.eq_of_beq_eq_true hb
    have := le81 B b 
    rw [lit_eq k0] at this
    simp only [le8Ct, canArgs, segsOf, globs, addM, SegD.len, k0]
    exact this

noncomputable def HE2 (c : Bool) : Hook := hookC 84 (hookOf (cxb c) cprCt) (hookC 71 (hookOf (cxb c) swpCt) (hookC 76 (hookOf (cxb c) m32Ct) (hookC 82 (hookOf (cxb c) le8Ct) (HE1 c))))
theorem HE2ok (B : Nat) (c : Bool) : HookOk P0 B 2 (HE2 c) := .cons (.ct (cx := cxb c) (cpr_ok B)) (.cons (.ct (cx := cxb c) (swp_ok B)) (.cons (.ct (cx := cxb c) (m32_ok B)) (.cons (.ct (cx := cxb c) (le8_ok B)) (HE1ok B c))))
end Go.Sx

set_option maxRecDepth 1000000
set_option linter.unusedVariables false
namespace Go.Sx
open Go.Proofs
def sbL (x : List (BitVec 8)) : List (BitVec 64) := [leU ((x.drop 0).take 8) &&& mk51, leU ((x.drop 6).take 8) >>> 3 &&& mk51, leU ((x.drop 12).take 8) >>> 6 &&& mk51, leU ((x.drop 19).take 8) >>> 1 &&& mk51, leU ((x.drop 24).take 8) >>> 12 &&& mk51]
def rdL (a : List (BitVec 64)) : List (BitVec 64) :=
  let v := cpL a
  let c0 := (v.getD 0 0 + 19#64) >>> 51
  let c1 := (v.getD 1 0 + c0) >>> 51
  let c2 := (v.getD 2 0 + c1) >>> 51
  let c3 := (v.getD 3 0 + c2) >>> 51
  let c4 := (v.getD 4 0 + c3) >>> 51
  let v0 := v.getD 0 0 + 19#64 * c4
  let v1 := v.getD 1 0 + v0 >>> 51
  let v2 := v.getD 2 0 + v1 >>> 51
  let v3 := v.getD 3 0 + v2 >>> 51
  let v4 := v.getD 4 0 + v3 >>> 51
  [v0 &&& mk51, v1 &&& mk51, v2 &&& mk51, v3 &&& mk51, v4 &&& mk51]
def b8z (v : BitVec 64) : List (BitVec 8) := [(v >>> 0).setWidth 8, (v >>> 8).setWidth 8, (v >>> 16).setWidth 8, (v >>> 24).setWidth 8, (v >>> 32).setWidth 8, (v >>> 40).setWidth 8, (v >>> 48).setWidth 8, (v >>> 56).setWidth 8]
def pkL (r : List (BitVec 64)) : List (BitVec 8) := b8z (r.getD 1 0 <<< 51 ||| r.getD 0 0) ++ (b8z (r.getD 2 0 <<< 38 ||| r.getD 1 0 >>> 13) ++ (b8z (r.getD 3 0 <<< 25 ||| r.getD 2 0 >>> 26) ++ b8z (r.getD 4 0 <<< 12 ||| r.getD 3 0 >>> 39)))
theorem sby1 (B : Nat) (v : List (BitVec 64)) (x : List (BitVec 8)) : FnE P0 B 2 68 [.one (.s (.p 2 0)), .one (.s (.osl (2 + 1) 32))] [(2, ⟨5, .d64 (lit 0 5 v), true, false, false⟩), ((2 + 1), ⟨32, .d8 (lit 0 32 x), false, false, false⟩)] (2 + 2) ⟨.tup [.s (.p 2 0), .s .f0], [(2, ⟨5, .d64 (lit 0 5 (sbL (lit 0 32 x))), true, false, false⟩), ((2 + 1), ⟨32, .d8 (lit 0 32 x), false, false, false⟩)], (2 + 2), .eff, []⟩ := by
  refine FnE.tri (cx := cxb true) (sz := 80) (fn := Tryz.f68) (c := bodyOf Tryz.f68) T0ok (by kernel_rfl) (by kernel_rfl) (by kernel_rfl) (by kernel_rfl) (by kernel_rfl) (by kernel_rfl) (Nat.le_of_ble_eq_true rfl) ?_
  exact Tri.ret (cx := cxb true) mix T0ok (HE2ok B true) 0 (orcL [(8, false)]) [4, 5] [2, (2 + 1)] (2 + 2) ⟨[(4, .one (.s (.p 2 0))), (5, .one (.s .f0))], [(2, ⟨5, .d64 (lit 0 5 (sbL (lit 0 32 x))), true, false, false⟩), ((2 + 1), ⟨32, .d8 (lit 0 32 x), false, false, false⟩)], (2 + 2)⟩ [(!decide (((32 : Nat) : Int) = (32 : Int))) = false] .r (by kernel_rfl) (obCons (by decide) obNil) (by kernel_rfl) rfl [2, (2 + 1)] [] (by kernel_rfl) obNil
def sbyCt : Ct := ⟨[.ptr 5 true, .slc false], [], fun vs ds gs => match vs, ds, gs with
  | [], [.d64 v, .d8 x], [] => bif Nat.beq v.length 5 && Nat.beq x.length 32 then some ⟨.tup [.s (.p 2 0), .s .f0], [.d64 (lit 0 5 (sbL x)), .d8 x], [], []⟩ else none
  | _, _, _ => none⟩
theorem sby_ok (B : Nat) : sbyCt.Ok P0 B 2 68 := by
  intro vs ds gs out h hpre hn
  unfold sbyCt at h
  dsimp only at h
  split at h <;> first | (cases h; done) | skip
  rename_i v x
  cases hb : (Nat.beq v.length 5 && Nat.beq x.length 32) with
  | false => rw [hb] at h; cases h
  | true =>
    rw [hb, cond_true] at h
    cases h
    simp only [Bool.and_eq_true] at hb
    have k0 := Nat.eq_of_beq_eq_true hb.1
    have k1 := Nat.eq_of_beq_eq_true hb.2
    have := sby1 B v x 
    rw [lit_eq k0, lit_eq k1] at this
    simp only [sbyCt, canArgs, segsOf, globs, addM, SegD.len, lit_length, k0, k1]
    exact this

theorem rdc1 (B : Nat) (a : List (BitVec 64)) : FnE P0 B 2 106 [.one (.s (.p 2 0))] [(2, ⟨5, .d64 (lit 0 5 a), true, false, false⟩)] (2 + 1) ⟨.one (.s (.p 2 0)), [(2, ⟨5, .d64 (lit 0 5 (rdL a)), true, false, false⟩)], (2 + 1), .eff, []⟩ := by
  refine FnE.tri (cx := cxb true) (sz := 138) (fn := Tryz.f106) (c := bodyOf Tryz.f106) T0ok (by kernel_rfl) (by kernel_rfl) (by kernel_rfl) (by kernel_rfl) (by kernel_rfl) (by kernel_rfl) (Nat.le_of_ble_eq_true rfl) ?_
  exact Tri.ret (cx := cxb true) mix T0ok (HE2ok B true) 0 noOrc [2] [2] (2 + 1) ⟨[(2, .one (.s (.p 2 0)))], [(2, ⟨5, .d64 (lit 0 5 (rdL a)), true, false, false⟩)], (2 + 1)⟩ [] .r (by kernel_rfl) obNil (by kernel_rfl) rfl [2] [] (by kernel_rfl) obNil
def rdcCt : Ct := ⟨[.ptr 5 true], [], fun vs ds gs => match vs, ds, gs with
  | [], [.d64 a], [] => bif Nat.beq a.length 5 then some ⟨.one (.s (.p 2 0)), [.d64 (lit 0 5 (rdL a))], [], []⟩ else none
  | _, _, _ => none⟩
theorem rdc_ok (B : Nat) : rdcCt.Ok P0 B 2 106 := by
  intro vs ds gs out h hpre hn
  unfold rdcCt at h
  dsimp only at h
  split at h <;> first | (cases h; done) | skip
  rename_i a
  cases hb : (Nat.beq a.length 5) with
  | false => rw [hb] at h; cases h
  | true =>
    rw [hb, cond_true] at h
    cases h
    have k0 := Nat.eq_of_beq_eq_true hb
    have := rdc1 B a 
    rw [lit_eq k0] at this
    simp only [rdcCt, canArgs, segsOf, globs, addM, SegD.len, lit_length, k0]
    exact this

noncomputable def HE3b (c : Bool) : Hook := hookC 68 (hookOf (cxb c) sbyCt) (hookC 106 (hookOf (cxb c) rdcCt) (HE2 c))
theorem HE3bok (B : Nat) (c : Bool) : HookOk P0 B 2 (HE3b c) := .cons (.ct (cx := cxb c) (sby_ok B)) (.cons (.ct (cx := cxb c) (rdc_ok B)) (HE2ok B c))
noncomputable def in107 : In := ⟨Tryz.f107, bodyOf Tryz.f107, 9, .eff, noOrc⟩
theorem io107 : InOk P0 107 in107 := ⟨by kernel_rfl, by kernel_rfl, by kernel_rfl⟩
noncomputable def HE30 (c : Bool) : Hook := hookC 107 (inl (cxb c) (HE3b c) in107) (HE3b c)
theorem HE30ok (B : Nat) (c : Bool) : HookOk P0 B 2 (HE30 c) := HookOk.cons (HkOk.inl (cx := cxb c) mix T0ok (HE3bok B c) io107) (HE3bok B c)
noncomputable def in89 : In := ⟨Tryz.f89, bodyOf Tryz.f89, 9, .eff, noOrc⟩
theorem io89 : InOk P0 89 in89 := ⟨by kernel_rfl, by kernel_rfl, by kernel_rfl⟩
noncomputable def HE3 (c : Bool) : Hook := hookC 89 (inl (cxb c) (HE30 c) in89) (HE30 c)
theorem HE3ok (B : Nat) (c : Bool) : HookOk P0 B 2 (HE3 c) := HookOk.cons (HkOk.inl (cx := cxb c) mix T0ok (HE30ok B c) io89) (HE30ok B c)
theorem byt1 (B : Nat) (a : List (BitVec 64)) : FnE P0 B 2 78 [.one (.s (.p 2 0))] [(2, ⟨5, .d64 (lit 0 5 a), false, false, false⟩)] (2 + 1) ⟨.one (.s (.sl (2 + 1) 0 32 32)), [((2 + 1), ⟨32, .d8 (pkL (rdL a)), true, false, false⟩), (2, ⟨5, .d64 (lit 0 5 a), false, false, false⟩)], (2 + 2), .eff, []⟩ := by
  refine FnE.tri (cx := cxb true) (sz := 6) (fn := Tryz.f78) (c := bodyOf Tryz.f78) T0ok (by kernel_rfl) (by kernel_rfl) (by kernel_rfl) (by kernel_rfl) (by kernel_rfl) (by kernel_rfl) (Nat.le_of_ble_eq_true rfl) ?_
  exact Tri.ret (cx := cxb true) mix T0ok (HE3ok B true) 0 noOrc [2] [(2 + 1), 2] (2 + 2) ⟨[(2, .one (.s (.sl (2 + 1) 0 32 32)))], [((2 + 1), ⟨32, .d8 (pkL (rdL a)), true, false, false⟩), (2, ⟨5, .d64 (lit 0 5 a), false, false, false⟩)], (2 + 2)⟩ [] .r (by kernel_rfl) obNil (by kernel_rfl) rfl [(2 + 1), 2] [] (by kernel_rfl) obNil
def bytCt : Ct := ⟨[.ptr 5 false], [], fun vs ds gs => match vs, ds, gs with
  | [], [.d64 a], [] => bif Nat.beq a.length 5 then some ⟨.one (.s (.sl (2 + 1) 0 32 32)), [.d64 a], [⟨32, .d8 (pkL (rdL a)), true, false, false⟩], []⟩ else none
  | _, _, _ => none⟩
theorem byt_ok (B : Nat) : bytCt.Ok P0 B 2 78 := by
  intro vs ds gs out h hpre hn
  unfold bytCt at h
  dsimp only at h
  split at h <;> first | (cases h; done) | skip
  rename_i a
  cases hb : (Nat.beq a.length 5) with
  | false => rw [hb] at h; cases h
  | true =>
    rw [hb, cond_true] at h
    cases h
    have k0 := Nat.eq_of_beq_eq_true hb
    have := byt1 B a 
    rw [lit_eq k0] at this
    simp only [bytCt, canArgs, segsOf, globs, addM, SegD.len, k0]
    exact this

end Go.Sx

set_option maxRecDepth 1000000
set_option linter.unusedVariables false
namespace Go.Sx
open Go.Proofs
noncomputable def HE4b (c : Bool) : Hook := hookC 78 (hookOf (cxb c) bytCt) (HE3 c)
theorem HE4bok (B : Nat) (c : Bool) : HookOk P0 B 2 (HE4b c) := .cons (.ct (cx := cxb c) (byt_ok B)) (HE3ok B c)
noncomputable def in85 : In := ⟨Tryz.f85, bodyOf Tryz.f85, 0, .eff, noOrc⟩
theorem io85 : InOk P0 85 in85 := ⟨by kernel_rfl, by kernel_rfl, by kernel_rfl⟩
noncomputable def HE40 (c : Bool) : Hook := hookC 85 (inl (cxb c) (HE4b c) in85) (HE4b c)
theorem HE40ok (B : Nat) (c : Bool) : HookOk P0 B 2 (HE40 c) := HookOk.cons (HkOk.inl (cx := cxb c) mix T0ok (HE4bok B c) io85) (HE4bok B c)
noncomputable def in74 : In := ⟨Tryz.f74, bodyOf Tryz.f74, 0, .eff, noOrc⟩
theorem io74 : InOk P0 74 in74 := ⟨by kernel_rfl, by kernel_rfl, by kernel_rfl⟩
noncomputable def HE41 (c : Bool) : Hook := hookC 74 (inl (cxb c) (HE40 c) in74) (HE40 c)
theorem HE41ok (B : Nat) (c : Bool) : HookOk P0 B 2 (HE41 c) := HookOk.cons (HkOk.inl (cx := cxb c) mix T0ok (HE40ok B c) io74) (HE40ok B c)
noncomputable def in75 : In := ⟨Tryz.f75, bodyOf Tryz.f75, 0, .eff, noOrc⟩
theorem io75 : InOk P0 75 in75 := ⟨by kernel_rfl, by kernel_rfl, by kernel_rfl⟩
noncomputable def HE42 (c : Bool) : Hook := hookC 75 (inl (cxb c) (HE41 c) in75) (HE41 c)
theorem HE42ok (B : Nat) (c : Bool) : HookOk P0 B 2 (HE42 c) := HookOk.cons (HkOk.inl (cx := cxb c) mix T0ok (HE41ok B c) io75) (HE41ok B c)
noncomputable def in88 : In := ⟨Tryz.f88, bodyOf Tryz.f88, 0, .eff, noOrc⟩
theorem io88 : InOk P0 88 in88 := ⟨by kernel_rfl, by kernel_rfl, by kernel_rfl⟩
noncomputable def HE43 (c : Bool) : Hook := hookC 88 (inl (cxb c) (HE42 c) in88) (HE42 c)
theorem HE43ok (B : Nat) (c : Bool) : HookOk P0 B 2 (HE43 c) := HookOk.cons (HkOk.inl (cx := cxb c) mix T0ok (HE42ok B c) io88) (HE42ok B c)
noncomputable def in73 : In := ⟨Tryz.f73, bodyOf Tryz.f73, 0, .eff, noOrc⟩
theorem io73 : InOk P0 73 in73 := ⟨by kernel_rfl, by kernel_rfl, by kernel_rfl⟩
noncomputable def HE44 (c : Bool) : Hook := hookC 73 (inl (cxb c) (HE43 c) in73) (HE43 c)
theorem HE44ok (B : Nat) (c : Bool) : HookOk P0 B 2 (HE44 c) := HookOk.cons (HkOk.inl (cx := cxb c) mix T0ok (HE43ok B c) io73) (HE43ok B c)
noncomputable def in72 : In := ⟨Tryz.f72, bodyOf Tryz.f72, 0, .eff, noOrc⟩
theorem io72 : InOk P0 72 in72 := ⟨by kernel_rfl, by kernel_rfl, by kernel_rfl⟩
noncomputable def HE45 (c : Bool) : Hook := hookC 72 (inl (cxb c) (HE44 c) in72) (HE44 c)
theorem HE45ok (B : Nat) (c : Bool) : HookOk P0 B 2 (HE45 c) := HookOk.cons (HkOk.inl (cx := cxb c) mix T0ok (HE44ok B c) io72) (HE44ok B c)
noncomputable def in70 : In := ⟨Tryz.f70, bodyOf Tryz.f70, 0, .eff, noOrc⟩
theorem io70 : InOk P0 70 in70 := ⟨by kernel_rfl, by kernel_rfl, by kernel_rfl⟩
noncomputable def HE46 (c : Bool) : Hook := hookC 70 (inl (cxb c) (HE45 c) in70) (HE45 c)
theorem HE46ok (B : Nat) (c : Bool) : HookOk P0 B 2 (HE46 c) := HookOk.cons (HkOk.inl (cx := cxb c) mix T0ok (HE45ok B c) io70) (HE45ok B c)
noncomputable def in69 : In := ⟨Tryz.f69, bodyOf Tryz.f69, 0, .eff, noOrc⟩
theorem io69 : InOk P0 69 in69 := ⟨by kernel_rfl, by kernel_rfl, by kernel_rfl⟩
noncomputable def HE4 (c : Bool) : Hook := hookC 69 (inl (cxb c) (HE46 c) in69) (HE46 c)
theorem HE4ok (B : Nat) (c : Bool) : HookOk P0 B 2 (HE4 c) := HookOk.cons (HkOk.inl (cx := cxb c) mix T0ok (HE46ok B c) io69) (HE46ok B c)
def m5 (a b : List (BitVec 64)) : List (BitVec 64) := lit 0 5 (mulL a b)
def s5 (a : List (BitVec 64)) : List (BitVec 64) := lit 0 5 (sqL a)
def n5 (k : Nat) (a : List (BitVec 64)) : List (BitVec 64) := lit 0 5 (sqN k a)
/-- the inverse, as the chain of products computes it -/
def invL (z : List (BitVec 64)) : List (BitVec 64) :=
  let t1 := s5 z
  let t := s5 (s5 t1)
  let t2 := m5 t z
  let z11 := m5 t2 t1
  let t := s5 z11
  let t0 := m5 t t2
  let t := n5 5 t0
  let t2 := m5 t t0
  let t := n5 5 t2
  let t0 := m5 t t0
  let t := n5 15 t0
  let t1 := m5 t t0
  let t := n5 30 t1
  let t0 := m5 t t1
  let t := n5 60 t0
  let t1 := m5 t t0
  let t := n5 120 t1
  let t := m5 t t1
  let t := n5 10 t
  let t := m5 t t2
  let t := n5 5 t
  m5 t z11
end Go.Sx

set_option maxRecDepth 1000000
set_option linter.unusedVariables false
namespace Go.Sx
open Go.Proofs
def sgr (l : List (BitVec 64)) (o : Bool) : Seg := ⟨5, .d64 l, o, false, false⟩
theorem inv1 (B : Nat) (a : List (BitVec 64)) : FnE P0 B 2 77 [.one (.s (.p 2 0)), .one (.s (.p 2 0))] [(2, sg a true)] (2 + 1) ⟨.one (.s (.p 2 0)), [(2, sgr (invL (lit 0 5 a)) true)], 2 + 1, .eff, []⟩ := by
  refine FnE.tri (cx := cxb true) (sz := 36) (fn := Tryz.f77) (c := bodyOf Tryz.f77) T0ok (by kernel_rfl) (by kernel_rfl) (by kernel_rfl) (by kernel_rfl) (by kernel_rfl) (by kernel_rfl) (Nat.le_refl _) ?_
  exact Tri.ret (cx := cxb true) mix T0ok (HE4ok B true) 0 noOrc [4] [2] (2 + 1) ⟨[(4, .one (.s (.p 2 0)))], [(2, sgr (invL (lit 0 5 a)) true)], 2 + 1⟩ [(0 : Int) ≤ 5 ∧ (5 : Int) < 1000, (0 : Int) ≤ 5 ∧ (5 : Int) < 1000, (0 : Int) ≤ 15 ∧ (15 : Int) < 1000, (0 : Int) ≤ 30 ∧ (30 : Int) < 1000, (0 : Int) ≤ 60 ∧ (60 : Int) < 1000, (0 : Int) ≤ 120 ∧ (120 : Int) < 1000, (0 : Int) ≤ 10 ∧ (10 : Int) < 1000, (0 : Int) ≤ 5 ∧ (5 : Int) < 1000] .r (by kernel_rfl) (by repeat' (first | exact obNil | refine obCons (by decide) ?_)) (by kernel_rfl) rfl [2] [] (by kernel_rfl) obNil
def invCt : Ct := ⟨[.ptr 5 true], [], fun vs ds gs => match vs, ds, gs with
  | [], [.d64 a], [] => bif Nat.beq a.length 5 then some ⟨.one (.s (.p 2 0)), [.d64 (invL a)], [], []⟩ else none
  | _, _, _ => none⟩
theorem invL_length (a : List (BitVec 64)) : (invL a).length = 5 := lit_length _ _ _
theorem invE_ok (B : Nat) : invCt.OkD P0 B 2 77 [0, 0] := by
  intro vs ds gs out h hpre hn
  unfold invCt at h
  dsimp only at h
  split at h <;> first | (cases h; done) | skip
  rename_i a
  cases hb : Nat.beq a.length 5 with
  | false => rw [hb] at h; cases h
  | true =>
    rw [hb, cond_true] at h
    cases h
    have k0 := Nat.eq_of_beq_eq_true hb
    have := inv1 B a
    unfold sg sgr at this
    rw [lit_eq k0] at this
    simp only [invCt, canArgs, segsOf, globs, addM, SegD.len, k0, invL_length]
    exact this
end Go.Sx

set_option maxRecDepth 1000000
set_option linter.unusedVariables false
namespace Go.Sx
open Go.Proofs
noncomputable def HE5 (c : Bool) : Hook := hookC 77 (hookD (cxb c) invCt [0] [0, 0]) (HE4 c)
theorem HE5ok (B : Nat) (c : Bool) : HookOk P0 B 2 (HE5 c) := .cons (.dup (cx := cxb c) (invE_ok B)) (HE4ok B c)
def one5 : List (BitVec 64) := [1#64, 0#64, 0#64, 0#64, 0#64]
/-- what package variable 3 is: a pointer to the element 1 -/
def gM : Mem := [(1, ⟨1, .dc [.p 2 0], false, false, false⟩), (2, sgr one5 false)]
def sg8 (l : List (BitVec 8)) (o : Bool) : Seg := ⟨32, .d8 l, o, false, false⟩
noncomputable def smB : List Code := flat (bodyOf Tryz.f61)
def smSt (base : Mem) (ds : SV) (e : List (BitVec 8)) (x1 x2 z2 x3 z3 a b : List (BitVec 64)) (sw i : Int) : St := ⟨[(0, ds), (6, .one (.s (.p (2 + 4) 0))), (7, .one (.s (.p (2 + 5) 0))), (8, .one (.s (.p (2 + 6) 0))), (9, .one (.s (.p (2 + 7) 0))), (10, .one (.s (.p (2 + 8) 0))), (11, .one (.s (.p (2 + 9) 0))), (12, .one (.s (.p (2 + 10) 0))), (13, .one (.s (.p (2 + 11) 0))), (14, .one (.s (.i sw))), (15, .one (.s (.i i)))],
  [(2 + 4, sg8 e true), (2 + 5, sgr x1 true), (2 + 6, sgr x2 true), (2 + 7, sgr z2 true), (2 + 8, sgr x3 true), (2 + 9, sgr z3 true), (2 + 10, sgr a true), (2 + 11, sgr b true)] ++ base, 2 + 12⟩
/-- the body of the first loop, or block -/
noncomputable def lpF (l : List Code) : List Code := match l with
  | .block _ (.loop c) :: _ => flat c
  | .block _ c :: _ => flat c
  | _ => []
end Go.Sx
