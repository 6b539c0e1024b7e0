/- Words with carries: bits.Mul64, bits.Add64, bits.Sub64, and poly1305's helpers. Conditions: none. -/
import Derived.Test.YtdigakgfngfnkaaVQ1
import Derived.Test.YtdigakgfngfnkaaQ2
set_option maxRecDepth 1000000
set_option linter.unusedVariables false
namespace Go.Sx
open Go.Proofs

/-- the upper half of a product, by halves -/
def mulH (x y : BitVec 64) : BitVec 64 :=
  let x0 := x &&& 4294967295#64
  let x1 := x >>> 32
  let y0 := y &&& 4294967295#64
  let y1 := y >>> 32
  let w0 := x0 * y0
  let t := x1 * y0 + w0 >>> 32
  let w1 := (t &&& 4294967295#64) + x0 * y1
  x1 * y1 + t >>> 32 + w1 >>> 32

theorem mulH_eq (x y : BitVec 64) : mulH x y = mhi x y := by
  apply BitVec.eq_of_toNat_eq
  have hx := x.isLt
  have hy := y.isLt
  have a0 := and_low x 32 4294967295#64 rfl
  have b0 := and_low y 32 4294967295#64 rfl
  have a1 := shr_nat x 32
  have b1 := shr_nat y 32
  have ex : x.toNat = (x >>> 32).toNat * 2 ^ 32 + (x &&& 4294967295#64).toNat := by omega
  have ey : y.toNat = (y >>> 32).toNat * 2 ^ 32 + (y &&& 4294967295#64).toNat := by omega
  rw [mhi_nat, ex, ey]
  unfold mulH
  dsimp only
  have l0 : (x &&& 4294967295#64).toNat ≤ 2 ^ 32 - 1 := by omega
  have l1 : (x >>> 32).toNat ≤ 2 ^ 32 - 1 := by omega
  have m0 : (y &&& 4294967295#64).toNat ≤ 2 ^ 32 - 1 := by omega
  have m1 : (y >>> 32).toNat ≤ 2 ^ 32 - 1 := by omega
  clear ex ey a0 a1 b0 b1 hx hy
  generalize (x &&& 4294967295#64) = X0 at *
  generalize (x >>> 32) = X1 at *
  generalize (y &&& 4294967295#64) = Y0 at *
  generalize (y >>> 32) = Y1 at *
  have p00 : X0.toNat * Y0.toNat ≤ (2 ^ 32 - 1) * (2 ^ 32 - 1) := Nat.mul_le_mul l0 m0
  have p01 : X0.toNat * Y1.toNat ≤ (2 ^ 32 - 1) * (2 ^ 32 - 1) := Nat.mul_le_mul l0 m1
  have p10 : X1.toNat * Y0.toNat ≤ (2 ^ 32 - 1) * (2 ^ 32 - 1) := Nat.mul_le_mul l1 m0
  have p11 : X1.toNat * Y1.toNat ≤ (2 ^ 32 - 1) * (2 ^ 32 - 1) := Nat.mul_le_mul l1 m1
  have e : (X1.toNat * 2 ^ 32 + X0.toNat) * (Y1.toNat * 2 ^ 32 + Y0.toNat) = X1.toNat * Y1.toNat * 2 ^ 64 + (X1.toNat * Y0.toNat + X0.toNat * Y1.toNat) * 2 ^ 32 + X0.toNat * Y0.toNat := by grind
  rw [e]
  have q00 : (X0 * Y0).toNat = X0.toNat * Y0.toNat := by rw [BitVec.toNat_mul, Nat.mod_eq_of_lt (by omega)]
  have q01 : (X0 * Y1).toNat = X0.toNat * Y1.toNat := by rw [BitVec.toNat_mul, Nat.mod_eq_of_lt (by omega)]
  have q10 : (X1 * Y0).toNat = X1.toNat * Y0.toNat := by rw [BitVec.toNat_mul, Nat.mod_eq_of_lt (by omega)]
  have q11 : (X1 * Y1).toNat = X1.toNat * Y1.toNat := by rw [BitVec.toNat_mul, Nat.mod_eq_of_lt (by omega)]
  generalize X0.toNat * Y0.toNat = P00 at *
  generalize X0.toNat * Y1.toNat = P01 at *
  generalize X1.toNat * Y0.toNat = P10 at *
  generalize X1.toNat * Y1.toNat = P11 at *
  generalize X0 * Y0 = W00 at *
  generalize X0 * Y1 = W01 at *
  generalize X1 * Y0 = W10 at *
  generalize X1 * Y1 = W11 at *
  have t1 : (W10 + W00 >>> 32).toNat = P10 + P00 / 2 ^ 32 := by rw [BitVec.toNat_add, shr_nat, q10, q00]; omega
  generalize W10 + W00 >>> 32 = T at *
  have t2 : (T &&& 4294967295#64).toNat = (P10 + P00 / 2 ^ 32) % 2 ^ 32 := by rw [and_low T 32 _ rfl, t1]
  have t3 : ((T &&& 4294967295#64) + W01).toNat = (P10 + P00 / 2 ^ 32) % 2 ^ 32 + P01 := by rw [BitVec.toNat_add, t2, q01]; omega
  generalize (T &&& 4294967295#64) + W01 = U at *
  rw [BitVec.toNat_add, BitVec.toNat_add, shr_nat, shr_nat, t1, t3, q11]
  omega

theorem mul1 (B : Nat) (x y : BitVec 64) : FnE P0 B 1 66 [.one (.s (.u64 x)), .one (.s (.u64 y))] [] 1 ⟨.tup [.s (.u64 (mulH x y)), .s (.u64 (x * y))], [], 1, .eff, []⟩ := by
  refine FnE.tri (cx := cxb true) (sz := 51) (fn := Try.f66) (c := bodyOf Try.f66) T0ok (by kernel_rfl) (by kernel_rfl) (by kernel_rfl) (by kernel_rfl) (by kernel_rfl) (by kernel_rfl) (Nat.le_refl _) ?_
  exact Tri.ret (cx := cxb true) mix T0ok (H0ok B true) 0 noOrc [4, 5] [] 1 ⟨[(4, .one (.s (.u64 (mulH x y)))), (5, .one (.s (.u64 (x * y))))], [], 1⟩ [] .r (by kernel_rfl) obNil (by kernel_rfl) rfl [] [] (by kernel_rfl) obNil

def mulCt : Ct := ⟨[.val, .val], [], fun vs ds gs => match vs, ds, gs with
  | [.one (.s (.u64 x)), .one (.s (.u64 y))], [], [] => some ⟨.tup [.s (.u64 (mhi x y)), .s (.u64 (x * y))], [], [], []⟩
  | _, _, _ => none⟩

theorem mul_ok (B : Nat) : mulCt.Ok P0 B 1 66 := by
  intro vs ds gs out h hpre hn
  unfold mulCt at h
  dsimp only at h
  split at h <;> first | (cases h; done) | skip
  rename_i x y
  cases h
  have := mul1 B x y
  rw [mulH_eq] at this
  exact this


def le64Ct : Ct := ⟨[.val, .slc false], [], fun vs ds gs => match vs, ds, gs with
  | [.one (.ag [])], [.d8 b], [] => some ⟨.one (.s (.u64 (le64 b))), [.d8 b], [], [8 ≤ b.length]⟩
  | _, _, _ => none⟩
def le64M (b : List (BitVec 8)) : Mem := [(1, ⟨b.length, .d8 b, false, false, false⟩)]
theorem le641 (B : Nat) (b : List (BitVec 8)) (h : 8 ≤ b.length) : FnE P0 B 1 54 [.one (.ag []), .one (.s (.osl 1 b.length))] (le64M b) (1 + 1) ⟨.one (.s (.u64 (le64 b))), le64M b, 1 + 1, .eff, []⟩ := by
  refine FnE.tri (cx := cxb false) (sz := 54) (fn := Try.f54) (c := bodyOf Try.f54) T0ok (by kernel_rfl) (by kernel_rfl) (by kernel_rfl) (by kernel_rfl) (by kernel_rfl) (by kernel_rfl) (Nat.le_refl _) ?_
  exact Tri.ret (cx := cxb false) mix T0ok (H0ok B false) 0 noOrc [4] [1] (1 + 1) ⟨[(4, .one (.s (.u64 (le64 b))))], le64M b, 1 + 1⟩ ([(0 : Int) ≤ (7 : Int) ∧ (7 : Int) < (↑(List.length b) : Int) ∧ (7 : Int) < (↑(List.length b) : Int), Int.toNat (7 : Int) + (0 : Nat) < List.length b, (0 : Int) ≤ (0 : Int) ∧ (0 : Int) < (↑(List.length b) : Int) ∧ (0 : Int) < (↑(List.length b) : Int), Int.toNat (0 : Int) + (0 : Nat) < List.length b, (0 : Int) ≤ (1 : Int) ∧ (1 : Int) < (↑(List.length b) : Int) ∧ (1 : Int) < (↑(List.length b) : Int), Int.toNat (1 : Int) + (0 : Nat) < List.length b, (0 : Int) ≤ (2 : Int) ∧ (2 : Int) < (↑(List.length b) : Int) ∧ (2 : Int) < (↑(List.length b) : Int), Int.toNat (2 : Int) + (0 : Nat) < List.length b, (0 : Int) ≤ (3 : Int) ∧ (3 : Int) < (↑(List.length b) : Int) ∧ (3 : Int) < (↑(List.length b) : Int), Int.toNat (3 : Int) + (0 : Nat) < List.length b, (0 : Int) ≤ (4 : Int) ∧ (4 : Int) < (↑(List.length b) : Int) ∧ (4 : Int) < (↑(List.length b) : Int), Int.toNat (4 : Int) + (0 : Nat) < List.length b, (0 : Int) ≤ (5 : Int) ∧ (5 : Int) < (↑(List.length b) : Int) ∧ (5 : Int) < (↑(List.length b) : Int), Int.toNat (5 : Int) + (0 : Nat) < List.length b, (0 : Int) ≤ (6 : Int) ∧ (6 : Int) < (↑(List.length b) : Int) ∧ (6 : Int) < (↑(List.length b) : Int), Int.toNat (6 : Int) + (0 : Nat) < List.length b, (0 : Int) ≤ (7 : Int) ∧ (7 : Int) < (↑(List.length b) : Int) ∧ (7 : Int) < (↑(List.length b) : Int), Int.toNat (7 : Int) + (0 : Nat) < List.length b]) .r (by kernel_rfl) (by (repeat' (first | exact obNil | refine obCons ?_ ?_)); all_goals (first | trivial | omega | (simp <;> omega))) (by kernel_rfl) rfl [1] [] (by kernel_rfl) obNil
theorem le64_ok (B : Nat) : le64Ct.Ok P0 B 1 54 := by
  intro vs ds gs out h hpre hn
  unfold le64Ct at h
  dsimp only at h
  split at h <;> first | (cases h; done) | skip
  rename_i b
  cases h
  exact le641 B b (hpre _ (by simp))

def putCt : Ct := ⟨[.val, .slc true, .val], [], fun vs ds gs => match vs, ds, gs with
  | [.one (.ag []), .one (.s (.u64 v))], [.d8 b], [] => bif Nat.beq b.length 8 then some ⟨.tup [], [.d8 (b8 v)], [], []⟩ else none
  | _, _, _ => none⟩
theorem put1 (B : Nat) (b : List (BitVec 8)) (v : BitVec 64) : FnE P0 B 1 64 [.one (.ag []), .one (.s (.osl 1 8)), .one (.s (.u64 v))] [(1, ⟨8, .d8 (lit 0 8 b), true, false, false⟩)] (1 + 1) ⟨.tup [], [(1, ⟨8, .d8 (b8 v), true, false, false⟩)], 1 + 1, .eff, []⟩ := by
  refine FnE.tri (cx := cxb true) (sz := 48) (fn := Try.f64) (c := bodyOf Try.f64) T0ok (by kernel_rfl) (by kernel_rfl) (by kernel_rfl) (by kernel_rfl) (by kernel_rfl) (by kernel_rfl) (Nat.le_refl _) ?_
  exact Tri.ret (cx := cxb true) mix T0ok (H0ok B true) 0 noOrc [] [1] (1 + 1) ⟨[], [(1, ⟨8, .d8 (b8 v), true, false, false⟩)], 1 + 1⟩ [] .n (by kernel_rfl) obNil (by kernel_rfl) rfl [1] [] (by kernel_rfl) obNil
theorem put_ok (B : Nat) : putCt.Ok P0 B 1 64 := by
  intro vs ds gs out h hpre hn
  unfold putCt at h
  dsimp only at h
  split at h <;> first | (cases h; done) | skip
  rename_i v b
  cases hb : Nat.beq b.length 8 with
  | false => rw [hb] at h; cases h
  | true =>
    rw [hb, cond_true] at h
    cases h
    have hk := Nat.eq_of_beq_eq_true hb
    have := put1 B b v
    rw [lit_eq hk] at this
    simp only [putCt, canArgs, segsOf, globs, addM, SegD.len, hk]
    exact this

noncomputable def HW (c : Bool) : Hook := hookC 66 (hookOf (cxb c) mulCt) (hookC 58 exAdd (hookC 62 exSub (hookC 54 (hookOf (cxb c) le64Ct) (hookC 64 (hookOf (cxb c) putCt) (H0 c)))))
theorem HWok (B : Nat) (c : Bool) : HookOk P0 B 1 (HW c) := .cons (.ct (cx := cxb c) (mul_ok B)) (.cons (HkOk.exAdd (fn := Try.f58) ⟨by kernel_rfl, by kernel_rfl, by kernel_rfl, by kernel_rfl, by kernel_rfl⟩) (.cons (HkOk.exSub (fn := Try.f62) ⟨by kernel_rfl, by kernel_rfl, by kernel_rfl, by kernel_rfl, by kernel_rfl⟩)
  (.cons (.ct (cx := cxb c) (le64_ok B)) (.cons (.ct (cx := cxb c) (put_ok B)) (H0ok B c)))))

def ovfOrc : Orc := orcL [(26, false)]
noncomputable def in59 : In := ⟨Try.f59, bodyOf Try.f59, 0, .read, noOrc⟩
theorem io59 : InOk P0 59 in59 := ⟨by kernel_rfl, by kernel_rfl, by kernel_rfl⟩
noncomputable def HV0 (c : Bool) : Hook := hookC 59 (inl (cxb c) (HW c) in59) (HW c)
theorem HV0ok (B : Nat) (c : Bool) : HookOk P0 B 1 (HV0 c) := HookOk.cons (HkOk.inl (cx := cxb c) mix T0ok (HWok B c) io59) (HWok B c)
noncomputable def in60 : In := ⟨Try.f60, bodyOf Try.f60, 0, .read, ovfOrc⟩
theorem io60 : InOk P0 60 in60 := ⟨by kernel_rfl, by kernel_rfl, by kernel_rfl⟩
noncomputable def HV1 (c : Bool) : Hook := hookC 60 (inl (cxb c) (HV0 c) in60) (HV0 c)
theorem HV1ok (B : Nat) (c : Bool) : HookOk P0 B 1 (HV1 c) := HookOk.cons (HkOk.inl (cx := cxb c) mix T0ok (HV0ok B c) io60) (HV0ok B c)
noncomputable def in61 : In := ⟨Try.f61, bodyOf Try.f61, 0, .read, noOrc⟩
theorem io61 : InOk P0 61 in61 := ⟨by kernel_rfl, by kernel_rfl, by kernel_rfl⟩
noncomputable def HV2 (c : Bool) : Hook := hookC 61 (inl (cxb c) (HV1 c) in61) (HV1 c)
theorem HV2ok (B : Nat) (c : Bool) : HookOk P0 B 1 (HV2 c) := HookOk.cons (HkOk.inl (cx := cxb c) mix T0ok (HV1ok B c) io61) (HV1ok B c)
noncomputable def in63 : In := ⟨Try.f63, bodyOf Try.f63, 0, .read, noOrc⟩
theorem io63 : InOk P0 63 in63 := ⟨by kernel_rfl, by kernel_rfl, by kernel_rfl⟩
noncomputable def HV (c : Bool) : Hook := hookC 63 (inl (cxb c) (HV2 c) in63) (HV2 c)
theorem HVok (B : Nat) (c : Bool) : HookOk P0 B 1 (HV c) := HookOk.cons (HkOk.inl (cx := cxb c) mix T0ok (HV2ok B c) io63) (HV2ok B c)
end Go.Sx
