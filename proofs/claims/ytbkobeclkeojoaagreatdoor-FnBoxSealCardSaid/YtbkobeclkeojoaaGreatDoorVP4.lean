/- Words with carries: bits.Mul64, bits.Add64, bits.Sub64, and poly1305's helpers. poly1305.updateGeneric: the states. poly1305.updateGeneric. poly1305.updateGeneric: the loop; its contract. poly1305.initialize, poly1305.finalize. Conditions: none. -/
import Derived.Test.YtbkobeclkeojoaaGreatDoorVQ1
import Derived.Test.YtbkobeclkeojoaaGreatDoorQ2
set_option maxRecDepth 1000000
set_option linter.unusedVariables false
namespace Go.Sx
open Go.Proofs

/-- the upper half of a product, by halves -/
def mulHp (x y : BitVec 64) : BitVec 64 :=
  let x0 := x &&& 4294967295#64
  let x1 := x >>> 32
  let y0 := y &&& 4294967295#64
  let y1 := y >>> 32
  let w0 := x0 * y0
  let t := x1 * y0 + w0 >>> 32
  let w1 := (t &&& 4294967295#64) + x0 * y1
  x1 * y1 + t >>> 32 + w1 >>> 32

theorem mulH_eqp (x y : BitVec 64) : mulHp x y = mhi x y := by
  apply BitVec.eq_of_toNat_eq
  have hx := x.isLt
  have hy := y.isLt
  have a0 := and_low x 32 4294967295#64 rfl
  have b0 := and_low y 32 4294967295#64 rfl
  have a1 := shr_nat x 32
  have b1 := shr_nat y 32
  have ex : x.toNat = (x >>> 32).toNat * 2 ^ 32 + (x &&& 4294967295#64).toNat := by omega
  have ey : y.toNat = (y >>> 32).toNat * 2 ^ 32 + (y &&& 4294967295#64).toNat := by omega
  rw [mhi_nat, ex, ey]
  unfold mulHp
  dsimp only
  have l0 : (x &&& 4294967295#64).toNat ≤ 2 ^ 32 - 1 := by omega
  have l1 : (x >>> 32).toNat ≤ 2 ^ 32 - 1 := by omega
  have m0 : (y &&& 4294967295#64).toNat ≤ 2 ^ 32 - 1 := by omega
  have m1 : (y >>> 32).toNat ≤ 2 ^ 32 - 1 := by omega
  clear ex ey a0 a1 b0 b1 hx hy
  generalize (x &&& 4294967295#64) = X0 at *
  generalize (x >>> 32) = X1 at *
  generalize (y &&& 4294967295#64) = Y0 at *
  generalize (y >>> 32) = Y1 at *
  have p00 : X0.toNat * Y0.toNat ≤ (2 ^ 32 - 1) * (2 ^ 32 - 1) := Nat.mul_le_mul l0 m0
  have p01 : X0.toNat * Y1.toNat ≤ (2 ^ 32 - 1) * (2 ^ 32 - 1) := Nat.mul_le_mul l0 m1
  have p10 : X1.toNat * Y0.toNat ≤ (2 ^ 32 - 1) * (2 ^ 32 - 1) := Nat.mul_le_mul l1 m0
  have p11 : X1.toNat * Y1.toNat ≤ (2 ^ 32 - 1) * (2 ^ 32 - 1) := Nat.mul_le_mul l1 m1
  have e : (X1.toNat * 2 ^ 32 + X0.toNat) * (Y1.toNat * 2 ^ 32 + Y0.toNat) = X1.toNat * Y1.toNat * 2 ^ 64 + (X1.toNat * Y0.toNat + X0.toNat * Y1.toNat) * 2 ^ 32 + X0.toNat * Y0.toNat := by grind
  rw [e]
  have q00 : (X0 * Y0).toNat = X0.toNat * Y0.toNat := by rw [BitVec.toNat_mul, Nat.mod_eq_of_lt (by omega)]
  have q01 : (X0 * Y1).toNat = X0.toNat * Y1.toNat := by rw [BitVec.toNat_mul, Nat.mod_eq_of_lt (by omega)]
  have q10 : (X1 * Y0).toNat = X1.toNat * Y0.toNat := by rw [BitVec.toNat_mul, Nat.mod_eq_of_lt (by omega)]
  have q11 : (X1 * Y1).toNat = X1.toNat * Y1.toNat := by rw [BitVec.toNat_mul, Nat.mod_eq_of_lt (by omega)]
  generalize X0.toNat * Y0.toNat = P00 at *
  generalize X0.toNat * Y1.toNat = P01 at *
  generalize X1.toNat * Y0.toNat = P10 at *
  generalize X1.toNat * Y1.toNat = P11 at *
  generalize X0 * Y0 = W00 at *
  generalize X0 * Y1 = W01 at *
  generalize X1 * Y0 = W10 at *
  generalize X1 * Y1 = W11 at *
  have t1 : (W10 + W00 >>> 32).toNat = P10 + P00 / 2 ^ 32 := by rw [BitVec.toNat_add, shr_nat, q10, q00]; omega
  generalize W10 + W00 >>> 32 = T at *
  have t2 : (T &&& 4294967295#64).toNat = (P10 + P00 / 2 ^ 32) % 2 ^ 32 := by rw [and_low T 32 _ rfl, t1]
  have t3 : ((T &&& 4294967295#64) + W01).toNat = (P10 + P00 / 2 ^ 32) % 2 ^ 32 + P01 := by rw [BitVec.toNat_add, t2, q01]; omega
  generalize (T &&& 4294967295#64) + W01 = U at *
  rw [BitVec.toNat_add, BitVec.toNat_add, shr_nat, shr_nat, t1, t3, q11]
  omega

theorem mul1p (B : Nat) (x y : BitVec 64) : FnE P0 B 2 104 [.one (.s (.u64 x)), .one (.s (.u64 y))] [] 2 ⟨.tup [.s (.u64 (mulHp x y)), .s (.u64 (x * y))], [], 2, .eff, []⟩ := by
  refine FnE.tri (cx := cxb true) (sz := 51) (fn := Tryz.f104) (c := bodyOf Tryz.f104) T0ok (by kernel_rfl) (by kernel_rfl) (by kernel_rfl) (by kernel_rfl) (by kernel_rfl) (by kernel_rfl) (Nat.le_refl _) ?_
  exact Tri.ret (cx := cxb true) mix T0ok (H0ok B true) 0 noOrc [4, 5] [] 2 ⟨[(4, .one (.s (.u64 (mulHp x y)))), (5, .one (.s (.u64 (x * y))))], [], 2⟩ [] .r (by kernel_rfl) obNil (by kernel_rfl) rfl [] [] (by kernel_rfl) obNil

def mulCtp : Ct := ⟨[.val, .val], [], fun vs ds gs => match vs, ds, gs with
  | [.one (.s (.u64 x)), .one (.s (.u64 y))], [], [] => some ⟨.tup [.s (.u64 (mhi x y)), .s (.u64 (x * y))], [], [], []⟩
  | _, _, _ => none⟩

theorem mul_ok (B : Nat) : mulCtp.Ok P0 B 2 104 := by
  intro vs ds gs out h hpre hn
  unfold mulCtp at h
  dsimp only at h
  split at h <;> first | (cases h; done) | skip
  rename_i x y
  cases h
  have := mul1p B x y
  rw [mulH_eqp] at this
  exact this


def le64Ct : Ct := ⟨[.val, .slc false], [], fun vs ds gs => match vs, ds, gs with
  | [.one (.ag [])], [.d8 b], [] => some ⟨.one (.s (.u64 (le64 b))), [.d8 b], [], [8 ≤ b.length]⟩
  | _, _, _ => none⟩
def le64M (b : List (BitVec 8)) : Mem := [(2, ⟨b.length, .d8 b, false, false, false⟩)]
theorem le641 (B : Nat) (b : List (BitVec 8)) (h : 8 ≤ b.length) : FnE P0 B 2 79 [.one (.ag []), .one (.s (.osl 2 b.length))] (le64M b) (2 + 1) ⟨.one (.s (.u64 (le64 b))), le64M b, 2 + 1, .eff, []⟩ := by
  refine FnE.tri (cx := cxb false) (sz := 54) (fn := Tryz.f79) (c := bodyOf Tryz.f79) T0ok (by kernel_rfl) (by kernel_rfl) (by kernel_rfl) (by kernel_rfl) (by kernel_rfl) (by kernel_rfl) (Nat.le_refl _) ?_
  exact Tri.ret (cx := cxb false) mix T0ok (H0ok B false) 0 noOrc [4] [2] (2 + 1) ⟨[(4, .one (.s (.u64 (le64 b))))], le64M b, 2 + 1⟩ ([(0 : Int) ≤ (7 : Int) ∧ (7 : Int) < (↑(List.length b) : Int) ∧ (7 : Int) < (↑(List.length b) : Int), Int.toNat (7 : Int) + (0 : Nat) < List.length b, (0 : Int) ≤ (0 : Int) ∧ (0 : Int) < (↑(List.length b) : Int) ∧ (0 : Int) < (↑(List.length b) : Int), Int.toNat (0 : Int) + (0 : Nat) < List.length b, (0 : Int) ≤ (1 : Int) ∧ (1 : Int) < (↑(List.length b) : Int) ∧ (1 : Int) < (↑(List.length b) : Int), Int.toNat (1 : Int) + (0 : Nat) < List.length b, (0 : Int) ≤ (2 : Int) ∧ (2 : Int) < (↑(List.length b) : Int) ∧ (2 : Int) < (↑(List.length b) : Int), Int.toNat (2 : Int) + (0 : Nat) < List.length b, (0 : Int) ≤ (3 : Int) ∧ (3 : Int) < (↑(List.length b) : Int) ∧ (3 : Int) < (↑(List.length b) : Int), Int.toNat (3 : Int) + (0 : Nat) < List.length b, (0 : Int) ≤ (4 : Int) ∧ (4 : Int) < (↑(List.length b) : Int) ∧ (4 : Int) < (↑(List.length b) : Int), Int.toNat (4 : Int) + (0 : Nat) < List.length b, (0 : Int) ≤ (5 : Int) ∧ (5 : Int) < (↑(List.length b) : Int) ∧ (5 : Int) < (↑(List.length b) : Int), Int.toNat (5 : Int) + (0 : Nat) < List.length b, (0 : Int) ≤ (6 : Int) ∧ (6 : Int) < (↑(List.length b) : Int) ∧ (6 : Int) < (↑(List.length b) : Int), Int.toNat (6 : Int) + (0 : Nat) < List.length b, (0 : Int) ≤ (7 : Int) ∧ (7 : Int) < (↑(List.length b) : Int) ∧ (7 : Int) < (↑(List.length b) : Int), Int.toNat (7 : Int) + (0 : Nat) < List.length b]) .r (by kernel_rfl) (by (repeat' (first | exact obNil | refine obCons ?_ ?_)); all_goals (first | trivial | omega | (simp <;> omega))) (by kernel_rfl) rfl [2] [] (by kernel_rfl) obNil
theorem le64_ok (B : Nat) : le64Ct.Ok P0 B 2 79 := by
  intro vs ds gs out h hpre hn
  unfold le64Ct at h
  dsimp only at h
  split at h <;> first | (cases h; done) | skip
  rename_i b
  cases h
  exact le641 B b (hpre _ (by simp))

def putCt : Ct := ⟨[.val, .slc true, .val], [], fun vs ds gs => match vs, ds, gs with
  | [.one (.ag []), .one (.s (.u64 v))], [.d8 b], [] => bif Nat.beq b.length 8 then some ⟨.tup [], [.d8 (b8 v)], [], []⟩ else none
  | _, _, _ => none⟩
theorem put1 (B : Nat) (b : List (BitVec 8)) (v : BitVec 64) : FnE P0 B 2 96 [.one (.ag []), .one (.s (.osl 2 8)), .one (.s (.u64 v))] [(2, ⟨8, .d8 (lit 0 8 b), true, false, false⟩)] (2 + 1) ⟨.tup [], [(2, ⟨8, .d8 (b8 v), true, false, false⟩)], 2 + 1, .eff, []⟩ := by
  refine FnE.tri (cx := cxb true) (sz := 48) (fn := Tryz.f96) (c := bodyOf Tryz.f96) T0ok (by kernel_rfl) (by kernel_rfl) (by kernel_rfl) (by kernel_rfl) (by kernel_rfl) (by kernel_rfl) (Nat.le_refl _) ?_
  exact Tri.ret (cx := cxb true) mix T0ok (H0ok B true) 0 noOrc [] [2] (2 + 1) ⟨[], [(2, ⟨8, .d8 (b8 v), true, false, false⟩)], 2 + 1⟩ [] .n (by kernel_rfl) obNil (by kernel_rfl) rfl [2] [] (by kernel_rfl) obNil
theorem put_ok (B : Nat) : putCt.Ok P0 B 2 96 := by
  intro vs ds gs out h hpre hn
  unfold putCt at h
  dsimp only at h
  split at h <;> first | (cases h; done) | skip
  rename_i v b
  cases hb : Nat.beq b.length 8 with
  | false => rw [hb] at h; cases h
  | true =>
    rw [hb, cond_true] at h
    cases h
    have hk := Nat.eq_of_beq_eq_true hb
    have := put1 B b v
    rw [lit_eq hk] at this
    simp only [putCt, canArgs, segsOf, globs, addM, SegD.len, hk]
    exact this

noncomputable def HW (c : Bool) : Hook := hookC 104 (hookOf (cxb c) mulCtp) (hookC 90 exAdd (hookC 94 exSub (hookC 79 (hookOf (cxb c) le64Ct) (hookC 96 (hookOf (cxb c) putCt) (H0 c)))))
theorem HWok (B : Nat) (c : Bool) : HookOk P0 B 2 (HW c) := .cons (.ct (cx := cxb c) (mul_ok B)) (.cons (HkOk.exAdd (fn := Tryz.f90) ⟨by kernel_rfl, by kernel_rfl, by kernel_rfl, by kernel_rfl, by kernel_rfl⟩) (.cons (HkOk.exSub (fn := Tryz.f94) ⟨by kernel_rfl, by kernel_rfl, by kernel_rfl, by kernel_rfl, by kernel_rfl⟩)
  (.cons (.ct (cx := cxb c) (le64_ok B)) (.cons (.ct (cx := cxb c) (put_ok B)) (H0ok B c)))))

def ovfOrc : Orc := orcL [(26, false)]
noncomputable def in91 : In := ⟨Tryz.f91, bodyOf Tryz.f91, 0, .read, noOrc⟩
theorem io91 : InOk P0 91 in91 := ⟨by kernel_rfl, by kernel_rfl, by kernel_rfl⟩
noncomputable def HV0 (c : Bool) : Hook := hookC 91 (inl (cxb c) (HW c) in91) (HW c)
theorem HV0ok (B : Nat) (c : Bool) : HookOk P0 B 2 (HV0 c) := HookOk.cons (HkOk.inl (cx := cxb c) mix T0ok (HWok B c) io91) (HWok B c)
noncomputable def in92 : In := ⟨Tryz.f92, bodyOf Tryz.f92, 0, .read, ovfOrc⟩
theorem io92 : InOk P0 92 in92 := ⟨by kernel_rfl, by kernel_rfl, by kernel_rfl⟩
noncomputable def HV1 (c : Bool) : Hook := hookC 92 (inl (cxb c) (HV0 c) in92) (HV0 c)
theorem HV1ok (B : Nat) (c : Bool) : HookOk P0 B 2 (HV1 c) := HookOk.cons (HkOk.inl (cx := cxb c) mix T0ok (HV0ok B c) io92) (HV0ok B c)
noncomputable def in93 : In := ⟨Tryz.f93, bodyOf Tryz.f93, 0, .read, noOrc⟩
theorem io93 : InOk P0 93 in93 := ⟨by kernel_rfl, by kernel_rfl, by kernel_rfl⟩
noncomputable def HV2 (c : Bool) : Hook := hookC 93 (inl (cxb c) (HV1 c) in93) (HV1 c)
theorem HV2ok (B : Nat) (c : Bool) : HookOk P0 B 2 (HV2 c) := HookOk.cons (HkOk.inl (cx := cxb c) mix T0ok (HV1ok B c) io93) (HV1ok B c)
noncomputable def in95 : In := ⟨Tryz.f95, bodyOf Tryz.f95, 0, .read, noOrc⟩
theorem io95 : InOk P0 95 in95 := ⟨by kernel_rfl, by kernel_rfl, by kernel_rfl⟩
noncomputable def HV (c : Bool) : Hook := hookC 95 (inl (cxb c) (HV2 c) in95) (HV2 c)
theorem HVok (B : Nat) (c : Bool) : HookOk P0 B 2 (HV c) := HookOk.cons (HkOk.inl (cx := cxb c) mix T0ok (HV2ok B c) io95) (HV2ok B c)
end Go.Sx

set_option maxRecDepth 1000000
set_option linter.unusedVariables false
namespace Go.Sx
open Go.Proofs

def uM (m : List (BitVec 8)) (st : List (BitVec 64)) : Mem := [(2, ⟨7, .d64 (lit 0 7 st), true, false, false⟩), (2 + 1, ⟨m.length, .d8 m, false, false, false⟩)]
def uSt (m : List (BitVec 8)) (st : List (BitVec 64)) (h : H3) (v : Sc) : St := ⟨[(0, .one (.s (.p 2 0))), (1, .one (.s v)), (4, .one (.s (.u64 h.x))), (5, .one (.s (.u64 h.y))), (6, .one (.s (.u64 h.z))), (7, .one (.s (.u64 (st.getD 3 0)))), (8, .one (.s (.u64 (st.getD 4 0))))], uM m st, 2 + 2⟩
def uS2 (m : List (BitVec 8)) (st : List (BitVec 64)) (t : PW) (v : Sc) : St := ⟨[(0, .one (.s (.p 2 0))), (1, .one (.s v)), (21, .one (.s (.u64 t.t0))), (22, .one (.s (.u64 t.t1))), (23, .one (.s (.u64 t.t2))), (24, .one (.s (.u64 t.t3))), (7, .one (.s (.u64 (st.getD 3 0)))), (8, .one (.s (.u64 (st.getD 4 0))))], uM m st, 2 + 2⟩
noncomputable def uBody : List Code := flat (bodyOf Tryz.f80)
/-- the body of the first loop, or block -/
noncomputable def lpBp (l : List Code) : List Code := match l with
  | .block _ (.loop c) :: _ => flat c
  | .block _ c :: _ => flat c
  | _ => []
noncomputable def uLB : List Code := lpBp (uBody.drop 2)
noncomputable def uIn : List Code := lpBp (uLB.drop 2)
end Go.Sx

set_option maxRecDepth 1000000
set_option linter.unusedVariables false
namespace Go.Sx
open Go.Proofs

/-- the words behind the blocks -/
def setH (st : List (BitVec 64)) (h : H3) : List (BitVec 64) := [h.x, h.y, h.z, st.getD 3 0, st.getD 4 0, st.getD 5 0, st.getD 6 0]
def getH (st : List (BitVec 64)) : H3 := ⟨st.getD 0 0, st.getD 1 0, st.getD 2 0⟩
def uEx (m : List (BitVec 8)) (st : List (BitVec 64)) (h : H3) : St := ⟨[(0, .one (.s (.p 2 0))), (4, .one (.s (.u64 h.x))), (5, .one (.s (.u64 h.y))), (6, .one (.s (.u64 h.z)))], uM m st, 2 + 2⟩

section
variable (B : Nat) (m : List (BitVec 8)) (st : List (BitVec 64)) (hr0 : (st.getD 3 0).toNat < 2 ^ 60) (hr1 : (st.getD 4 0).toNat < 2 ^ 60) {R : Ex → St → Prop}
include hr0 hr1

theorem uMulObs (h : H3) (hz : h.z.toNat ≤ 7) : ∀ p ∈ ([(!decide (BitVec.toNat (mhi (H3.z h) (List.getD st (3 : Nat) (0 : BitVec (64 : Nat)))) = BitVec.toNat (BitVec.ofNat (64 : Nat) (nat_lit 0)))) = false, (!decide (BitVec.toNat (mhi (H3.z h) (List.getD st (4 : Nat) (0 : BitVec (64 : Nat)))) = BitVec.toNat (BitVec.ofNat (64 : Nat) (nat_lit 0)))) = false, BitVec.toNat (BitVec.ofNat (64 : Nat) (nat_lit 0)) ≤ (1 : Nat), BitVec.toNat (acy (H3.y h * List.getD st (3 : Nat) (0 : BitVec (64 : Nat))) (H3.x h * List.getD st (4 : Nat) (0 : BitVec (64 : Nat))) (BitVec.ofNat (64 : Nat) (nat_lit 0))) ≤ (1 : Nat), (!decide (BitVec.toNat (acy (mhi (H3.y h) (List.getD st (3 : Nat) (0 : BitVec (64 : Nat)))) (mhi (H3.x h) (List.getD st (4 : Nat) (0 : BitVec (64 : Nat)))) (acy (H3.y h * List.getD st (3 : Nat) (0 : BitVec (64 : Nat))) (H3.x h * List.getD st (4 : Nat) (0 : BitVec (64 : Nat))) (BitVec.ofNat (64 : Nat) (nat_lit 0)))) = BitVec.toNat (BitVec.ofNat (64 : Nat) (nat_lit 0)))) = false, BitVec.toNat (BitVec.ofNat (64 : Nat) (nat_lit 0)) ≤ (1 : Nat), BitVec.toNat (acy (H3.z h * List.getD st (3 : Nat) (0 : BitVec (64 : Nat))) (H3.y h * List.getD st (4 : Nat) (0 : BitVec (64 : Nat))) (BitVec.ofNat (64 : Nat) (nat_lit 0))) ≤ (1 : Nat), (!decide (BitVec.toNat (acy (mhi (H3.z h) (List.getD st (3 : Nat) (0 : BitVec (64 : Nat)))) (mhi (H3.y h) (List.getD st (4 : Nat) (0 : BitVec (64 : Nat)))) (acy (H3.z h * List.getD st (3 : Nat) (0 : BitVec (64 : Nat))) (H3.y h * List.getD st (4 : Nat) (0 : BitVec (64 : Nat))) (BitVec.ofNat (64 : Nat) (nat_lit 0)))) = BitVec.toNat (BitVec.ofNat (64 : Nat) (nat_lit 0)))) = false, BitVec.toNat (BitVec.ofNat (64 : Nat) (nat_lit 0)) ≤ (1 : Nat), BitVec.toNat (acy (H3.y h * List.getD st (3 : Nat) (0 : BitVec (64 : Nat)) + H3.x h * List.getD st (4 : Nat) (0 : BitVec (64 : Nat)) + BitVec.ofNat (64 : Nat) (nat_lit 0)) (mhi (H3.x h) (List.getD st (3 : Nat) (0 : BitVec (64 : Nat)))) (BitVec.ofNat (64 : Nat) (nat_lit 0))) ≤ (1 : Nat), BitVec.toNat (acy (H3.z h * List.getD st (3 : Nat) (0 : BitVec (64 : Nat)) + H3.y h * List.getD st (4 : Nat) (0 : BitVec (64 : Nat)) + BitVec.ofNat (64 : Nat) (nat_lit 0)) (mhi (H3.y h) (List.getD st (3 : Nat) (0 : BitVec (64 : Nat))) + mhi (H3.x h) (List.getD st (4 : Nat) (0 : BitVec (64 : Nat))) + acy (H3.y h * List.getD st (3 : Nat) (0 : BitVec (64 : Nat))) (H3.x h * List.getD st (4 : Nat) (0 : BitVec (64 : Nat))) (BitVec.ofNat (64 : Nat) (nat_lit 0))) (acy (H3.y h * List.getD st (3 : Nat) (0 : BitVec (64 : Nat)) + H3.x h * List.getD st (4 : Nat) (0 : BitVec (64 : Nat)) + BitVec.ofNat (64 : Nat) (nat_lit 0)) (mhi (H3.x h) (List.getD st (3 : Nat) (0 : BitVec (64 : Nat)))) (BitVec.ofNat (64 : Nat) (nat_lit 0)))) ≤ (1 : Nat)] : List Prop), p := by
  obtain ⟨_, z1, z2, z3, z4⟩ := pmul_spec h.x h.y h.z (st.getD 3 0) (st.getD 4 0) hz hr0 hr1
  refine obCons ?_ <| obCons ?_ <| obCons ?_ <| obCons ?_ <| obCons ?_ <| obCons ?_ <| obCons ?_ <| obCons ?_ <| obCons ?_ <| obCons ?_ <| obCons ?_ obNil
  · rw [z1]; rfl
  · rw [z2]; rfl
  · decide
  · exact acy_le (by decide)
  · rw [z3]; rfl
  · decide
  · exact acy_le (by decide)
  · rw [z4]; rfl
  · decide
  · exact acy_le (by decide)
  · exact acy_le (acy_le (by decide))

omit hr0 hr1 in
theorem uRedObs (t : PW) : ∀ p ∈ ([BitVec.toNat (BitVec.ofNat (64 : Nat) (nat_lit 0)) ≤ (1 : Nat), BitVec.toNat (acy (PW.t0 t) (PW.t2 t &&& BitVec.ofNat (64 : Nat) (nat_lit 18446744073709551612)) (BitVec.ofNat (64 : Nat) (nat_lit 0))) ≤ (1 : Nat), BitVec.toNat (BitVec.ofNat (64 : Nat) (nat_lit 0)) ≤ (1 : Nat), BitVec.toNat (acy (PW.t0 t + (PW.t2 t &&& BitVec.ofNat (64 : Nat) (nat_lit 18446744073709551612)) + BitVec.ofNat (64 : Nat) (nat_lit 0)) ((PW.t2 t &&& BitVec.ofNat (64 : Nat) (nat_lit 18446744073709551612)) >>> BitVec.toNat (BitVec.ofNat (64 : Nat) (nat_lit 2)) ||| (PW.t3 t &&& BitVec.ofNat (64 : Nat) (nat_lit 3)) <<< BitVec.toNat (BitVec.ofNat (64 : Nat) (nat_lit 62))) (BitVec.ofNat (64 : Nat) (nat_lit 0))) ≤ (1 : Nat)] : List Prop), p := by
  refine obCons ?_ <| obCons ?_ <| obCons ?_ <| obCons ?_ obNil
  · decide
  · exact acy_le (by decide)
  · decide
  · exact acy_le (by decide)

theorem uMulT (h : H3) (hz : h.z.toNat ≤ 7) (o n q : Nat) (hR : R .n (uSt m st (uMul h (st.getD 3 0) (st.getD 4 0)) (.sl (2 + 1) o n q))) : Tri P0 B (cxb true) 232 (2 + 2) (uIn.drop 3) (uSt m st h (.sl (2 + 1) o n q)) R := by
  refine Tri.stepR (cx := cxb true) mix T0ok (HVok B true) 18 0 (orcL [(57, true), (129, false), (133, false)]) [0,1,21,22,23,24,7,8] [(2, 2), (2 + 1, 2 + 1)] (2 + 2) (uS2 m st (pmul h.x h.y h.z (st.getD 3 0) (st.getD 4 0)) (.sl (2 + 1) o n q)) _ (by kernel_rfl) (uMulObs st hr0 hr1 h hz) ?_
  exact Tri.finR (cx := cxb true) mix T0ok (HVok B true) 0 (orcL [(57, true), (129, false), (133, false)]) [0,1,4,5,6,7,8] [(2, 2), (2 + 1, 2 + 1)] (2 + 2) .n (uSt m st (red (pmul h.x h.y h.z (st.getD 3 0) (st.getD 4 0))) (.sl (2 + 1) o n q)) _ (by kernel_rfl) (uRedObs (pmul h.x h.y h.z (st.getD 3 0) (st.getD 4 0))) hR

theorem uMulT0 (h : H3) (hz : h.z.toNat ≤ 7) (hR : R .n (uSt m st (uMul h (st.getD 3 0) (st.getD 4 0)) .sl0)) : Tri P0 B (cxb true) 232 (2 + 2) (uIn.drop 3) (uSt m st h .sl0) R := by
  refine Tri.stepR (cx := cxb true) mix T0ok (HVok B true) 18 0 (orcL [(57, true), (129, false), (133, false)]) [0,1,21,22,23,24,7,8] [(2, 2), (2 + 1, 2 + 1)] (2 + 2) (uS2 m st (pmul h.x h.y h.z (st.getD 3 0) (st.getD 4 0)) .sl0) _ (by kernel_rfl) (uMulObs st hr0 hr1 h hz) ?_
  exact Tri.finR (cx := cxb true) mix T0ok (HVok B true) 0 (orcL [(57, true), (129, false), (133, false)]) [0,1,4,5,6,7,8] [(2, 2), (2 + 1, 2 + 1)] (2 + 2) .n (uSt m st (red (pmul h.x h.y h.z (st.getD 3 0) (st.getD 4 0))) .sl0) _ (by kernel_rfl) (uRedObs (pmul h.x h.y h.z (st.getD 3 0) (st.getD 4 0))) hR

theorem uFullT (h : H3) (hz : h.z.toNat ≤ 5) (k o n q : Nat) (hn : 16 ≤ n) (hq : n ≤ q) (ho : o = 16 * k) (hm : n + 16 * k = m.length)
    (hR : R .n (uSt m st (uFull h (st.getD 3 0) (st.getD 4 0) (m.drop (16 * k))) (.sl (2 + 1) (if q = 16 then o else 16 + o) (n - 16) (q - 16)))) : Tri P0 B (cxb true) 232 (2 + 2) uIn (uSt m st h (.sl (2 + 1) o n q)) R := by
  have e1 : List.take 8 (List.drop (if q = 0 then o else 0 + o) m) = (m.drop (16 * k)).take 8 := by rw [if_neg (by omega), Nat.zero_add, ho]
  have e2 : List.take 8 (List.drop (if q = 8 then o else 8 + o) m) = ((m.drop (16 * k)).drop 8).take 8 := by rw [if_neg (by omega), List.drop_drop, ho, Nat.add_comm 8]
  have l1 : (List.take 8 (List.drop (if q = 0 then o else 0 + o) m)).length = 8 := by rw [e1]; simp; omega
  have l2 : (List.take 8 (List.drop (if q = 8 then o else 8 + o) m)).length = 8 := by rw [e2]; simp; omega
  refine Tri.chg (cx := cxb false) rfl ?_
  refine Tri.stepR (cx := cxb false) mix T0ok (HVok B false) 3 0 (orcL [(57, true), (129, false), (133, false)]) [0,1,4,5,6,7,8] [(2, 2), (2 + 1, 2 + 1)] (2 + 2) (uSt m st (uAdd h (le64 (List.take 8 (List.drop (if q = 0 then o else 0 + o) m))) (le64 (List.take 8 (List.drop (if q = 8 then o else 8 + o) m))) true) (.sl (2 + 1) (if q = 16 then o else 16 + o) (n - 16) (q - 16))) ([decide ((16 : Int) ≤ (↑n : Int)) = true, (0 : Int) ≤ (0 : Int) ∧ (0 : Int) ≤ (8 : Int) ∧ (8 : Int) ≤ (↑q : Int), (if q = Int.toNat (0 : Int) then o else Int.toNat (0 : Int) + o) + (Int.toNat (8 : Int) - Int.toNat (0 : Int)) ≤ List.length m ∧ Int.toNat (8 : Int) - Int.toNat (0 : Int) ≤ q - Int.toNat (0 : Int), List.length (List.take (Int.toNat (8 : Int) - Int.toNat (0 : Int)) (List.drop (if q = Int.toNat (0 : Int) then o else Int.toNat (0 : Int) + o) m)) = List.length (List.take (Int.toNat (8 : Int) - Int.toNat (0 : Int)) (List.drop (if q = Int.toNat (0 : Int) then o else Int.toNat (0 : Int) + o) m)) ∧ True, (8 : Nat) ≤ List.length (List.take (Int.toNat (8 : Int) - Int.toNat (0 : Int)) (List.drop (if q = Int.toNat (0 : Int) then o else Int.toNat (0 : Int) + o) m)), BitVec.toNat (BitVec.ofNat (64 : Nat) (nat_lit 0)) ≤ (1 : Nat), (0 : Int) ≤ (8 : Int) ∧ (8 : Int) ≤ (16 : Int) ∧ (16 : Int) ≤ (↑q : Int), (if q = Int.toNat (8 : Int) then o else Int.toNat (8 : Int) + o) + (Int.toNat (16 : Int) - Int.toNat (8 : Int)) ≤ List.length m ∧ Int.toNat (16 : Int) - Int.toNat (8 : Int) ≤ q - Int.toNat (8 : Int), List.length (List.take (Int.toNat (16 : Int) - Int.toNat (8 : Int)) (List.drop (if q = Int.toNat (8 : Int) then o else Int.toNat (8 : Int) + o) m)) = List.length (List.take (Int.toNat (16 : Int) - Int.toNat (8 : Int)) (List.drop (if q = Int.toNat (8 : Int) then o else Int.toNat (8 : Int) + o) m)) ∧ True, (8 : Nat) ≤ List.length (List.take (Int.toNat (16 : Int) - Int.toNat (8 : Int)) (List.drop (if q = Int.toNat (8 : Int) then o else Int.toNat (8 : Int) + o) m)), BitVec.toNat (acy (H3.x h) (le64 (List.take (Int.toNat (8 : Int) - Int.toNat (0 : Int)) (List.drop (if q = Int.toNat (0 : Int) then o else Int.toNat (0 : Int) + o) m))) (BitVec.ofNat (64 : Nat) (nat_lit 0))) ≤ (1 : Nat), (0 : Int) ≤ (16 : Int) ∧ (16 : Int) ≤ (↑n : Int) ∧ (↑n : Int) ≤ (↑q : Int)]) (by kernel_rfl) ?_ ?_
  · refine obCons ?_ <| obCons ?_ <| obCons ?_ <| obCons ?_ <| obCons ?_ <| obCons ?_ <| obCons ?_ <| obCons ?_ <| obCons ?_ <| obCons ?_ <| obCons ?_ <| obCons ?_ obNil
    · exact decide_eq_true (by omega)
    · omega
    · show (if q = 0 then o else 0 + o) + 8 ≤ m.length ∧ 8 ≤ q - 0; rw [if_neg (by omega)]; omega
    · exact ⟨rfl, trivial⟩
    · exact Nat.le_of_eq l1.symm
    · decide
    · omega
    · show (if q = 8 then o else 8 + o) + 8 ≤ m.length ∧ 8 ≤ q - 8; rw [if_neg (by omega)]; omega
    · exact ⟨rfl, trivial⟩
    · exact Nat.le_of_eq l2.symm
    · exact acy_le (by decide)
    · omega
  · rw [e1, e2]
    refine Tri.chg (cx := cxb true) rfl ?_
    exact uMulT B m st hr0 hr1 _ (uAdd_spec h _ _ true hz).2 _ _ _ hR

theorem uTailT (h : H3) (hz : h.z.toNat ≤ 5) (k o n q : Nat) (h0 : 0 < n) (hn : n < 16) (ho : o = 16 * k) (hm : n + 16 * k = m.length)
    (hR : R .n (uSt m st (uTail h (st.getD 3 0) (st.getD 4 0) (m.drop (16 * k))) .sl0)) : Tri P0 B (cxb true) 232 (2 + 2) uIn (uSt m st h (.sl (2 + 1) o n q)) R := by
  have e0 : List.take (Nat.min n 16) (List.drop o m) = m.drop (16 * k) := by
    rw [ho]; exact List.take_of_length_le (by rw [List.length_drop]; show _ ≤ min n 16; omega)
  have ln : (m.drop (16 * k)).length = n := by rw [List.length_drop]; omega
  have e1 : (splice (List.replicate 16 0#8) 0 (List.take (Nat.min n 16) (List.drop o m))).set n 1#8 = uBuf (m.drop (16 * k)) := by
    rw [e0]; unfold uBuf; rw [ln]
  have hb : (uBuf (m.drop (16 * k))).length = 16 := (uBuf_spec _ (by rw [ln]; exact hn)).1
  refine Tri.chg (cx := cxb false) rfl ?_
  refine Tri.stepR (cx := cxb false) mix T0ok (HVok B false) 3 0 (orcL [(57, false), (129, false), (133, false)]) [0,1,4,5,6,7,8] [(2, 2), (2 + 1, 2 + 1)] (2 + 2) (uSt m st (uAdd h (le64 (List.take 8 (List.drop 0 ((splice (List.replicate 16 0#8) 0 (List.take (Nat.min n 16) (List.drop o m))).set n 1#8)))) (le64 (List.take 8 (List.drop 8 ((splice (List.replicate 16 0#8) 0 (List.take (Nat.min n 16) (List.drop o m))).set n 1#8)))) false) .sl0) ([decide ((16 : Int) ≤ (↑n : Int)) = false, (0 : Int) ≤ (0 : Int) ∧ (0 : Int) ≤ (↑(16 : Nat) : Int) ∧ (↑(16 : Nat) : Int) ≤ (↑(16 : Nat) : Int), o + n ≤ List.length m ∧ Int.toNat (0 : Int) + (0 : Nat) + (Int.toNat (↑(16 : Nat) : Int) - Int.toNat (0 : Int)) ≤ List.length (List.replicate (16 : Nat) (0 : BitVec (8 : Nat))), (0 : Int) ≤ (↑n : Int) ∧ (↑n : Int) < (↑(16 : Nat) : Int), Int.toNat (↑n : Int) + (0 : Nat) + (1 : Nat) ≤ List.length (List.replicate (16 : Nat) (0 : BitVec (8 : Nat))), (0 : Int) ≤ (0 : Int) ∧ (0 : Int) ≤ (8 : Int) ∧ (8 : Int) ≤ (↑(16 : Nat) : Int), Int.toNat (0 : Int) + (0 : Nat) + (Int.toNat (8 : Int) - Int.toNat (0 : Int)) ≤ List.length (List.set (splice (List.replicate (16 : Nat) (0 : BitVec (8 : Nat))) (Int.toNat (0 : Int) + (0 : Nat)) (List.take (Nat.min n (Int.toNat (↑(16 : Nat) : Int) - Int.toNat (0 : Int))) (List.drop o m))) (Int.toNat (↑n : Int) + (0 : Nat)) (BitVec.ofNat (8 : Nat) (nat_lit 1))) ∧ Int.toNat (8 : Int) - Int.toNat (0 : Int) ≤ (16 : Nat) - Int.toNat (0 : Int), List.length (List.take (Int.toNat (8 : Int) - Int.toNat (0 : Int)) (List.drop (Int.toNat (0 : Int) + (0 : Nat)) (List.set (splice (List.replicate (16 : Nat) (0 : BitVec (8 : Nat))) (Int.toNat (0 : Int) + (0 : Nat)) (List.take (Nat.min n (Int.toNat (↑(16 : Nat) : Int) - Int.toNat (0 : Int))) (List.drop o m))) (Int.toNat (↑n : Int) + (0 : Nat)) (BitVec.ofNat (8 : Nat) (nat_lit 1))))) = List.length (List.take (Int.toNat (8 : Int) - Int.toNat (0 : Int)) (List.drop (Int.toNat (0 : Int) + (0 : Nat)) (List.set (splice (List.replicate (16 : Nat) (0 : BitVec (8 : Nat))) (Int.toNat (0 : Int) + (0 : Nat)) (List.take (Nat.min n (Int.toNat (↑(16 : Nat) : Int) - Int.toNat (0 : Int))) (List.drop o m))) (Int.toNat (↑n : Int) + (0 : Nat)) (BitVec.ofNat (8 : Nat) (nat_lit 1))))) ∧ True, (8 : Nat) ≤ List.length (List.take (Int.toNat (8 : Int) - Int.toNat (0 : Int)) (List.drop (Int.toNat (0 : Int) + (0 : Nat)) (List.set (splice (List.replicate (16 : Nat) (0 : BitVec (8 : Nat))) (Int.toNat (0 : Int) + (0 : Nat)) (List.take (Nat.min n (Int.toNat (↑(16 : Nat) : Int) - Int.toNat (0 : Int))) (List.drop o m))) (Int.toNat (↑n : Int) + (0 : Nat)) (BitVec.ofNat (8 : Nat) (nat_lit 1))))), BitVec.toNat (BitVec.ofNat (64 : Nat) (nat_lit 0)) ≤ (1 : Nat), (0 : Int) ≤ (8 : Int) ∧ (8 : Int) ≤ (16 : Int) ∧ (16 : Int) ≤ (↑(16 : Nat) : Int), Int.toNat (8 : Int) + (0 : Nat) + (Int.toNat (16 : Int) - Int.toNat (8 : Int)) ≤ List.length (List.set (splice (List.replicate (16 : Nat) (0 : BitVec (8 : Nat))) (Int.toNat (0 : Int) + (0 : Nat)) (List.take (Nat.min n (Int.toNat (↑(16 : Nat) : Int) - Int.toNat (0 : Int))) (List.drop o m))) (Int.toNat (↑n : Int) + (0 : Nat)) (BitVec.ofNat (8 : Nat) (nat_lit 1))) ∧ Int.toNat (16 : Int) - Int.toNat (8 : Int) ≤ (16 : Nat) - Int.toNat (8 : Int), List.length (List.take (Int.toNat (16 : Int) - Int.toNat (8 : Int)) (List.drop (Int.toNat (8 : Int) + (0 : Nat)) (List.set (splice (List.replicate (16 : Nat) (0 : BitVec (8 : Nat))) (Int.toNat (0 : Int) + (0 : Nat)) (List.take (Nat.min n (Int.toNat (↑(16 : Nat) : Int) - Int.toNat (0 : Int))) (List.drop o m))) (Int.toNat (↑n : Int) + (0 : Nat)) (BitVec.ofNat (8 : Nat) (nat_lit 1))))) = List.length (List.take (Int.toNat (16 : Int) - Int.toNat (8 : Int)) (List.drop (Int.toNat (8 : Int) + (0 : Nat)) (List.set (splice (List.replicate (16 : Nat) (0 : BitVec (8 : Nat))) (Int.toNat (0 : Int) + (0 : Nat)) (List.take (Nat.min n (Int.toNat (↑(16 : Nat) : Int) - Int.toNat (0 : Int))) (List.drop o m))) (Int.toNat (↑n : Int) + (0 : Nat)) (BitVec.ofNat (8 : Nat) (nat_lit 1))))) ∧ True, (8 : Nat) ≤ List.length (List.take (Int.toNat (16 : Int) - Int.toNat (8 : Int)) (List.drop (Int.toNat (8 : Int) + (0 : Nat)) (List.set (splice (List.replicate (16 : Nat) (0 : BitVec (8 : Nat))) (Int.toNat (0 : Int) + (0 : Nat)) (List.take (Nat.min n (Int.toNat (↑(16 : Nat) : Int) - Int.toNat (0 : Int))) (List.drop o m))) (Int.toNat (↑n : Int) + (0 : Nat)) (BitVec.ofNat (8 : Nat) (nat_lit 1))))), BitVec.toNat (acy (H3.x h) (le64 (List.take (Int.toNat (8 : Int) - Int.toNat (0 : Int)) (List.drop (Int.toNat (0 : Int) + (0 : Nat)) (List.set (splice (List.replicate (16 : Nat) (0 : BitVec (8 : Nat))) (Int.toNat (0 : Int) + (0 : Nat)) (List.take (Nat.min n (Int.toNat (↑(16 : Nat) : Int) - Int.toNat (0 : Int))) (List.drop o m))) (Int.toNat (↑n : Int) + (0 : Nat)) (BitVec.ofNat (8 : Nat) (nat_lit 1)))))) (BitVec.ofNat (64 : Nat) (nat_lit 0))) ≤ (1 : Nat)]) (by kernel_rfl) ?_ ?_
  · refine obCons ?_ <| obCons ?_ <| obCons ?_ <| obCons ?_ <| obCons ?_ <| obCons ?_ <| obCons ?_ <| obCons ?_ <| obCons ?_ <| obCons ?_ <| obCons ?_ <| obCons ?_ <| obCons ?_ <| obCons ?_ <| obCons ?_ obNil
    · exact decide_eq_false (by omega)
    · omega
    · refine ⟨by omega, ?_⟩; decide
    · omega
    · show n + 0 + 1 ≤ 16; omega
    · omega
    · show 0 + 0 + 8 ≤ ((splice (List.replicate 16 0#8) 0 (List.take (Nat.min n 16) (List.drop o m))).set n 1#8).length ∧ _; rw [e1, hb]; decide
    · exact ⟨rfl, trivial⟩
    · show 8 ≤ (List.take 8 (List.drop 0 ((splice (List.replicate 16 0#8) 0 (List.take (Nat.min n 16) (List.drop o m))).set n 1#8))).length; rw [e1]; simp [hb]
    · decide
    · omega
    · show 8 + 0 + 8 ≤ ((splice (List.replicate 16 0#8) 0 (List.take (Nat.min n 16) (List.drop o m))).set n 1#8).length ∧ _; rw [e1, hb]; decide
    · exact ⟨rfl, trivial⟩
    · show 8 ≤ (List.take 8 (List.drop 8 ((splice (List.replicate 16 0#8) 0 (List.take (Nat.min n 16) (List.drop o m))).set n 1#8))).length; rw [e1]; simp [hb]
    · exact acy_le (by decide)
  · rw [e1, List.drop_zero]
    refine Tri.chg (cx := cxb true) rfl ?_
    exact uMulT0 B m st hr0 hr1 _ (uAdd_spec h _ _ false hz).2 hR
end
end Go.Sx

set_option maxRecDepth 1000000
set_option linter.unusedVariables false
namespace Go.Sx
open Go.Proofs

inductive UI (m : List (BitVec 8)) where
  | mid (k o q : Nat) (hk : 16 * k ≤ m.length) (hq : m.length - 16 * k ≤ q) (ho : 16 * k < m.length → o = 16 * k)
  | fin

section
variable (m : List (BitVec 8)) (st : List (BitVec 64))
def uK (k : Nat) : H3 := updK (getH st) (st.getD 3 0) (st.getD 4 0) m k
def uS : H3 := updS (getH st) (st.getD 3 0) (st.getD 4 0) m
def UI.sta : UI m → St
  | .mid k o q _ _ _ => uSt m st (uK m st k) (.sl (2 + 1) o (m.length - 16 * k) q)
  | .fin => uSt m st (uS m st) .sl0
def UI.mu : UI m → Nat
  | .mid k _ _ _ _ _ => m.length - 16 * k + 1
  | .fin => 0

theorem upd1 (B : Nat) (hz : (st.getD 2 0).toNat ≤ 5) (hr0 : (st.getD 3 0).toNat < 2 ^ 60) (hr1 : (st.getD 4 0).toNat < 2 ^ 60) (v : Sc) (j0 : UI m)
    (hi : runC (cxb true) (HV true) 232 0 noOrc [0, 1, 4, 5, 6, 7, 8] [2, 2 + 1] (2 + 2) (uBody.take 2) ⟨enum 0 [.one (.s (.p 2 0)), .one (.s v)], uM m st, 2 + 2⟩ = some (.n, j0.sta m st, []))
    (hv : v.lt (2 + 2) = true) : FnE P0 B 2 80 [.one (.s (.p 2 0)), .one (.s v)] (uM m st) (2 + 2) ⟨.tup [], uM m (setH st (uS m st)), 2 + 2, .eff, []⟩ := by
  have hK : ∀ k, 16 * k ≤ m.length → (uK m st k).z.toNat ≤ 5 := fun k hk => (updK_spec (getH st) _ _ m hz hr0 hr1 k hk).2
  refine FnE.tri (cx := cxb true) (sz := 232) (fn := Tryz.f80) (c := bodyOf Tryz.f80) T0ok (by kernel_rfl) (by kernel_rfl) (by kernel_rfl) (by kernel_rfl) (by kernel_rfl) (by simpa [SV.lt, SV0.lt, Sc.lt] using hv) (Nat.le_refl _) ?_
  refine Tri.step mix T0ok (HVok B true) 2 0 noOrc [0, 1, 4, 5, 6, 7, 8] [2, 2 + 1] (2 + 2) (j0.sta m st) [] hi obNil (by kernel_rfl) ?_
  refine Tri.loop (id := 0) (ι := UI m) rfl (UI.sta m st) (UI.mu m) j0 rfl (fun j => by cases j <;> exact Nat.le_refl _) (R1 := fun s => s = uEx m st (uS m st)) (fun j => ?_) (fun s' hs => ?_)
  · cases j with
    | fin => exact Tri.fin (cx := cxb true) mix T0ok (HVok B true) 0 noOrc [0, 4, 5, 6] [2, 2 + 1] (2 + 2) (.x 0) (uEx m st (uS m st)) [] (by kernel_rfl) obNil (by kernel_rfl) rfl
    | mid k o q hk hq ho =>
      have hz5 := hK k hk
      rcases Nat.eq_zero_or_pos (m.length - 16 * k) with h0 | h0
      · have e : uK m st k = uS m st := by
          unfold uS updS
          rw [if_pos (by omega), show m.length / 16 = k by omega]; rfl
        show Tri P0 B (cxb true) _ _ _ (uSt m st (uK m st k) (.sl (2 + 1) o (m.length - 16 * k) q)) _
        rw [h0, e]
        exact Tri.fin (cx := cxb true) mix T0ok (HVok B true) 0 noOrc [0, 4, 5, 6] [2, 2 + 1] (2 + 2) (.x 0) (uEx m st (uS m st)) [] (by kernel_rfl) obNil (by kernel_rfl) rfl
      · refine Tri.chg (cx := cxb false) rfl ?_
        refine Tri.step (cx := cxb false) mix T0ok (HVok B false) 2 0 (orcL [(54, true)]) [0, 1, 4, 5, 6, 7, 8] [2, 2 + 1] (2 + 2) (uSt m st (uK m st k) (.sl (2 + 1) o (m.length - 16 * k) q)) [decide ((0 : Int) < ((m.length - 16 * k : Nat) : Int)) = true] (by kernel_rfl) (obCons (decide_eq_true (by omega)) obNil) (by kernel_rfl) ?_
        refine Tri.chg (cx := cxb true) rfl ?_
        refine Tri.block (id := 1) rfl (R1 := fun s => ∃ j' : UI m, j'.mu m < m.length - 16 * k + 1 ∧ s = j'.sta m st) ?_ (fun s' hs => Tri.nil hs)
        by_cases h16 : 16 ≤ m.length - 16 * k
        · refine uFullT B m st hr0 hr1 (uK m st k) hz5 k o (m.length - 16 * k) q h16 hq (ho (by omega)) (by omega) ?_
          refine ⟨.mid (k + 1) (if q = 16 then o else 16 + o) (q - 16) (by omega) (by omega) (fun h => by rw [if_neg (by omega), ho (by omega)]; omega), by show m.length - 16 * (k + 1) + 1 < _; omega, ?_⟩
          show uSt _ _ _ (.sl _ _ (m.length - 16 * k - 16) _) = uSt _ _ _ (.sl _ _ (m.length - 16 * (k + 1)) _)
          rw [show m.length - 16 * k - 16 = m.length - 16 * (k + 1) by omega]; rfl
        · refine uTailT B m st hr0 hr1 (uK m st k) hz5 k o (m.length - 16 * k) q h0 (by omega) (ho (by omega)) (by omega) ?_
          refine ⟨.fin, by show 0 < _; omega, ?_⟩
          show uSt _ _ _ _ = uSt _ _ _ _
          unfold uS updS
          rw [if_neg (by omega), show m.length / 16 = k by omega]; rfl
  · subst hs
    exact Tri.ret (cx := cxb true) mix T0ok (HVok B true) 0 noOrc [] [2, 2 + 1] (2 + 2) ⟨[], uM m (setH st (uS m st)), 2 + 2⟩ [] .n (by kernel_rfl) obNil (by kernel_rfl) rfl [2, 2 + 1] [] (by kernel_rfl) obNil
end

def updCt : Ct := ⟨[.ptr 7 true, .slc false], [], fun vs ds gs => match vs, ds, gs with
  | [], [.d64 st, .d8 m], [] => bif Nat.beq st.length 7 then some ⟨.tup [], [.d64 (setH st (uS m st)), .d8 m], [], [(st.getD 2 0).toNat ≤ 5, (st.getD 3 0).toNat < 2 ^ 60, (st.getD 4 0).toNat < 2 ^ 60]⟩ else none
  | _, _, _ => none⟩

theorem upd_ok (B : Nat) : updCt.Ok P0 B 2 80 := by
  intro vs ds gs out h hpre hn
  unfold updCt at h
  dsimp only at h
  split at h <;> first | (cases h; done) | skip
  rename_i st m
  cases hb : Nat.beq st.length 7 with
  | false => rw [hb] at h; cases h
  | true =>
    rw [hb, cond_true] at h
    cases h
    have hk := Nat.eq_of_beq_eq_true hb
    have h1 := hpre _ (List.mem_cons_self)
    have h2 := hpre _ (List.mem_cons_of_mem _ List.mem_cons_self)
    have h3 := hpre _ (List.mem_cons_of_mem _ (List.mem_cons_of_mem _ List.mem_cons_self))
    simp only [updCt, canArgs, segsOf, globs, addM, List.length_cons, List.length_nil, SegD.len, hk, Nat.add_zero, Nat.zero_add]
    have hm : uM m st = [(2, ⟨7, .d64 st, true, false, false⟩), (2 + 1, ⟨m.length, .d8 m, false, false, false⟩)] := by unfold uM; rw [lit_eq hk]
    refine FnE.slice (A := fun x => [.one (.s (.p 2 0)), .one (.s x)]) (k := 2 + 1) (n := m.length) (s := ⟨m.length, .d8 m, false, false, false⟩) (fun x y ρ h => by simp [SV.den, SV0.den, h]) (by kernel_rfl) (Nat.le_refl _) (fun c hc => ?_) (fun h0 => ?_)
    · have := upd1 m st B h1 h2 h3 (.sl (2 + 1) 0 m.length c) (.mid 0 0 c (Nat.zero_le _) (by rw [Nat.mul_zero, Nat.sub_zero]; exact hc) (fun _ => rfl)) (by kernel_rfl) (by kernel_rfl)
      rw [hm] at this
      exact this
    · have hm0 : m = [] := List.eq_nil_of_length_eq_zero h0
      subst hm0
      have := upd1 [] st B h1 h2 h3 .sl0 .fin (by kernel_rfl) (by kernel_rfl)
      rw [hm] at this
      exact this
end Go.Sx

set_option maxRecDepth 1000000
set_option linter.unusedVariables false
namespace Go.Sx
open Go.Proofs

def finM (out : List (BitVec 8)) (h s : List (BitVec 64)) : Mem := [(2, ⟨16, .d8 (lit 0 16 out), true, false, false⟩), (2 + 1, ⟨3, .d64 (lit 0 3 h), false, false, false⟩), (2 + 2, ⟨2, .d64 (lit 0 2 s), false, false, false⟩)]
theorem fin1 (B : Nat) (out : List (BitVec 8)) (h s : List (BitVec 64)) : FnE P0 B 2 81 [.one (.s (.p 2 0)), .one (.s (.p (2 + 1) 0)), .one (.s (.p (2 + 2) 0))] (finM out h s) (2 + 3) ⟨.tup [], finM (finO (lit 0 3 h) (lit 0 2 s)) h s, 2 + 3, .eff, []⟩ := by
  refine FnE.tri (cx := cxb true) (sz := 81) (fn := Tryz.f81) (c := bodyOf Tryz.f81) T0ok (by kernel_rfl) (by kernel_rfl) (by kernel_rfl) (by kernel_rfl) (by kernel_rfl) (by kernel_rfl) (Nat.le_refl _) ?_
  exact Tri.ret (cx := cxb true) mix T0ok (HVok B true) 0 noOrc [] [2, 2 + 1, 2 + 2] (2 + 3) ⟨[], finM (finO (lit 0 3 h) (lit 0 2 s)) h s, 2 + 3⟩ ([BitVec.toNat (BitVec.ofNat (64 : Nat) (nat_lit 0)) ≤ (1 : Nat), BitVec.toNat (sbw (List.getD h (nat_lit 0) (0 : BitVec (64 : Nat))) (BitVec.ofNat (64 : Nat) (nat_lit 18446744073709551611)) (BitVec.ofNat (64 : Nat) (nat_lit 0))) ≤ (1 : Nat), BitVec.toNat (sbw (List.getD h (nat_lit 1) (0 : BitVec (64 : Nat))) (BitVec.ofNat (64 : Nat) (nat_lit 18446744073709551615)) (sbw (List.getD h (nat_lit 0) (0 : BitVec (64 : Nat))) (BitVec.ofNat (64 : Nat) (nat_lit 18446744073709551611)) (BitVec.ofNat (64 : Nat) (nat_lit 0)))) ≤ (1 : Nat), BitVec.toNat (BitVec.ofNat (64 : Nat) (nat_lit 0)) ≤ (1 : Nat), BitVec.toNat (acy (~~~(sbw (List.getD h (nat_lit 2) (0 : BitVec (64 : Nat))) (BitVec.ofNat (64 : Nat) (nat_lit 3)) (sbw (List.getD h (nat_lit 1) (0 : BitVec (64 : Nat))) (BitVec.ofNat (64 : Nat) (nat_lit 18446744073709551615)) (sbw (List.getD h (nat_lit 0) (0 : BitVec (64 : Nat))) (BitVec.ofNat (64 : Nat) (nat_lit 18446744073709551611)) (BitVec.ofNat (64 : Nat) (nat_lit 0)))) - BitVec.ofNat (64 : Nat) (nat_lit 1)) &&& List.getD h (nat_lit 0) (0 : BitVec (64 : Nat)) ||| sbw (List.getD h (nat_lit 2) (0 : BitVec (64 : Nat))) (BitVec.ofNat (64 : Nat) (nat_lit 3)) (sbw (List.getD h (nat_lit 1) (0 : BitVec (64 : Nat))) (BitVec.ofNat (64 : Nat) (nat_lit 18446744073709551615)) (sbw (List.getD h (nat_lit 0) (0 : BitVec (64 : Nat))) (BitVec.ofNat (64 : Nat) (nat_lit 18446744073709551611)) (BitVec.ofNat (64 : Nat) (nat_lit 0)))) - BitVec.ofNat (64 : Nat) (nat_lit 1) &&& List.getD h (nat_lit 0) (0 : BitVec (64 : Nat)) - BitVec.ofNat (64 : Nat) (nat_lit 18446744073709551611) - BitVec.ofNat (64 : Nat) (nat_lit 0)) (List.getD s (nat_lit 0) (0 : BitVec (64 : Nat))) (BitVec.ofNat (64 : Nat) (nat_lit 0))) ≤ (1 : Nat)]) .n (by kernel_rfl) (obCons (by decide) <| obCons sbw_le <| obCons sbw_le <| obCons (by decide) <| obCons (acy_le (by decide)) obNil) (by kernel_rfl) rfl [2, 2 + 1, 2 + 2] [] (by kernel_rfl) obNil

def finCt : Ct := ⟨[.ptr 16 true, .ptr 3 false, .ptr 2 false], [], fun vs ds gs => match vs, ds, gs with
  | [], [.d8 out, .d64 h, .d64 s], [] => bif Nat.beq out.length 16 && (Nat.beq h.length 3 && Nat.beq s.length 2) then some ⟨.tup [], [.d8 (lit 0 16 (finO h s)), .d64 h, .d64 s], [], []⟩ else none
  | _, _, _ => none⟩
theorem fin_ok (B : Nat) : finCt.Ok P0 B 2 81 := by
  intro vs ds gs out hh hpre hn
  unfold finCt at hh
  dsimp only at hh
  split at hh <;> first | (cases hh; done) | skip
  rename_i o h s
  cases hb : (Nat.beq o.length 16 && (Nat.beq h.length 3 && Nat.beq s.length 2)) with
  | false => rw [hb] at hh; cases hh
  | true =>
    rw [hb, cond_true] at hh
    cases hh
    simp only [Bool.and_eq_true] at hb
    have k1 := Nat.eq_of_beq_eq_true hb.1
    have k2 := Nat.eq_of_beq_eq_true hb.2.1
    have k3 := Nat.eq_of_beq_eq_true hb.2.2
    have := fin1 B o h s
    unfold finM at this
    rw [lit_eq k1, lit_eq k2, lit_eq k3] at this
    simp only [finCt, canArgs, segsOf, globs, addM, List.length_cons, List.length_nil, SegD.len, k1, k2, k3, lit_length, Nat.add_zero, Nat.zero_add]
    exact this

def initW (key : List (BitVec 8)) : List (BitVec 64) := [le64 (List.take 8 key) &&& 1152921487695413247#64, le64 (List.take 8 (List.drop 8 key)) &&& 1152921487695413244#64, le64 (List.take 8 (List.drop 16 key)), le64 (List.take 8 (List.drop 24 key))]
def initM (key : List (BitVec 8)) (st : List (BitVec 64)) : Mem := [(2, ⟨32, .d8 (lit 0 32 key), false, false, false⟩), (2 + 1, ⟨7, .d64 st, true, false, false⟩)]
theorem init1 (B : Nat) (key : List (BitVec 8)) (st : List (BitVec 64)) : FnE P0 B 2 65 [.one (.s (.p 2 0)), .one (.s (.p (2 + 1) 0))] (initM key (lit 0 7 st)) (2 + 2) ⟨.tup [], initM key (lit 0 3 st ++ initW (lit 0 32 key)), 2 + 2, .eff, []⟩ := by
  refine FnE.tri (cx := cxb true) (sz := 42) (fn := Tryz.f65) (c := bodyOf Tryz.f65) T0ok (by kernel_rfl) (by kernel_rfl) (by kernel_rfl) (by kernel_rfl) (by kernel_rfl) (by kernel_rfl) (Nat.le_refl _) ?_
  exact Tri.ret (cx := cxb true) mix T0ok (HVok B true) 0 noOrc [] [2, 2 + 1] (2 + 2) ⟨[], initM key (lit 0 3 st ++ initW (lit 0 32 key)), 2 + 2⟩ ([(8 : Nat) ≤ List.length (List.take (Int.toNat (8 : Int) - Int.toNat (0 : Int)) (List.drop (Int.toNat (0 : Int) + (0 : Nat)) (lit (0 : BitVec (8 : Nat)) (32 : Nat) key))), (8 : Nat) ≤ List.length (List.take (Int.toNat (16 : Int) - Int.toNat (8 : Int)) (List.drop (Int.toNat (8 : Int) + (0 : Nat)) (lit (0 : BitVec (8 : Nat)) (32 : Nat) key))), (8 : Nat) ≤ List.length (List.take (Int.toNat (24 : Int) - Int.toNat (16 : Int)) (List.drop (Int.toNat (16 : Int) + (0 : Nat)) (lit (0 : BitVec (8 : Nat)) (32 : Nat) key))), (8 : Nat) ≤ List.length (List.take (Int.toNat (32 : Int) - Int.toNat (24 : Int)) (List.drop (Int.toNat (24 : Int) + (0 : Nat)) (lit (0 : BitVec (8 : Nat)) (32 : Nat) key)))]) .n (by kernel_rfl) (obCons (by simp [lit_length]) <| obCons (by simp [lit_length]) <| obCons (by simp [lit_length]) <| obCons (by simp [lit_length]) obNil) (by kernel_rfl) rfl [2, 2 + 1] [] (by kernel_rfl) obNil

def initCt : Ct := ⟨[.ptr 32 false, .ptr 7 true], [], fun vs ds gs => match vs, ds, gs with
  | [], [.d8 key, .d64 st], [] => bif Nat.beq key.length 32 && Nat.beq st.length 7 then some ⟨.tup [], [.d8 key, .d64 (lit 0 3 st ++ initW key)], [], []⟩ else none
  | _, _, _ => none⟩
theorem init_ok (B : Nat) : initCt.Ok P0 B 2 65 := by
  intro vs ds gs out h hpre hn
  unfold initCt at h
  dsimp only at h
  split at h <;> first | (cases h; done) | skip
  rename_i key st
  cases hb : (Nat.beq key.length 32 && Nat.beq st.length 7) with
  | false => rw [hb] at h; cases h
  | true =>
    rw [hb, cond_true] at h
    cases h
    simp only [Bool.and_eq_true] at hb
    have k1 := Nat.eq_of_beq_eq_true hb.1
    have k2 := Nat.eq_of_beq_eq_true hb.2
    have := init1 B key st
    unfold initM at this
    rw [lit_eq k1, lit_eq k2] at this
    simp only [initCt, canArgs, segsOf, globs, addM, List.length_cons, List.length_nil, SegD.len, k1, k2, Nat.add_zero, Nat.zero_add]
    exact this
end Go.Sx
