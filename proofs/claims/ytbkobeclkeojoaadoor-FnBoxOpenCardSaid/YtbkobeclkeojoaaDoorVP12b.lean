/- poly1305: what is walked into; the states. poly1305.Sum. poly1305.Verify: what is walked into. poly1305.Verify; impl.PolyVerify. Conditions: none. -/
import Derived.Test.YtbkobeclkeojoaaDoorVP8b
set_option maxRecDepth 1000000
set_option linter.unusedVariables false
namespace Go.Sx
open Go.Proofs

noncomputable def HGb (c : Bool) : Hook := hookC 55 (hookOf (cxb c) wrCt) (hookC 56 (hookOf (cxb c) smCt) (hookC 54 (hookOf (cxb c) initCt) (H0 c)))
theorem HGbok (B : Nat) (c : Bool) : HookOk P0 B 5 (HGb c) := .cons (.ct (cx := cxb c) (wr_ok B)) (.cons (.ct (cx := cxb c) (sm_ok B)) (.cons (.ct (cx := cxb c) (init_ok B)) (H0ok B c)))
noncomputable def in36 : In := ⟨Tryd.f36, bodyOf Tryd.f36, 0, .eff, noOrc⟩
theorem io36 : InOk P0 36 in36 := ⟨by kernel_rfl, by kernel_rfl, by kernel_rfl⟩
noncomputable def HG0 (c : Bool) : Hook := hookC 36 (inl (cxb c) (HGb c) in36) (HGb c)
theorem HG0ok (B : Nat) (c : Bool) : HookOk P0 B 5 (HG0 c) := HookOk.cons (HkOk.inl (cx := cxb c) mix T0ok (HGbok B c) io36) (HGbok B c)
noncomputable def in37 : In := ⟨Tryd.f37, bodyOf Tryd.f37, 0, .eff, noOrc⟩
theorem io37 : InOk P0 37 in37 := ⟨by kernel_rfl, by kernel_rfl, by kernel_rfl⟩
noncomputable def HG1 (c : Bool) : Hook := hookC 37 (inl (cxb c) (HG0 c) in37) (HG0 c)
theorem HG1ok (B : Nat) (c : Bool) : HookOk P0 B 5 (HG1 c) := HookOk.cons (HkOk.inl (cx := cxb c) mix T0ok (HG0ok B c) io37) (HG0ok B c)
noncomputable def in38 : In := ⟨Tryd.f38, bodyOf Tryd.f38, 0, .eff, noOrc⟩
theorem io38 : InOk P0 38 in38 := ⟨by kernel_rfl, by kernel_rfl, by kernel_rfl⟩
noncomputable def HG (c : Bool) : Hook := hookC 38 (inl (cxb c) (HG1 c) in38) (HG1 c)
theorem HGok (B : Nat) (c : Bool) : HookOk P0 B 5 (HG c) := HookOk.cons (HkOk.inl (cx := cxb c) mix T0ok (HG1ok B c) io38) (HG1ok B c)
def macM (K : Nat) (st : List (BitVec 64)) (buf : List (BitVec 8)) (k : Int) (fz : Bool) : Mem := [(K, ⟨7, .d64 (lit 0 7 st), true, false, true⟩), (K + 1, ⟨16, .d8 (lit 0 16 buf), true, false, true⟩), (K + 2, ⟨1, .di [k], true, false, true⟩), (K + 3, ⟨1, .dc [.b fz], true, false, false⟩)]
def smM (out m key : List (BitVec 8)) : Mem := [(5, ⟨16, .d8 (lit 0 16 out), true, false, false⟩), (5 + 1, ⟨m.length, .d8 m, false, false, false⟩), (5 + 2, ⟨32, .d8 (lit 0 32 key), false, false, false⟩)]
def smStp (out m key : List (BitVec 8)) (st : List (BitVec 64)) (buf : List (BitVec 8)) (k : Int) : St := ⟨[(0, .one (.s (.p 5 0))), (1, .one (.s (.osl (5 + 1) m.length))), (6, .one (.s (.p (5 + 3) 0)))], smM out m key ++ macM (5 + 3) st buf k false, 5 + 7⟩
end Go.Sx

set_option maxRecDepth 1000000
set_option linter.unusedVariables false
namespace Go.Sx
open Go.Proofs

def st0p (key : List (BitVec 8)) : List (BitVec 64) := lit 0 3 (List.replicate 7 (0 : BitVec 64)) ++ initW key
def bf0 : List (BitVec 8) := List.replicate 16 0

theorem psum1 (B : Nat) (out m key : List (BitVec 8)) (hkey : key.length = 32) (hl : m.length ≤ 4294967295) : FnE P0 B 5 30 [.one (.s (.p 5 0)), .one (.s (.osl (5 + 1) m.length)), .one (.s (.p (5 + 2) 0))] (smM out m key) (5 + 3) ⟨.tup [], smM (poly key m) m key, 5 + 3, .eff, []⟩ := by
  refine FnE.tri (cx := cxb true) (sz := 17) (fn := Tryd.f30) (c := bodyOf Tryd.f30) T0ok (by kernel_rfl) (by kernel_rfl) (by kernel_rfl) (by kernel_rfl) (by kernel_rfl) (by kernel_rfl) (Nat.le_refl _) ?_
  refine Tri.step (cx := cxb true) mix T0ok (HGok B true) 1 0 noOrc [0, 1, 6] [5, 5 + 1, 5 + 2, 5 + 3, 5 + 4, 5 + 5, 5 + 6] (5 + 7) (smStp out m key (st0p (lit 0 32 key)) bf0 0) [] (by kernel_rfl) obNil (by kernel_rfl) ?_
  have I0 := MInv.init key
  have I := I0.write m
  have hk : ((0 + m.length) % 16) < 16 := Nat.mod_lt _ (by decide)
  refine Tri.chg (cx := cxb false) rfl ?_
  refine Tri.step (cx := cxb false) mix T0ok (HGok B false) 1 0 noOrc [0, 1, 6] [5, 5 + 1, 5 + 2, 5 + 3, 5 + 4, 5 + 5, 5 + 6] (5 + 7) (smStp out m key (mwS (lit 0 7 (st0p (lit 0 32 key))) (lit 0 16 bf0) 0 (List.take m.length (List.drop 0 m))) (mwB (lit 0 16 bf0) 0 (List.take m.length (List.drop 0 m))) (((0 + (List.take m.length (List.drop 0 m)).length) % 16 : Nat) : Int)) (let st := st0p (lit 0 32 key); let buf := bf0; let k : Int := 0; [(0 : Nat) + (24 : Nat) - (7 : Nat) - (16 : Nat) - (1 : Nat) < List.length [Sc.b false], List.length m ≤ List.length m, List.length (lit (0 : BitVec (64 : Nat)) (7 : Nat) (mwS (lit (0 : BitVec (64 : Nat)) (7 : Nat) st) (lit (0 : BitVec (8 : Nat)) (16 : Nat) buf) (Int.toNat k) (List.take (List.length m) (List.drop (0 : Nat) m)))) = List.length (lit (0 : BitVec (64 : Nat)) (7 : Nat) st) ∧ List.length (lit (0 : BitVec (8 : Nat)) (16 : Nat) (mwB (lit (0 : BitVec (8 : Nat)) (16 : Nat) buf) (Int.toNat k) (List.take (List.length m) (List.drop (0 : Nat) m)))) = List.length (lit (0 : BitVec (8 : Nat)) (16 : Nat) buf) ∧ List.length [(↑((Int.toNat k + List.length (List.take (List.length m) (List.drop (0 : Nat) m))) % (16 : Nat)) : Int)] = List.length [k] ∧ List.length (List.take (List.length m) (List.drop (0 : Nat) m)) = List.length (List.take (List.length m) (List.drop (0 : Nat) m)) ∧ True, BitVec.toNat (List.getD (lit (0 : BitVec (64 : Nat)) (7 : Nat) st) (2 : Nat) (0 : BitVec (64 : Nat))) ≤ (5 : Nat), BitVec.toNat (List.getD (lit (0 : BitVec (64 : Nat)) (7 : Nat) st) (3 : Nat) (0 : BitVec (64 : Nat))) < (2 : Nat) ^ (60 : Nat), BitVec.toNat (List.getD (lit (0 : BitVec (64 : Nat)) (7 : Nat) st) (4 : Nat) (0 : BitVec (64 : Nat))) < (2 : Nat) ^ (60 : Nat), (0 : Int) ≤ k ∧ k < (16 : Int), List.length (List.take (List.length m) (List.drop (0 : Nat) m)) ≤ (4294967295 : Nat)]) (by kernel_rfl) ?_ (by kernel_rfl) ?_
  · (repeat' (first | exact obNil | refine obCons ?_ ?_))
    all_goals first | decide | exact Nat.zero_lt_one | exact Nat.zero_le 5 | exact r0_lt _ | exact r1_lt _ | exact ⟨rfl, rfl, rfl, rfl, trivial⟩ | omega | (simp; omega)
  · refine Tri.chg (cx := cxb true) rfl ?_
    rw [List.drop_zero, List.take_length, lit_eq hkey]
    have e1 : lit 0 7 (st0p key) = st0p key := lit_eq rfl
    have e2 : lit 0 16 bf0 = bf0 := lit_eq rfl
    rw [e1, e2]
    unfold st0p bf0
    generalize mwS (lit 0 3 (List.replicate 7 (0 : BitVec 64)) ++ initW key) (List.replicate 16 0) 0 m = st at *
    generalize mwB (List.replicate 16 0) 0 m = buf at *
    generalize hkk : (0 + m.length) % 16 = k at *
    refine Tri.stepR (cx := cxb true) mix T0ok (HGok B true) 1 0 noOrc [] [(5, 5), (5 + 1, 5 + 1), (5 + 2, 5 + 2)] (5 + 3) ⟨[], smM (msO (msL (lit 0 7 st) (lit 0 16 buf) k)) m key, 5 + 3⟩ (let k : Int := (k : Int); [BitVec.toNat (List.getD (lit (0 : BitVec (64 : Nat)) (7 : Nat) st) (2 : Nat) (0 : BitVec (64 : Nat))) ≤ (5 : Nat), BitVec.toNat (List.getD (lit (0 : BitVec (64 : Nat)) (7 : Nat) st) (3 : Nat) (0 : BitVec (64 : Nat))) < (2 : Nat) ^ (60 : Nat), BitVec.toNat (List.getD (lit (0 : BitVec (64 : Nat)) (7 : Nat) st) (4 : Nat) (0 : BitVec (64 : Nat))) < (2 : Nat) ^ (60 : Nat), (0 : Int) ≤ k ∧ k < (16 : Int)]) (by kernel_rfl) ?_ ?_
    · rw [lit_eq I.hl]
      exact obCons I.hz <| obCons I.hr0 <| obCons I.hr1 <| obCons ⟨by show (0 : Int) ≤ (k : Int); omega, by show (k : Int) < 16; omega⟩ obNil
    · rw [lit_eq I.hl, lit_eq I.hb]
      have := I.out hkey
      rw [List.nil_append] at this
      rw [this]
      exact Tri.ret (cx := cxb true) mix T0ok (HGok B true) 0 noOrc [] [5, 5 + 1, 5 + 2] (5 + 3) ⟨[], smM (poly key m) m key, 5 + 3⟩ [] .n (by kernel_rfl) obNil (by kernel_rfl) rfl [5, 5 + 1, 5 + 2] [] (by kernel_rfl) obNil

def psumCt : Ct := ⟨[.ptr 16 true, .slc false, .ptr 32 false], [], fun vs ds gs => match vs, ds, gs with
  | [], [.d8 out, .d8 m, .d8 key], [] => bif Nat.beq out.length 16 && Nat.beq key.length 32 then some ⟨.tup [], [.d8 (lit 0 16 (poly key m)), .d8 m, .d8 key], [], [m.length ≤ 4294967295]⟩ else none
  | _, _, _ => none⟩
theorem psum_ok (B : Nat) : psumCt.Ok P0 B 5 30 := by
  intro vs ds gs out h hpre hn
  unfold psumCt at h
  dsimp only at h
  split at h <;> first | (cases h; done) | skip
  rename_i o m key
  cases hb : (Nat.beq o.length 16 && Nat.beq key.length 32) with
  | false => rw [hb] at h; cases h
  | true =>
    rw [hb, cond_true] at h
    cases h
    simp only [Bool.and_eq_true] at hb
    have k1 := Nat.eq_of_beq_eq_true hb.1
    have k2 := Nat.eq_of_beq_eq_true hb.2
    have := psum1 B o m key k2 (hpre _ List.mem_cons_self)
    unfold smM at this
    rw [lit_eq k1, lit_eq k2] at this
    simp only [psumCt, canArgs, segsOf, globs, addM, List.length_cons, List.length_nil, SegD.len, k1, k2, lit_length, Nat.add_zero, Nat.zero_add]
    exact this
end Go.Sx

set_option maxRecDepth 1000000
set_option linter.unusedVariables false
namespace Go.Sx
open Go.Proofs

noncomputable def HJb (c : Bool) : Hook := hookC 30 (hookOf (cxb c) psumCt) (hookC 88 exB2u (H0 c))
theorem HJbok (B : Nat) (c : Bool) : HookOk P0 B 5 (HJb c) := .cons (.ct (cx := cxb c) (psum_ok B)) (.cons (HkOk.exB2u (fn := Tryd.f88) ⟨by kernel_rfl, by kernel_rfl, by kernel_rfl, by kernel_rfl, by kernel_rfl⟩) (H0ok B c))
noncomputable def in69 : In := ⟨Tryd.f69, bodyOf Tryd.f69, 0, .read, noOrc⟩
theorem io69 : InOk P0 69 in69 := ⟨by kernel_rfl, by kernel_rfl, by kernel_rfl⟩
noncomputable def HJ0 (c : Bool) : Hook := hookC 69 (inl (cxb c) (HJb c) in69) (HJb c)
theorem HJ0ok (B : Nat) (c : Bool) : HookOk P0 B 5 (HJ0 c) := HookOk.cons (HkOk.inl (cx := cxb c) mix T0ok (HJbok B c) io69) (HJbok B c)
noncomputable def in57 : In := ⟨Tryd.f57, bodyOf Tryd.f57, 17, .read, noOrc⟩
theorem io57 : InOk P0 57 in57 := ⟨by kernel_rfl, by kernel_rfl, by kernel_rfl⟩
noncomputable def HJ1 (c : Bool) : Hook := hookC 57 (inl (cxb c) (HJ0 c) in57) (HJ0 c)
theorem HJ1ok (B : Nat) (c : Bool) : HookOk P0 B 5 (HJ1 c) := HookOk.cons (HkOk.inl (cx := cxb c) mix T0ok (HJ0ok B c) io57) (HJ0ok B c)
noncomputable def in39 : In := ⟨Tryd.f39, bodyOf Tryd.f39, 0, .read, noOrc⟩
theorem io39 : InOk P0 39 in39 := ⟨by kernel_rfl, by kernel_rfl, by kernel_rfl⟩
noncomputable def HJ (c : Bool) : Hook := hookC 39 (inl (cxb c) (HJ1 c) in39) (HJ1 c)
theorem HJok (B : Nat) (c : Bool) : HookOk P0 B 5 (HJ c) := HookOk.cons (HkOk.inl (cx := cxb c) mix T0ok (HJ1ok B c) io39) (HJ1ok B c)
def vfM (mac m key : List (BitVec 8)) : Mem := [(5, ⟨16, .d8 (lit 0 16 mac), false, false, false⟩), (5 + 1, ⟨m.length, .d8 m, false, false, false⟩), (5 + 2, ⟨32, .d8 (lit 0 32 key), false, false, false⟩)]
end Go.Sx

set_option maxRecDepth 1000000
set_option linter.unusedVariables false
namespace Go.Sx
open Go.Proofs

def orx : BitVec 8 → List (BitVec 8) → List (BitVec 8) → BitVec 8
  | c, x :: a, y :: b => orx (c ||| (x ^^^ y)) a b
  | c, _, _ => c
theorem orx_zero : ∀ (a b : List (BitVec 8)) (c : BitVec 8), a.length = b.length → (orx c a b = 0#8 ↔ c = 0#8 ∧ a = b)
  | [], [], c, _ => by simp [orx]
  | x :: a, y :: b, c, h => by
    have ih := orx_zero a b (c ||| (x ^^^ y)) (by simpa using h)
    simp only [orx, ih, List.cons.injEq, BitVec.or_eq_zero_iff, BitVec.xor_eq_zero_iff, and_assoc]
  | [], _ :: _, _, h => by simp at h
  | _ :: _, [], _, h => by simp at h
/-- what comparing answers -/
def ctE (a b : List (BitVec 8)) : Bool := decide (((b2u (decide ((orx 0#8 a b).toNat = (0#8).toNat))).toNat : Int) = 1)
theorem ctE_eq (a b : List (BitVec 8)) (h : a.length = b.length) : ctE a b = decide (a = b) := by
  unfold ctE
  have e : (orx 0#8 a b).toNat = (0#8).toNat ↔ a = b := by
    rw [BitVec.toNat_inj, orx_zero a b 0#8 h]; simp
  by_cases hab : a = b
  · rw [decide_eq_true (e.2 hab), decide_eq_true hab]; rfl
  · rw [decide_eq_false (fun x => hab (e.1 x)), decide_eq_false hab]; rfl

theorem vf1 (B : Nat) (mac m key : List (BitVec 8)) (hm : mac.length = 16) (hkey : key.length = 32) (hl : m.length ≤ 4294967295) : FnE P0 B 5 31 [.one (.s (.p 5 0)), .one (.s (.osl (5 + 1) m.length)), .one (.s (.p (5 + 2) 0))] (vfM mac m key) (5 + 3)
    ⟨.one (.s (.b (decide (poly key m = mac)))), vfM mac m key, 5 + 3, .eff, []⟩ := by
  refine FnE.tri (cx := cxb true) (sz := 17) (fn := Tryd.f31) (c := bodyOf Tryd.f31) T0ok (by kernel_rfl) (by kernel_rfl) (by kernel_rfl) (by kernel_rfl) (by kernel_rfl) (by kernel_rfl) (Nat.le_refl _) ?_
  refine Tri.chg (cx := cxb false) rfl ?_
  refine Tri.step (cx := cxb false) mix T0ok (HJok B false) 3 0 noOrc [0, 7] [5, 5 + 1, 5 + 2, 5 + 3] (5 + 4) ⟨[(0, .one (.s (.p 5 0))), (7, .one (.s (.p (5 + 3) 0)))], vfM mac m key ++ [(5 + 3, ⟨16, .d8 (lit 0 16 (poly (List.take 32 (List.drop 0 (lit 0 32 key))) (List.take m.length (List.drop 0 m)))), true, false, false⟩)], 5 + 4⟩ ([(0 : Nat) + (16 : Nat) ≤ List.length (List.replicate (16 : Nat) (0 : BitVec (8 : Nat))), List.length m ≤ List.length m, (0 : Nat) + (32 : Nat) ≤ List.length (lit (0 : BitVec (8 : Nat)) (32 : Nat) key), List.length (lit (0 : BitVec (8 : Nat)) (16 : Nat) (poly (List.take (32 : Nat) (List.drop (0 : Nat) (lit (0 : BitVec (8 : Nat)) (32 : Nat) key))) (List.take (List.length m) (List.drop (0 : Nat) m)))) = List.length (List.take (16 : Nat) (List.drop (0 : Nat) (List.replicate (16 : Nat) (0 : BitVec (8 : Nat))))) ∧ List.length (List.take (List.length m) (List.drop (0 : Nat) m)) = List.length (List.take (List.length m) (List.drop (0 : Nat) m)) ∧ List.length (List.take (32 : Nat) (List.drop (0 : Nat) (lit (0 : BitVec (8 : Nat)) (32 : Nat) key))) = List.length (List.take (32 : Nat) (List.drop (0 : Nat) (lit (0 : BitVec (8 : Nat)) (32 : Nat) key))) ∧ True, List.length (List.take (List.length m) (List.drop (0 : Nat) m)) ≤ (4294967295 : Nat)]) (by kernel_rfl) ?_ (by kernel_rfl) ?_
  · (repeat' (first | exact obNil | refine obCons ?_ ?_))
    all_goals first | decide | (simp [lit_length]; done) | omega | (simp; omega)
  · rw [List.drop_zero, List.drop_zero, List.take_length, List.take_of_length_le (by rw [lit_length]; omega), lit_eq hkey]
    refine Tri.chg (cx := cxb true) rfl ?_
    have e := ctE_eq (lit 0 16 (poly key m)) (lit 0 16 mac) (by rw [lit_length, lit_length])
    rw [lit_eq hm, lit_eq (poly_length key m)] at e
    rw [← e]
    refine Tri.stepR (cx := cxb true) mix T0ok (HJok B true) 1 0 noOrc [6] [(5, 5), (5 + 1, 5 + 1), (5 + 2, 5 + 2)] (5 + 3) ⟨[(6, .one (.s (.b (ctE (lit 0 16 (poly key m)) (lit 0 16 mac)))))], vfM mac m key, 5 + 3⟩ [] (by kernel_rfl) obNil ?_
    rw [lit_eq hm, lit_eq (poly_length key m)]
    exact Tri.ret (cx := cxb true) mix T0ok (HJok B true) 0 noOrc [6] [5, 5 + 1, 5 + 2] (5 + 3) ⟨[(6, .one (.s (.b (ctE (poly key m) mac))))], vfM mac m key, 5 + 3⟩ [] .r (by kernel_rfl) obNil (by kernel_rfl) rfl [5, 5 + 1, 5 + 2] [] (by kernel_rfl) obNil

def vfCt : Ct := ⟨[.ptr 16 false, .slc false, .ptr 32 false], [], fun vs ds gs => match vs, ds, gs with
  | [], [.d8 mac, .d8 m, .d8 key], [] => bif Nat.beq mac.length 16 && Nat.beq key.length 32 then some ⟨.one (.s (.b (decide (poly key m = mac)))), [.d8 mac, .d8 m, .d8 key], [], [m.length ≤ 4294967295]⟩ else none
  | _, _, _ => none⟩
theorem vf_ok (B : Nat) : vfCt.Ok P0 B 5 31 := by
  intro vs ds gs out h hpre hn
  unfold vfCt at h
  dsimp only at h
  split at h <;> first | (cases h; done) | skip
  rename_i mac m key
  cases hb : (Nat.beq mac.length 16 && Nat.beq key.length 32) with
  | false => rw [hb] at h; cases h
  | true =>
    rw [hb, cond_true] at h
    cases h
    simp only [Bool.and_eq_true] at hb
    have k1 := Nat.eq_of_beq_eq_true hb.1
    have k2 := Nat.eq_of_beq_eq_true hb.2
    have := vf1 B mac m key k1 k2 (hpre _ List.mem_cons_self)
    unfold vfM at this
    rw [lit_eq k1, lit_eq k2] at this
    simp only [vfCt, canArgs, segsOf, globs, addM, List.length_cons, List.length_nil, SegD.len, k1, k2, Nat.add_zero, Nat.zero_add]
    exact this
end Go.Sx
