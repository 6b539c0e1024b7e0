/- poly1305: what is walked into; the states. poly1305.Sum. poly1305.Verify: what is walked into. poly1305.Verify; impl.PolyVerify. impl.PolyVerify: what is called; the states. impl.PolyVerify. FnPolyTurned: what is called. FnPolyTurned: the walk. Conditions: none. -/
import Derived.Test.YtnloecdkogckiaaP8b
import Derived.Test.YtnloecdkogckiaaP3
set_option maxRecDepth 1000000
set_option linter.unusedVariables false
namespace Go.Sx
open Go.Proofs

noncomputable def HGb (c : Bool) : Hook := hookC 31 (hookOf (cxb c) wrCt) (hookC 32 (hookOf (cxb c) smCt) (hookC 30 (hookOf (cxb c) initCt) (H0 c)))
theorem HGbok (B : Nat) (c : Bool) : HookOk P0 B 1 (HGb c) := .cons (.ct (cx := cxb c) (wr_ok B)) (.cons (.ct (cx := cxb c) (sm_ok B)) (.cons (.ct (cx := cxb c) (init_ok B)) (H0ok B c)))
noncomputable def in22 : In := ⟨Try.f22, bodyOf Try.f22, 0, .eff, noOrc⟩
theorem io22 : InOk P0 22 in22 := ⟨by kernel_rfl, by kernel_rfl, by kernel_rfl⟩
noncomputable def HG0 (c : Bool) : Hook := hookC 22 (inl (cxb c) (HGb c) in22) (HGb c)
theorem HG0ok (B : Nat) (c : Bool) : HookOk P0 B 1 (HG0 c) := HookOk.cons (HkOk.inl (cx := cxb c) mix T0ok (HGbok B c) io22) (HGbok B c)
noncomputable def in23 : In := ⟨Try.f23, bodyOf Try.f23, 0, .eff, noOrc⟩
theorem io23 : InOk P0 23 in23 := ⟨by kernel_rfl, by kernel_rfl, by kernel_rfl⟩
noncomputable def HG1 (c : Bool) : Hook := hookC 23 (inl (cxb c) (HG0 c) in23) (HG0 c)
theorem HG1ok (B : Nat) (c : Bool) : HookOk P0 B 1 (HG1 c) := HookOk.cons (HkOk.inl (cx := cxb c) mix T0ok (HG0ok B c) io23) (HG0ok B c)
noncomputable def in24 : In := ⟨Try.f24, bodyOf Try.f24, 0, .eff, noOrc⟩
theorem io24 : InOk P0 24 in24 := ⟨by kernel_rfl, by kernel_rfl, by kernel_rfl⟩
noncomputable def HG (c : Bool) : Hook := hookC 24 (inl (cxb c) (HG1 c) in24) (HG1 c)
theorem HGok (B : Nat) (c : Bool) : HookOk P0 B 1 (HG c) := HookOk.cons (HkOk.inl (cx := cxb c) mix T0ok (HG1ok B c) io24) (HG1ok B c)
def macM (K : Nat) (st : List (BitVec 64)) (buf : List (BitVec 8)) (k : Int) (fz : Bool) : Mem := [(K, ⟨7, .d64 (lit 0 7 st), true, false, true⟩), (K + 1, ⟨16, .d8 (lit 0 16 buf), true, false, true⟩), (K + 2, ⟨1, .di [k], true, false, true⟩), (K + 3, ⟨1, .dc [.b fz], true, false, false⟩)]
def smM (out m key : List (BitVec 8)) : Mem := [(1, ⟨16, .d8 (lit 0 16 out), true, false, false⟩), (1 + 1, ⟨m.length, .d8 m, false, false, false⟩), (1 + 2, ⟨32, .d8 (lit 0 32 key), false, false, false⟩)]
def smSt (out m key : List (BitVec 8)) (st : List (BitVec 64)) (buf : List (BitVec 8)) (k : Int) : St := ⟨[(0, .one (.s (.p 1 0))), (1, .one (.s (.osl (1 + 1) m.length))), (6, .one (.s (.p (1 + 3) 0)))], smM out m key ++ macM (1 + 3) st buf k false, 1 + 7⟩
end Go.Sx

set_option maxRecDepth 1000000
set_option linter.unusedVariables false
namespace Go.Sx
open Go.Proofs

def st0 (key : List (BitVec 8)) : List (BitVec 64) := lit 0 3 (List.replicate 7 (0 : BitVec 64)) ++ initW key
def bf0 : List (BitVec 8) := List.replicate 16 0

theorem psum1 (B : Nat) (out m key : List (BitVec 8)) (hkey : key.length = 32) (hl : m.length ≤ 4294967295) : FnE P0 B 1 28 [.one (.s (.p 1 0)), .one (.s (.osl (1 + 1) m.length)), .one (.s (.p (1 + 2) 0))] (smM out m key) (1 + 3) ⟨.tup [], smM (poly key m) m key, 1 + 3, .eff, []⟩ := by
  refine FnE.tri (cx := cxb true) (sz := 17) (fn := Try.f28) (c := bodyOf Try.f28) T0ok (by kernel_rfl) (by kernel_rfl) (by kernel_rfl) (by kernel_rfl) (by kernel_rfl) (by kernel_rfl) (Nat.le_refl _) ?_
  refine Tri.step (cx := cxb true) mix T0ok (HGok B true) 1 0 noOrc [0, 1, 6] [1, 1 + 1, 1 + 2, 1 + 3, 1 + 4, 1 + 5, 1 + 6] (1 + 7) (smSt out m key (st0 (lit 0 32 key)) bf0 0) [] (by kernel_rfl) obNil (by kernel_rfl) ?_
  have I0 := MInv.init key
  have I := I0.write m
  have hk : ((0 + m.length) % 16) < 16 := Nat.mod_lt _ (by decide)
  refine Tri.chg (cx := cxb false) rfl ?_
  refine Tri.step (cx := cxb false) mix T0ok (HGok B false) 1 0 noOrc [0, 1, 6] [1, 1 + 1, 1 + 2, 1 + 3, 1 + 4, 1 + 5, 1 + 6] (1 + 7) (smSt out m key (mwS (lit 0 7 (st0 (lit 0 32 key))) (lit 0 16 bf0) 0 (List.take m.length (List.drop 0 m))) (mwB (lit 0 16 bf0) 0 (List.take m.length (List.drop 0 m))) (((0 + (List.take m.length (List.drop 0 m)).length) % 16 : Nat) : Int)) (let st := st0 (lit 0 32 key); let buf := bf0; let k : Int := 0; [(0 : Nat) + (24 : Nat) - (7 : Nat) - (16 : Nat) - (1 : Nat) < List.length [Sc.b false], List.length m ≤ List.length m, List.length (lit (0 : BitVec (64 : Nat)) (7 : Nat) (mwS (lit (0 : BitVec (64 : Nat)) (7 : Nat) st) (lit (0 : BitVec (8 : Nat)) (16 : Nat) buf) (Int.toNat k) (List.take (List.length m) (List.drop (0 : Nat) m)))) = List.length (lit (0 : BitVec (64 : Nat)) (7 : Nat) st) ∧ List.length (lit (0 : BitVec (8 : Nat)) (16 : Nat) (mwB (lit (0 : BitVec (8 : Nat)) (16 : Nat) buf) (Int.toNat k) (List.take (List.length m) (List.drop (0 : Nat) m)))) = List.length (lit (0 : BitVec (8 : Nat)) (16 : Nat) buf) ∧ List.length [(↑((Int.toNat k + List.length (List.take (List.length m) (List.drop (0 : Nat) m))) % (16 : Nat)) : Int)] = List.length [k] ∧ List.length (List.take (List.length m) (List.drop (0 : Nat) m)) = List.length (List.take (List.length m) (List.drop (0 : Nat) m)) ∧ True, BitVec.toNat (List.getD (lit (0 : BitVec (64 : Nat)) (7 : Nat) st) (2 : Nat) (0 : BitVec (64 : Nat))) ≤ (5 : Nat), BitVec.toNat (List.getD (lit (0 : BitVec (64 : Nat)) (7 : Nat) st) (3 : Nat) (0 : BitVec (64 : Nat))) < (2 : Nat) ^ (60 : Nat), BitVec.toNat (List.getD (lit (0 : BitVec (64 : Nat)) (7 : Nat) st) (4 : Nat) (0 : BitVec (64 : Nat))) < (2 : Nat) ^ (60 : Nat), (0 : Int) ≤ k ∧ k < (16 : Int), List.length (List.take (List.length m) (List.drop (0 : Nat) m)) ≤ (4294967295 : Nat)]) (by kernel_rfl) ?_ (by kernel_rfl) ?_
  · (repeat' (first | exact obNil | refine obCons ?_ ?_))
    all_goals first | decide | exact Nat.zero_lt_one | exact Nat.zero_le 5 | exact r0_lt _ | exact r1_lt _ | exact ⟨rfl, rfl, rfl, rfl, trivial⟩ | omega | (simp; omega)
  · refine Tri.chg (cx := cxb true) rfl ?_
    rw [List.drop_zero, List.take_length, lit_eq hkey]
    have e1 : lit 0 7 (st0 key) = st0 key := lit_eq rfl
    have e2 : lit 0 16 bf0 = bf0 := lit_eq rfl
    rw [e1, e2]
    unfold st0 bf0
    generalize mwS (lit 0 3 (List.replicate 7 (0 : BitVec 64)) ++ initW key) (List.replicate 16 0) 0 m = st at *
    generalize mwB (List.replicate 16 0) 0 m = buf at *
    generalize hkk : (0 + m.length) % 16 = k at *
    refine Tri.stepR (cx := cxb true) mix T0ok (HGok B true) 1 0 noOrc [] [(1, 1), (1 + 1, 1 + 1), (1 + 2, 1 + 2)] (1 + 3) ⟨[], smM (msO (msL (lit 0 7 st) (lit 0 16 buf) k)) m key, 1 + 3⟩ (let k : Int := (k : Int); [BitVec.toNat (List.getD (lit (0 : BitVec (64 : Nat)) (7 : Nat) st) (2 : Nat) (0 : BitVec (64 : Nat))) ≤ (5 : Nat), BitVec.toNat (List.getD (lit (0 : BitVec (64 : Nat)) (7 : Nat) st) (3 : Nat) (0 : BitVec (64 : Nat))) < (2 : Nat) ^ (60 : Nat), BitVec.toNat (List.getD (lit (0 : BitVec (64 : Nat)) (7 : Nat) st) (4 : Nat) (0 : BitVec (64 : Nat))) < (2 : Nat) ^ (60 : Nat), (0 : Int) ≤ k ∧ k < (16 : Int)]) (by kernel_rfl) ?_ ?_
    · rw [lit_eq I.hl]
      exact obCons I.hz <| obCons I.hr0 <| obCons I.hr1 <| obCons ⟨by show (0 : Int) ≤ (k : Int); omega, by show (k : Int) < 16; omega⟩ obNil
    · rw [lit_eq I.hl, lit_eq I.hb]
      have := I.out hkey
      rw [List.nil_append] at this
      rw [this]
      exact Tri.ret (cx := cxb true) mix T0ok (HGok B true) 0 noOrc [] [1, 1 + 1, 1 + 2] (1 + 3) ⟨[], smM (poly key m) m key, 1 + 3⟩ [] .n (by kernel_rfl) obNil (by kernel_rfl) rfl [1, 1 + 1, 1 + 2] [] (by kernel_rfl) obNil

def psumCt : Ct := ⟨[.ptr 16 true, .slc false, .ptr 32 false], [], fun vs ds gs => match vs, ds, gs with
  | [], [.d8 out, .d8 m, .d8 key], [] => bif Nat.beq out.length 16 && Nat.beq key.length 32 then some ⟨.tup [], [.d8 (lit 0 16 (poly key m)), .d8 m, .d8 key], [], [m.length ≤ 4294967295]⟩ else none
  | _, _, _ => none⟩
theorem psum_ok (B : Nat) : psumCt.Ok P0 B 1 28 := by
  intro vs ds gs out h hpre hn
  unfold psumCt at h
  dsimp only at h
  split at h <;> first | (cases h; done) | skip
  rename_i o m key
  cases hb : (Nat.beq o.length 16 && Nat.beq key.length 32) with
  | false => rw [hb] at h; cases h
  | true =>
    rw [hb, cond_true] at h
    cases h
    simp only [Bool.and_eq_true] at hb
    have k1 := Nat.eq_of_beq_eq_true hb.1
    have k2 := Nat.eq_of_beq_eq_true hb.2
    have := psum1 B o m key k2 (hpre _ List.mem_cons_self)
    unfold smM at this
    rw [lit_eq k1, lit_eq k2] at this
    simp only [psumCt, canArgs, segsOf, globs, addM, List.length_cons, List.length_nil, SegD.len, k1, k2, lit_length, Nat.add_zero, Nat.zero_add]
    exact this
end Go.Sx

set_option maxRecDepth 1000000
set_option linter.unusedVariables false
namespace Go.Sx
open Go.Proofs

noncomputable def HJb (c : Bool) : Hook := hookC 28 (hookOf (cxb c) psumCt) (hookC 46 exB2u (H0 c))
theorem HJbok (B : Nat) (c : Bool) : HookOk P0 B 1 (HJb c) := .cons (.ct (cx := cxb c) (psum_ok B)) (.cons (HkOk.exB2u (fn := Try.f46) ⟨by kernel_rfl, by kernel_rfl, by kernel_rfl, by kernel_rfl, by kernel_rfl⟩) (H0ok B c))
noncomputable def in38 : In := ⟨Try.f38, bodyOf Try.f38, 0, .read, noOrc⟩
theorem io38 : InOk P0 38 in38 := ⟨by kernel_rfl, by kernel_rfl, by kernel_rfl⟩
noncomputable def HJ0 (c : Bool) : Hook := hookC 38 (inl (cxb c) (HJb c) in38) (HJb c)
theorem HJ0ok (B : Nat) (c : Bool) : HookOk P0 B 1 (HJ0 c) := HookOk.cons (HkOk.inl (cx := cxb c) mix T0ok (HJbok B c) io38) (HJbok B c)
noncomputable def in34 : In := ⟨Try.f34, bodyOf Try.f34, 17, .read, noOrc⟩
theorem io34 : InOk P0 34 in34 := ⟨by kernel_rfl, by kernel_rfl, by kernel_rfl⟩
noncomputable def HJ1 (c : Bool) : Hook := hookC 34 (inl (cxb c) (HJ0 c) in34) (HJ0 c)
theorem HJ1ok (B : Nat) (c : Bool) : HookOk P0 B 1 (HJ1 c) := HookOk.cons (HkOk.inl (cx := cxb c) mix T0ok (HJ0ok B c) io34) (HJ0ok B c)
noncomputable def in29 : In := ⟨Try.f29, bodyOf Try.f29, 0, .read, noOrc⟩
theorem io29 : InOk P0 29 in29 := ⟨by kernel_rfl, by kernel_rfl, by kernel_rfl⟩
noncomputable def HJ (c : Bool) : Hook := hookC 29 (inl (cxb c) (HJ1 c) in29) (HJ1 c)
theorem HJok (B : Nat) (c : Bool) : HookOk P0 B 1 (HJ c) := HookOk.cons (HkOk.inl (cx := cxb c) mix T0ok (HJ1ok B c) io29) (HJ1ok B c)
def vfM (mac m key : List (BitVec 8)) : Mem := [(1, ⟨16, .d8 (lit 0 16 mac), false, false, false⟩), (1 + 1, ⟨m.length, .d8 m, false, false, false⟩), (1 + 2, ⟨32, .d8 (lit 0 32 key), false, false, false⟩)]
def vfS0 (mac m key : List (BitVec 8)) : St := ⟨enum 0 [.one (.s (.p 1 0)), .one (.s (.osl (1 + 1) m.length)), .one (.s (.p (1 + 2) 0))], vfM mac m key, 1 + 3⟩
end Go.Sx

set_option maxRecDepth 1000000
set_option linter.unusedVariables false
namespace Go.Sx
open Go.Proofs

def orx : BitVec 8 → List (BitVec 8) → List (BitVec 8) → BitVec 8
  | c, x :: a, y :: b => orx (c ||| (x ^^^ y)) a b
  | c, _, _ => c
theorem orx_zero : ∀ (a b : List (BitVec 8)) (c : BitVec 8), a.length = b.length → (orx c a b = 0#8 ↔ c = 0#8 ∧ a = b)
  | [], [], c, _ => by simp [orx]
  | x :: a, y :: b, c, h => by
    have ih := orx_zero a b (c ||| (x ^^^ y)) (by simpa using h)
    simp only [orx, ih, List.cons.injEq, BitVec.or_eq_zero_iff, BitVec.xor_eq_zero_iff, and_assoc]
  | [], _ :: _, _, h => by simp at h
  | _ :: _, [], _, h => by simp at h
/-- what comparing answers -/
def ctE (a b : List (BitVec 8)) : Bool := decide (((b2u (decide ((orx 0#8 a b).toNat = (0#8).toNat))).toNat : Int) = 1)
theorem ctE_eq (a b : List (BitVec 8)) (h : a.length = b.length) : ctE a b = decide (a = b) := by
  unfold ctE
  have e : (orx 0#8 a b).toNat = (0#8).toNat ↔ a = b := by
    rw [BitVec.toNat_inj, orx_zero a b 0#8 h]; simp
  by_cases hab : a = b
  · rw [decide_eq_true (e.2 hab), decide_eq_true hab]; rfl
  · rw [decide_eq_false (fun x => hab (e.1 x)), decide_eq_false hab]; rfl

theorem vf1 (B : Nat) (mac m key : List (BitVec 8)) (hm : mac.length = 16) (hkey : key.length = 32) (hl : m.length ≤ 4294967295) : FnE P0 B 1 20 [.one (.s (.p 1 0)), .one (.s (.osl (1 + 1) m.length)), .one (.s (.p (1 + 2) 0))] (vfM mac m key) (1 + 3)
    ⟨.one (.s (.b (decide (poly key m = mac)))), vfM mac m key, 1 + 3, .eff, []⟩ := by
  refine FnE.tri (cx := cxb true) (sz := 17) (fn := Try.f20) (c := bodyOf Try.f20) T0ok (by kernel_rfl) (by kernel_rfl) (by kernel_rfl) (by kernel_rfl) (by kernel_rfl) (by kernel_rfl) (Nat.le_refl _) ?_
  refine Tri.chg (cx := cxb false) rfl ?_
  refine Tri.step (cx := cxb false) mix T0ok (HJok B false) 3 0 noOrc [0, 7] [1, 1 + 1, 1 + 2, 1 + 3] (1 + 4) ⟨[(0, .one (.s (.p 1 0))), (7, .one (.s (.p (1 + 3) 0)))], vfM mac m key ++ [(1 + 3, ⟨16, .d8 (lit 0 16 (poly (List.take 32 (List.drop 0 (lit 0 32 key))) (List.take m.length (List.drop 0 m)))), true, false, false⟩)], 1 + 4⟩ ([(0 : Nat) + (16 : Nat) ≤ List.length (List.replicate (16 : Nat) (0 : BitVec (8 : Nat))), List.length m ≤ List.length m, (0 : Nat) + (32 : Nat) ≤ List.length (lit (0 : BitVec (8 : Nat)) (32 : Nat) key), List.length (lit (0 : BitVec (8 : Nat)) (16 : Nat) (poly (List.take (32 : Nat) (List.drop (0 : Nat) (lit (0 : BitVec (8 : Nat)) (32 : Nat) key))) (List.take (List.length m) (List.drop (0 : Nat) m)))) = List.length (List.take (16 : Nat) (List.drop (0 : Nat) (List.replicate (16 : Nat) (0 : BitVec (8 : Nat))))) ∧ List.length (List.take (List.length m) (List.drop (0 : Nat) m)) = List.length (List.take (List.length m) (List.drop (0 : Nat) m)) ∧ List.length (List.take (32 : Nat) (List.drop (0 : Nat) (lit (0 : BitVec (8 : Nat)) (32 : Nat) key))) = List.length (List.take (32 : Nat) (List.drop (0 : Nat) (lit (0 : BitVec (8 : Nat)) (32 : Nat) key))) ∧ True, List.length (List.take (List.length m) (List.drop (0 : Nat) m)) ≤ (4294967295 : Nat)]) (by kernel_rfl) ?_ (by kernel_rfl) ?_
  · (repeat' (first | exact obNil | refine obCons ?_ ?_))
    all_goals first | decide | (simp [lit_length]; done) | omega | (simp; omega)
  · rw [List.drop_zero, List.drop_zero, List.take_length, List.take_of_length_le (by rw [lit_length]; omega), lit_eq hkey]
    refine Tri.chg (cx := cxb true) rfl ?_
    have e := ctE_eq (lit 0 16 (poly key m)) (lit 0 16 mac) (by rw [lit_length, lit_length])
    rw [lit_eq hm, lit_eq (poly_length key m)] at e
    rw [← e]
    refine Tri.stepR (cx := cxb true) mix T0ok (HJok B true) 1 0 noOrc [6] [(1, 1), (1 + 1, 1 + 1), (1 + 2, 1 + 2)] (1 + 3) ⟨[(6, .one (.s (.b (ctE (lit 0 16 (poly key m)) (lit 0 16 mac)))))], vfM mac m key, 1 + 3⟩ [] (by kernel_rfl) obNil ?_
    rw [lit_eq hm, lit_eq (poly_length key m)]
    exact Tri.ret (cx := cxb true) mix T0ok (HJok B true) 0 noOrc [6] [1, 1 + 1, 1 + 2] (1 + 3) ⟨[(6, .one (.s (.b (ctE (poly key m) mac))))], vfM mac m key, 1 + 3⟩ [] .r (by kernel_rfl) obNil (by kernel_rfl) rfl [1, 1 + 1, 1 + 2] [] (by kernel_rfl) obNil

def vfCt : Ct := ⟨[.ptr 16 false, .slc false, .ptr 32 false], [], fun vs ds gs => match vs, ds, gs with
  | [], [.d8 mac, .d8 m, .d8 key], [] => bif Nat.beq mac.length 16 && Nat.beq key.length 32 then some ⟨.one (.s (.b (decide (poly key m = mac)))), [.d8 mac, .d8 m, .d8 key], [], [m.length ≤ 4294967295]⟩ else none
  | _, _, _ => none⟩
theorem vf_ok (B : Nat) : vfCt.Ok P0 B 1 20 := by
  intro vs ds gs out h hpre hn
  unfold vfCt at h
  dsimp only at h
  split at h <;> first | (cases h; done) | skip
  rename_i mac m key
  cases hb : (Nat.beq mac.length 16 && Nat.beq key.length 32) with
  | false => rw [hb] at h; cases h
  | true =>
    rw [hb, cond_true] at h
    cases h
    simp only [Bool.and_eq_true] at hb
    have k1 := Nat.eq_of_beq_eq_true hb.1
    have k2 := Nat.eq_of_beq_eq_true hb.2
    have := vf1 B mac m key k1 k2 (hpre _ List.mem_cons_self)
    unfold vfM at this
    rw [lit_eq k1, lit_eq k2] at this
    simp only [vfCt, canArgs, segsOf, globs, addM, List.length_cons, List.length_nil, SegD.len, k1, k2, Nat.add_zero, Nat.zero_add]
    exact this
end Go.Sx

set_option maxRecDepth 1000000
set_option linter.unusedVariables false
namespace Go.Sx
open Go.Proofs
noncomputable def HK (c : Bool) : Hook := hookC 20 (hookOf (cxb c) vfCt) (hookC 21 (hookOf (cxb c) cloneCt) (H0 c))
theorem HKok (B : Nat) (c : Bool) : HookOk P0 B 1 (HK c) := .cons (.ct (cx := cxb c) (vf_ok B)) (.cons (.ct (cx := cxb c) (clone_ok B)) (H0ok B c))
def pvM (m : List (BitVec 8)) : Mem := [(1, ⟨m.length, .d8 m, false, false, false⟩)]
def pvS0 (mac m key : List (BitVec 8)) : St := ⟨enum 0 [.one (.ag [.d8 (lit 0 16 mac)]), .one (.s (.osl 1 m.length)), .one (.ag [.d8 (lit 0 32 key)])], pvM m, 1 + 1⟩
end Go.Sx

set_option maxRecDepth 1000000
set_option linter.unusedVariables false
namespace Go.Sx
open Go.Proofs

theorem pv1 (B : Nat) (mac m key : List (BitVec 8)) (hm : mac.length = 16) (hkey : key.length = 32) (hl : m.length ≤ 4294967295) : FnE P0 B 1 10 [.one (.ag [.d8 (lit 0 16 mac)]), .one (.s (.osl 1 m.length)), .one (.ag [.d8 (lit 0 32 key)])] (pvM m) (1 + 1)
    ⟨.one (.s (.b (decide (poly key m = mac)))), pvM m, 1 + 1, .eff, []⟩ := by
  refine FnE.tri (cx := cxb false) (sz := 10) (fn := Try.f10) (c := bodyOf Try.f10) T0ok (by kernel_rfl) (by kernel_rfl) (by kernel_rfl) (by kernel_rfl) (by kernel_rfl) (by kernel_rfl) (Nat.le_refl _) ?_
  refine Tri.stepR (cx := cxb false) mix T0ok (HKok B false) 2 0 noOrc [6] [(1, 1)] (1 + 1) ⟨[(6, .one (.s (.b (decide (poly (List.take 32 (List.drop 0 (lit 0 32 key))) (List.take (List.length (List.take m.length (List.drop 0 m))) (List.drop 0 (List.take m.length (List.drop 0 m)))) = List.take 16 (List.drop 0 (lit 0 16 mac)))))))], pvM m, 1 + 1⟩ ([List.length (lit (0 : BitVec (8 : Nat)) (16 : Nat) mac) = List.length (List.replicate (16 : Nat) (0 : BitVec (8 : Nat))) ∧ True, List.length (lit (0 : BitVec (8 : Nat)) (32 : Nat) key) = List.length (List.replicate (32 : Nat) (0 : BitVec (8 : Nat))) ∧ True, List.length m ≤ List.length m, List.length (List.take (List.length m) (List.drop (0 : Nat) m)) = List.length (List.take (List.length m) (List.drop (0 : Nat) m)) ∧ True, List.length (List.take (List.length m) (List.drop (0 : Nat) m)) ≤ (4294967295 : Nat), (0 : Nat) + (16 : Nat) ≤ List.length (lit (0 : BitVec (8 : Nat)) (16 : Nat) mac), List.length (List.take (List.length m) (List.drop (0 : Nat) m)) ≤ List.length (List.take (List.length m) (List.drop (0 : Nat) m)), (0 : Nat) + (32 : Nat) ≤ List.length (lit (0 : BitVec (8 : Nat)) (32 : Nat) key), List.length (List.take (16 : Nat) (List.drop (0 : Nat) (lit (0 : BitVec (8 : Nat)) (16 : Nat) mac))) = List.length (List.take (16 : Nat) (List.drop (0 : Nat) (lit (0 : BitVec (8 : Nat)) (16 : Nat) mac))) ∧ List.length (List.take (List.length (List.take (List.length m) (List.drop (0 : Nat) m))) (List.drop (0 : Nat) (List.take (List.length m) (List.drop (0 : Nat) m)))) = List.length (List.take (List.length (List.take (List.length m) (List.drop (0 : Nat) m))) (List.drop (0 : Nat) (List.take (List.length m) (List.drop (0 : Nat) m)))) ∧ List.length (List.take (32 : Nat) (List.drop (0 : Nat) (lit (0 : BitVec (8 : Nat)) (32 : Nat) key))) = List.length (List.take (32 : Nat) (List.drop (0 : Nat) (lit (0 : BitVec (8 : Nat)) (32 : Nat) key))) ∧ True, List.length (List.take (List.length (List.take (List.length m) (List.drop (0 : Nat) m))) (List.drop (0 : Nat) (List.take (List.length m) (List.drop (0 : Nat) m)))) ≤ (4294967295 : Nat)]) (by kernel_rfl) ?_ ?_
  · (repeat' (first | exact obNil | refine obCons ?_ ?_))
    all_goals first | trivial | (simp [lit_length]; done) | omega | (simp; omega)
  · have e1 : List.take 32 (List.drop 0 (lit 0 32 key)) = key := by rw [lit_eq hkey, List.drop_zero]; exact List.take_of_length_le (by omega)
    have e2 : List.take 16 (List.drop 0 (lit 0 16 mac)) = mac := by rw [lit_eq hm, List.drop_zero]; exact List.take_of_length_le (by omega)
    have e3 : List.take (List.length (List.take m.length (List.drop 0 m))) (List.drop 0 (List.take m.length (List.drop 0 m))) = m := by simp
    rw [e1, e2, e3]
    exact Tri.ret (cx := cxb false) mix T0ok (HKok B false) 0 noOrc [6] [1] (1 + 1) ⟨[(6, .one (.s (.b (decide (poly key m = mac)))))], pvM m, 1 + 1⟩ [] .r (by kernel_rfl) obNil (by kernel_rfl) rfl [1] [] (by kernel_rfl) obNil

def pvCt : Ct := ⟨[.val, .slc false, .val], [], fun vs ds gs => match vs, ds, gs with
  | [.one (.ag [.d8 mac]), .one (.ag [.d8 key])], [.d8 m], [] => bif Nat.beq mac.length 16 && Nat.beq key.length 32 then some ⟨.one (.s (.b (decide (poly key m = mac)))), [.d8 m], [], [m.length ≤ 4294967295]⟩ else none
  | _, _, _ => none⟩
theorem pv_ok (B : Nat) : pvCt.Ok P0 B 1 10 := by
  intro vs ds gs out h hpre hn
  unfold pvCt at h
  dsimp only at h
  split at h <;> first | (cases h; done) | skip
  rename_i mac key m
  cases hb : (Nat.beq mac.length 16 && Nat.beq key.length 32) with
  | false => rw [hb] at h; cases h
  | true =>
    rw [hb, cond_true] at h
    cases h
    simp only [Bool.and_eq_true] at hb
    have k1 := Nat.eq_of_beq_eq_true hb.1
    have k2 := Nat.eq_of_beq_eq_true hb.2
    have := pv1 B mac m key k1 k2 (hpre _ List.mem_cons_self)
    unfold pvM at this
    rw [lit_eq k1, lit_eq k2] at this
    exact this
end Go.Sx

set_option maxRecDepth 1000000
set_option linter.unusedVariables false
namespace Go.Sx
open Go.Proofs
noncomputable def HTu (b : Bool) (c : Bool) : Hook := hookC 8 (inl (cxb c) (H0 c) (inFew1 b)) (hookC 10 (hookOf (cxb c) pvCt) (hookC 9 (hookOf (cxb c) plCt) (H0 c)))
theorem HTuok (B : Nat) (b c : Bool) : HookOk P0 B 1 (HTu b c) := .cons (HkOk.inl (cx := cxb c) mix T0ok (H0ok B c) (ioFew1 b)) (.cons (.ct (cx := cxb c) (pv_ok B)) (.cons (.ct (cx := cxb c) (poly_ok B)) (H0ok B c)))
def lawMs (inp : List (BitVec 8)) : Mem := [(1, ⟨inp.length, .d8 inp, false, false, false⟩)]
def tuS0 (m key : List (BitVec 8)) (bit : Int) : St := ⟨enum 0 [.one (.s (.osl 1 m.length)), .one (.ag [.d8 (lit 0 32 key)]), .one (.s (.i bit))], lawMs m, 1 + 1⟩
end Go.Sx

set_option maxRecDepth 1000000
set_option linter.unusedVariables false
namespace Go.Sx
open Go.Proofs

/-- a bit turned -/
def turn (l : List (BitVec 8)) (n : Nat) : List (BitVec 8) := l.set (n / 8) (l.getD (n / 8) 0 ^^^ 1#8 <<< (n % 8))
theorem one_shift : ∀ k, k < 8 → (1#8 <<< k) ≠ 0#8 := by decide
theorem turn_ne (l : List (BitVec 8)) (n : Nat) (h : n / 8 < l.length) : l ≠ turn l n := by
  intro e
  have h1 : l.getD (n / 8) 0 = (turn l n).getD (n / 8) 0 := by rw [← e]
  unfold turn at h1
  rw [List.getD_eq_getElem?_getD (l := l.set _ _), List.getElem?_set_self h, Option.getD_some] at h1
  have h2 : l.getD (n / 8) 0 ^^^ l.getD (n / 8) 0 = l.getD (n / 8) 0 ^^^ (l.getD (n / 8) 0 ^^^ 1#8 <<< (n % 8)) := by rw [← h1]
  rw [← BitVec.xor_assoc, BitVec.xor_self, BitVec.zero_xor] at h2
  exact one_shift (n % 8) (Nat.mod_lt _ (by decide)) h2.symm
theorem turn_length (l : List (BitVec 8)) (n : Nat) : (turn l n).length = l.length := by unfold turn; rw [List.length_set]

def tuE (m : List (BitVec 8)) : Ef := ⟨.one (.s (.b true)), lawMs m, 1 + 1, .eff, []⟩
def tuS5 (m key : List (BitVec 8)) (bit : Int) : St := ⟨[(0, .one (.s (.osl 1 m.length))), (2, .one (.s (.i bit))), (4, .one (.s (.p (1 + 1) 0))), (6, .one (.s (.b false)))], lawMs m ++ [(1 + 1, ⟨32, .d8 (lit 0 32 key), true, false, false⟩)], 1 + 2⟩
def tuS6 (m key tg : List (BitVec 8)) (n : Nat) (r : Bool) : St := ⟨[(0, .one (.s (.osl 1 m.length))), (2, .one (.s (.i (n : Int)))), (4, .one (.s (.p (1 + 1) 0))), (6, .one (.s (.b false))), (7, .one (.s (.p (1 + 2) 0))), (8, .one (.s (.b r)))], lawMs m ++ [(1 + 1, ⟨32, .d8 (lit 0 32 key), true, false, false⟩), (1 + 2, ⟨16, .d8 tg, true, false, false⟩)], 1 + 3⟩
def tuS7 (m key tg : List (BitVec 8)) : St := ⟨[(0, .one (.s (.osl 1 m.length))), (4, .one (.s (.p (1 + 1) 0))), (6, .one (.s (.b false))), (7, .one (.s (.p (1 + 2) 0))), (8, .one (.s (.b true)))], lawMs m ++ [(1 + 1, ⟨32, .d8 (lit 0 32 key), true, false, false⟩), (1 + 2, ⟨16, .d8 tg, true, false, false⟩)], 1 + 3⟩

section
variable (B : Nat) (m key : List (BitVec 8)) (bit : Int)

theorem tu1 (hl : 2147483647 < m.length) : Tri P0 B (cxb false) 52 (1 + 1) (flat (bodyOf Try.f4)) (tuS0 m key bit) (Ret (cxb false) Try.f4.results.toList (tuE m)) :=
  Tri.ret (cx := cxb false) mix T0ok (HTuok B true false) 0 (orcL [(11, true)]) [6] [1] (1 + 9) ⟨[(6, .one (.s (.b true)))], lawMs m, 1 + 9⟩ ([List.length (lit (0 : BitVec (8 : Nat)) (32 : Nat) key) = List.length (List.replicate (32 : Nat) (0 : BitVec (8 : Nat))) ∧ True, decide ((2147483647 : Int) < (↑(List.length m) : Int)) = true]) .r (by kernel_rfl) (by (repeat' (first | exact obNil | refine obCons ?_ ?_)); all_goals (first | trivial | omega | (simp <;> omega))) (by kernel_rfl) rfl [1] [] (by kernel_rfl) obNil
theorem tu2 (hl : ¬ 2147483647 < m.length) (hf : 4096 < m.length) : Tri P0 B (cxb false) 52 (1 + 1) (flat (bodyOf Try.f4)) (tuS0 m key bit) (Ret (cxb false) Try.f4.results.toList (tuE m)) :=
  Tri.ret (cx := cxb false) mix T0ok (HTuok B false false) 0 (orcL [(11, false), (16, true), (20, true), (23, true)]) [6] [1] (1 + 9) ⟨[(6, .one (.s (.b true)))], lawMs m, 1 + 9⟩ ([List.length (lit (0 : BitVec (8 : Nat)) (32 : Nat) key) = List.length (List.replicate (32 : Nat) (0 : BitVec (8 : Nat))) ∧ True, decide ((2147483647 : Int) < (↑(List.length m) : Int)) = false, (0 : Int) ≤ (0 : Int) ∧ (0 : Int) < (↑(1 : Nat) : Int), Int.toNat (0 : Int) + (0 : Nat) < List.length (List.set (List.replicate (1 : Nat) Sc.sl0) ((0 : Nat) * (1 : Nat)) (Sc.osl (1 : Nat) (List.length m))), rng ((4096 : Int) - (0 : Int)), decide ((4096 : Int) - (0 : Int) < (↑(List.length m) : Int)) = !false, (!false) = true, (!false) = true, (!false) = true, true = true, true = true, true = true, true = true]) .r (by kernel_rfl) (by (repeat' (first | exact obNil | refine obCons ?_ ?_)); all_goals (first | trivial | omega | (simp <;> omega))) (by kernel_rfl) rfl [1] [] (by kernel_rfl) obNil
theorem tu3 (hl : ¬ 2147483647 < m.length) (hf : ¬ 4096 < m.length) (hb : bit < 0) : Tri P0 B (cxb false) 52 (1 + 1) (flat (bodyOf Try.f4)) (tuS0 m key bit) (Ret (cxb false) Try.f4.results.toList (tuE m)) :=
  Tri.ret (cx := cxb false) mix T0ok (HTuok B true false) 0 (orcL [(11, false), (16, false), (20, true), (23, true)]) [6] [1] (1 + 9) ⟨[(6, .one (.s (.b true)))], lawMs m, 1 + 9⟩ ([List.length (lit (0 : BitVec (8 : Nat)) (32 : Nat) key) = List.length (List.replicate (32 : Nat) (0 : BitVec (8 : Nat))) ∧ True, decide ((2147483647 : Int) < (↑(List.length m) : Int)) = false, (0 : Int) ≤ (0 : Int) ∧ (0 : Int) < (↑(1 : Nat) : Int), Int.toNat (0 : Int) + (0 : Nat) < List.length (List.set (List.replicate (1 : Nat) Sc.sl0) ((0 : Nat) * (1 : Nat)) (Sc.osl (1 : Nat) (List.length m))), rng ((4096 : Int) - (0 : Int)), decide ((4096 : Int) - (0 : Int) < (↑(List.length m) : Int)) = !true, rng ((0 : Int) + (↑(List.length m) : Int)), rng ((0 : Int) + (1 : Int)), (!true) = false, (!true) = false, decide (bit < (0 : Int)) = true, decide (bit < (0 : Int)) = true, decide (bit < (0 : Int)) = true, true = true]) .r (by kernel_rfl) (by (repeat' (first | exact obNil | refine obCons ?_ ?_)); all_goals (first | trivial | omega | (simp [rng, hb] <;> omega))) (by kernel_rfl) rfl [1] [] (by kernel_rfl) obNil
theorem tu4 (hl : ¬ 2147483647 < m.length) (hf : ¬ 4096 < m.length) (hb : ¬ bit < 0) (hb2 : 127 < bit) : Tri P0 B (cxb false) 52 (1 + 1) (flat (bodyOf Try.f4)) (tuS0 m key bit) (Ret (cxb false) Try.f4.results.toList (tuE m)) :=
  Tri.ret (cx := cxb false) mix T0ok (HTuok B true false) 0 (orcL [(11, false), (16, false), (20, false), (23, true)]) [6] [1] (1 + 9) ⟨[(6, .one (.s (.b true)))], lawMs m, 1 + 9⟩ ([List.length (lit (0 : BitVec (8 : Nat)) (32 : Nat) key) = List.length (List.replicate (32 : Nat) (0 : BitVec (8 : Nat))) ∧ True, decide ((2147483647 : Int) < (↑(List.length m) : Int)) = false, (0 : Int) ≤ (0 : Int) ∧ (0 : Int) < (↑(1 : Nat) : Int), Int.toNat (0 : Int) + (0 : Nat) < List.length (List.set (List.replicate (1 : Nat) Sc.sl0) ((0 : Nat) * (1 : Nat)) (Sc.osl (1 : Nat) (List.length m))), rng ((4096 : Int) - (0 : Int)), decide ((4096 : Int) - (0 : Int) < (↑(List.length m) : Int)) = !true, rng ((0 : Int) + (↑(List.length m) : Int)), rng ((0 : Int) + (1 : Int)), (!true) = false, (!true) = false, decide (bit < (0 : Int)) = false, decide (bit < (0 : Int)) = false, (bif decide (bit < (0 : Int)) then true else decide ((127 : Int) < bit)) = true]) .r (by kernel_rfl) (by (repeat' (first | exact obNil | refine obCons ?_ ?_)); all_goals (first | trivial | omega | (simp [rng, hb, hb2] <;> omega))) (by kernel_rfl) rfl [1] [] (by kernel_rfl) obNil
theorem tu5 (n : Nat) (hn : n < 128) (hkey : key.length = 32) (hl : ¬ 2147483647 < m.length) (hf : ¬ 4096 < m.length) : Tri P0 B (cxb false) 52 (1 + 1) (flat (bodyOf Try.f4)) (tuS0 m key (n : Int)) (Ret (cxb false) Try.f4.results.toList (tuE m)) := by
  have hb : ¬ (n : Int) < 0 := by omega
  have hb2 : ¬ (127 : Int) < (n : Int) := by omega
  have kt : List.take 32 (List.drop 0 (lit 0 32 key)) = key := by rw [lit_eq hkey, List.drop_zero]; exact List.take_of_length_le (by omega)
  have mt : List.take m.length (List.drop 0 m) = m := by simp
  refine Tri.stepR (cx := cxb false) mix T0ok (HTuok B true false) 5 0 (orcL [(11, false), (16, false), (20, false), (23, false)]) [0, 2, 4, 6] [(1, 1), (1 + 1, 1 + 1)] (1 + 2) (tuS5 m key (n : Int)) (let bit : Int := (n : Int); [List.length (lit (0 : BitVec (8 : Nat)) (32 : Nat) key) = List.length (List.replicate (32 : Nat) (0 : BitVec (8 : Nat))) ∧ True, decide ((2147483647 : Int) < (↑(List.length m) : Int)) = false, (0 : Int) ≤ (0 : Int) ∧ (0 : Int) < (↑(1 : Nat) : Int), Int.toNat (0 : Int) + (0 : Nat) < List.length (List.set (List.replicate (1 : Nat) Sc.sl0) ((0 : Nat) * (1 : Nat)) (Sc.osl (1 : Nat) (List.length m))), rng ((4096 : Int) - (0 : Int)), decide ((4096 : Int) - (0 : Int) < (↑(List.length m) : Int)) = !true, rng ((0 : Int) + (↑(List.length m) : Int)), rng ((0 : Int) + (1 : Int)), (!true) = false, (!true) = false, decide (bit < (0 : Int)) = false, decide (bit < (0 : Int)) = false, (bif decide (bit < (0 : Int)) then true else decide ((127 : Int) < bit)) = false]) (by kernel_rfl) (by (repeat' (first | exact obNil | refine obCons ?_ ?_)); all_goals (first | trivial | omega | (simp [rng, hb, hb2] <;> omega))) ?_
  refine Tri.stepR (cx := cxb false) mix T0ok (HTuok B true false) 2 0 noOrc [0, 2, 4, 6, 7, 8] [(1, 1), (1 + 1, 1 + 1), (1 + 3, 1 + 2)] (1 + 3) (tuS6 m key (List.take 16 (List.drop 0 (lit 0 16 (poly (List.take 32 (List.drop 0 (lit 0 32 key))) (List.take m.length (List.drop 0 m)))))) n (decide (poly (lit 0 32 key) (List.take m.length (List.drop 0 m)) = List.take 16 (List.drop 0 (lit 0 16 (poly (List.take 32 (List.drop 0 (lit 0 32 key))) (List.take m.length (List.drop 0 m)))))))) (let bit : Int := (n : Int); [(0 : Int) ≤ (0 : Int) ∧ (0 : Int) ≤ (↑(32 : Nat) : Int) ∧ (↑(32 : Nat) : Int) ≤ (↑(32 : Nat) : Int), Int.toNat (0 : Int) + (0 : Nat) + (Int.toNat (↑(32 : Nat) : Int) - Int.toNat (0 : Int)) ≤ List.length (lit (0 : BitVec (8 : Nat)) (32 : Nat) key) ∧ Int.toNat (↑(32 : Nat) : Int) - Int.toNat (0 : Int) ≤ (32 : Nat) - Int.toNat (0 : Int), List.length m ≤ List.length m, List.length (List.take (Int.toNat (↑(32 : Nat) : Int) - Int.toNat (0 : Int)) (List.drop (Int.toNat (0 : Int) + (0 : Nat)) (lit (0 : BitVec (8 : Nat)) (32 : Nat) key))) = List.length (List.take (Int.toNat (↑(32 : Nat) : Int) - Int.toNat (0 : Int)) (List.drop (Int.toNat (0 : Int) + (0 : Nat)) (lit (0 : BitVec (8 : Nat)) (32 : Nat) key))) ∧ List.length (List.take (List.length m) (List.drop (0 : Nat) m)) = List.length (List.take (List.length m) (List.drop (0 : Nat) m)) ∧ True, List.length (List.take (List.length m) (List.drop (0 : Nat) m)) ≤ (4294967295 : Nat), (16 : Nat) ≤ (16 : Nat) ∧ (0 : Nat) < List.length (lit (0 : BitVec (8 : Nat)) (16 : Nat) (poly (List.take (Int.toNat (↑(32 : Nat) : Int) - Int.toNat (0 : Int)) (List.drop (Int.toNat (0 : Int) + (0 : Nat)) (lit (0 : BitVec (8 : Nat)) (32 : Nat) key))) (List.take (List.length m) (List.drop (0 : Nat) m)))), (0 : Nat) + (16 : Nat) ≤ List.length (lit (0 : BitVec (8 : Nat)) (16 : Nat) (poly (List.take (Int.toNat (↑(32 : Nat) : Int) - Int.toNat (0 : Int)) (List.drop (Int.toNat (0 : Int) + (0 : Nat)) (lit (0 : BitVec (8 : Nat)) (32 : Nat) key))) (List.take (List.length m) (List.drop (0 : Nat) m)))), List.length m ≤ List.length m, List.length (List.take (List.length m) (List.drop (0 : Nat) m)) = List.length (List.take (List.length m) (List.drop (0 : Nat) m)) ∧ True, List.length (List.take (List.length m) (List.drop (0 : Nat) m)) ≤ (4294967295 : Nat)]) (by kernel_rfl) (by (repeat' (first | exact obNil | refine obCons ?_ ?_)); all_goals (first | trivial | omega | (simp [lit_length] <;> omega))) ?_
  have pt : List.take 16 (List.drop 0 (lit 0 16 (poly key m))) = poly key m := by rw [lit_eq (poly_length key m), List.drop_zero]; exact List.take_of_length_le (by rw [poly_length]; omega)
  have ct : Int.toNat ((n : Int) / 8) + 0 = n / 8 := by omega
  have cm : Int.toNat ((n : Int) % 8) = n % 8 := by omega
  rw [kt, mt, pt, lit_eq hkey, decide_eq_true rfl]
  have e : tuS6 m key (poly key m) n true = tuS6 m key (lit 0 16 (poly key m)) n true := by rw [lit_eq (poly_length key m)]
  rw [e]
  refine Tri.stepR (cx := cxb false) mix T0ok (HTuok B true false) 1 0 noOrc [0, 4, 6, 7, 8] [(1, 1), (1 + 1, 1 + 1), (1 + 2, 1 + 2)] (1 + 3) (tuS7 m key ((lit 0 16 (poly key m)).set (Int.toNat ((n : Int) / 8) + 0) ((lit 0 16 (poly key m)).getD (Int.toNat ((n : Int) / 8) + 0) 0 ^^^ 1#8 <<< Int.toNat ((n : Int) % 8)))) (let tg := poly key m; [(0 : Int) ≤ (↑n : Int) ∧ (0 : Int) < (8 : Int) ∧ rng (↑n : Int), (0 : Int) ≤ (↑n : Int) ∧ (0 : Int) < (8 : Int) ∧ rng (↑n : Int), (0 : Int) ≤ (↑n : Int) / (8 : Int) ∧ (↑n : Int) / (8 : Int) < (↑(16 : Nat) : Int), Int.toNat ((↑n : Int) / (8 : Int)) + (0 : Nat) < List.length (lit (0 : BitVec (8 : Nat)) (16 : Nat) tg), (0 : Int) ≤ (↑n : Int) ∧ (0 : Int) < (8 : Int), (0 : Int) ≤ (↑n : Int) % (8 : Int), (0 : Int) ≤ (↑n : Int) / (8 : Int) ∧ (↑n : Int) / (8 : Int) < (↑(16 : Nat) : Int), Int.toNat ((↑n : Int) / (8 : Int)) + (0 : Nat) + (1 : Nat) ≤ (16 : Nat)]) (by kernel_rfl) ?_ ?_
  · (repeat' (first | exact obNil | refine obCons ?_ ?_))
    all_goals first | (unfold rng; omega) | (rw [lit_length]; omega) | omega
  · rw [ct, cm]
    have lt : (turn (lit 0 16 (poly key m)) n).length = 16 := by rw [turn_length, lit_length]
    show Tri _ _ _ _ _ _ (tuS7 m key (turn (lit 0 16 (poly key m)) n)) _
    have e2 : tuS7 m key (turn (lit 0 16 (poly key m)) n) = tuS7 m key (lit 0 16 (turn (lit 0 16 (poly key m)) n)) := by rw [lit_eq lt]
    rw [e2]
    have e0 : lit 0 16 (turn (lit 0 16 (poly key m)) n) = turn (poly key m) n := by rw [lit_eq lt, lit_eq (poly_length key m)]
    have hne : ¬ poly (lit 0 32 key) (List.take m.length (List.drop 0 m)) = lit 0 16 (turn (lit 0 16 (poly key m)) n) := by
      rw [e0, mt, lit_eq hkey]
      exact turn_ne (poly key m) n (by rw [poly_length]; omega)
    have e3 : (!decide (poly (lit 0 32 key) (List.take m.length (List.drop 0 m)) = lit 0 16 (turn (lit 0 16 (poly key m)) n))) = true := congrArg not (decide_eq_false hne)
    refine Tri.step (cx := cxb false) mix T0ok (HTuok B true false) 1 0 noOrc [6] [1] (1 + 3) ⟨[(6, .one (.s (.b (!decide (poly (lit 0 32 key) (List.take m.length (List.drop 0 m)) = lit 0 16 (turn (lit 0 16 (poly key m)) n))))))], lawMs m, 1 + 3⟩ ([List.length m ≤ List.length m, List.length (List.take (List.length m) (List.drop (0 : Nat) m)) = List.length (List.take (List.length m) (List.drop (0 : Nat) m)) ∧ True, List.length (List.take (List.length m) (List.drop (0 : Nat) m)) ≤ (4294967295 : Nat)]) (by kernel_rfl) ?_ (by kernel_rfl) ?_
    · (repeat' (first | exact obNil | refine obCons ?_ ?_))
      all_goals first | omega | (simp; done) | (simp; omega)
    · rw [e3]
      exact Tri.ret (cx := cxb false) mix T0ok (HTuok B true false) 0 noOrc [6] [1] (1 + 3) ⟨[(6, .one (.s (.b true)))], lawMs m, 1 + 3⟩ [] .r (by kernel_rfl) obNil (by kernel_rfl) rfl [1] [] (by kernel_rfl) obNil
end

theorem lawTu (B : Nat) {l0 l1 : List (BitVec 8)} {n2 : Int} (h0 : l0.length ≤ maxLen) (h1 : l1.length = 32) (h2 : -9223372036854775808 ≤ n2 ∧ n2 ≤ 9223372036854775807) : FnE P0 B 1 4 [.one (.s (.osl 1 l0.length)), .one (.ag [.d8 l1]), .one (.s (.i n2))] (lawMs l0) (1 + 1) (tuE l0) := by
  rw [← lit_eq h1]
  refine FnE.tri (cx := cxb false) (sz := 52) (fn := Try.f4) (c := bodyOf Try.f4) T0ok (by kernel_rfl) (by kernel_rfl) (by kernel_rfl) (by kernel_rfl) (by kernel_rfl) (by kernel_rfl) (Nat.le_refl _) ?_
  by_cases hl : 2147483647 < l0.length
  · exact tu1 B l0 l1 n2 hl
  · by_cases hf : 4096 < l0.length
    · exact tu2 B l0 l1 n2 hl hf
    · by_cases hb : n2 < 0
      · exact tu3 B l0 l1 n2 hl hf hb
      · by_cases hb2 : 127 < n2
        · exact tu4 B l0 l1 n2 hl hf hb hb2
        · obtain ⟨n, rfl⟩ : ∃ n : Nat, n2 = (n : Int) := ⟨n2.toNat, by omega⟩
          exact tu5 B l0 l1 n (by omega) h1 hl hf
end Go.Sx
