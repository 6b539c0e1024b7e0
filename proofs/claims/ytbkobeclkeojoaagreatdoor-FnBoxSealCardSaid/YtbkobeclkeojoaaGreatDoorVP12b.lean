/- poly1305: what is walked into; the states. poly1305.Sum. poly1305.Verify: what is walked into. poly1305.Verify; impl.PolyVerify. Conditions: none. -/
import Derived.Test.YtbkobeclkeojoaaGreatDoorVP8b
set_option maxRecDepth 1000000
set_option linter.unusedVariables false
namespace Go.Sx
open Go.Proofs

noncomputable def HGb (c : Bool) : Hook := hookC 66 (hookOf (cxb c) wrCt) (hookC 67 (hookOf (cxb c) smCt) (hookC 65 (hookOf (cxb c) initCt) (H0 c)))
theorem HGbok (B : Nat) (c : Bool) : HookOk P0 B 2 (HGb c) := .cons (.ct (cx := cxb c) (wr_ok B)) (.cons (.ct (cx := cxb c) (sm_ok B)) (.cons (.ct (cx := cxb c) (init_ok B)) (H0ok B c)))
noncomputable def in58 : In := ⟨Tryz.f58, bodyOf Tryz.f58, 0, .eff, noOrc⟩
theorem io58 : InOk P0 58 in58 := ⟨by kernel_rfl, by kernel_rfl, by kernel_rfl⟩
noncomputable def HG0 (c : Bool) : Hook := hookC 58 (inl (cxb c) (HGb c) in58) (HGb c)
theorem HG0ok (B : Nat) (c : Bool) : HookOk P0 B 2 (HG0 c) := HookOk.cons (HkOk.inl (cx := cxb c) mix T0ok (HGbok B c) io58) (HGbok B c)
noncomputable def in59 : In := ⟨Tryz.f59, bodyOf Tryz.f59, 0, .eff, noOrc⟩
theorem io59 : InOk P0 59 in59 := ⟨by kernel_rfl, by kernel_rfl, by kernel_rfl⟩
noncomputable def HG1 (c : Bool) : Hook := hookC 59 (inl (cxb c) (HG0 c) in59) (HG0 c)
theorem HG1ok (B : Nat) (c : Bool) : HookOk P0 B 2 (HG1 c) := HookOk.cons (HkOk.inl (cx := cxb c) mix T0ok (HG0ok B c) io59) (HG0ok B c)
noncomputable def in60 : In := ⟨Tryz.f60, bodyOf Tryz.f60, 0, .eff, noOrc⟩
theorem io60 : InOk P0 60 in60 := ⟨by kernel_rfl, by kernel_rfl, by kernel_rfl⟩
noncomputable def HG (c : Bool) : Hook := hookC 60 (inl (cxb c) (HG1 c) in60) (HG1 c)
theorem HGok (B : Nat) (c : Bool) : HookOk P0 B 2 (HG c) := HookOk.cons (HkOk.inl (cx := cxb c) mix T0ok (HG1ok B c) io60) (HG1ok B c)
def macM (K : Nat) (st : List (BitVec 64)) (buf : List (BitVec 8)) (k : Int) (fz : Bool) : Mem := [(K, ⟨7, .d64 (lit 0 7 st), true, false, true⟩), (K + 1, ⟨16, .d8 (lit 0 16 buf), true, false, true⟩), (K + 2, ⟨1, .di [k], true, false, true⟩), (K + 3, ⟨1, .dc [.b fz], true, false, false⟩)]
def smM (out m key : List (BitVec 8)) : Mem := [(2, ⟨16, .d8 (lit 0 16 out), true, false, false⟩), (2 + 1, ⟨m.length, .d8 m, false, false, false⟩), (2 + 2, ⟨32, .d8 (lit 0 32 key), false, false, false⟩)]
def smStp (out m key : List (BitVec 8)) (st : List (BitVec 64)) (buf : List (BitVec 8)) (k : Int) : St := ⟨[(0, .one (.s (.p 2 0))), (1, .one (.s (.osl (2 + 1) m.length))), (6, .one (.s (.p (2 + 3) 0)))], smM out m key ++ macM (2 + 3) st buf k false, 2 + 7⟩
end Go.Sx

set_option maxRecDepth 1000000
set_option linter.unusedVariables false
namespace Go.Sx
open Go.Proofs

def st0p (key : List (BitVec 8)) : List (BitVec 64) := lit 0 3 (List.replicate 7 (0 : BitVec 64)) ++ initW key
def bf0 : List (BitVec 8) := List.replicate 16 0

theorem psum1 (B : Nat) (out m key : List (BitVec 8)) (hkey : key.length = 32) (hl : m.length ≤ 4294967295) : FnE P0 B 2 51 [.one (.s (.p 2 0)), .one (.s (.osl (2 + 1) m.length)), .one (.s (.p (2 + 2) 0))] (smM out m key) (2 + 3) ⟨.tup [], smM (poly key m) m key, 2 + 3, .eff, []⟩ := by
  refine FnE.tri (cx := cxb true) (sz := 17) (fn := Tryz.f51) (c := bodyOf Tryz.f51) T0ok (by kernel_rfl) (by kernel_rfl) (by kernel_rfl) (by kernel_rfl) (by kernel_rfl) (by kernel_rfl) (Nat.le_refl _) ?_
  refine Tri.step (cx := cxb true) mix T0ok (HGok B true) 1 0 noOrc [0, 1, 6] [2, 2 + 1, 2 + 2, 2 + 3, 2 + 4, 2 + 5, 2 + 6] (2 + 7) (smStp out m key (st0p (lit 0 32 key)) bf0 0) [] (by kernel_rfl) obNil (by kernel_rfl) ?_
  have I0 := MInv.init key
  have I := I0.write m
  have hk : ((0 + m.length) % 16) < 16 := Nat.mod_lt _ (by decide)
  refine Tri.chg (cx := cxb false) rfl ?_
  refine Tri.step (cx := cxb false) mix T0ok (HGok B false) 1 0 noOrc [0, 1, 6] [2, 2 + 1, 2 + 2, 2 + 3, 2 + 4, 2 + 5, 2 + 6] (2 + 7) (smStp out m key (mwS (lit 0 7 (st0p (lit 0 32 key))) (lit 0 16 bf0) 0 (List.take m.length (List.drop 0 m))) (mwB (lit 0 16 bf0) 0 (List.take m.length (List.drop 0 m))) (((0 + (List.take m.length (List.drop 0 m)).length) % 16 : Nat) : Int)) (let st := st0p (lit 0 32 key); let buf := bf0; let k : Int := 0; [(0 : Nat) + (24 : Nat) - (7 : Nat) - (16 : Nat) - (1 : Nat) < List.length [Sc.b false], List.length m ≤ List.length m, List.length (lit (0 : BitVec (64 : Nat)) (7 : Nat) (mwS (lit (0 : BitVec (64 : Nat)) (7 : Nat) st) (lit (0 : BitVec (8 : Nat)) (16 : Nat) buf) (Int.toNat k) (List.take (List.length m) (List.drop (0 : Nat) m)))) = List.length (lit (0 : BitVec (64 : Nat)) (7 : Nat) st) ∧ List.length (lit (0 : BitVec (8 : Nat)) (16 : Nat) (mwB (lit (0 : BitVec (8 : Nat)) (16 : Nat) buf) (Int.toNat k) (List.take (List.length m) (List.drop (0 : Nat) m)))) = List.length (lit (0 : BitVec (8 : Nat)) (16 : Nat) buf) ∧ List.length [(↑((Int.toNat k + List.length (List.take (List.length m) (List.drop (0 : Nat) m))) % (16 : Nat)) : Int)] = List.length [k] ∧ List.length (List.take (List.length m) (List.drop (0 : Nat) m)) = List.length (List.take (List.length m) (List.drop (0 : Nat) m)) ∧ True, BitVec.toNat (List.getD (lit (0 : BitVec (64 : Nat)) (7 : Nat) st) (2 : Nat) (0 : BitVec (64 : Nat))) ≤ (5 : Nat), BitVec.toNat (List.getD (lit (0 : BitVec (64 : Nat)) (7 : Nat) st) (3 : Nat) (0 : BitVec (64 : Nat))) < (2 : Nat) ^ (60 : Nat), BitVec.toNat (List.getD (lit (0 : BitVec (64 : Nat)) (7 : Nat) st) (4 : Nat) (0 : BitVec (64 : Nat))) < (2 : Nat) ^ (60 : Nat), (0 : Int) ≤ k ∧ k < (16 : Int), List.length (List.take (List.length m) (List.drop (0 : Nat) m)) ≤ (4294967295 : Nat)]) (by kernel_rfl) ?_ (by kernel_rfl) ?_
  · (repeat' (first | exact obNil | refine obCons ?_ ?_))
    all_goals first | decide | exact Nat.zero_lt_one | exact Nat.zero_le 5 | exact r0_lt _ | exact r1_lt _ | exact ⟨rfl, rfl, rfl, rfl, trivial⟩ | omega | (simp; omega)
  · refine Tri.chg (cx := cxb true) rfl ?_
    rw [List.drop_zero, List.take_length, lit_eq hkey]
    have e1 : lit 0 7 (st0p key) = st0p key := lit_eq rfl
    have e2 : lit 0 16 bf0 = bf0 := lit_eq rfl
    rw [e1, e2]
    unfold st0p bf0
    generalize mwS (lit 0 3 (List.replicate 7 (0 : BitVec 64)) ++ initW key) (List.replicate 16 0) 0 m = st at *
    generalize mwB (List.replicate 16 0) 0 m = buf at *
    generalize hkk : (0 + m.length) % 16 = k at *
    refine Tri.stepR (cx := cxb true) mix T0ok (HGok B true) 1 0 noOrc [] [(2, 2), (2 + 1, 2 + 1), (2 + 2, 2 + 2)] (2 + 3) ⟨[], smM (msO (msL (lit 0 7 st) (lit 0 16 buf) k)) m key, 2 + 3⟩ (let k : Int := (k : Int); [BitVec.toNat (List.getD (lit (0 : BitVec (64 : Nat)) (7 : Nat) st) (2 : Nat) (0 : BitVec (64 : Nat))) ≤ (5 : Nat), BitVec.toNat (List.getD (lit (0 : BitVec (64 : Nat)) (7 : Nat) st) (3 : Nat) (0 : BitVec (64 : Nat))) < (2 : Nat) ^ (60 : Nat), BitVec.toNat (List.getD (lit (0 : BitVec (64 : Nat)) (7 : Nat) st) (4 : Nat) (0 : BitVec (64 : Nat))) < (2 : Nat) ^ (60 : Nat), (0 : Int) ≤ k ∧ k < (16 : Int)]) (by kernel_rfl) ?_ ?_
    · rw [lit_eq I.hl]
      exact obCons I.hz <| obCons I.hr0 <| obCons I.hr1 <| obCons ⟨by show (0 : Int) ≤ (k : Int); omega, by show (k : Int) < 16; omega⟩ obNil
    · rw [lit_eq I.hl, lit_eq I.hb]
      have := I.out hkey
      rw [List.nil_append] at this
      rw [this]
      exact Tri.ret (cx := cxb true) mix T0ok (HGok B true) 0 noOrc [] [2, 2 + 1, 2 + 2] (2 + 3) ⟨[], smM (poly key m) m key, 2 + 3⟩ [] .n (by kernel_rfl) obNil (by kernel_rfl) rfl [2, 2 + 1, 2 + 2] [] (by kernel_rfl) obNil

def psumCt : Ct := ⟨[.ptr 16 true, .slc false, .ptr 32 false], [], fun vs ds gs => match vs, ds, gs with
  | [], [.d8 out, .d8 m, .d8 key], [] => bif Nat.beq out.length 16 && Nat.beq key.length 32 then some ⟨.tup [], [.d8 (lit 0 16 (poly key m)), .d8 m, .d8 key], [], [m.length ≤ 4294967295]⟩ else none
  | _, _, _ => none⟩
theorem psum_ok (B : Nat) : psumCt.Ok P0 B 2 51 := by
  intro vs ds gs out h hpre hn
  unfold psumCt at h
  dsimp only at h
  split at h <;> first | (cases h; done) | skip
  rename_i o m key
  cases hb : (Nat.beq o.length 16 && Nat.beq key.length 32) with
  | false => rw [hb] at h; cases h
  | true =>
    rw [hb, cond_true] at h
    cases h
    simp only [Bool.and_eq_true] at hb
    have k1 := Nat.eq_of_beq_eq_true hb.1
    have k2 := Nat.eq_of_beq_eq_true hb.2
    have := psum1 B o m key k2 (hpre _ List.mem_cons_self)
    unfold smM at this
    rw [lit_eq k1, lit_eq k2] at this
    simp only [psumCt, canArgs, segsOf, globs, addM, List.length_cons, List.length_nil, SegD.len, k1, k2, lit_length, Nat.add_zero, Nat.zero_add]
    exact this
end Go.Sx

set_option maxRecDepth 1000000
set_option linter.unusedVariables false
namespace Go.Sx
open Go.Proofs

end Go.Sx

set_option maxRecDepth 1000000
set_option linter.unusedVariables false
namespace Go.Sx
open Go.Proofs

end Go.Sx
