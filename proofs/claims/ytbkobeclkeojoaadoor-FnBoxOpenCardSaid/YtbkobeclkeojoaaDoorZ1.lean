/- The public key of a private one: x25519.ZZPublicKey. impl.Pair: what it computes. FnBoxOpen: pairs of keys; what is called. Conditions: none. -/
import Derived.Test.YtbkobeclkeojoaaDoorY1
import Derived.Test.YtbkobeclkeojoaaDoorB7
import Derived.Test.YtbkobeclkeojoaaDoorBW10
set_option maxRecDepth 1000000
set_option linter.unusedVariables false
namespace Go.Sx
open Go.Proofs
def nin : List (BitVec 8) := 9#8 :: List.replicate 31 0
noncomputable def HPb (s : List (BitVec 8)) (c : Bool) : Hook := hookC 34 (hookAt [dsv (5 + 2), dsv (5 + 1), dsv (5 + 3)] (smBase s z32 nin) (5 + 4) (.tup []) ([(5 + 1, sg8 (lit 0 32 s) true), (5 + 2, sg8 (lit 0 32 (smF s nin)) true), (5 + 3, sg8 (lit 0 32 nin) true)] ++ gM) (5 + 4)) (H0 c)
theorem HPbok (B : Nat) {s : List (BitVec 8)} (ls : s.length = 32) (c : Bool) : HookOk P0 B 5 (HPb s c) := .cons (.at_ (smRunB B z32 s nin ls rfl)) (H0ok B c)
theorem pub1 (B : Nat) (s : List (BitVec 8)) (ls : s.length = 32) : FnE P0 B 5 26 [.one (.ag [.d8 (lit 0 32 s)])] gM (5 + 1) ⟨.one (.ag [.d8 (lit 0 32 (smF s nin))]), gM, 5 + 1, .eff, []⟩ := by
  refine FnE.tri (cx := cxb true) (sz := 10) (fn := Tryd.f26) (c := bodyOf Tryd.f26) T0ok (by kernel_rfl) (by kernel_rfl) (by kernel_rfl) (by kernel_rfl) (by kernel_rfl) (by kernel_rfl) (Nat.le_refl _) ?_
  refine Tri.step (cx := cxb true) mix T0ok (HPbok B ls true) 2 0 noOrc [1, 2, 3] [5 + 1, 5 + 2, 5 + 3, 3, 5] (5 + 4) ⟨[(1, .one (.s (.p (5 + 1) 0))), (2, .one (.s (.p (5 + 2) 0))), (3, .one (.s (.p (5 + 3) 0)))], smBase s z32 nin, 5 + 4⟩ [] (by kernel_rfl) obNil (by kernel_rfl) ?_
  exact Tri.ret (cx := cxb true) mix T0ok (HPbok B ls true) 0 noOrc [2] [5 + 2, 3, 5] (5 + 4) ⟨[(2, .one (.s (.p (5 + 2) 0)))], [(5 + 2, sg8 (lit 0 32 (smF s nin)) true)] ++ gM, 5 + 4⟩ [[dsv (5 + 2), dsv (5 + 1), dsv (5 + 3)] = [dsv (5 + 2), dsv (5 + 1), dsv (5 + 3)], smBase s z32 nin = smBase s z32 nin, 5 + 4 = 5 + 4] .r (by kernel_rfl) (obCons rfl <| obCons rfl <| obCons rfl obNil) (by kernel_rfl) rfl [3, 5] [] (by kernel_rfl) obNil
def pubF : List SV → Option SV := fun
  | [.one (.ag [.d8 s])] => bif Nat.beq s.length 32 then some (.one (.ag [.d8 (lit 0 32 (smF s nin))])) else none
  | _ => none
theorem pubQ_ok (B : Nat) : HkOk P0 B 5 26 (hookQ gM pubF) := by
  refine HkOk.quiet (nx0 := 5 + 1) (by kernel_rfl) (Nat.le_succ _) ?_
  intro args v h
  unfold pubF at h
  split at h <;> first | (cases h; done) | skip
  rename_i s
  cases hb : Nat.beq s.length 32 with
  | false => rw [hb] at h; cases h
  | true =>
    rw [hb, cond_true] at h
    cases h
    have k1 := Nat.eq_of_beq_eq_true hb
    have := pub1 B s k1
    rw [lit_eq k1] at this
    exact ⟨_, _, this⟩
noncomputable def HPq (c : Bool) : Hook := hookC 26 (hookQ gM pubF) (H0 c)
theorem HPqok (B : Nat) (c : Bool) : HookOk P0 B 5 (HPq c) := .cons (pubQ_ok B) (H0ok B c)

noncomputable def in104 : In := ⟨Tryd.f104, bodyOf Tryd.f104, 0, .eff, noOrc⟩
theorem io104 : InOk P0 104 in104 := ⟨by kernel_rfl, by kernel_rfl, by kernel_rfl⟩
noncomputable def HPp0 (c : Bool) : Hook := hookC 104 (inl (cxb c) (HPq c) in104) (HPq c)
theorem HPp0ok (B : Nat) (c : Bool) : HookOk P0 B 5 (HPp0 c) := HookOk.cons (HkOk.inl (cx := cxb c) mix T0ok (HPqok B c) io104) (HPqok B c)
noncomputable def in25 : In := ⟨Tryd.f25, bodyOf Tryd.f25, 3, .eff, noOrc⟩
theorem io25 : InOk P0 25 in25 := ⟨by kernel_rfl, by kernel_rfl, by kernel_rfl⟩
noncomputable def HPp1 (c : Bool) : Hook := hookC 25 (inl (cxb c) (HPp0 c) in25) (HPp0 c)
theorem HPp1ok (B : Nat) (c : Bool) : HookOk P0 B 5 (HPp1 c) := HookOk.cons (HkOk.inl (cx := cxb c) mix T0ok (HPp0ok B c) io25) (HPp0ok B c)
noncomputable def in18 : In := ⟨Tryd.f18, bodyOf Tryd.f18, 0, .eff, noOrc⟩
theorem io18 : InOk P0 18 in18 := ⟨by kernel_rfl, by kernel_rfl, by kernel_rfl⟩
noncomputable def HPp2 (c : Bool) : Hook := hookC 18 (inl (cxb c) (HPp1 c) in18) (HPp1 c)
theorem HPp2ok (B : Nat) (c : Bool) : HookOk P0 B 5 (HPp2 c) := HookOk.cons (HkOk.inl (cx := cxb c) mix T0ok (HPp1ok B c) io18) (HPp1ok B c)
noncomputable def in19 : In := ⟨Tryd.f19, bodyOf Tryd.f19, 0, .eff, noOrc⟩
theorem io19 : InOk P0 19 in19 := ⟨by kernel_rfl, by kernel_rfl, by kernel_rfl⟩
noncomputable def HPp3 (c : Bool) : Hook := hookC 19 (inl (cxb c) (HPp2 c) in19) (HPp2 c)
theorem HPp3ok (B : Nat) (c : Bool) : HookOk P0 B 5 (HPp3 c) := HookOk.cons (HkOk.inl (cx := cxb c) mix T0ok (HPp2ok B c) io19) (HPp2ok B c)
noncomputable def in12 : In := ⟨Tryd.f12, bodyOf Tryd.f12, 0, .eff, noOrc⟩
theorem io12 : InOk P0 12 in12 := ⟨by kernel_rfl, by kernel_rfl, by kernel_rfl⟩
noncomputable def HPp4 (c : Bool) : Hook := hookC 12 (inl (cxb c) (HPp3 c) in12) (HPp3 c)
theorem HPp4ok (B : Nat) (c : Bool) : HookOk P0 B 5 (HPp4 c) := HookOk.cons (HkOk.inl (cx := cxb c) mix T0ok (HPp3ok B c) io12) (HPp3ok B c)
noncomputable def in5 : In := ⟨Tryd.f5, bodyOf Tryd.f5, 0, .eff, noOrc⟩
theorem io5 : InOk P0 5 in5 := ⟨by kernel_rfl, by kernel_rfl, by kernel_rfl⟩
noncomputable def HPp (c : Bool) : Hook := hookC 5 (inl (cxb c) (HPp4 c) in5) (HPp4 c)
theorem HPpok (B : Nat) (c : Bool) : HookOk P0 B 5 (HPp c) := HookOk.cons (HkOk.inl (cx := cxb c) mix T0ok (HPp4ok B c) io5) (HPp4ok B c)
end Go.Sx

set_option maxRecDepth 1000000
set_option linter.unusedVariables false
namespace Go.Sx
open Go.Proofs
theorem pair1 (B : Nat) (r : List (BitVec 8)) : FnE P0 B 5 5 [.one (.ag [.d8 (lit 0 32 r)])] gM (5 + 1) ⟨.tup [.ag [.d8 (lit 0 32 (smF (lit 0 32 r) nin))], .ag [.d8 (lit 0 32 r)]], gM, 5 + 1, .eff, []⟩ := by
  refine FnE.tri (cx := cxb true) (sz := 26) (fn := Tryd.f5) (c := bodyOf Tryd.f5) T0ok (by kernel_rfl) (by kernel_rfl) (by kernel_rfl) (by kernel_rfl) (by kernel_rfl) (by kernel_rfl) (Nat.le_refl _) ?_
  exact Tri.ret (cx := cxb true) mix T0ok (HPpok B true) 0 noOrc [2, 3] [5 + 2, 5 + 3, 3, 5] (5 + 90) ⟨[(2, .one (.s (.p (5 + 2) 0))), (3, .one (.s (.p (5 + 3) 0)))], [(5 + 2, sg8 (lit 0 32 (smF (lit 0 32 r) nin)) true), (5 + 3, sg8 (lit 0 32 r) true)] ++ gM, 5 + 90⟩ ["Read" = "Read", "Read" = "Read", find gM 3 = some ⟨1, .dc [.p 5 0], false, false, false⟩, find gM 5 = some (sgr one5 false), some (sg8 (lit 0 32 r) true) = some (sg8 (lit 0 32 r) true)] .r (by kernel_rfl) (obCons rfl <| obCons rfl <| obCons rfl <| obCons rfl <| obCons rfl obNil) (by kernel_rfl) rfl [3, 5] [] (by kernel_rfl) obNil
def pairF : List SV → Option SV := fun
  | [.one (.ag [.d8 r])] => bif Nat.beq r.length 32 then some (.tup [.ag [.d8 (lit 0 32 (smF r nin))], .ag [.d8 r]]) else none
  | _ => none
theorem pairQ_ok (B : Nat) : HkOk P0 B 5 5 (hookQ gM pairF) := by
  refine HkOk.quiet (nx0 := 5 + 1) (by kernel_rfl) (Nat.le_succ _) ?_
  intro args v h
  unfold pairF at h
  split at h <;> first | (cases h; done) | skip
  rename_i r
  cases hb : Nat.beq r.length 32 with
  | false => rw [hb] at h; cases h
  | true =>
    rw [hb, cond_true] at h
    cases h
    have k1 := Nat.eq_of_beq_eq_true hb
    have := pair1 B r
    rw [lit_eq k1] at this
    exact ⟨_, _, this⟩
end Go.Sx

set_option maxRecDepth 1000000
set_option linter.unusedVariables false
namespace Go.Sx.Bx
open Go.Proofs Go.Sx
noncomputable def HBa (c : Bool) : Hook := hookC 5 (hookQ gM pairF) (H0 c)
theorem HBaok (B : Nat) (c : Bool) : HookOk P0 B 5 (HBa c) := .cons (pairQ_ok B) (H0ok B c)
noncomputable def HBs (m nonce pub priv : List (BitVec 8)) (c : Bool) : Hook := hookC 6 (hookFr (ibA0 m nonce pub priv) (ibM0 m) (5 + 8) (ibEf (sealV nonce (shK pub priv) [] m) (0 + (m.length + 16)) (ibM0 m)).v (ibEf (sealV nonce (shK pub priv) [] m) (0 + (m.length + 16)) (ibM0 m)).m (5 + 9)) (H0 c)
theorem HBsok (B : Nat) {m nonce pub priv : List (BitVec 8)} (hlm : m.length ≤ 1000000000) (c : Bool) : HookOk P0 B 5 (HBs m nonce pub priv c) := .cons (.frame (ibSeal0 B m nonce pub priv hlm)) (H0ok B c)
noncomputable def HBo (a m nonce pub priv : List (BitVec 8)) (c : Bool) : Hook := hookC 7 (hookFr (ibA2 a m nonce pub priv) (ibM2 a m) (5 + 8) (jbEf (openV nonce (shK pub priv) a m) (openK nonce (shK pub priv) m) (ibM2 a m)).v (jbEf (openV nonce (shK pub priv) a m) (openK nonce (shK pub priv) m) (ibM2 a m)).m (5 + 9)) (H0 c)
theorem HBook (B : Nat) {a m nonce pub priv : List (BitVec 8)} (hla : a.length ≤ 1000000000) (hlm : m.length ≤ 2000000000) (c : Bool) : HookOk P0 B 5 (HBo a m nonce pub priv c) := .cons (.frame (ibOpen1 B a m nonce pub priv hla hlm)) (H0ok B c)
noncomputable def HBz (c : Bool) : Hook := hookC 9 (hookQ gM preF) (hookC 8 (hookOf (cxb c) openCt) (hookC 11 (hookOf (cxb c) behCt) (hookC 10 (hookOf (cxb c) sameCt) (H0 c))))
theorem HBzok (B : Nat) (c : Bool) : HookOk P0 B 5 (HBz c) := .cons (preQ_ok B) (.cons (.ct (cx := cxb c) (openAfter_ok B)) (.cons (.ct (cx := cxb c) (beh_ok B)) (.cons (.ct (cx := cxb c) (same_ok B)) (H0ok B c))))
noncomputable def boB : List Code := (flat (bodyOf Tryd.f3)).drop 5
/-- behind the pairs; p, q: the public keys -/
def lawP (a m nonce x y p q : List (BitVec 8)) : St := ⟨(law5 a m nonce x y).t ++ [(11, .one (.s (.p (5 + 6) 0))), (13, .one (.s (.p (5 + 7) 0)))], (law5 a m nonce x y).m ++ [(5 + 6, sg8 (lit 0 32 p) true), (5 + 7, sg8 (lit 0 32 q) true)], 5 + 8⟩
/-- behind the box -/
def lawQ (a m nonce y p V : List (BitVec 8)) (n : Nat) (o : Bool) : St := ⟨[(0, .one (.s (.osl (5 + 1) a.length))), (1, .one (.s (.osl (5 + 2) m.length))), (7, .one (.s (.p (5 + 3) 0))), (9, .one (.s (.p (5 + 5) 0))), (11, .one (.s (.p (5 + 6) 0))), (15, .one (.s (.osl (5 + 7) n)))],
  ibM a m ++ [(5 + 3, ⟨24, .d8 (lit 0 24 nonce), true, false, false⟩), (5 + 5, sg8 (lit 0 32 y) true), (5 + 6, sg8 (lit 0 32 p) true), (5 + 7, ⟨n, .d8 V, o, false, false⟩)], 5 + 8⟩
/-- behind what is opened -/
def lawR (a m nonce y p V X : List (BitVec 8)) (b : Bool) : St := ⟨(lawQ a m nonce y p V V.length false).t ++ [(16, .one (.s (.osl (5 + 8) X.length))), (17, .one (.s (.b b)))], (lawQ a m nonce y p V V.length false).m ++ [(5 + 8, ⟨X.length, .d8 X, true, false, false⟩)], 5 + 9⟩
def lawW (a m X Y : List (BitVec 8)) (b c : Bool) : St := ⟨[(0, .one (.s (.osl (5 + 1) a.length))), (1, .one (.s (.osl (5 + 2) m.length))), (16, .one (.s (.osl (5 + 3) X.length))), (17, .one (.s (.b b))), (18, .one (.s (.osl (5 + 4) Y.length))), (19, .one (.s (.b c)))], ibM a m ++ [(5 + 3, ⟨X.length, .d8 X, true, false, false⟩), (5 + 4, ⟨Y.length, .d8 Y, true, false, false⟩)], 5 + 5⟩
end Go.Sx.Bx
