/- The public key of a private one: x25519.ZZPublicKey. impl.Pair: what it computes. FnPair: the hooks. Conditions: none. -/
import Derived.Test.YtnloecdkogckiaaDoorY0
set_option maxRecDepth 1000000
set_option linter.unusedVariables false
namespace Go.Sx
open Go.Proofs
def nin : List (BitVec 8) := 9#8 :: List.replicate 31 0
theorem nin_length : nin.length = 32 := rfl
noncomputable def HPb (s : List (BitVec 8)) (c : Bool) : Hook := hookC 43 (hookAt [dsv (4 + 2), dsv (4 + 1), dsv (4 + 3)] (smBase s z32 nin) (4 + 4) (.tup []) ([(4 + 1, sg8 (lit 0 32 s) true), (4 + 2, sg8 (lit 0 32 (smF s nin)) true), (4 + 3, sg8 (lit 0 32 nin) true)] ++ gM) (4 + 4)) (H0 c)
theorem HPbok (B : Nat) {s : List (BitVec 8)} (ls : s.length = 32) (c : Bool) : HookOk P0 B 4 (HPb s c) := .cons (.at_ (smRunB B z32 s nin ls rfl)) (H0ok B c)
theorem pub1 (B : Nat) (s : List (BitVec 8)) (ls : s.length = 32) : FnE P0 B 4 31 [.one (.ag [.d8 (lit 0 32 s)])] gM (4 + 1) ⟨.one (.ag [.d8 (lit 0 32 (smF s nin))]), gM, 4 + 1, .eff, []⟩ := by
  refine FnE.tri (cx := cxb true) (sz := 10) (fn := Tryd.f31) (c := bodyOf Tryd.f31) T0ok (by kernel_rfl) (by kernel_rfl) (by kernel_rfl) (by kernel_rfl) (by kernel_rfl) (by kernel_rfl) (Nat.le_refl _) ?_
  refine Tri.step (cx := cxb true) mix T0ok (HPbok B ls true) 2 0 noOrc [1, 2, 3] [4 + 1, 4 + 2, 4 + 3, 3, 4] (4 + 4) ⟨[(1, .one (.s (.p (4 + 1) 0))), (2, .one (.s (.p (4 + 2) 0))), (3, .one (.s (.p (4 + 3) 0)))], smBase s z32 nin, 4 + 4⟩ [] (by kernel_rfl) obNil (by kernel_rfl) ?_
  exact Tri.ret (cx := cxb true) mix T0ok (HPbok B ls true) 0 noOrc [2] [4 + 2, 3, 4] (4 + 4) ⟨[(2, .one (.s (.p (4 + 2) 0)))], [(4 + 2, sg8 (lit 0 32 (smF s nin)) true)] ++ gM, 4 + 4⟩ [[dsv (4 + 2), dsv (4 + 1), dsv (4 + 3)] = [dsv (4 + 2), dsv (4 + 1), dsv (4 + 3)], smBase s z32 nin = smBase s z32 nin, 4 + 4 = 4 + 4] .r (by kernel_rfl) (obCons rfl <| obCons rfl <| obCons rfl obNil) (by kernel_rfl) rfl [3, 4] [] (by kernel_rfl) obNil
def pubF : List SV → Option SV := fun
  | [.one (.ag [.d8 s])] => bif Nat.beq s.length 32 then some (.one (.ag [.d8 (lit 0 32 (smF s nin))])) else none
  | _ => none
theorem pubQ_ok (B : Nat) : HkOk P0 B 4 31 (hookQ gM pubF) := by
  refine HkOk.quiet (nx0 := 4 + 1) (by kernel_rfl) (Nat.le_succ _) ?_
  intro args v h
  unfold pubF at h
  split at h <;> first | (cases h; done) | skip
  rename_i s
  cases hb : Nat.beq s.length 32 with
  | false => rw [hb] at h; cases h
  | true =>
    rw [hb, cond_true] at h
    cases h
    have k1 := Nat.eq_of_beq_eq_true hb
    have := pub1 B s k1
    rw [lit_eq k1] at this
    exact ⟨_, _, this⟩
noncomputable def HPq (c : Bool) : Hook := hookC 31 (hookQ gM pubF) (H0 c)
theorem HPqok (B : Nat) (c : Bool) : HookOk P0 B 4 (HPq c) := .cons (pubQ_ok B) (H0ok B c)

noncomputable def in95 : In := ⟨Tryd.f95, bodyOf Tryd.f95, 0, .eff, noOrc⟩
theorem io95 : InOk P0 95 in95 := ⟨by kernel_rfl, by kernel_rfl, by kernel_rfl⟩
noncomputable def HPp0 (c : Bool) : Hook := hookC 95 (inl (cxb c) (HPq c) in95) (HPq c)
theorem HPp0ok (B : Nat) (c : Bool) : HookOk P0 B 4 (HPp0 c) := HookOk.cons (HkOk.inl (cx := cxb c) mix T0ok (HPqok B c) io95) (HPqok B c)
noncomputable def in30 : In := ⟨Tryd.f30, bodyOf Tryd.f30, 3, .eff, noOrc⟩
theorem io30 : InOk P0 30 in30 := ⟨by kernel_rfl, by kernel_rfl, by kernel_rfl⟩
noncomputable def HPp1 (c : Bool) : Hook := hookC 30 (inl (cxb c) (HPp0 c) in30) (HPp0 c)
theorem HPp1ok (B : Nat) (c : Bool) : HookOk P0 B 4 (HPp1 c) := HookOk.cons (HkOk.inl (cx := cxb c) mix T0ok (HPp0ok B c) io30) (HPp0ok B c)
noncomputable def in14 : In := ⟨Tryd.f14, bodyOf Tryd.f14, 0, .eff, noOrc⟩
theorem io14 : InOk P0 14 in14 := ⟨by kernel_rfl, by kernel_rfl, by kernel_rfl⟩
noncomputable def HPp2 (c : Bool) : Hook := hookC 14 (inl (cxb c) (HPp1 c) in14) (HPp1 c)
theorem HPp2ok (B : Nat) (c : Bool) : HookOk P0 B 4 (HPp2 c) := HookOk.cons (HkOk.inl (cx := cxb c) mix T0ok (HPp1ok B c) io14) (HPp1ok B c)
noncomputable def in15 : In := ⟨Tryd.f15, bodyOf Tryd.f15, 0, .eff, noOrc⟩
theorem io15 : InOk P0 15 in15 := ⟨by kernel_rfl, by kernel_rfl, by kernel_rfl⟩
noncomputable def HPp3 (c : Bool) : Hook := hookC 15 (inl (cxb c) (HPp2 c) in15) (HPp2 c)
theorem HPp3ok (B : Nat) (c : Bool) : HookOk P0 B 4 (HPp3 c) := HookOk.cons (HkOk.inl (cx := cxb c) mix T0ok (HPp2ok B c) io15) (HPp2ok B c)
noncomputable def in10 : In := ⟨Tryd.f10, bodyOf Tryd.f10, 0, .eff, noOrc⟩
theorem io10 : InOk P0 10 in10 := ⟨by kernel_rfl, by kernel_rfl, by kernel_rfl⟩
noncomputable def HPp4 (c : Bool) : Hook := hookC 10 (inl (cxb c) (HPp3 c) in10) (HPp3 c)
theorem HPp4ok (B : Nat) (c : Bool) : HookOk P0 B 4 (HPp4 c) := HookOk.cons (HkOk.inl (cx := cxb c) mix T0ok (HPp3ok B c) io10) (HPp3ok B c)
noncomputable def in6 : In := ⟨Tryd.f6, bodyOf Tryd.f6, 0, .eff, noOrc⟩
theorem io6 : InOk P0 6 in6 := ⟨by kernel_rfl, by kernel_rfl, by kernel_rfl⟩
noncomputable def HPp (c : Bool) : Hook := hookC 6 (inl (cxb c) (HPp4 c) in6) (HPp4 c)
theorem HPpok (B : Nat) (c : Bool) : HookOk P0 B 4 (HPp c) := HookOk.cons (HkOk.inl (cx := cxb c) mix T0ok (HPp4ok B c) io6) (HPp4ok B c)
end Go.Sx

set_option maxRecDepth 1000000
set_option linter.unusedVariables false
namespace Go.Sx
open Go.Proofs
theorem pair1 (B : Nat) (r : List (BitVec 8)) : FnE P0 B 4 6 [.one (.ag [.d8 (lit 0 32 r)])] gM (4 + 1) ⟨.tup [.ag [.d8 (lit 0 32 (smF (lit 0 32 r) nin))], .ag [.d8 (lit 0 32 r)]], gM, 4 + 1, .eff, []⟩ := by
  refine FnE.tri (cx := cxb true) (sz := 26) (fn := Tryd.f6) (c := bodyOf Tryd.f6) T0ok (by kernel_rfl) (by kernel_rfl) (by kernel_rfl) (by kernel_rfl) (by kernel_rfl) (by kernel_rfl) (Nat.le_refl _) ?_
  exact Tri.ret (cx := cxb true) mix T0ok (HPpok B true) 0 noOrc [2, 3] [4 + 2, 4 + 3, 3, 4] (4 + 90) ⟨[(2, .one (.s (.p (4 + 2) 0))), (3, .one (.s (.p (4 + 3) 0)))], [(4 + 2, sg8 (lit 0 32 (smF (lit 0 32 r) nin)) true), (4 + 3, sg8 (lit 0 32 r) true)] ++ gM, 4 + 90⟩ ["Read" = "Read", "Read" = "Read", find gM 3 = some ⟨1, .dc [.p 4 0], false, false, false⟩, find gM 4 = some (sgr one5 false), some (sg8 (lit 0 32 r) true) = some (sg8 (lit 0 32 r) true)] .r (by kernel_rfl) (obCons rfl <| obCons rfl <| obCons rfl <| obCons rfl <| obCons rfl obNil) (by kernel_rfl) rfl [3, 4] [] (by kernel_rfl) obNil
def pairF : List SV → Option SV := fun
  | [.one (.ag [.d8 r])] => bif Nat.beq r.length 32 then some (.tup [.ag [.d8 (lit 0 32 (smF r nin))], .ag [.d8 r]]) else none
  | _ => none
theorem pairQ_ok (B : Nat) : HkOk P0 B 4 6 (hookQ gM pairF) := by
  refine HkOk.quiet (nx0 := 4 + 1) (by kernel_rfl) (Nat.le_succ _) ?_
  intro args v h
  unfold pairF at h
  split at h <;> first | (cases h; done) | skip
  rename_i r
  cases hb : Nat.beq r.length 32 with
  | false => rw [hb] at h; cases h
  | true =>
    rw [hb, cond_true] at h
    cases h
    have k1 := Nat.eq_of_beq_eq_true hb
    have := pair1 B r
    rw [lit_eq k1] at this
    exact ⟨_, _, this⟩
end Go.Sx

set_option maxRecDepth 1000000
set_option linter.unusedVariables false
namespace Go.Sx
open Go.Proofs
noncomputable def HX1 (c : Bool) : Hook := hookC 11 (hookOf (cxb c) x25519Ct) (hookC 6 (hookQ gM pairF) (H0 c))
theorem HX1ok (B : Nat) (c : Bool) : HookOk P0 B 4 (HX1 c) := .cons (.ct (cx := cxb c) (x25519_ok B)) (.cons (pairQ_ok B) (H0ok B c))

noncomputable def in7 : In := ⟨Tryd.f7, bodyOf Tryd.f7, 0, .read, noOrc⟩
theorem io7 : InOk P0 7 in7 := ⟨by kernel_rfl, by kernel_rfl, by kernel_rfl⟩
noncomputable def HPr (c : Bool) : Hook := hookC 7 (inl (cxb c) (HX1 c) in7) (HX1 c)
theorem HProk (B : Nat) (c : Bool) : HookOk P0 B 4 (HPr c) := HookOk.cons (HkOk.inl (cx := cxb c) mix T0ok (HX1ok B c) io7) (HX1ok B c)
theorem lawPair1 (B : Nat) (r : List (BitVec 8)) : FnE P0 B 4 3 [.one (.ag [.d8 (lit 0 32 r)])] gM (4 + 1)
    ⟨.one (.s (.b (bif decide (lit 0 32 r = lit 0 32 r) then decide (lit 0 32 (smF (lit 0 32 r) nin) = lit 0 32 (x25519 (lit 0 32 r) nin)) else false))), gM, 4 + 1, .eff, []⟩ := by
  refine FnE.tri (cx := cxb true) (sz := 19) (fn := Tryd.f3) (c := bodyOf Tryd.f3) T0ok (by kernel_rfl) (by kernel_rfl) (by kernel_rfl) (by kernel_rfl) (by kernel_rfl) (by kernel_rfl) (Nat.le_refl _) ?_
  exact Tri.ret (cx := cxb true) mix T0ok (HProk B true) 0 (orcL [(13, true)]) [2] [3, 4] (4 + 90) ⟨[(2, .one (.s (.b (bif decide (lit 0 32 r = lit 0 32 r) then decide (lit 0 32 (smF (lit 0 32 r) nin) = lit 0 32 (x25519 (lit 0 32 r) nin)) else false))))], gM, 4 + 90⟩ [find gM 3 = some ⟨1, .dc [.p 4 0], false, false, false⟩, find gM 4 = some (sgr one5 false), decide (lit 0 32 r = lit 0 32 r) = true, decide (lit 0 32 r = lit 0 32 r) = true, decide (lit 0 32 r = lit 0 32 r) = true, decide (lit 0 32 r = lit 0 32 r) = true] .r (by kernel_rfl) (obCons rfl <| obCons rfl <| obCons (decide_eq_true rfl) <| obCons (decide_eq_true rfl) <| obCons (decide_eq_true rfl) <| obCons (decide_eq_true rfl) obNil) (by kernel_rfl) rfl [3, 4] [] (by kernel_rfl) obNil
theorem lawPair (B : Nat) {r : List (BitVec 8)} (lr : r.length = 32) : FnE P0 B 4 3 [.one (.ag [.d8 r])] gM (4 + 1) ⟨.one (.s (.b true)), gM, 4 + 1, .eff, []⟩ := by
  have := lawPair1 B r
  rw [lit_eq lr, decide_eq_true (rfl : r = r), cond_true, smF_eq r nin lr rfl, decide_eq_true rfl] at this
  exact this
end Go.Sx
