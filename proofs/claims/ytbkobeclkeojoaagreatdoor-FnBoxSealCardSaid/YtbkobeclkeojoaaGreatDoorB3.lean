/- box.Seal: states; the shared key. impl.Seal and impl.SealAfter as contracts. box.Seal. impl.BoxSeal. Conditions: none. -/
import Derived.Test.YtbkobeclkeojoaaGreatDoorB1
import Derived.Test.YtbkobeclkeojoaaGreatDoorG1
import Derived.Test.YtbkobeclkeojoaaGreatDoorW4a
set_option maxRecDepth 1000000
set_option linter.unusedVariables false
namespace Go.Sx.Bx
open Go.Proofs Go.Sx
/-- nonce, public key, private key, what is ahead, message -/
def bxM (a m nonce pub priv : List (BitVec 8)) : Mem := [(2 + 8, ⟨24, .d8 (lit 0 24 nonce), true, false, false⟩), (2 + 9, sg8 (lit 0 32 pub) true), (2 + 10, sg8 (lit 0 32 priv) true), (2 + 11, ⟨0, .d8 a, true, true, false⟩), (2 + 12, ⟨0, .d8 m, true, true, false⟩)] ++ gM
def bxA (la lm : Nat) : List SV := [.one (.s (.osl (2 + 11) la)), .one (.s (.osl (2 + 12) lm)), .one (.s (.p (2 + 8) 0)), .one (.s (.p (2 + 9) 0)), .one (.s (.p (2 + 10) 0))]
/-- behind the shared key; t: where it lies -/
def bxS (t : Nat) (a m nonce sh : List (BitVec 8)) : St := ⟨[(0, .one (.s (.osl (2 + 11) a.length))), (1, .one (.s (.osl (2 + 12) m.length))), (2, .one (.s (.p (2 + 8) 0))), (t, .one (.s (.p (2 + 13) 0)))],
  [(2 + 8, ⟨24, .d8 (lit 0 24 nonce), true, false, false⟩), (2 + 13, sg8 (lit 0 32 sh) true), (2 + 11, ⟨0, .d8 a, true, true, false⟩), (2 + 12, ⟨0, .d8 m, true, true, false⟩)] ++ gM, 2 + 14⟩
def bxKs : List (Nat × Nat) := [(2 + 8, 2 + 8), (2 + 13, 2 + 13), (2 + 11, 2 + 11), (2 + 12, 2 + 12), (1, 1), (2, 2)]
def bxOb (pub priv : List (BitVec 8)) (b : Bool) : List Prop := [some segF = some segF, some (sgr one5 false) = some (sgr one5 false), sg8 (List.replicate 32 0) true = sg8 (List.replicate 32 0) true, sg8 (lit 0 32 priv) true = sg8 (lit 0 32 priv) true, sg8 (lit 0 32 pub) true = sg8 (lit 0 32 pub) true, decide ((orA (smF (lit 0 32 priv) (lit 0 32 pub))).toNat = (0#8).toNat) = b]
theorem bxOb_ok {pub priv : List (BitVec 8)} {b : Bool} (h : decide ((orA (smF (lit 0 32 priv) (lit 0 32 pub))).toNat = (0#8).toNat) = b) : ∀ p ∈ bxOb pub priv b, p := obCons rfl <| obCons rfl <| obCons rfl <| obCons rfl <| obCons rfl <| obCons h obNil
theorem seal0 (B : Nat) (a m nonce pub priv : List (BitVec 8)) {R : Ex → St → Prop} (h : Tri P0 B (cxb true) 19 (2 + 13) ((flat (bodyOf Tryz.f14)).drop 3) (bxS 11 a m nonce (preI (lit 0 32 pub) (lit 0 32 priv))) R) :
    Tri P0 B (cxb true) 19 (2 + 13) (flat (bodyOf Tryz.f14)) ⟨enum 0 (bxA a.length m.length), bxM a m nonce pub priv, 2 + 13⟩ R := by
  have hP : preI (lit 0 32 pub) (lit 0 32 priv) = hs z16 (lit 0 32 (smF (lit 0 32 priv) (lit 0 32 pub))) sigB := by rw [lit_eq (smF_length _ _)]; rfl
  cases hz : decide ((orA (smF (lit 0 32 priv) (lit 0 32 pub))).toNat = 0) with
  | false =>
    rw [hP] at h
    exact Tri.stepR (cx := cxb true) mix T0ok (HbYok B true) 3 0 noOrc [0, 1, 2, 11] bxKs (2 + 14) _ (bxOb pub priv false) (by kernel_rfl) (bxOb_ok hz) h
  | true =>
    have h0 := orA_zero (smF_length (lit 0 32 priv) (lit 0 32 pub)) (of_decide_eq_true hz)
    have hP2 : preI (lit 0 32 pub) (lit 0 32 priv) = hs z16 z32 sigB := by unfold preI; rw [h0]
    rw [hP2] at h
    exact Tri.stepR (cx := cxb true) mix T0ok (HbZok B true) 3 0 noOrc [0, 1, 2, 11] bxKs (2 + 14) _ (bxOb pub priv true) (by kernel_rfl) (bxOb_ok hz) h
end Go.Sx.Bx

set_option maxRecDepth 1000000
set_option linter.unusedVariables false
namespace Go.Sx
open Go.Proofs
/-- a sealed message, behind other bytes -/
def sealV (nonce key a msg : List (BitVec 8)) : List (BitVec 8) := sealF nonce key a msg (m32 msg.length)
def isM (a msg : List (BitVec 8)) : Mem := [(2, ⟨a.length, .d8 a, false, false, false⟩), (2 + 1, ⟨msg.length, .d8 msg, false, false, false⟩)]
theorem tk0 (l : List (BitVec 8)) : List.take l.length (List.drop 0 l) = l := by rw [List.drop_zero, List.take_length]
end Go.Sx

set_option maxRecDepth 1000000
set_option linter.unusedVariables false
namespace Go.Sx.Bx
open Go.Proofs Go.Sx
noncomputable def HbS (a m nonce sh : List (BitVec 8)) (c : Bool) : Hook := hookC 32 (hookFr (sbA a.length m.length) (sbM a m nonce sh) (2 + 14) (sbEf a m nonce sh (m32 m.length)).v (sbEf a m nonce sh (m32 m.length)).m (2 + 15)) (H0 c)
theorem HbSok (B : Nat) {a m nonce sh : List (BitVec 8)} (hla : a.length ≤ 1000000000) (hlm : m.length ≤ 1000000000) (c : Bool) : HookOk P0 B 2 (HbS a m nonce sh c) := .cons (.frame (seal1 B a m nonce sh hla hlm)) (H0ok B c)
def frOb (a m nonce sh : List (BitVec 8)) : List Prop := [sbA a.length m.length = sbA a.length m.length, 2 + 14 = 2 + 14, some (⟨24, .d8 (lit 0 24 nonce), true, false, false⟩ : Seg) = some ⟨24, .d8 (lit 0 24 nonce), true, false, false⟩, some (sg8 (lit 0 32 sh) true) = some (sg8 (lit 0 32 sh) true), some (⟨0, .d8 a, true, true, false⟩ : Seg) = some ⟨0, .d8 a, true, true, false⟩, some (⟨0, .d8 m, true, true, false⟩ : Seg) = some ⟨0, .d8 m, true, true, false⟩]
theorem frOb_ok (a m nonce sh : List (BitVec 8)) : ∀ p ∈ frOb a m nonce sh, p := obCons rfl <| obCons rfl <| obCons rfl <| obCons rfl <| obCons rfl <| obCons rfl obNil
/-- what box.Seal comes to -/
def bxEf (V : List (BitVec 8)) (n : Nat) : Ef := ⟨.one (.s (.osl (2 + 13) n)), (2 + 13, ⟨n, .d8 V, true, false, false⟩) :: gM, 2 + 14, .eff, []⟩
def shK (pub priv : List (BitVec 8)) : List (BitVec 8) := preI (lit 0 32 pub) (lit 0 32 priv)
theorem bxSeal1 (B : Nat) (a m nonce pub priv : List (BitVec 8)) (hla : a.length ≤ 1000000000) (hlm : m.length ≤ 1000000000) : FnE P0 B 2 14 (bxA a.length m.length) (bxM a m nonce pub priv) (2 + 13) (bxEf (sealV nonce (shK pub priv) a m) (a.length + (m.length + 16))) := by
  refine FnE.tri (cx := cxb false) (sz := 19) (fn := Tryz.f14) (c := bodyOf Tryz.f14) T0ok (by kernel_rfl) (by kernel_rfl) (by kernel_rfl) (by kernel_rfl) (by kernel_rfl) (by kernel_rfl) (by show 2 + 13 ≤ 2 + 14; omega) ?_
  refine Tri.chg (cx := cxb true) rfl ?_
  refine seal0 B a m nonce pub priv ?_
  show Tri _ _ _ _ _ _ (bxS 11 a m nonce (shK pub priv)) _
  generalize shK pub priv = sh
  refine Tri.chg (cx := cxb false) rfl ?_
  refine Tri.stepR (cx := cxb false) mix T0ok (HbSok B (a := a) (m := m) (nonce := nonce) (sh := sh) hla hlm false) 1 0 noOrc [10] [(2 + 14, 2 + 13), (1, 1), (2, 2)] (2 + 14) ⟨[(10, .one (.s (.osl (2 + 13) (a.length + (m.length + 16)))))], (2 + 13, ⟨a.length + (m.length + 16), .d8 (sealV nonce sh a m), true, false, false⟩) :: gM, 2 + 14⟩ (frOb a m nonce sh) (by kernel_rfl) (frOb_ok a m nonce sh) ?_
  exact Tri.ret (cx := cxb false) mix T0ok (H0ok B false) 0 noOrc [10] [2 + 13, 1, 2] (2 + 14) ⟨[(10, .one (.s (.osl (2 + 13) (a.length + (m.length + 16)))))], (2 + 13, ⟨a.length + (m.length + 16), .d8 (sealV nonce sh a m), true, false, false⟩) :: gM, 2 + 14⟩ [] .r (by kernel_rfl) obNil (by kernel_rfl) rfl [2 + 13, 1, 2] [] (by kernel_rfl) obNil
/-- impl.BoxSeal: what is ahead is a slice, or nil -/
noncomputable def HbI (a m nonce pub priv : List (BitVec 8)) (c : Bool) : Hook := hookC 15 (hookOf (cxb c) cloneCt) (hookC 14 (hookFr (bxA a.length m.length) (bxM a m nonce pub priv) (2 + 13) (bxEf (sealV nonce (shK pub priv) a m) (a.length + (m.length + 16))).v (bxEf (sealV nonce (shK pub priv) a m) (a.length + (m.length + 16))).m (2 + 14)) (H0 c))
theorem HbIok (B : Nat) {a m nonce pub priv : List (BitVec 8)} (hla : a.length ≤ 1000000000) (hlm : m.length ≤ 1000000000) (c : Bool) : HookOk P0 B 2 (HbI a m nonce pub priv c) := .cons (.ct (cx := cxb c) (clone_ok B)) (.cons (.frame (bxSeal1 B a m nonce pub priv hla hlm)) (H0ok B c))
def ibM (a m : List (BitVec 8)) : Mem := [(2 + 1, ⟨a.length, .d8 a, false, false, false⟩), (2 + 2, ⟨m.length, .d8 m, false, false, false⟩)] ++ gM
def ibT (nonce pub priv : List (BitVec 8)) : List SV := [.one (.ag [.d8 (lit 0 24 nonce)]), .one (.ag [.d8 (lit 0 32 pub)]), .one (.ag [.d8 (lit 0 32 priv)])]
def ibA (a m nonce pub priv : List (BitVec 8)) : List SV := [.one (.s (.osl (2 + 1) a.length)), .one (.s (.osl (2 + 2) m.length))] ++ ibT nonce pub priv
def ibEf (V : List (BitVec 8)) (n : Nat) (M : Mem) : Ef := ⟨.one (.s (.osl (2 + 8) n)), (2 + 8, ⟨n, .d8 V, true, false, false⟩) :: M, 2 + 9, .eff, []⟩
def ibS (V : List (BitVec 8)) (n : Nat) (M : Mem) : St := ⟨[(10, .one (.s (.osl (2 + 8) n)))], (2 + 8, ⟨n, .d8 V, true, false, false⟩) :: M, 2 + 9⟩
end Go.Sx.Bx

set_option maxRecDepth 1000000
set_option linter.unusedVariables false
namespace Go.Sx.Bx
open Go.Proofs Go.Sx
def len3 (nonce pub priv : List (BitVec 8)) (r : List Prop) : List Prop := (List.length (lit 0 24 nonce) = List.length (List.replicate 24 (0 : BitVec 8)) ∧ True) :: (List.length (lit 0 32 pub) = List.length (List.replicate 32 (0 : BitVec 8)) ∧ True) :: (List.length (lit 0 32 priv) = List.length (List.replicate 32 (0 : BitVec 8)) ∧ True) :: r
theorem len3_ok {nonce pub priv : List (BitVec 8)} {r : List Prop} (h : ∀ p ∈ r, p) : ∀ p ∈ len3 nonce pub priv r, p := obCons ⟨by rw [lit_length]; rfl, trivial⟩ <| obCons ⟨by rw [lit_length]; rfl, trivial⟩ <| obCons ⟨by rw [lit_length]; rfl, trivial⟩ h
def rdOb (l : List (BitVec 8)) (r : List Prop) : List Prop := (List.length l ≤ List.length l) :: (List.length (List.take (List.length l) (List.drop (0 : Nat) l)) = List.length (List.take (List.length l) (List.drop (0 : Nat) l)) ∧ True) :: (List.length (List.take (List.length l) (List.drop (0 : Nat) l)) ≤ (4294967295 : Nat)) :: r
theorem rdOb_ok {l : List (BitVec 8)} {r : List Prop} (hl : l.length ≤ 2000000000) (h : ∀ p ∈ r, p) : ∀ p ∈ rdOb l r, p := by
  unfold rdOb; rw [tk0]; exact obCons (Nat.le_refl _) <| obCons ⟨rfl, trivial⟩ <| obCons (by omega) h
def calOb (a a' m m' nonce pub priv : List (BitVec 8)) : List Prop := [
  ([.one (.s (.osl (2 + 11) a'.length)), .one (.s (.osl (2 + 12) m'.length)), .one (.s (.p (2 + 8) 0)), .one (.s (.p (2 + 9) 0)), .one (.s (.p (2 + 10) 0))] : List SV) = bxA a.length m.length,
  2 + 13 = 2 + 13,
  some (⟨24, .d8 (lit 0 24 nonce), true, false, false⟩ : Seg) = some ⟨24, .d8 (lit 0 24 nonce), true, false, false⟩,
  some (sg8 (lit 0 32 pub) true) = some (sg8 (lit 0 32 pub) true), some (sg8 (lit 0 32 priv) true) = some (sg8 (lit 0 32 priv) true),
  some (⟨0, .d8 a', true, true, false⟩ : Seg) = some ⟨0, .d8 a, true, true, false⟩,
  some (⟨0, .d8 m', true, true, false⟩ : Seg) = some ⟨0, .d8 m, true, true, false⟩, some segF = some segF, some (sgr one5 false) = some (sgr one5 false)]
theorem calOb_ok (a m nonce pub priv : List (BitVec 8)) : ∀ p ∈ calOb a (List.take a.length (List.drop 0 a)) m (List.take m.length (List.drop 0 m)) nonce pub priv, p := by
  unfold calOb
  rw [tk0, tk0]
  exact obCons rfl <| obCons rfl <| obCons rfl <| obCons rfl <| obCons rfl <| obCons rfl <| obCons rfl <| obCons rfl <| obCons rfl obNil
theorem ibSeal1 (B : Nat) (a m nonce pub priv : List (BitVec 8)) (hla : a.length ≤ 1000000000) (hlm : m.length ≤ 1000000000) : FnE P0 B 2 9 (ibA a m nonce pub priv) (ibM a m) (2 + 8) (ibEf (sealV nonce (shK pub priv) a m) (a.length + (m.length + 16)) (ibM a m)) := by
  refine FnE.tri (cx := cxb false) (sz := 16) (fn := Tryz.f9) (c := bodyOf Tryz.f9) T0ok (by kernel_rfl) (by kernel_rfl) (by kernel_rfl) (by kernel_rfl) (by kernel_rfl) (by kernel_rfl) (by show 2 + 8 ≤ 2 + 9; omega) ?_
  refine Tri.stepR (cx := cxb false) mix T0ok (HbIok B (nonce := nonce) (pub := pub) (priv := priv) hla hlm false) 2 0 noOrc [10] [(2 + 13, 2 + 8), (2 + 1, 2 + 1), (2 + 2, 2 + 2), (1, 1), (2, 2)] (2 + 9) (ibS (sealV nonce (shK pub priv) a m) (a.length + (m.length + 16)) (ibM a m)) (len3 nonce pub priv (rdOb a (rdOb m (calOb a (List.take a.length (List.drop 0 a)) m (List.take m.length (List.drop 0 m)) nonce pub priv)))) (by kernel_rfl) (len3_ok (rdOb_ok (by omega) (rdOb_ok (by omega) (calOb_ok a m nonce pub priv)))) ?_
  exact Tri.ret (cx := cxb false) mix T0ok (H0ok B false) 0 noOrc [10] [2 + 8, 2 + 1, 2 + 2, 1, 2] (2 + 9) (ibS (sealV nonce (shK pub priv) a m) (a.length + (m.length + 16)) (ibM a m)) [] .r (by kernel_rfl) obNil (by kernel_rfl) rfl [2 + 8, 2 + 1, 2 + 2, 1, 2] [] (by kernel_rfl) obNil
end Go.Sx.Bx
