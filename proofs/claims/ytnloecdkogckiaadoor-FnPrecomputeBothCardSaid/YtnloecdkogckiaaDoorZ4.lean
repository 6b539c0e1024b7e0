/- FnPrecomputeBoth: the walk. Conditions: none. -/
import Derived.Test.YtnloecdkogckiaaDoorZ1
import Derived.Test.YtnloecdkogckiaaDoorK8
set_option maxRecDepth 1000000
set_option linter.unusedVariables false
namespace Go.Sx
open Go.Proofs
noncomputable def HB2 (c : Bool) : Hook := hookC 8 (hookQ gM preF) (hookC 6 (hookQ gM pairF) (H0 c))
theorem HB2ok (B : Nat) (c : Bool) : HookOk P0 B 4 (HB2 c) := .cons (preQ_ok B) (.cons (pairQ_ok B) (H0ok B c))
def qA (a : List (BitVec 8)) : Bool := decide (lit 0 32 a = lit 0 32 a)
def qB (a b : List (BitVec 8)) : Bool := bif qA a then qA b else false
def qC (a b : List (BitVec 8)) : Bool := bif qB a b then decide (lit 0 32 (preI (lit 0 32 (smF (lit 0 32 a) nin)) (lit 0 32 b)) = lit 0 32 (preI (lit 0 32 (smF (lit 0 32 b) nin)) (lit 0 32 a))) else false
def qD (a b : List (BitVec 8)) : Bool := bif qC a b then !decide (lit 0 32 (preI nine n1) = List.replicate 32 0) else false
theorem qA_t (a : List (BitVec 8)) : qA a = true := decide_eq_true rfl
theorem qB_t (a b : List (BitVec 8)) : qB a b = true := by unfold qB; rw [qA_t, qA_t]; rfl
theorem pre_swap {a b : List (BitVec 8)} (la : a.length = 32) (lb : b.length = 32) : preI (smF a nin) b = preI (smF b nin) a := by
  rw [preI_S (smF_length a nin) lb, preI_S (smF_length b nin) la, smF_eq a nin la rfl, smF_eq b nin lb rfl]
  unfold preS
  rw [nin_nine, dh b a lb la]
theorem qC_t {a b : List (BitVec 8)} (la : a.length = 32) (lb : b.length = 32) : qC a b = true := by
  unfold qC
  rw [qB_t, cond_true, lit_eq la, lit_eq lb, lit_eq (smF_length a nin), lit_eq (smF_length b nin), pre_swap la lb]
  exact decide_eq_true rfl
theorem qD_t {a b : List (BitVec 8)} (la : a.length = 32) (lb : b.length = 32) : qD a b = true := by
  unfold qD
  rw [qC_t la lb, cond_true, pre91]; rfl
theorem lawBoth1 (B : Nat) {a b : List (BitVec 8)} (la : a.length = 32) (lb : b.length = 32) : FnE P0 B 4 5 [.one (.ag [.d8 (lit 0 32 a)]), .one (.ag [.d8 (lit 0 32 b)])] gM (4 + 1)
    ⟨.one (.s (.b (qD a b))), gM, 4 + 1, .eff, []⟩ := by
  refine FnE.tri (cx := cxb true) (sz := 43) (fn := Tryd.f5) (c := bodyOf Tryd.f5) T0ok (by kernel_rfl) (by kernel_rfl) (by kernel_rfl) (by kernel_rfl) (by kernel_rfl) (by kernel_rfl) (Nat.le_refl _) ?_
  exact Tri.ret (cx := cxb true) mix T0ok (HB2ok B true) 0 (orcL [(22, true), (27, true), (36, true)]) [4] [3, 4] (4 + 90) ⟨[(4, .one (.s (.b (qD a b))))], gM, 4 + 90⟩ [find gM 3 = some ⟨1, .dc [.p 4 0], false, false, false⟩, find gM 4 = some (sgr one5 false), find gM 3 = some ⟨1, .dc [.p 4 0], false, false, false⟩, find gM 4 = some (sgr one5 false), qA a = true, qA a = true, qA a = true, qB a b = true, qB a b = true, qB a b = true, find gM 3 = some ⟨1, .dc [.p 4 0], false, false, false⟩, find gM 4 = some (sgr one5 false), qB a b = true, qB a b = true, qB a b = true, find gM 3 = some ⟨1, .dc [.p 4 0], false, false, false⟩, find gM 4 = some (sgr one5 false), qB a b = true, qC a b = true, qC a b = true, qC a b = true, find gM 3 = some ⟨1, .dc [.p 4 0], false, false, false⟩, find gM 4 = some (sgr one5 false), qC a b = true, qC a b = true] .r (by kernel_rfl) (obCons rfl <| obCons rfl <| obCons rfl <| obCons rfl <| obCons (qA_t a) <| obCons (qA_t a) <| obCons (qA_t a) <| obCons (qB_t a b) <| obCons (qB_t a b) <| obCons (qB_t a b) <| obCons rfl <| obCons rfl <| obCons (qB_t a b) <| obCons (qB_t a b) <| obCons (qB_t a b) <| obCons rfl <| obCons rfl <| obCons (qB_t a b) <| obCons (qC_t la lb) <| obCons (qC_t la lb) <| obCons (qC_t la lb) <| obCons rfl <| obCons rfl <| obCons (qC_t la lb) <| obCons (qC_t la lb) obNil) (by kernel_rfl) rfl [3, 4] [] (by kernel_rfl) obNil
theorem lawBoth (B : Nat) {a b : List (BitVec 8)} (la : a.length = 32) (lb : b.length = 32) : FnE P0 B 4 5 [.one (.ag [.d8 a]), .one (.ag [.d8 b])] gM (4 + 1)
    ⟨.one (.s (.b true)), gM, 4 + 1, .eff, []⟩ := by
  have := lawBoth1 B la lb
  rw [lit_eq la, lit_eq lb, qD_t la lb] at this
  exact this
end Go.Sx
