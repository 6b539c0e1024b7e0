/- FnBoxSeal: what is called. FnBoxSeal: what the law returns. Conditions: none. -/
import Derived.Test.YtbkobeclkeojoaaGreatDoorB7
import Derived.Test.YtbkobeclkeojoaaGreatDoorB3
import Derived.Test.YtbkobeclkeojoaaGreatDoorY1
set_option maxRecDepth 1000000
set_option linter.unusedVariables false
namespace Go.Sx.Bx
open Go.Proofs Go.Sx
noncomputable def HC1 (c : Bool) : Hook := hookC 7 (hookOf (cxb c) spcCt) (hookC 6 (hookOf (cxb c) spsCt) (hookC 5 (hookOf (cxb c) behCt) (H0 c)))
theorem HC1ok (B : Nat) (c : Bool) : HookOk P0 B 2 (HC1 c) := .cons (.ct (cx := cxb c) (spc_ok B)) (.cons (.ct (cx := cxb c) (sps_ok B)) (.cons (.ct (cx := cxb c) (beh_ok B)) (H0ok B c)))
noncomputable def HC2 (a m nonce x y : List (BitVec 8)) (c : Bool) : Hook := hookC 9 (hookFr (ibA a m nonce x y) (ibM a m) (2 + 8) (ibEf (sealV nonce (shK x y) a m) (a.length + (m.length + 16)) (ibM a m)).v (ibEf (sealV nonce (shK x y) a m) (a.length + (m.length + 16)) (ibM a m)).m (2 + 9)) (hookC 8 (hookOf (cxb c) sameCt) (H0 c))
theorem HC2ok (B : Nat) {a m nonce x y : List (BitVec 8)} (hla : a.length ≤ 1000000000) (hlm : m.length ≤ 1000000000) (c : Bool) : HookOk P0 B 2 (HC2 a m nonce x y c) := .cons (.frame (ibSeal1 B a m nonce x y hla hlm)) (.cons (.ct (cx := cxb c) (same_ok B)) (H0ok B c))
noncomputable def bsB : List Code := (flat (bodyOf Tryz.f3)).drop 5
/-- behind what is wanted -/
def lawV (a m nonce x y V : List (BitVec 8)) (n : Nat) : St := ⟨(law5 a m nonce x y).t ++ [(11, .one (.s (.osl (2 + 6) n)))], (law5 a m nonce x y).m ++ [(2 + 6, ⟨0, .d8 V, true, true, false⟩)], 2 + 8⟩
end Go.Sx.Bx

set_option maxRecDepth 1000000
set_option linter.unusedVariables false
namespace Go.Sx.Bx
open Go.Proofs Go.Sx
def g2s : List Prop := [some segF = some segF, some (sgr one5 false) = some (sgr one5 false)]
/-- what is wanted -/
def wantV (nonce x y m : List (BitVec 8)) : List (BitVec 8) := spsV (lit 0 24 nonce) (lit 0 32 (preS (lit 0 32 x) (lit 0 32 y))) m
theorem bs1 (B : Nat) (a m nonce x y : List (BitVec 8)) (h4 : ¬ 4096 < a.length + m.length) {R : Ex → St → Prop} (h : Tri P0 B (cxb false) 41 (2 + 3) (bsB.drop 1) (lawV a m nonce x y (a ++ wantV nonce x y m) (a ++ wantV nonce x y m).length) R) :
    Tri P0 B (cxb false) 41 (2 + 3) bsB (law5 a m nonce x y) R := by
  refine Tri.stepR (cx := cxb false) mix T0ok (HC1ok B false) 1 0 noOrc [0, 1, 7, 8, 9, 11] [(2 + 1, 2 + 1), (2 + 2, 2 + 2), (1, 1), (2, 2), (2 + 3, 2 + 3), (2 + 4, 2 + 4), (2 + 5, 2 + 5), (2 + 7, 2 + 6)] (2 + 8)
    (lawV a m nonce x y (List.take (List.length a) (List.drop (0 : Nat) a) ++ List.take (List.length (wantV nonce x y (List.take (List.length m) (List.drop (0 : Nat) m)))) (List.drop (0 : Nat) (wantV nonce x y (List.take (List.length m) (List.drop (0 : Nat) m)))))
      (List.length (List.take (List.length a) (List.drop (0 : Nat) a)) + List.length (List.take (List.length (wantV nonce x y (List.take (List.length m) (List.drop (0 : Nat) m)))) (List.drop (0 : Nat) (wantV nonce x y (List.take (List.length m) (List.drop (0 : Nat) m)))))))
    (let W := wantV nonce x y (List.take (List.length m) (List.drop (0 : Nat) m))
     [True, List.length m ≤ List.length m, List.length (List.take (List.length m) (List.drop (0 : Nat) m)) = List.length (List.take (List.length m) (List.drop (0 : Nat) m)) ∧ True, List.length (List.take (List.length m) (List.drop (0 : Nat) m)) ≤ (2000000000 : Nat),
      List.length a ≤ List.length a, List.length W ≤ List.length W,
      List.length (List.take (List.length a) (List.drop (0 : Nat) a)) = List.length (List.take (List.length a) (List.drop (0 : Nat) a)) ∧ List.length (List.take (List.length W) (List.drop (0 : Nat) W)) = List.length (List.take (List.length W) (List.drop (0 : Nat) W)) ∧ True,
      List.length (List.take (List.length a) (List.drop (0 : Nat) a)) + List.length (List.take (List.length W) (List.drop (0 : Nat) W)) ≤ (4294967295 : Nat)]) (by kernel_rfl)
    (by
      dsimp only
      rw [tk0 m, tk0 a, tk0 (wantV nonce x y m)]
      have e : (wantV nonce x y m).length = m.length + 16 := spsV_length _ _ _
      exact obCons trivial <| obCons (Nat.le_refl _) <| obCons ⟨rfl, trivial⟩ <| obCons (by omega) <| obCons (Nat.le_refl _) <| obCons (Nat.le_refl _) <| obCons ⟨rfl, rfl, trivial⟩ <| obCons (by omega) obNil) ?_
  rw [tk0 m, tk0 a, tk0 (wantV nonce x y m), ← List.length_append]
  exact h
theorem bs2 (B : Nat) (a m nonce x y V : List (BitVec 8)) (h4 : ¬ 4096 < a.length + m.length) (hV : sealV nonce (shK x y) a m = V) :
    Tri P0 B (cxb false) 41 (2 + 3) (bsB.drop 1) (lawV a m nonce x y V V.length) (Ret (cxb false) Tryz.f3.results.toList ⟨.one (.s (.b true)), ibM a m, 2 + 3, .eff, []⟩) := by
  have hl : a.length + (m.length + 16) = (sealV nonce (shK x y) a m).length := (sealV_length _ _ _ _).symm
  have this : Tri P0 B (cxb false) 41 (2 + 3) (bsB.drop 1) (lawV a m nonce x y V V.length) (Ret (cxb false) Tryz.f3.results.toList ⟨.one (.s (.b (decide (List.take (List.length a + (List.length m + (16 : Nat))) (List.drop (0 : Nat) (sealV nonce (shK x y) a m)) = List.take (List.length V) (List.drop (0 : Nat) V))))), ibM a m, 2 + 3, .eff, []⟩) :=
    Tri.ret (cx := cxb false) mix T0ok (HC2ok B (a := a) (m := m) (nonce := nonce) (x := x) (y := y) (by omega) (by omega) false) 0 noOrc [10] [2 + 1, 2 + 2, 1, 2] (2 + 40) ⟨[(10, .one (.s (.b (decide (List.take (List.length a + (List.length m + (16 : Nat))) (List.drop (0 : Nat) (sealV nonce (shK x y) a m)) = List.take (List.length V) (List.drop (0 : Nat) V))))))], ibM a m, 2 + 40⟩
    ([ibA a m nonce x y = ibA a m nonce x y, 2 + 8 = 2 + 8, some (⟨a.length, .d8 a, false, false, false⟩ : Seg) = some ⟨a.length, .d8 a, false, false, false⟩, some (⟨m.length, .d8 m, false, false, false⟩ : Seg) = some ⟨m.length, .d8 m, false, false, false⟩] ++ g2s ++
      [List.length a + (List.length m + (16 : Nat)) ≤ List.length (sealV nonce (shK x y) a m), List.length V ≤ List.length V,
       List.length (List.take (List.length a + (List.length m + (16 : Nat))) (List.drop (0 : Nat) (sealV nonce (shK x y) a m))) = List.length (List.take (List.length a + (List.length m + (16 : Nat))) (List.drop (0 : Nat) (sealV nonce (shK x y) a m))) ∧ List.length (List.take (List.length V) (List.drop (0 : Nat) V)) = List.length (List.take (List.length V) (List.drop (0 : Nat) V)) ∧ True]) .r (by kernel_rfl)
    (obCons rfl <| obCons rfl <| obCons rfl <| obCons rfl <| obCons rfl <| obCons rfl <| obCons (Nat.le_of_eq hl) <| obCons (Nat.le_refl _) <| obCons ⟨rfl, rfl, trivial⟩ obNil) (by kernel_rfl) rfl [2 + 1, 2 + 2, 1, 2] [] (by kernel_rfl) obNil
  rw [hl, tk0, hV, tk0, decide_eq_true rfl] at this
  exact this
theorem want_eq {nonce x y : List (BitVec 8)} (a m : List (BitVec 8)) (ln : nonce.length = 24) (lx : x.length = 32) (ly : y.length = 32) : sealV nonce (shK x y) a m = a ++ wantV nonce x y m := by
  unfold wantV shK
  rw [sealV_app, lit_eq ln, lit_eq lx, lit_eq ly, preI_S lx ly]
  have e : (lit 0 32 (preS x y) : List (BitVec 8)) = preS x y := lit_eq rfl
  rw [e]
theorem lawBoxSeal1 (B : Nat) (a m nonce x y : List (BitVec 8)) (ln : nonce.length = 24) (lx : x.length = 32) (ly : y.length = 32) : FnE P0 B 2 3 (bqA a m nonce x y) (ibM a m) (2 + 3) ⟨.one (.s (.b true)), ibM a m, 2 + 3, .eff, []⟩ := by
  by_cases h : 2147483647 < a.length
  · exact lawBs1 B a m nonce x y h
  by_cases h2 : 2147483647 < m.length
  · exact lawBs2 B a m nonce x y h h2
  by_cases h3 : 4096 < a.length
  · exact lawBs3 B a m nonce x y h h2 h3
  by_cases h4 : 4096 < a.length + m.length
  · exact lawBs4 B a m nonce x y h h2 h3 h4
  refine FnE.tri (cx := cxb false) (sz := 41) (fn := Tryz.f3) (c := bodyOf Tryz.f3) T0ok (by kernel_rfl) (by kernel_rfl) (by kernel_rfl) (by kernel_rfl) (by kernel_rfl) (by kernel_rfl) (Nat.le_refl _) ?_
  refine lawBsF B a m nonce x y h4 ?_
  refine bs1 B a m nonce x y h4 ?_
  exact bs2 B a m nonce x y _ h4 (want_eq a m ln lx ly)
theorem lawBoxSeal (B : Nat) {l0 l1 l2 l3 l4 : List (BitVec 8)} (h2 : l2.length = 24) (h3 : l3.length = 32) (h4 : l4.length = 32) : FnE P0 B 2 3 [.one (.s (.osl (2 + 1) l0.length)), .one (.s (.osl (2 + 2) l1.length)), .one (.ag [.d8 l2]), .one (.ag [.d8 l3]), .one (.ag [.d8 l4])] (ibM l0 l1) (2 + 3) ⟨.one (.s (.b true)), ibM l0 l1, 2 + 3, .eff, []⟩ := by
  have := lawBoxSeal1 B l0 l1 l2 l3 l4 h2 h3 h4
  unfold bqA ibA ibT at this
  rw [lit_eq h2, lit_eq h3, lit_eq h4] at this
  exact this
end Go.Sx.Bx
