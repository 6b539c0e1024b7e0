/- FnBoxOpen: what the law returns. Conditions: none. -/
import Derived.Test.YtbkobeclkeojoaaDoorZ1
import Derived.Test.YtbkobeclkeojoaaDoorY1
import Derived.Test.YtbkobeclkeojoaaDoorK8
set_option maxRecDepth 1000000
set_option linter.unusedVariables false
namespace Go.Sx.Bx
open Go.Proofs Go.Sx
theorem pre_swap {a b : List (BitVec 8)} (la : a.length = 32) (lb : b.length = 32) : preI (smF a nin) b = preI (smF b nin) a := by
  rw [preI_S (smF_length a nin) lb, preI_S (smF_length b nin) la, smF_eq a nin la rfl, smF_eq b nin lb rfl]
  unfold preS
  rw [nin_nine, dh b a lb la]
theorem shK_swap {x y : List (BitVec 8)} (lx : x.length = 32) (ly : y.length = 32) : shK (smF x nin) y = shK (smF y nin) x := by
  unfold shK
  rw [lit_eq (smF_length x nin), lit_eq (smF_length y nin), lit_eq lx, lit_eq ly]
  exact pre_swap lx ly
theorem preI_length (a b : List (BitVec 8)) : (preI a b).length = 32 := rfl
def g2 : List Prop := [some segF = some segF, some (sgr one5 false) = some (sgr one5 false)]
theorem bo1 (B : Nat) (a m nonce x y : List (BitVec 8)) (lx : x.length = 32) (ly : y.length = 32) {R : Ex → St → Prop} (h : Tri P0 B (cxb false) 83 (5 + 3) (boB.drop 2) (lawP a m nonce x y (smF x nin) (smF y nin)) R) :
    Tri P0 B (cxb false) 83 (5 + 3) boB (law5 a m nonce x y) R := by
  refine Tri.stepR (cx := cxb false) mix T0ok (HBaok B false) 2 0 noOrc [0, 1, 7, 8, 9, 11, 13] [(5 + 1, 5 + 1), (5 + 2, 5 + 2), (3, 3), (5, 5), (5 + 3, 5 + 3), (5 + 4, 5 + 4), (5 + 5, 5 + 5), (5 + 6, 5 + 6), (5 + 8, 5 + 7)] (5 + 8) (lawP a m nonce x y (smF (lit 0 32 x) nin) (smF (lit 0 32 y) nin)) (g2 ++ g2) (by kernel_rfl) (obCons rfl <| obCons rfl <| obCons rfl <| obCons rfl obNil) ?_
  rw [lit_eq lx, lit_eq ly]
  exact h
theorem bo2 (B : Nat) (a m nonce x y p q : List (BitVec 8)) (hm : m.length ≤ 1000000000) {R : Ex → St → Prop} (h : Tri P0 B (cxb false) 83 (5 + 3) (boB.drop 3) (lawQ a m nonce y p (spsV nonce (shK q x) m) (spsV nonce (shK q x) m).length false) R) :
    Tri P0 B (cxb false) 83 (5 + 3) (boB.drop 2) (lawP a m nonce x y p q) R := by
  refine Tri.stepR (cx := cxb false) mix T0ok (HBsok B (nonce := nonce) (pub := q) (priv := x) hm false) 1 0 noOrc [0, 1, 7, 9, 11, 15] [(5 + 1, 5 + 1), (5 + 2, 5 + 2), (3, 3), (5, 5), (5 + 3, 5 + 3), (5 + 5, 5 + 5), (5 + 6, 5 + 6), (5 + 8, 5 + 7)] (5 + 8) (lawQ a m nonce y p (sealV nonce (shK q x) [] m) (0 + (m.length + 16)) true)
    ([ibA0 m nonce q x = ibA0 m nonce q x, 5 + 8 = 5 + 8, some (⟨m.length, .d8 m, false, false, false⟩ : Seg) = some ⟨m.length, .d8 m, false, false, false⟩] ++ g2) (by kernel_rfl) (obCons rfl <| obCons rfl <| obCons rfl <| obCons rfl <| obCons rfl obNil) ?_
  have e : (0 : Nat) + (m.length + 16) = (spsV nonce (shK q x) m).length := by rw [spsV_length, Nat.zero_add]
  rw [e, ← spsV_eq]
  generalize spsV nonce (shK q x) m = V at *
  refine Tri.view (k := 5 + 7) (d := 15) (n := V.length) (g := ⟨V.length, .d8 V, true, false, false⟩) (by kernel_rfl) (by kernel_rfl) (Nat.le_refl _) ?_
  refine Tri.ren (ts := [0, 1, 7, 9, 11, 15]) (ks := [(5 + 1, 5 + 1), (5 + 2, 5 + 2), (3, 3), (5, 5), (5 + 3, 5 + 3), (5 + 5, 5 + 5), (5 + 6, 5 + 6), (5 + 8, 5 + 7)]) (nx := 5 + 8) (s' := lawQ a m nonce y p ((V.drop 0).take V.length) V.length false) (by kernel_rfl) ?_
  rw [tk0]
  exact h
theorem bo3 (B : Nat) (a m nonce y p V : List (BitVec 8)) (ha : a.length ≤ 1000000000) (hV : V.length ≤ 2000000000) {R : Ex → St → Prop} (h : Tri P0 B (cxb false) 83 (5 + 3) (boB.drop 4) (lawR a m nonce y p V (openV nonce (shK p y) a V) (openK nonce (shK p y) V)) R) :
    Tri P0 B (cxb false) 83 (5 + 3) (boB.drop 3) (lawQ a m nonce y p V V.length false) R := by
  exact Tri.stepR (cx := cxb false) mix T0ok (HBook B (nonce := nonce) (pub := p) (priv := y) ha hV false) 1 0 noOrc [0, 1, 7, 9, 11, 15, 16, 17] [(5 + 1, 5 + 1), (5 + 2, 5 + 2), (3, 3), (5, 5), (5 + 3, 5 + 3), (5 + 5, 5 + 5), (5 + 6, 5 + 6), (5 + 7, 5 + 7), (5 + 8, 5 + 8)] (5 + 9) (lawR a m nonce y p V (openV nonce (shK p y) a V) (openK nonce (shK p y) V))
    ([ibA2 a V nonce p y = ibA2 a V nonce p y, 5 + 8 = 5 + 8, some (⟨a.length, .d8 a, false, false, false⟩ : Seg) = some ⟨a.length, .d8 a, false, false, false⟩, some (⟨V.length, .d8 V, false, false, false⟩ : Seg) = some ⟨V.length, .d8 V, false, false, false⟩] ++ g2) (by kernel_rfl) (obCons rfl <| obCons rfl <| obCons rfl <| obCons rfl <| obCons rfl <| obCons rfl obNil) h
theorem bo4 (B : Nat) (a m nonce y p V X : List (BitVec 8)) (ln : nonce.length = 24) (ha : a.length ≤ 1000000000) (hV : V.length ≤ 2000000000) {R : Ex → St → Prop} (h : Tri P0 B (cxb false) 83 (5 + 3) (boB.drop 5) (lawW a m X (openV nonce (shK p y) a V) true (openK nonce (shK p y) V)) R) :
    Tri P0 B (cxb false) 83 (5 + 3) (boB.drop 4) (lawR a m nonce y p V X true) R := by
  refine Tri.stepR (cx := cxb false) mix T0ok (HBzok B false) 1 0 noOrc [0, 1, 16, 17, 18, 19] [(5 + 1, 5 + 1), (5 + 2, 5 + 2), (3, 3), (5, 5), (5 + 8, 5 + 3), (5 + 9, 5 + 4)] (5 + 5)
    (lawW a m X (openV (lit (0 : BitVec (8 : Nat)) (24 : Nat) nonce) (lit (0 : BitVec (8 : Nat)) (32 : Nat) (preI (lit (0 : BitVec (8 : Nat)) (32 : Nat) p) (lit (0 : BitVec (8 : Nat)) (32 : Nat) y))) (List.take (List.length a) (List.drop (0 : Nat) a)) (List.take (List.length V) (List.drop (0 : Nat) V))) true ((openK (lit (0 : BitVec (8 : Nat)) (24 : Nat) nonce) (lit (0 : BitVec (8 : Nat)) (32 : Nat) (preI (lit (0 : BitVec (8 : Nat)) (32 : Nat) p) (lit (0 : BitVec (8 : Nat)) (32 : Nat) y))) (List.take (List.length V) (List.drop (0 : Nat) V))))) (g2 ++
    [List.length a ≤ List.length a, List.length V ≤ List.length V,
  List.length (List.take (List.length a) (List.drop (0 : Nat) a)) = List.length (List.take (List.length a) (List.drop (0 : Nat) a)) ∧ List.length (List.take (List.length V) (List.drop (0 : Nat) V)) = List.length (List.take (List.length V) (List.drop (0 : Nat) V)) ∧ True,
  List.length (List.take (List.length a) (List.drop (0 : Nat) a)) ≤ (1000000000 : Nat), List.length (List.take (List.length V) (List.drop (0 : Nat) V)) ≤ (2000000000 : Nat)]) (by kernel_rfl)
    (by rw [tk0, tk0]; exact obCons rfl <| obCons rfl <| obCons (Nat.le_refl _) <| obCons (Nat.le_refl _) <| obCons ⟨rfl, rfl, trivial⟩ <| obCons ha <| obCons hV obNil) ?_
  have e : (lit 0 32 (preI (lit 0 32 p) (lit 0 32 y)) : List (BitVec 8)) = shK p y := lit_eq (preI_length _ _)
  rw [tk0, tk0, e, lit_eq ln]
  exact h
theorem bo5 (B : Nat) (a m : List (BitVec 8)) (ha : a.length + m.length ≤ 1000000000) : Tri P0 B (cxb false) 83 (5 + 3) (boB.drop 5) (lawW a m (a ++ m) (a ++ m) true true) (Ret (cxb false) Tryd.f3.results.toList ⟨.one (.s (.b true)), ibM a m, 5 + 3, .eff, []⟩) := by
  have hb : List.take (a.length + m.length) (List.drop 0 (a ++ m)) = a ++ m := by rw [← List.length_append, tk0]
  have this : Tri P0 B (cxb false) 83 (5 + 3) (boB.drop 5) (lawW a m (a ++ m) (a ++ m) true true) (Ret (cxb false) Tryd.f3.results.toList ⟨.one (.s (.b (let X := a ++ m; let Y := a ++ m; (bif decide (List.take (List.length X) (List.drop (0 : Nat) X) = List.take (List.length (List.take (List.length a) (List.drop (0 : Nat) a)) + List.length (List.take (List.length m) (List.drop (0 : Nat) m))) (List.drop (0 : Nat) (List.take (List.length a) (List.drop (0 : Nat) a) ++ List.take (List.length m) (List.drop (0 : Nat) m)))) then decide (List.take (List.length Y) (List.drop (0 : Nat) Y) = List.take (List.length X) (List.drop (0 : Nat) X)) else false)))), ibM a m, 5 + 3, .eff, []⟩) :=
    Tri.ret (cx := cxb false) mix T0ok (HBzok B false) 0 (orcL [(78, true)]) [10] [5 + 1, 5 + 2, 3, 5] (5 + 40) ⟨[(10, .one (.s (.b (let X := a ++ m; let Y := a ++ m; (bif decide (List.take (List.length X) (List.drop (0 : Nat) X) = List.take (List.length (List.take (List.length a) (List.drop (0 : Nat) a)) + List.length (List.take (List.length m) (List.drop (0 : Nat) m))) (List.drop (0 : Nat) (List.take (List.length a) (List.drop (0 : Nat) a) ++ List.take (List.length m) (List.drop (0 : Nat) m)))) then decide (List.take (List.length Y) (List.drop (0 : Nat) Y) = List.take (List.length X) (List.drop (0 : Nat) X)) else false)))))], ibM a m, 5 + 40⟩
    (let X := a ++ m; let Y := a ++ m; [List.length a ≤ List.length a, List.length m ≤ List.length m, List.length (List.take (List.length a) (List.drop (0 : Nat) a)) = List.length (List.take (List.length a) (List.drop (0 : Nat) a)) ∧ List.length (List.take (List.length m) (List.drop (0 : Nat) m)) = List.length (List.take (List.length m) (List.drop (0 : Nat) m)) ∧ True, List.length (List.take (List.length a) (List.drop (0 : Nat) a)) + List.length (List.take (List.length m) (List.drop (0 : Nat) m)) ≤ (4294967295 : Nat), List.length X ≤ List.length X, List.length (List.take (List.length a) (List.drop (0 : Nat) a)) + List.length (List.take (List.length m) (List.drop (0 : Nat) m)) ≤ List.length (List.take (List.length a) (List.drop (0 : Nat) a) ++ List.take (List.length m) (List.drop (0 : Nat) m)), List.length (List.take (List.length X) (List.drop (0 : Nat) X)) = List.length (List.take (List.length X) (List.drop (0 : Nat) X)) ∧ List.length (List.take (List.length (List.take (List.length a) (List.drop (0 : Nat) a)) + List.length (List.take (List.length m) (List.drop (0 : Nat) m))) (List.drop (0 : Nat) (List.take (List.length a) (List.drop (0 : Nat) a) ++ List.take (List.length m) (List.drop (0 : Nat) m)))) = List.length (List.take (List.length (List.take (List.length a) (List.drop (0 : Nat) a)) + List.length (List.take (List.length m) (List.drop (0 : Nat) m))) (List.drop (0 : Nat) (List.take (List.length a) (List.drop (0 : Nat) a) ++ List.take (List.length m) (List.drop (0 : Nat) m)))) ∧ True, decide (List.take (List.length X) (List.drop (0 : Nat) X) = List.take (List.length (List.take (List.length a) (List.drop (0 : Nat) a)) + List.length (List.take (List.length m) (List.drop (0 : Nat) m))) (List.drop (0 : Nat) (List.take (List.length a) (List.drop (0 : Nat) a) ++ List.take (List.length m) (List.drop (0 : Nat) m)))) = true, decide (List.take (List.length X) (List.drop (0 : Nat) X) = List.take (List.length (List.take (List.length a) (List.drop (0 : Nat) a)) + List.length (List.take (List.length m) (List.drop (0 : Nat) m))) (List.drop (0 : Nat) (List.take (List.length a) (List.drop (0 : Nat) a) ++ List.take (List.length m) (List.drop (0 : Nat) m)))) = true, decide (List.take (List.length X) (List.drop (0 : Nat) X) = List.take (List.length (List.take (List.length a) (List.drop (0 : Nat) a)) + List.length (List.take (List.length m) (List.drop (0 : Nat) m))) (List.drop (0 : Nat) (List.take (List.length a) (List.drop (0 : Nat) a) ++ List.take (List.length m) (List.drop (0 : Nat) m)))) = true, List.length Y ≤ List.length Y, List.length X ≤ List.length X, List.length (List.take (List.length Y) (List.drop (0 : Nat) Y)) = List.length (List.take (List.length Y) (List.drop (0 : Nat) Y)) ∧ List.length (List.take (List.length X) (List.drop (0 : Nat) X)) = List.length (List.take (List.length X) (List.drop (0 : Nat) X)) ∧ True]) .r (by kernel_rfl) (by
      dsimp only
      rw [tk0 m, tk0 a, hb, tk0 (a ++ m)]
      (repeat' (first | exact obNil | refine obCons ?_ ?_))
      all_goals first | exact Nat.le_refl _ | exact ⟨rfl, rfl, trivial⟩ | exact decide_eq_true rfl | omega | (rw [List.length_append]; exact Nat.le_refl _) | exact ⟨rfl, trivial⟩) (by kernel_rfl) rfl [5 + 1, 5 + 2, 3, 5] [] (by kernel_rfl) obNil
  dsimp only at this
  rw [tk0 m, tk0 a, hb, tk0 (a ++ m), decide_eq_true rfl] at this
  exact this
theorem lawBoxOpen1 (B : Nat) (a m nonce x y : List (BitVec 8)) (ln : nonce.length = 24) (lx : x.length = 32) (ly : y.length = 32) : FnE P0 B 5 3 (bqA a m nonce x y) (ibM a m) (5 + 3) ⟨.one (.s (.b true)), ibM a m, 5 + 3, .eff, []⟩ := by
  by_cases h : 2147483647 < a.length
  · exact lawBo1 B a m nonce x y h
  by_cases h2 : 2147483647 < m.length
  · exact lawBo2 B a m nonce x y h h2
  by_cases h3 : 4096 < a.length
  · exact lawBo3 B a m nonce x y h h2 h3
  by_cases h4 : 4096 < a.length + m.length
  · exact lawBo4 B a m nonce x y h h2 h3 h4
  refine FnE.tri (cx := cxb false) (sz := 83) (fn := Tryd.f3) (c := bodyOf Tryd.f3) T0ok (by kernel_rfl) (by kernel_rfl) (by kernel_rfl) (by kernel_rfl) (by kernel_rfl) (by kernel_rfl) (Nat.le_refl _) ?_
  refine lawBoF B a m nonce x y h4 ?_
  refine bo1 B a m nonce x y lx ly ?_
  refine bo2 B a m nonce x y _ _ (by omega) ?_
  rw [← shK_swap lx ly]
  refine bo3 B a m nonce y _ _ (by omega) (by rw [spsV_length]; omega) ?_
  rw [openK_seal, openV_seal]
  refine bo4 B a m nonce y _ _ _ ln (by omega) (by rw [spsV_length]; omega) ?_
  rw [openK_seal, openV_seal]
  exact bo5 B a m (by omega)
theorem lawBoxOpen (B : Nat) {l0 l1 l2 l3 l4 : List (BitVec 8)} (h2 : l2.length = 24) (h3 : l3.length = 32) (h4 : l4.length = 32) : FnE P0 B 5 3 [.one (.s (.osl (5 + 1) l0.length)), .one (.s (.osl (5 + 2) l1.length)), .one (.ag [.d8 l2]), .one (.ag [.d8 l3]), .one (.ag [.d8 l4])] (ibM l0 l1) (5 + 3) ⟨.one (.s (.b true)), ibM l0 l1, 5 + 3, .eff, []⟩ := by
  have := lawBoxOpen1 B l0 l1 l2 l3 l4 h2 h3 h4
  unfold bqA ibA ibT at this
  rw [lit_eq h2, lit_eq h3, lit_eq h4] at this
  exact this
end Go.Sx.Bx
