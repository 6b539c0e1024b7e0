/- FnOpenTurned: the walk, but for its last way. FnOpenTurned: what the law returns. Conditions: none. -/
import Derived.Test.YtdigakgfngfnkaaW17
set_option maxRecDepth 1000000
set_option linter.unusedVariables false
namespace Go.Sx
open Go.Proofs
theorem lawOt1 (B : Nat) (m nonce key : List (BitVec 8)) (bt : Int) (h : 2147483647 < m.length) : FnE P0 B 1 5 (ssAr m nonce key ++ [.one (.s (.i bt))]) (ssM m) (1 + 1) ⟨.one (.s (.b (true))), (ssM m), 1 + 1, .eff, []⟩ := by
  refine FnE.tri (cx := cxb false) (sz := 65) (fn := Try.f5) (c := bodyOf Try.f5) T0ok (by kernel_rfl) (by kernel_rfl) (by kernel_rfl) (by kernel_rfl) (by kernel_rfl) (by kernel_rfl) (Nat.le_refl _) ?_
  exact Tri.ret (cx := cxb false) mix T0ok (HLsok B true true false) 4 (orcL [(16, true)]) [8] [1] (1 + 30) ⟨[(8, .one (.s (.b (true))))], (ssM m), 1 + 30⟩ ([List.length (lit (0 : BitVec (8 : Nat)) (24 : Nat) nonce) = List.length (List.replicate (24 : Nat) (0 : BitVec (8 : Nat))) ∧ True, List.length (lit (0 : BitVec (8 : Nat)) (32 : Nat) key) = List.length (List.replicate (32 : Nat) (0 : BitVec (8 : Nat))) ∧ True, decide ((2147483647 : Int) < (↑(List.length m) : Int)) = true]) .r (by kernel_rfl) (by (repeat' (first | exact obNil | refine obCons ?_ ?_)); all_goals (first | exact trivial | exact ⟨by rw [lit_length]; rfl, trivial⟩ | omega | (unfold rng; omega) | (simp <;> omega))) (by kernel_rfl) rfl [1] [] (by kernel_rfl) obNil
theorem lawOt2 (B : Nat) (m nonce key : List (BitVec 8)) (bt : Int) (h : ¬ 2147483647 < m.length) (h3 : 4096 < m.length) : FnE P0 B 1 5 (ssAr m nonce key ++ [.one (.s (.i bt))]) (ssM m) (1 + 1) ⟨.one (.s (.b (true))), (ssM m), 1 + 1, .eff, []⟩ := by
  refine FnE.tri (cx := cxb false) (sz := 65) (fn := Try.f5) (c := bodyOf Try.f5) T0ok (by kernel_rfl) (by kernel_rfl) (by kernel_rfl) (by kernel_rfl) (by kernel_rfl) (by kernel_rfl) (Nat.le_refl _) ?_
  exact Tri.ret (cx := cxb false) mix T0ok (HLsok B false true false) 4 (orcL [(16, false), (28, true)]) [8] [1] (1 + 30) ⟨[(8, .one (.s (.b (true))))], (ssM m), 1 + 30⟩ ([List.length (lit (0 : BitVec (8 : Nat)) (24 : Nat) nonce) = List.length (List.replicate (24 : Nat) (0 : BitVec (8 : Nat))) ∧ True, List.length (lit (0 : BitVec (8 : Nat)) (32 : Nat) key) = List.length (List.replicate (32 : Nat) (0 : BitVec (8 : Nat))) ∧ True, decide ((2147483647 : Int) < (↑(List.length m) : Int)) = false, (0 : Int) ≤ (0 : Int) ∧ (0 : Int) < (↑(1 : Nat) : Int), Int.toNat (0 : Int) + (0 : Nat) < List.length (List.set (List.replicate (1 : Nat) Sc.sl0) ((0 : Nat) * (1 : Nat)) (Sc.osl (1 : Nat) (List.length m))), rng ((4096 : Int) - (0 : Int)), decide ((4096 : Int) - (0 : Int) < (↑(List.length m) : Int)) = !false, (!false) = true, true = true, true = true]) .r (by kernel_rfl) (by (repeat' (first | exact obNil | refine obCons ?_ ?_)); all_goals (first | exact trivial | exact ⟨by rw [lit_length]; rfl, trivial⟩ | omega | (unfold rng; omega) | (simp <;> omega))) (by kernel_rfl) rfl [1] [] (by kernel_rfl) obNil
theorem lawOt3 (B : Nat) (m nonce key : List (BitVec 8)) (bt : Int) (h3 : ¬ 4096 < m.length) (h4 : bt < 0) : FnE P0 B 1 5 (ssAr m nonce key ++ [.one (.s (.i bt))]) (ssM m) (1 + 1) ⟨.one (.s (.b (true))), (ssM m), 1 + 1, .eff, []⟩ := by
  refine FnE.tri (cx := cxb false) (sz := 65) (fn := Try.f5) (c := bodyOf Try.f5) T0ok (by kernel_rfl) (by kernel_rfl) (by kernel_rfl) (by kernel_rfl) (by kernel_rfl) (by kernel_rfl) (Nat.le_refl _) ?_
  exact Tri.ret (cx := cxb false) mix T0ok (HLsok B true true false) 4 (orcL [(16, false), (25, true), (28, true)]) [8] [1] (1 + 30) ⟨[(8, .one (.s (.b (true))))], (ssM m), 1 + 30⟩ ([List.length (lit (0 : BitVec (8 : Nat)) (24 : Nat) nonce) = List.length (List.replicate (24 : Nat) (0 : BitVec (8 : Nat))) ∧ True, List.length (lit (0 : BitVec (8 : Nat)) (32 : Nat) key) = List.length (List.replicate (32 : Nat) (0 : BitVec (8 : Nat))) ∧ True, decide ((2147483647 : Int) < (↑(List.length m) : Int)) = false, (0 : Int) ≤ (0 : Int) ∧ (0 : Int) < (↑(1 : Nat) : Int), Int.toNat (0 : Int) + (0 : Nat) < List.length (List.set (List.replicate (1 : Nat) Sc.sl0) ((0 : Nat) * (1 : Nat)) (Sc.osl (1 : Nat) (List.length m))), rng ((4096 : Int) - (0 : Int)), decide ((4096 : Int) - (0 : Int) < (↑(List.length m) : Int)) = !true, rng ((0 : Int) + (↑(List.length m) : Int)), rng ((0 : Int) + (1 : Int)), decide (bt < (0 : Int)) = true, decide (bt < (0 : Int)) = true, decide (bt < (0 : Int)) = true, true = true]) .r (by kernel_rfl) (by (repeat' (first | exact obNil | refine obCons ?_ ?_)); all_goals (first | exact trivial | exact ⟨by rw [lit_length]; rfl, trivial⟩ | omega | (unfold rng; omega) | (simp <;> omega))) (by kernel_rfl) rfl [1] [] (by kernel_rfl) obNil
theorem lawOt4 (B : Nat) (m nonce key : List (BitVec 8)) (bt : Int) (h3 : ¬ 4096 < m.length) (h4 : ¬ bt < 0) (h5 : 127 < bt) : FnE P0 B 1 5 (ssAr m nonce key ++ [.one (.s (.i bt))]) (ssM m) (1 + 1) ⟨.one (.s (.b (true))), (ssM m), 1 + 1, .eff, []⟩ := by
  refine FnE.tri (cx := cxb false) (sz := 65) (fn := Try.f5) (c := bodyOf Try.f5) T0ok (by kernel_rfl) (by kernel_rfl) (by kernel_rfl) (by kernel_rfl) (by kernel_rfl) (by kernel_rfl) (Nat.le_refl _) ?_
  exact Tri.ret (cx := cxb false) mix T0ok (HLsok B true true false) 4 (orcL [(16, false), (25, false), (28, true)]) [8] [1] (1 + 30) ⟨[(8, .one (.s (.b (true))))], (ssM m), 1 + 30⟩ ([List.length (lit (0 : BitVec (8 : Nat)) (24 : Nat) nonce) = List.length (List.replicate (24 : Nat) (0 : BitVec (8 : Nat))) ∧ True, List.length (lit (0 : BitVec (8 : Nat)) (32 : Nat) key) = List.length (List.replicate (32 : Nat) (0 : BitVec (8 : Nat))) ∧ True, decide ((2147483647 : Int) < (↑(List.length m) : Int)) = false, (0 : Int) ≤ (0 : Int) ∧ (0 : Int) < (↑(1 : Nat) : Int), Int.toNat (0 : Int) + (0 : Nat) < List.length (List.set (List.replicate (1 : Nat) Sc.sl0) ((0 : Nat) * (1 : Nat)) (Sc.osl (1 : Nat) (List.length m))), rng ((4096 : Int) - (0 : Int)), decide ((4096 : Int) - (0 : Int) < (↑(List.length m) : Int)) = !true, rng ((0 : Int) + (↑(List.length m) : Int)), rng ((0 : Int) + (1 : Int)), decide (bt < (0 : Int)) = false, decide (bt < (0 : Int)) = false, (bif decide (bt < (0 : Int)) then true else decide ((127 : Int) < bt)) = true]) .r (by kernel_rfl) (by (repeat' (first | exact obNil | refine obCons ?_ ?_)); all_goals (first | exact trivial | exact ⟨by rw [lit_length]; rfl, trivial⟩ | omega | (unfold rng; omega) | (simp <;> omega))) (by kernel_rfl) rfl [1] [] (by kernel_rfl) obNil
theorem lawOtF (B : Nat) (m nonce key : List (BitVec 8)) (bt : Int) (h3 : ¬ 4096 < m.length) (h4 : ¬ bt < 0) (h5 : ¬ 127 < bt) {R : Ex → St → Prop} (h : Tri P0 B (cxb false) 65 (1 + 1) ((flat (bodyOf Try.f5)).drop 5) (law1 [(0, .one (.s (.osl 1 m.length))), (3, .one (.s (.i bt)))] 5 m nonce key) R) : Tri P0 B (cxb false) 65 (1 + 1) (flat (bodyOf Try.f5)) ⟨enum 0 (ssAr m nonce key ++ [.one (.s (.i bt))]), (ssM m), 1 + 1⟩ R := by
  exact Tri.stepR (cx := cxb false) mix T0ok (HLsok B true true false) 5 4 (orcL [(16, false), (25, false), (28, false)]) [0, 3, 5, 6] [(1, 1), (1 + 1, 1 + 1), (1 + 2, 1 + 2)] (1 + 3) (law1 [(0, .one (.s (.osl 1 m.length))), (3, .one (.s (.i bt)))] 5 m nonce key) ([List.length (lit (0 : BitVec (8 : Nat)) (24 : Nat) nonce) = List.length (List.replicate (24 : Nat) (0 : BitVec (8 : Nat))) ∧ True, List.length (lit (0 : BitVec (8 : Nat)) (32 : Nat) key) = List.length (List.replicate (32 : Nat) (0 : BitVec (8 : Nat))) ∧ True, decide ((2147483647 : Int) < (↑(List.length m) : Int)) = false, (0 : Int) ≤ (0 : Int) ∧ (0 : Int) < (↑(1 : Nat) : Int), Int.toNat (0 : Int) + (0 : Nat) < List.length (List.set (List.replicate (1 : Nat) Sc.sl0) ((0 : Nat) * (1 : Nat)) (Sc.osl (1 : Nat) (List.length m))), rng ((4096 : Int) - (0 : Int)), decide ((4096 : Int) - (0 : Int) < (↑(List.length m) : Int)) = !true, rng ((0 : Int) + (↑(List.length m) : Int)), rng ((0 : Int) + (1 : Int)), decide (bt < (0 : Int)) = false, decide (bt < (0 : Int)) = false, (bif decide (bt < (0 : Int)) then true else decide ((127 : Int) < bt)) = false]) (by kernel_rfl) (by (repeat' (first | exact obNil | refine obCons ?_ ?_)); all_goals (first | exact trivial | exact ⟨by rw [lit_length]; rfl, trivial⟩ | omega | (unfold rng; omega) | (simp <;> omega))) h
end Go.Sx

set_option maxRecDepth 1000000
set_option linter.unusedVariables false
namespace Go.Sx
open Go.Proofs
def otL (m nonce key : List (BitVec 8)) (bt : Int) : St := law1 [(0, .one (.s (.osl 1 m.length))), (3, .one (.s (.i bt)))] 5 m nonce key
noncomputable def otB : List Code := (flat (bodyOf Try.f5)).drop 5
def otS0 (m nonce key V : List (BitVec 8)) (bt : Int) : St := ⟨[(3, .one (.s (.i bt))), (5, .one (.s (.p (1 + 1) 0))), (6, .one (.s (.p (1 + 2) 0))), (9, .one (.s (.osl (1 + 3) V.length)))], (otL m nonce key bt).m ++ [(1 + 3, ⟨0, .d8 V, true, true, false⟩)], 1 + 4⟩
def otSl (m nonce key V : List (BitVec 8)) (n : Nat) (bt : Int) (b : Bool) : St := ⟨[(3, .one (.s (.i bt))), (5, .one (.s (.p (1 + 1) 0))), (6, .one (.s (.p (1 + 2) 0))), (9, .one (.s (.osl (1 + 3) n))), (11, .one (.s (.b b)))], (otL m nonce key bt).m ++ [(1 + 3, ⟨0, .d8 V, true, true, false⟩)], 1 + 4⟩
def otS (m nonce key V : List (BitVec 8)) (bt : Int) (b : Bool) : St := otSl m nonce key V V.length bt b
theorem xor_ne (x : BitVec 8) {s : Nat} (h : s < 8) : x ^^^ (1#8 <<< s) ≠ x := by
  intro e
  have h0 : ∀ t : _root_.Fin 8, (1#8 <<< t.val) ≠ 0#8 := by decide
  refine h0 ⟨s, h⟩ ?_
  have := congrArg (fun y => x ^^^ y) e
  simp only [← BitVec.xor_assoc, BitVec.xor_self, BitVec.zero_xor] at this
  exact this
/-- a bit of the tag turned -/
theorem openK_turn (n k m : List (BitVec 8)) {j s : Nat} (hj : j < 16) (hs : s < 8) : openK n k ((spsV n k m).set j ((spsV n k m).getD j 0 ^^^ 1#8 <<< s)) = false := by
  have hl := spsV_length n k m
  unfold openK
  have e1 : ((spsV n k m).set j ((spsV n k m).getD j 0 ^^^ 1#8 <<< s)).drop 16 = (spsV n k m).drop 16 := List.drop_set_of_lt hj
  have hne : poly (kP n k) ((spsV n k m).drop 16) ≠ ((spsV n k m).set j ((spsV n k m).getD j 0 ^^^ 1#8 <<< s)).take 16 := by
    intro e
    rw [spsV_drop, ← spsV_take] at e
    have e2 := congrArg (fun l : List (BitVec 8) => l[j]?) e
    simp only [List.getElem?_take, if_pos hj, List.getElem?_set_self (show j < (spsV n k m).length by omega)] at e2
    have e3 : (spsV n k m).getD j 0 = (spsV n k m).getD j 0 ^^^ 1#8 <<< s := by
      conv => lhs; rw [List.getD_eq_getElem?_getD, e2]
      rfl
    exact xor_ne ((spsV n k m).getD j 0) hs e3.symm
  rw [e1, decide_eq_false hne, Bool.and_false]
theorem lawOt5 (B : Nat) (m nonce key : List (BitVec 8)) (bt : Int) (h3 : ¬ 4096 < m.length) (h4 : ¬ bt < 0) (h5 : ¬ 127 < bt) : FnE P0 B 1 5 (ssAr m nonce key ++ [.one (.s (.i bt))]) (ssM m) (1 + 1) ⟨.one (.s (.b true)), ssM m, 1 + 1, .eff, []⟩ := by
  refine FnE.tri (cx := cxb false) (sz := 65) (fn := Try.f5) (c := bodyOf Try.f5) T0ok (by kernel_rfl) (by kernel_rfl) (by kernel_rfl) (by kernel_rfl) (by kernel_rfl) (by kernel_rfl) (Nat.le_refl _) ?_
  refine lawOtF B m nonce key bt h3 h4 h5 ?_
  have hs := spsV_length (lit 0 24 nonce) (lit 0 32 key) m
  refine Tri.stepR (cx := cxb false) mix T0ok (HLsok B true true false) 1 0 noOrc [3, 5, 6, 9] [(1, 1), (1 + 1, 1 + 1), (1 + 2, 1 + 2), (1 + 3, 1 + 3)] (1 + 4) (otS0 m nonce key (spsV (lit 0 24 nonce) (lit 0 32 key) (List.take (List.length m) (List.drop (0 : Nat) m))) bt)
    [List.length m ≤ List.length m, List.length (List.take (List.length m) (List.drop (0 : Nat) m)) = List.length (List.take (List.length m) (List.drop (0 : Nat) m)) ∧ True, List.length (List.take (List.length m) (List.drop (0 : Nat) m)) ≤ (2000000000 : Nat)] (by kernel_rfl) (by rw [tk0]; exact obCons (Nat.le_refl _) <| obCons ⟨rfl, trivial⟩ <| obCons (by omega) obNil) ?_
  rw [tk0]
  have hk := openK_seal (lit 0 24 nonce) (lit 0 32 key) m
  have ht := openK_turn (lit 0 24 nonce) (lit 0 32 key) m (j := Int.toNat (bt / (8 : Int)) + 0) (s := Int.toNat (bt % (8 : Int))) (by omega) (by omega)
  generalize spsV (lit 0 24 nonce) (lit 0 32 key) m = V at *
  refine Tri.stepR (cx := cxb false) mix T0ok (HLsok B true true false) 1 0 noOrc [3, 5, 6, 9, 11] [(1, 1), (1 + 1, 1 + 1), (1 + 2, 1 + 2), (1 + 3, 1 + 3)] (1 + 4) (otS m nonce key V bt (openK (lit (0 : BitVec (8 : Nat)) (24 : Nat) nonce) (lit (0 : BitVec (8 : Nat)) (32 : Nat) key) (List.take (List.length V) (List.drop (0 : Nat) V))))
    [List.length V ≤ List.length V, List.length ([] : List (BitVec 8)) = List.length ([] : List (BitVec 8)) ∧ List.length (List.take (List.length V) (List.drop (0 : Nat) V)) = List.length (List.take (List.length V) (List.drop (0 : Nat) V)) ∧ True, List.length ([] : List (BitVec 8)) ≤ (1000000000 : Nat), List.length (List.take (List.length V) (List.drop (0 : Nat) V)) ≤ (2000000000 : Nat)] (by kernel_rfl) (by rw [tk0]; exact obCons (Nat.le_refl _) <| obCons ⟨rfl, rfl, trivial⟩ <| obCons (by simp) <| obCons (by omega) obNil) ?_
  rw [tk0, hk]
  refine Tri.stepR (cx := cxb false) mix T0ok (HLsok B true true false) 1 0 noOrc [3, 5, 6, 9, 11] [(1, 1), (1 + 1, 1 + 1), (1 + 2, 1 + 2), (1 + 3, 1 + 3)] (1 + 4) (otSl m nonce key (List.set V (Int.toNat (bt / (8 : Int)) + (0 : Nat)) (List.getD V (Int.toNat (bt / (8 : Int)) + (0 : Nat)) (0 : BitVec (8 : Nat)) ^^^ BitVec.ofNat (8 : Nat) 1 <<< Int.toNat (bt % (8 : Int)))) V.length bt true)
    [(0 : Int) ≤ bt ∧ (0 : Int) < (8 : Int) ∧ rng bt, (0 : Int) ≤ bt ∧ (0 : Int) < (8 : Int) ∧ rng bt, (0 : Int) ≤ bt / (8 : Int) ∧ bt / (8 : Int) < (↑(List.length V) : Int) ∧ bt / (8 : Int) < (↑(List.length V) : Int), Int.toNat (bt / (8 : Int)) + (0 : Nat) < List.length V, (0 : Int) ≤ bt ∧ (0 : Int) < (8 : Int), (0 : Int) ≤ bt % (8 : Int), (0 : Int) ≤ bt / (8 : Int) ∧ bt / (8 : Int) < (↑(List.length V) : Int) ∧ bt / (8 : Int) < (↑(List.length V) : Int), Int.toNat (bt / (8 : Int)) + (0 : Nat) + (1 : Nat) ≤ List.length V] (by kernel_rfl) (obCons ⟨by omega, by omega, by unfold rng; omega⟩ <| obCons ⟨by omega, by omega, by unfold rng; omega⟩ <| obCons (by omega) <| obCons (by omega) <| obCons (by omega) <| obCons (by omega) <| obCons (by omega) <| obCons (by omega) obNil) ?_
  generalize hW : List.set V (Int.toNat (bt / (8 : Int)) + (0 : Nat)) (List.getD V (Int.toNat (bt / (8 : Int)) + (0 : Nat)) (0 : BitVec (8 : Nat)) ^^^ BitVec.ofNat (8 : Nat) 1 <<< Int.toNat (bt % (8 : Int))) = W at *
  have hWl : V.length = W.length := by rw [← hW, List.length_set]
  rw [hWl]
  show Tri _ _ _ _ _ _ (otS m nonce key W bt true) _
  have this : Tri P0 B (cxb false) 65 (1 + 1) (otB.drop 3) (otS m nonce key W bt true) (Ret (cxb false) Try.f5.results.toList ⟨.one (.s (.b (!openK (lit 0 24 nonce) (lit 0 32 key) (List.take (List.length W) (List.drop (0 : Nat) W))))), ssM m, 1 + 1, .eff, []⟩) :=
    Tri.ret (cx := cxb false) mix T0ok (HLsok B true true false) 0 noOrc [8] [1] (1 + 30) ⟨[(8, .one (.s (.b (!openK (lit 0 24 nonce) (lit 0 32 key) (List.take (List.length W) (List.drop (0 : Nat) W))))))], ssM m, 1 + 30⟩
    (let V := W; [List.length V ≤ List.length V, List.length ([] : List (BitVec 8)) = List.length ([] : List (BitVec 8)) ∧ List.length (List.take (List.length V) (List.drop (0 : Nat) V)) = List.length (List.take (List.length V) (List.drop (0 : Nat) V)) ∧ True, List.length ([] : List (BitVec 8)) ≤ (1000000000 : Nat), List.length (List.take (List.length V) (List.drop (0 : Nat) V)) ≤ (2000000000 : Nat)]) .r (by kernel_rfl) (by dsimp only; rw [tk0]; exact obCons (Nat.le_refl _) <| obCons ⟨rfl, rfl, trivial⟩ <| obCons (by simp) <| obCons (by omega) obNil) (by kernel_rfl) rfl [1] [] (by kernel_rfl) obNil
  rw [tk0, ht] at this
  exact this
theorem lawOpenTurned1 (B : Nat) (m nonce key : List (BitVec 8)) (bt : Int) : FnE P0 B 1 5 (ssAr m nonce key ++ [.one (.s (.i bt))]) (ssM m) (1 + 1) ⟨.one (.s (.b true)), ssM m, 1 + 1, .eff, []⟩ := by
  by_cases h : 2147483647 < m.length
  · exact lawOt1 B m nonce key bt h
  by_cases h3 : 4096 < m.length
  · exact lawOt2 B m nonce key bt h h3
  by_cases h4 : bt < 0
  · exact lawOt3 B m nonce key bt h3 h4
  by_cases h5 : 127 < bt
  · exact lawOt4 B m nonce key bt h3 h4 h5
  exact lawOt5 B m nonce key bt h3 h4 h5
theorem lawOpenTurned (B : Nat) {l0 l1 l2 : List (BitVec 8)} {n3 : Int} (h0 : l0.length ≤ maxLen) (h1 : l1.length = 24) (h2 : l2.length = 32) (h3 : rng n3) : FnE P0 B 1 5 [.one (.s (.osl 1 l0.length)), .one (.ag [.d8 l1]), .one (.ag [.d8 l2]), .one (.s (.i n3))] (ssM l0) (1 + 1) ⟨.one (.s (.b true)), ssM l0, 1 + 1, .eff, []⟩ := by
  have := lawOpenTurned1 B l0 l1 l2 n3
  unfold ssAr at this
  rw [lit_eq h1, lit_eq h2] at this
  exact this
end Go.Sx
