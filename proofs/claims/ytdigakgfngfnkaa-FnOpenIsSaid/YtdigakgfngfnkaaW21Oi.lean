/- FnOpenIs: the walk, but for its last way. FnOpenIs: what the law returns. Conditions: none. -/
import Derived.Test.YtdigakgfngfnkaaW17
set_option maxRecDepth 1000000
set_option linter.unusedVariables false
namespace Go.Sx
open Go.Proofs
theorem lawOi1 (B : Nat) (m nonce key : List (BitVec 8)) (h : 2147483647 < m.length) : FnE P0 B 1 4 (ssAr m nonce key) (ssM m) (1 + 1) ⟨.one (.s (.b (true))), (ssM m), 1 + 1, .eff, []⟩ := by
  refine FnE.tri (cx := cxb false) (sz := 59) (fn := Try.f4) (c := bodyOf Try.f4) T0ok (by kernel_rfl) (by kernel_rfl) (by kernel_rfl) (by kernel_rfl) (by kernel_rfl) (by kernel_rfl) (Nat.le_refl _) ?_
  exact Tri.ret (cx := cxb false) mix T0ok (HLsok B true true false) 4 (orcL [(14, true)]) [6] [1] (1 + 30) ⟨[(6, .one (.s (.b (true))))], (ssM m), 1 + 30⟩ ([List.length (lit (0 : BitVec (8 : Nat)) (24 : Nat) nonce) = List.length (List.replicate (24 : Nat) (0 : BitVec (8 : Nat))) ∧ True, List.length (lit (0 : BitVec (8 : Nat)) (32 : Nat) key) = List.length (List.replicate (32 : Nat) (0 : BitVec (8 : Nat))) ∧ True, decide ((2147483647 : Int) < (↑(List.length m) : Int)) = true]) .r (by kernel_rfl) (by (repeat' (first | exact obNil | refine obCons ?_ ?_)); all_goals (first | exact trivial | exact ⟨by rw [lit_length]; rfl, trivial⟩ | omega | (unfold rng; omega) | (simp <;> omega))) (by kernel_rfl) rfl [1] [] (by kernel_rfl) obNil
theorem lawOi2 (B : Nat) (m nonce key : List (BitVec 8)) (h : ¬ 2147483647 < m.length) (h3 : 4096 < m.length) : FnE P0 B 1 4 (ssAr m nonce key) (ssM m) (1 + 1) ⟨.one (.s (.b (true))), (ssM m), 1 + 1, .eff, []⟩ := by
  refine FnE.tri (cx := cxb false) (sz := 59) (fn := Try.f4) (c := bodyOf Try.f4) T0ok (by kernel_rfl) (by kernel_rfl) (by kernel_rfl) (by kernel_rfl) (by kernel_rfl) (by kernel_rfl) (Nat.le_refl _) ?_
  exact Tri.ret (cx := cxb false) mix T0ok (HLsok B false true false) 4 (orcL [(14, false)]) [6] [1] (1 + 30) ⟨[(6, .one (.s (.b (true))))], (ssM m), 1 + 30⟩ ([List.length (lit (0 : BitVec (8 : Nat)) (24 : Nat) nonce) = List.length (List.replicate (24 : Nat) (0 : BitVec (8 : Nat))) ∧ True, List.length (lit (0 : BitVec (8 : Nat)) (32 : Nat) key) = List.length (List.replicate (32 : Nat) (0 : BitVec (8 : Nat))) ∧ True, decide ((2147483647 : Int) < (↑(List.length m) : Int)) = false, (0 : Int) ≤ (0 : Int) ∧ (0 : Int) < (↑(1 : Nat) : Int), Int.toNat (0 : Int) + (0 : Nat) < List.length (List.set (List.replicate (1 : Nat) Sc.sl0) ((0 : Nat) * (1 : Nat)) (Sc.osl (1 : Nat) (List.length m))), rng ((4096 : Int) - (0 : Int)), decide ((4096 : Int) - (0 : Int) < (↑(List.length m) : Int)) = !false]) .r (by kernel_rfl) (by (repeat' (first | exact obNil | refine obCons ?_ ?_)); all_goals (first | exact trivial | exact ⟨by rw [lit_length]; rfl, trivial⟩ | omega | (unfold rng; omega) | (simp <;> omega))) (by kernel_rfl) rfl [1] [] (by kernel_rfl) obNil
theorem lawOiF (B : Nat) (m nonce key : List (BitVec 8)) (h3 : ¬ 4096 < m.length) {R : Ex → St → Prop} (h : Tri P0 B (cxb false) 59 (1 + 1) ((flat (bodyOf Try.f4)).drop 5) (law1 [(0, .one (.s (.osl 1 m.length)))] 4 m nonce key) R) : Tri P0 B (cxb false) 59 (1 + 1) (flat (bodyOf Try.f4)) ⟨enum 0 (ssAr m nonce key), (ssM m), 1 + 1⟩ R := by
  exact Tri.stepR (cx := cxb false) mix T0ok (HLsok B true true false) 5 4 (orcL [(14, false)]) [0, 4, 5] [(1, 1), (1 + 1, 1 + 1), (1 + 2, 1 + 2)] (1 + 3) (law1 [(0, .one (.s (.osl 1 m.length)))] 4 m nonce key) ([List.length (lit (0 : BitVec (8 : Nat)) (24 : Nat) nonce) = List.length (List.replicate (24 : Nat) (0 : BitVec (8 : Nat))) ∧ True, List.length (lit (0 : BitVec (8 : Nat)) (32 : Nat) key) = List.length (List.replicate (32 : Nat) (0 : BitVec (8 : Nat))) ∧ True, decide ((2147483647 : Int) < (↑(List.length m) : Int)) = false, (0 : Int) ≤ (0 : Int) ∧ (0 : Int) < (↑(1 : Nat) : Int), Int.toNat (0 : Int) + (0 : Nat) < List.length (List.set (List.replicate (1 : Nat) Sc.sl0) ((0 : Nat) * (1 : Nat)) (Sc.osl (1 : Nat) (List.length m))), rng ((4096 : Int) - (0 : Int)), decide ((4096 : Int) - (0 : Int) < (↑(List.length m) : Int)) = !true, rng ((0 : Int) + (↑(List.length m) : Int)), rng ((0 : Int) + (1 : Int))]) (by kernel_rfl) (by (repeat' (first | exact obNil | refine obCons ?_ ?_)); all_goals (first | exact trivial | exact ⟨by rw [lit_length]; rfl, trivial⟩ | omega | (unfold rng; omega) | (simp <;> omega))) h
end Go.Sx

set_option maxRecDepth 1000000
set_option linter.unusedVariables false
namespace Go.Sx
open Go.Proofs
def oiL (m nonce key : List (BitVec 8)) : St := law1 [(0, .one (.s (.osl 1 m.length)))] 4 m nonce key
def oiS0 (m nonce key : List (BitVec 8)) (b : Bool) : St := ⟨[(0, .one (.s (.osl 1 m.length))), (4, .one (.s (.p (1 + 1) 0))), (5, .one (.s (.p (1 + 2) 0))), (8, .one (.s (.b b)))], (oiL m nonce key).m, 1 + 3⟩
def oiS (m nonce key : List (BitVec 8)) (b c : Bool) : St := ⟨[(0, .one (.s (.osl 1 m.length))), (4, .one (.s (.p (1 + 1) 0))), (5, .one (.s (.p (1 + 2) 0))), (8, .one (.s (.b b))), (10, .one (.s (.b c)))], (oiL m nonce key).m, 1 + 3⟩
noncomputable def oiB : List Code := (flat (bodyOf Try.f4)).drop 5
def oiT (m P : List (BitVec 8)) (b : Bool) : St := ⟨[(0, .one (.s (.osl 1 m.length))), (8, .one (.s (.b b))), (10, .one (.s (.b true))), (11, .one (.s (.osl (1 + 1) 32)))], ssM m ++ [(1 + 1, ⟨0, .d8 P, true, true, false⟩)], 1 + 2⟩
/-- behind both boxes -/
theorem oi1 (B : Nat) (m nonce key : List (BitVec 8)) (h3 : ¬ 4096 < m.length) {R : Ex → St → Prop} (h : Tri P0 B (cxb false) 59 (1 + 1) (oiB.drop 2) (oiS m nonce key (openK (lit 0 24 nonce) (lit 0 32 key) m) true) R) :
    Tri P0 B (cxb false) 59 (1 + 1) oiB (oiL m nonce key) R := by
  have hs := spsV_length (lit 0 24 nonce) (lit 0 32 key) []
  refine Tri.stepR (cx := cxb false) mix T0ok (HLsok B true true false) 1 0 noOrc [0, 4, 5, 8] [(1, 1), (1 + 1, 1 + 1), (1 + 2, 1 + 2)] (1 + 3) (oiS0 m nonce key (openK (lit 0 24 nonce) (lit 0 32 key) (List.take (List.length m) (List.drop (0 : Nat) m))))
    [List.length m ≤ List.length m, List.length ([] : List (BitVec 8)) = List.length ([] : List (BitVec 8)) ∧ List.length (List.take (List.length m) (List.drop (0 : Nat) m)) = List.length (List.take (List.length m) (List.drop (0 : Nat) m)) ∧ True, List.length ([] : List (BitVec 8)) ≤ (1000000000 : Nat), List.length (List.take (List.length m) (List.drop (0 : Nat) m)) ≤ (2000000000 : Nat)] (by kernel_rfl) (by rw [tk0]; exact obCons (Nat.le_refl _) <| obCons ⟨rfl, rfl, trivial⟩ <| obCons (by simp) <| obCons (by omega) obNil) ?_
  rw [tk0]
  refine Tri.stepR (cx := cxb false) mix T0ok (HLsok B true true false) 1 0 noOrc [0, 4, 5, 8, 10] [(1, 1), (1 + 1, 1 + 1), (1 + 2, 1 + 2)] (1 + 3) (oiS m nonce key (openK (lit 0 24 nonce) (lit 0 32 key) m) ((openK (lit (0 : BitVec (8 : Nat)) (24 : Nat) nonce) (lit (0 : BitVec (8 : Nat)) (32 : Nat) key) (List.take (List.length (spsV (lit (0 : BitVec (8 : Nat)) (24 : Nat) nonce) (lit (0 : BitVec (8 : Nat)) (32 : Nat) key) [])) (List.drop (0 : Nat) (spsV (lit (0 : BitVec (8 : Nat)) (24 : Nat) nonce) (lit (0 : BitVec (8 : Nat)) (32 : Nat) key) []))))))
    [List.length ([] : List (BitVec 8)) = List.length ([] : List (BitVec 8)) ∧ True, List.length ([] : List (BitVec 8)) ≤ (2000000000 : Nat), List.length (spsV (lit (0 : BitVec (8 : Nat)) (24 : Nat) nonce) (lit (0 : BitVec (8 : Nat)) (32 : Nat) key) []) ≤ List.length (spsV (lit (0 : BitVec (8 : Nat)) (24 : Nat) nonce) (lit (0 : BitVec (8 : Nat)) (32 : Nat) key) []), List.length ([] : List (BitVec 8)) = List.length ([] : List (BitVec 8)) ∧ List.length (List.take (List.length (spsV (lit (0 : BitVec (8 : Nat)) (24 : Nat) nonce) (lit (0 : BitVec (8 : Nat)) (32 : Nat) key) [])) (List.drop (0 : Nat) (spsV (lit (0 : BitVec (8 : Nat)) (24 : Nat) nonce) (lit (0 : BitVec (8 : Nat)) (32 : Nat) key) []))) = List.length (List.take (List.length (spsV (lit (0 : BitVec (8 : Nat)) (24 : Nat) nonce) (lit (0 : BitVec (8 : Nat)) (32 : Nat) key) [])) (List.drop (0 : Nat) (spsV (lit (0 : BitVec (8 : Nat)) (24 : Nat) nonce) (lit (0 : BitVec (8 : Nat)) (32 : Nat) key) []))) ∧ True, List.length ([] : List (BitVec 8)) ≤ (1000000000 : Nat), List.length (List.take (List.length (spsV (lit (0 : BitVec (8 : Nat)) (24 : Nat) nonce) (lit (0 : BitVec (8 : Nat)) (32 : Nat) key) [])) (List.drop (0 : Nat) (spsV (lit (0 : BitVec (8 : Nat)) (24 : Nat) nonce) (lit (0 : BitVec (8 : Nat)) (32 : Nat) key) []))) ≤ (2000000000 : Nat)] (by kernel_rfl) (by rw [tk0, hs]; exact obCons ⟨rfl, trivial⟩ <| obCons (by simp) <| obCons (Nat.le_refl _) <| obCons ⟨rfl, rfl, trivial⟩ <| obCons (by simp) <| obCons (by simp) obNil) ?_
  rw [tk0, openK_seal]
  exact h
theorem kP_strS (nonce key : List (BitVec 8)) : strS (List.replicate 32 0) (kC nonce) (kK nonce key) 32 = kP nonce key := by
  have := allS_key nonce key []
  have e : lit 0 32 (allS nonce key []) = allS nonce key [] := lit_eq (allS_length nonce key [])
  rw [e] at this
  exact this
theorem oiF (B : Nat) (m p : List (BitVec 8)) (b : Bool) (h3 : ¬ 4096 < m.length) (h4 : ¬ m.length < 16) : Tri P0 B (cxb false) 59 (1 + 1) (oiB.drop 5) (oiT m (lit 0 32 p) b) (Ret (cxb false) Try.f4.results.toList ⟨.one (.s (.b (b == decide (poly (lit 0 32 p) (m.drop 16) = m.take 16)))), ssM m, 1 + 1, .eff, []⟩) := by
  have e0 : Int.toNat (↑(List.length m) : Int) - Int.toNat (16 : Int) = (m.drop 16).length := by rw [List.length_drop]; omega
  have e1 : List.take (Int.toNat (↑(List.length m) : Int) - Int.toNat (16 : Int)) (List.drop (0 : Nat) (List.take (Int.toNat (↑(List.length m) : Int) - Int.toNat (16 : Int)) (List.drop (Int.toNat (16 : Int)) m))) = m.drop 16 := by
    rw [e0, show Int.toNat (16 : Int) = 16 from rfl, List.take_length, tk0]
  have e2 : List.take (32 : Nat) (List.drop (0 : Nat) (lit (0 : BitVec (8 : Nat)) (32 : Nat) p)) = lit 0 32 p := rfl
  have e3 : List.take (Int.toNat (16 : Int)) (List.drop (0 : Nat) m) = m.take 16 := by rw [List.drop_zero]; rfl
  have e4 : List.take 16 (List.drop 0 (lit (0 : BitVec 8) 16 (poly (lit 0 32 p) (m.drop 16)))) = poly (lit 0 32 p) (m.drop 16) := by
    rw [List.drop_zero, lit_eq (poly_length _ _), List.take_of_length_le (by rw [poly_length]; exact Nat.le_refl _)]
  have hl : (m.drop 16).length = m.length - 16 := List.length_drop
  have this : Tri P0 B (cxb false) 59 (1 + 1) (oiB.drop 5) (oiT m (lit 0 32 p) b) (Ret (cxb false) Try.f4.results.toList ⟨.one (.s (.b ((b == decide (List.take (16 : Nat) (List.drop (0 : Nat) (lit (0 : BitVec (8 : Nat)) (16 : Nat) (poly (List.take (32 : Nat) (List.drop (0 : Nat) (lit (0 : BitVec (8 : Nat)) (32 : Nat) p))) (List.take (Int.toNat (↑(List.length m) : Int) - Int.toNat (16 : Int)) (List.drop (0 : Nat) (List.take (Int.toNat (↑(List.length m) : Int) - Int.toNat (16 : Int)) (List.drop (Int.toNat (16 : Int)) m))))))) = List.take (Int.toNat (16 : Int)) (List.drop (0 : Nat) m)))))), ssM m, 1 + 1, .eff, []⟩) :=
    Tri.ret (cx := cxb false) mix T0ok (HLsok B true true false) 0 noOrc [6] [1] (1 + 30) ⟨[(6, .one (.s (.b ((b == decide (List.take (16 : Nat) (List.drop (0 : Nat) (lit (0 : BitVec (8 : Nat)) (16 : Nat) (poly (List.take (32 : Nat) (List.drop (0 : Nat) (lit (0 : BitVec (8 : Nat)) (32 : Nat) p))) (List.take (Int.toNat (↑(List.length m) : Int) - Int.toNat (16 : Int)) (List.drop (0 : Nat) (List.take (Int.toNat (↑(List.length m) : Int) - Int.toNat (16 : Int)) (List.drop (Int.toNat (16 : Int)) m))))))) = List.take (Int.toNat (16 : Int)) (List.drop (0 : Nat) m)))))))], ssM m, 1 + 30⟩
    [(0 : Int) ≤ (16 : Int) ∧ (16 : Int) ≤ (↑(List.length m) : Int) ∧ (↑(List.length m) : Int) ≤ (↑(List.length m) : Int) ∧ (↑(List.length m) : Int) ≤ (↑(List.length m) : Int), (32 : Nat) ≤ List.length (lit (0 : BitVec (8 : Nat)) (32 : Nat) p), Int.toNat (↑(List.length m) : Int) - Int.toNat (16 : Int) ≤ List.length (List.take (Int.toNat (↑(List.length m) : Int) - Int.toNat (16 : Int)) (List.drop (Int.toNat (16 : Int)) m)), List.length (List.take (32 : Nat) (List.drop (0 : Nat) (lit (0 : BitVec (8 : Nat)) (32 : Nat) p))) = List.length (List.take (32 : Nat) (List.drop (0 : Nat) (lit (0 : BitVec (8 : Nat)) (32 : Nat) p))) ∧ List.length (List.take (Int.toNat (↑(List.length m) : Int) - Int.toNat (16 : Int)) (List.drop (0 : Nat) (List.take (Int.toNat (↑(List.length m) : Int) - Int.toNat (16 : Int)) (List.drop (Int.toNat (16 : Int)) m)))) = List.length (List.take (Int.toNat (↑(List.length m) : Int) - Int.toNat (16 : Int)) (List.drop (0 : Nat) (List.take (Int.toNat (↑(List.length m) : Int) - Int.toNat (16 : Int)) (List.drop (Int.toNat (16 : Int)) m)))) ∧ True, List.length (List.take (Int.toNat (↑(List.length m) : Int) - Int.toNat (16 : Int)) (List.drop (0 : Nat) (List.take (Int.toNat (↑(List.length m) : Int) - Int.toNat (16 : Int)) (List.drop (Int.toNat (16 : Int)) m)))) ≤ (4294967295 : Nat), (0 : Int) ≤ (16 : Int) ∧ (16 : Int) ≤ (↑(List.length m) : Int) ∧ (16 : Int) ≤ (↑(List.length m) : Int), (16 : Nat) ≤ List.length (lit (0 : BitVec (8 : Nat)) (16 : Nat) (poly (List.take (32 : Nat) (List.drop (0 : Nat) (lit (0 : BitVec (8 : Nat)) (32 : Nat) p))) (List.take (Int.toNat (↑(List.length m) : Int) - Int.toNat (16 : Int)) (List.drop (0 : Nat) (List.take (Int.toNat (↑(List.length m) : Int) - Int.toNat (16 : Int)) (List.drop (Int.toNat (16 : Int)) m)))))), Int.toNat (16 : Int) ≤ List.length m, List.length (List.take (16 : Nat) (List.drop (0 : Nat) (lit (0 : BitVec (8 : Nat)) (16 : Nat) (poly (List.take (32 : Nat) (List.drop (0 : Nat) (lit (0 : BitVec (8 : Nat)) (32 : Nat) p))) (List.take (Int.toNat (↑(List.length m) : Int) - Int.toNat (16 : Int)) (List.drop (0 : Nat) (List.take (Int.toNat (↑(List.length m) : Int) - Int.toNat (16 : Int)) (List.drop (Int.toNat (16 : Int)) m)))))))) = List.length (List.take (16 : Nat) (List.drop (0 : Nat) (lit (0 : BitVec (8 : Nat)) (16 : Nat) (poly (List.take (32 : Nat) (List.drop (0 : Nat) (lit (0 : BitVec (8 : Nat)) (32 : Nat) p))) (List.take (Int.toNat (↑(List.length m) : Int) - Int.toNat (16 : Int)) (List.drop (0 : Nat) (List.take (Int.toNat (↑(List.length m) : Int) - Int.toNat (16 : Int)) (List.drop (Int.toNat (16 : Int)) m)))))))) ∧ List.length (List.take (Int.toNat (16 : Int)) (List.drop (0 : Nat) m)) = List.length (List.take (Int.toNat (16 : Int)) (List.drop (0 : Nat) m)) ∧ True] .r (by kernel_rfl) (by
      rw [e1, e2, e3, e4]
      exact obCons (by omega) <| obCons (by rw [lit_length]; exact Nat.le_refl _) <| obCons (by rw [e0, List.length_take, show Int.toNat (16 : Int) = 16 from rfl]; omega) <| obCons ⟨rfl, rfl, trivial⟩ <| obCons (by omega) <| obCons (by omega) <| obCons (by rw [lit_length]; exact Nat.le_refl _) <| obCons (by omega) <| obCons ⟨rfl, rfl, trivial⟩ obNil) (by kernel_rfl) rfl [1] [] (by kernel_rfl) obNil
  rw [e1, e2, e3, e4] at this
  exact this
theorem openK_long {n k m : List (BitVec 8)} (h : ¬ m.length < 16) : openK n k m = decide (poly (kP n k) (m.drop 16) = m.take 16) := by
  unfold openK
  rw [Nat.ble_eq_true_of_le (by omega), Bool.true_and]
theorem openK_short {n k m : List (BitVec 8)} (h : m.length < 16) : openK n k m = false := by
  unfold openK
  have : Nat.ble 16 m.length = false := by
    cases e : Nat.ble 16 m.length with
    | false => rfl
    | true => have := Nat.le_of_ble_eq_true e; omega
  rw [this]; rfl
theorem lawOpenIs1 (B : Nat) (m nonce key : List (BitVec 8)) : FnE P0 B 1 4 (ssAr m nonce key) (ssM m) (1 + 1) ⟨.one (.s (.b true)), ssM m, 1 + 1, .eff, []⟩ := by
  by_cases h : 2147483647 < m.length
  · exact lawOi1 B m nonce key h
  by_cases h3 : 4096 < m.length
  · exact lawOi2 B m nonce key h h3
  refine FnE.tri (cx := cxb false) (sz := 59) (fn := Try.f4) (c := bodyOf Try.f4) T0ok (by kernel_rfl) (by kernel_rfl) (by kernel_rfl) (by kernel_rfl) (by kernel_rfl) (by kernel_rfl) (Nat.le_refl _) ?_
  refine lawOiF B m nonce key h3 ?_
  refine oi1 B m nonce key h3 ?_
  by_cases h4 : m.length < 16
  · rw [openK_short h4]
    exact Tri.ret (cx := cxb false) mix T0ok (HLsok B true true false) 0 (orcL [(37, true)]) [6] [1] (1 + 30) ⟨[(6, .one (.s (.b true)))], ssM m, 1 + 30⟩ [decide ((↑(List.length m) : Int) < (16 : Int)) = true] .r (by kernel_rfl) (obCons (decide_eq_true (by omega)) obNil) (by kernel_rfl) rfl [1] [] (by kernel_rfl) obNil
  · generalize hb : openK (lit 0 24 nonce) (lit 0 32 key) m = b
    refine Tri.stepR (cx := cxb false) mix T0ok (HLsok B true true false) 3 0 (orcL [(37, false)]) [0, 8, 10, 11] [(1, 1), (1 + 4, 1 + 1)] (1 + 2) (oiT m (strS (List.take (Int.toNat (32 : Int)) (List.drop (0 : Nat) (List.replicate (Int.toNat (32 : Int)) (0 : BitVec (8 : Nat)))))
            (lit (0 : BitVec (8 : Nat)) (16 : Nat) (c24 (List.take (Int.toNat (↑(24 : Nat) : Int) - Int.toNat (0 : Int)) (List.drop (Int.toNat (0 : Int) + (0 : Nat)) (lit (0 : BitVec (8 : Nat)) (24 : Nat) nonce)))))
            (lit (0 : BitVec (8 : Nat)) (32 : Nat) (k24 (List.take (Int.toNat (↑(24 : Nat) : Int) - Int.toNat (0 : Int)) (List.drop (Int.toNat (0 : Int) + (0 : Nat)) (lit (0 : BitVec (8 : Nat)) (24 : Nat) nonce))) (lit (0 : BitVec (8 : Nat)) (32 : Nat) key)))
            (List.length (List.take (Int.toNat (32 : Int)) (List.drop (0 : Nat) (List.replicate (Int.toNat (32 : Int)) (0 : BitVec (8 : Nat))))))) b)
      [decide ((↑(List.length m) : Int) < (16 : Int)) = false, (0 : Int) ≤ (0 : Int) ∧ (0 : Int) ≤ (↑(24 : Nat) : Int) ∧ (↑(24 : Nat) : Int) ≤ (↑(24 : Nat) : Int), (0 : Int) ≤ (32 : Int) ∧ (32 : Int) = (32 : Int) ∧ (32 : Int) ≤ (281474976710656 : Int) ∧ (↑(1 : Nat) : Int) * (32 : Int) ≤ (281474976710656 : Int), Int.toNat (0 : Int) + (0 : Nat) + (Int.toNat (↑(24 : Nat) : Int) - Int.toNat (0 : Int)) ≤ List.length (lit (0 : BitVec (8 : Nat)) (24 : Nat) nonce) ∧ Int.toNat (↑(24 : Nat) : Int) - Int.toNat (0 : Int) ≤ (24 : Nat) - Int.toNat (0 : Int), (0 : Nat) + Int.toNat (32 : Int) ≤ List.length (List.replicate (Int.toNat (32 : Int)) (0 : BitVec (8 : Nat))) ∧ Int.toNat (32 : Int) ≤ Int.toNat (32 : Int), List.length (List.take (Int.toNat (↑(24 : Nat) : Int) - Int.toNat (0 : Int)) (List.drop (Int.toNat (0 : Int) + (0 : Nat)) (lit (0 : BitVec (8 : Nat)) (24 : Nat) nonce))) = List.length (List.take (Int.toNat (↑(24 : Nat) : Int) - Int.toNat (0 : Int)) (List.drop (Int.toNat (0 : Int) + (0 : Nat)) (lit (0 : BitVec (8 : Nat)) (24 : Nat) nonce))) ∧ List.length (List.take (Int.toNat (32 : Int)) (List.drop (0 : Nat) (List.replicate (Int.toNat (32 : Int)) (0 : BitVec (8 : Nat))))) = List.length (List.take (Int.toNat (32 : Int)) (List.drop (0 : Nat) (List.replicate (Int.toNat (32 : Int)) (0 : BitVec (8 : Nat))))) ∧ True, List.length (List.take (Int.toNat (32 : Int)) (List.drop (0 : Nat) (List.replicate (Int.toNat (32 : Int)) (0 : BitVec (8 : Nat))))) ≤ (4294967295 : Nat)] (by kernel_rfl) (obCons (decide_eq_false (by omega)) <| obCons (by omega) <| obCons (by omega) <| obCons ⟨by rw [lit_length]; decide, by decide⟩ <| obCons (by decide) <| obCons ⟨rfl, rfl, trivial⟩ <| obCons (by decide) obNil) ?_
    have ek : strS (List.take (Int.toNat (32 : Int)) (List.drop (0 : Nat) (List.replicate (Int.toNat (32 : Int)) (0 : BitVec (8 : Nat)))))
            (lit (0 : BitVec (8 : Nat)) (16 : Nat) (c24 (List.take (Int.toNat (↑(24 : Nat) : Int) - Int.toNat (0 : Int)) (List.drop (Int.toNat (0 : Int) + (0 : Nat)) (lit (0 : BitVec (8 : Nat)) (24 : Nat) nonce)))))
            (lit (0 : BitVec (8 : Nat)) (32 : Nat) (k24 (List.take (Int.toNat (↑(24 : Nat) : Int) - Int.toNat (0 : Int)) (List.drop (Int.toNat (0 : Int) + (0 : Nat)) (lit (0 : BitVec (8 : Nat)) (24 : Nat) nonce))) (lit (0 : BitVec (8 : Nat)) (32 : Nat) key)))
            (List.length (List.take (Int.toNat (32 : Int)) (List.drop (0 : Nat) (List.replicate (Int.toNat (32 : Int)) (0 : BitVec (8 : Nat)))))) = kP (lit 0 24 nonce) (lit 0 32 key) := by
      have e1 : (lit 0 24 (lit 0 24 nonce) : List (BitVec 8)) = lit 0 24 nonce := lit_eq (lit_length _ _ _)
      have e2 : (lit 0 32 (lit 0 32 key) : List (BitVec 8)) = lit 0 32 key := lit_eq (lit_length _ _ _)
      have := kP_strS (lit 0 24 nonce) (lit 0 32 key)
      unfold kC kK at this
      rw [e1, e2] at this
      exact this
    rw [ek]
    have := oiF B m (kF (lit 0 24 nonce) (lit 0 32 key)) b h3 h4
    have hb2 : (b == decide (poly (kP (lit 0 24 nonce) (lit 0 32 key)) (m.drop 16) = m.take 16)) = true := by
      rw [← openK_long h4, hb]; exact beq_self_eq_true b
    have e9 : lit 0 32 (kF (lit 0 24 nonce) (lit 0 32 key)) = kP (lit 0 24 nonce) (lit 0 32 key) := rfl
    rw [e9, hb2] at this
    exact this
theorem lawOpenIs (B : Nat) {l0 l1 l2 : List (BitVec 8)} (h0 : l0.length ≤ maxLen) (h1 : l1.length = 24) (h2 : l2.length = 32) : FnE P0 B 1 4 [.one (.s (.osl 1 l0.length)), .one (.ag [.d8 l1]), .one (.ag [.d8 l2])] (ssM l0) (1 + 1) ⟨.one (.s (.b true)), ssM l0, 1 + 1, .eff, []⟩ := by
  have := lawOpenIs1 B l0 l1 l2
  unfold ssAr at this
  rw [lit_eq h1, lit_eq h2] at this
  exact this
end Go.Sx
