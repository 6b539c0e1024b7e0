/- secretbox.Open: the first block. Once more, at other keys. secretbox.Open: the tag. Once more, at other keys. secretbox.Open: which way the tag's test goes. Once more, at other keys. secretbox.Open: the states behind the tag. Once more, at other keys. secretbox.Open: room for what is opened. Once more, at other keys. secretbox.Open: what is decrypted by the first block. Once more, at other keys. secretbox.Open: the rest of the box. Once more, at other keys. secretbox.Open as it is called. Once more, at other keys. box.Open; impl.BoxOpen. Conditions: none. -/
import Derived.Test.YtbkobeclkeojoaaDoorW4a
import Derived.Test.YtbkobeclkeojoaaDoorW9
import Derived.Test.YtbkobeclkeojoaaDoorB3
set_option maxRecDepth 1000000
set_option linter.unusedVariables false
namespace Go.Sx.Bx
open Go.Proofs Go.Sx
def oqT (nonce key : List (BitVec 8)) : TM := [(10, .one (.s (.p (5 + 14) 0))), (11, .one (.s (.p (5 + 15) 0))), (12, .one (.s (.p (5 + 16) 0)))]
def oqA (la lm : Nat) : TM := [(0, .one (.s (.osl (5 + 11) la))), (1, .one (.s (.osl (5 + 12) lm)))]
def oqM (a msg : List (BitVec 8)) : Mem := [(5 + 11, ⟨0, .d8 a, true, true, false⟩), (5 + 12, ⟨0, .d8 msg, true, true, false⟩)]
def oqT2 : TM := [(13, .one (.s (.p (5 + 17) 0))), (14, .one (.s (.p (5 + 18) 0)))]
def oqM2 (tag : List (BitVec 8)) : Mem := [(5 + 18, ⟨16, .d8 tag, true, false, false⟩)]
/-- too short -/
theorem openS (B : Nat) (a box nonce key : List (BitVec 8)) (hl : box.length < 16) :
    Tri P0 B (cxb false) 84 (5 + 14) oqRest ⟨enum 0 (sbA a.length box.length), sbM a box nonce key, 5 + 14⟩ (Ret (cxb false) Tryd.f21.results.toList ⟨.tup [.s .sl0, .s (.b false)], [], 5 + 14, .eff, []⟩) :=
  Tri.ret (cx := cxb false) mix T0ok (HXcok B false) 0 (orcL [(21, true)]) [8, 9] [] (5 + 14) ⟨[(8, .one (.s .sl0)), (9, .one (.s (.b false)))], [], 5 + 14⟩ [decide ((↑(List.length box) : Int) < (16 : Int)) = true] .r (by kernel_rfl) (obCons (decide_eq_true (by omega)) obNil) (by kernel_rfl) rfl [] [] (by kernel_rfl) obNil
theorem openA (B : Nat) (a box nonce key : List (BitVec 8)) (hl : 16 ≤ box.length) {R : Ex → St → Prop}
    (h : Tri P0 B (cxb true) 84 (5 + 14) (oqRest.drop 11) ⟨oqA a.length box.length ++ (oqT nonce key ++ oqT2), oqM a box ++ (seM nonce key (kC nonce) ++ oqM2 (List.replicate 16 0)), 5 + 19⟩ R) :
    Tri P0 B (cxb false) 84 (5 + 14) oqRest ⟨enum 0 (sbA a.length box.length), sbM a box nonce key, 5 + 14⟩ R := by
  refine Tri.step (cx := cxb false) mix T0ok (HXcok B false) 3 0 (orcL [(21, false)]) [0, 1, 2, 3] [5 + 8, 5 + 13, 5 + 11, 5 + 12] (5 + 14) ⟨enum 0 (sbA a.length box.length), sbM a box nonce key, 5 + 14⟩ [decide ((↑(List.length box) : Int) < (16 : Int)) = false] (by kernel_rfl) (obCons (decide_eq_false (by omega)) obNil) (by kernel_rfl) ?_
  refine Tri.chg (cx := cxb true) rfl ?_
  exact Tri.stepR (cx := cxb true) mix T0ok (HXcok B true) 8 0 noOrc [0, 1, 10, 11, 12, 13, 14] [(5 + 11, 5 + 11), (5 + 12, 5 + 12), (5 + 14, 5 + 14), (5 + 15, 5 + 15), (5 + 18, 5 + 16), (5 + 22, 5 + 17), (5 + 23, 5 + 18)] (5 + 19) _ [] (by kernel_rfl) obNil h
end Go.Sx.Bx

set_option maxRecDepth 1000000
set_option linter.unusedVariables false
namespace Go.Sx.Bx
open Go.Proofs Go.Sx
def oqSt (a box nonce key tag : List (BitVec 8)) : St := ⟨oqA a.length box.length ++ (oqT nonce key ++ oqT2), oqM a box ++ (seM nonce key (kC nonce) ++ oqM2 tag), 5 + 19⟩
theorem openB (B : Nat) (a box nonce key : List (BitVec 8)) (hl : 16 ≤ box.length) {R : Ex → St → Prop}
    (h : Tri P0 B (cxb false) 84 (5 + 14) (oqRest.drop 12) (oqSt a box nonce key (tagB box)) R) :
    Tri P0 B (cxb true) 84 (5 + 14) (oqRest.drop 11) ⟨oqA a.length box.length ++ (oqT nonce key ++ oqT2), oqM a box ++ (seM nonce key (kC nonce) ++ oqM2 (List.replicate 16 0)), 5 + 19⟩ R := by
  refine Tri.chg (cx := cxb false) rfl ?_
  refine Tri.step (cx := cxb false) mix T0ok (HXcok B false) 1 0 noOrc [0, 1, 10, 11, 12, 13, 14] [5 + 11, 5 + 12, 5 + 14, 5 + 15, 5 + 16, 5 + 17, 5 + 18] (5 + 19) (oqSt a box nonce key (splice (List.replicate (16 : Nat) (0 : BitVec (8 : Nat))) (Int.toNat (0 : Int) + (0 : Nat))
            (List.take (Nat.min (List.length box) (Int.toNat (↑(16 : Nat) : Int) - Int.toNat (0 : Int)))
              (List.drop (0 : Nat) box))))
    [(0 : Int) ≤ (0 : Int) ∧ (0 : Int) ≤ (↑(16 : Nat) : Int) ∧ (↑(16 : Nat) : Int) ≤ (↑(16 : Nat) : Int),
  (0 : Nat) + List.length box ≤ List.length box ∧
    Int.toNat (0 : Int) + (0 : Nat) + (Int.toNat (↑(16 : Nat) : Int) - Int.toNat (0 : Int)) ≤ (16 : Nat)] (by kernel_rfl) (obCons (by omega) <| obCons (by omega) obNil) (by kernel_rfl) ?_
  have e : splice (List.replicate (16 : Nat) (0 : BitVec (8 : Nat))) (Int.toNat (0 : Int) + (0 : Nat)) (List.take (Nat.min (List.length box) (Int.toNat (↑(16 : Nat) : Int) - Int.toNat (0 : Int))) (List.drop (0 : Nat) box)) = tagB box := by
    have e1 : Int.toNat (↑(16 : Nat) : Int) - Int.toNat (0 : Int) = 16 := by decide
    have e2 : Int.toNat (0 : Int) + 0 = 0 := by decide
    have e3 : Nat.min (List.length box) 16 = 16 := Nat.min_eq_right hl
    have e4 : (List.take 16 box).length = 16 := by rw [List.length_take]; omega
    rw [e1, e2, e3, List.drop_zero]
    unfold splice tagB
    rw [List.take_zero, List.nil_append, e4, List.drop_of_length_le (by simp), List.append_nil, lit_eq e4]
  rw [e]
  exact h
end Go.Sx.Bx

set_option maxRecDepth 1000000
set_option linter.unusedVariables false
namespace Go.Sx.Bx
open Go.Proofs Go.Sx
/-- another tag -/
theorem openF (B : Nat) (a box nonce key : List (BitVec 8)) (hl : 16 ≤ box.length) (hm : box.length ≤ 2000000000) (h : oqG nonce key box = true) :
    Tri P0 B (cxb false) 84 (5 + 14) (oqRest.drop 12) (oqSt a box nonce key (tagB box)) (Ret (cxb false) Tryd.f21.results.toList ⟨.tup [.s .sl0, .s (.b false)], [], 5 + 14, .eff, []⟩) :=
  Tri.ret (cx := cxb false) mix T0ok (HXcok B false) 0 (orcL [(37, true)]) [8, 9] [] (5 + 19) ⟨[(8, .one (.s .sl0)), (9, .one (.s (.b false)))], [], 5 + 19⟩ (oqOb nonce key box true) .r (by kernel_rfl) (oqOb_ok hl hm h) (by kernel_rfl) rfl [] [] (by kernel_rfl) obNil
def oqM3 (a msg : List (BitVec 8)) : Mem := [(5 + 11, ⟨0, .d8 a, true, true, false⟩), (5 + 12, ⟨0, .d8 msg, false, true, false⟩)]
theorem openG (B : Nat) (a box nonce key : List (BitVec 8)) (hl : 16 ≤ box.length) (hm : box.length ≤ 2000000000) (h : oqG nonce key box = false) {R : Ex → St → Prop}
    (hR : Tri P0 B (cxb false) 84 (5 + 14) (oqRest.drop 14) ⟨oqA a.length box.length ++ oqT nonce key, oqM3 a box ++ [(5 + 14, ⟨32, .d8 (kK nonce key), true, false, false⟩), (5 + 15, ⟨16, .d8 (kC nonce), true, false, false⟩), (5 + 16, ⟨64, .d8 (kF nonce key), true, false, false⟩)], 5 + 17⟩ R) :
    Tri P0 B (cxb false) 84 (5 + 14) (oqRest.drop 12) (oqSt a box nonce key (tagB box)) R :=
  Tri.stepR (cx := cxb false) mix T0ok (HXcok B false) 2 0 (orcL [(37, false)]) [0, 1, 10, 11, 12] [(5 + 11, 5 + 11), (5 + 12, 5 + 12), (5 + 14, 5 + 14), (5 + 15, 5 + 15), (5 + 16, 5 + 16)] (5 + 17) _ (oqOb nonce key box false) (by kernel_rfl) (oqOb_ok hl hm h) hR
end Go.Sx.Bx

set_option maxRecDepth 1000000
set_option linter.unusedVariables false
namespace Go.Sx.Bx
open Go.Proofs Go.Sx
def oqS0 (a box nonce key : List (BitVec 8)) : St := ⟨oqA a.length box.length ++ oqT nonce key, oqM3 a box ++ [(5 + 14, ⟨32, .d8 (kK nonce key), true, false, false⟩), (5 + 15, ⟨16, .d8 (kC nonce), true, false, false⟩), (5 + 16, ⟨64, .d8 (kF nonce key), true, false, false⟩)], 5 + 17⟩
def oqK (nonce key ctr : List (BitVec 8)) : Mem := [(5 + 14, ⟨32, .d8 (kK nonce key), true, false, false⟩), (5 + 15, ⟨16, .d8 ctr, true, false, false⟩), (5 + 16, ⟨64, .d8 (kF nonce key), true, false, false⟩)]
/-- behind the room that was made -/
def oqP (nonce key box ctr D : List (BitVec 8)) (N tot cp o n c : Nat) : St := ⟨[(0, .one (.s (.sl (5 + 17) o n c))), (1, .one (.s (.osl (5 + 12) box.length))), (15, .one (.s (.sl (5 + 17) 0 tot cp)))] ++ oqT nonce key, [(5 + 17, ⟨N, .d8 D, true, false, false⟩), (5 + 12, ⟨0, .d8 box, false, true, false⟩)] ++ oqK nonce key ctr, 5 + 18⟩
def oqP0 (nonce key box ctr : List (BitVec 8)) : St := ⟨[(0, .one (.s .sl0)), (1, .one (.s (.osl (5 + 12) box.length))), (15, .one (.s .sl0))] ++ oqT nonce key, [(5 + 12, ⟨0, .d8 box, false, true, false⟩)] ++ oqK nonce key ctr, 5 + 17⟩
/-- within the rounds -/
def oqL (nonce key bx ctr D : List (BitVec 8)) (N l tot cp o n c m0 j : Nat) : St := ⟨[(0, .one (.s (.sl (5 + 17) o n c))), (1, .one (.s (.osl (5 + 18) l))), (15, .one (.s (.sl (5 + 17) 0 tot cp))), (16, .one (.s (.osl (5 + 18) m0))), (54, .one (.s (.osl (5 + 18) m0))), (55, .one (.s (.i m0))), (56, .one (.s (.i j)))] ++ oqT nonce key, [(5 + 17, ⟨N, .d8 D, true, false, false⟩), (5 + 18, ⟨l, .d8 bx, false, false, false⟩)] ++ oqK nonce key ctr, 5 + 19⟩
end Go.Sx.Bx

set_option maxRecDepth 1000000
set_option linter.unusedVariables false
namespace Go.Sx.Bx
open Go.Proofs Go.Sx
theorem openH (B : Nat) (a box nonce key : List (BitVec 8)) (hl : 16 ≤ box.length) (hla : a.length ≤ 1000000000) (hlb : box.length ≤ 2000000000) {R : Ex → St → Prop}
    (h : ∀ cp o, a.length + (box.length - 16) ≤ cp → (0 < box.length - 16 → o = a.length) → o ≤ a.length → Tri P0 B (cxb false) 84 (5 + 14) (oqRest.drop 15) (oqP nonce key box (kC nonce) (a ++ List.replicate (cp - a.length) 0) cp (a.length + (box.length - 16)) cp o (box.length - 16) (cp - a.length)) R)
    (h0 : a = [] → box.length = 16 → Tri P0 B (cxb false) 84 (5 + 14) (oqRest.drop 15) (oqP0 nonce key box (kC nonce)) R) :
    Tri P0 B (cxb false) 84 (5 + 14) (oqRest.drop 14) (oqS0 a box nonce key) R := by
  refine Tri.freeze (k := 5 + 11) (d := 0) (g := ⟨0, .d8 a, true, true, false⟩) (l := a) (by kernel_rfl) rfl rfl rfl (by kernel_rfl) (fun c hc => ?_) (fun hn => ?_)
  · by_cases hcap : a.length + (box.length - 16) ≤ c
    · refine Tri.stepR (cx := cxb false) mix T0ok (HSfok B true false) 1 0 noOrc oqPt [(5 + 17, 5 + 17), (5 + 12, 5 + 12), (5 + 14, 5 + 14), (5 + 15, 5 + 15), (5 + 16, 5 + 16)] (5 + 18)
        (oqP nonce key box (kC nonce) (a ++ List.replicate (c - a.length) 0) c (Int.toNat ((↑(List.length a) : Int) + ((↑(List.length box) : Int) - (16 : Int))) - Int.toNat (0 : Int)) (c - Int.toNat (0 : Int))
          (if c - Int.toNat (0 : Int) = Int.toNat (↑(List.length a) : Int) then
              if c = Int.toNat (0 : Int) then (0 : Nat) else Int.toNat (0 : Int) + (0 : Nat)
            else Int.toNat (↑(List.length a) : Int) + if c = Int.toNat (0 : Int) then (0 : Nat) else Int.toNat (0 : Int) + (0 : Nat))
          (Int.toNat (↑(Int.toNat ((↑(List.length a) : Int) + ((↑(List.length box) : Int) - (16 : Int))) - Int.toNat (0 : Int)) : Int) - Int.toNat (↑(List.length a) : Int))
          (c - Int.toNat (0 : Int) - Int.toNat (↑(List.length a) : Int)) |> fun s => ⟨(s.t.set 2 (15, .one (.s (.sl (5 + 17) (if c = Int.toNat (0 : Int) then (0 : Nat) else Int.toNat (0 : Int) + (0 : Nat)) (Int.toNat ((↑(List.length a) : Int) + ((↑(List.length box) : Int) - (16 : Int))) - Int.toNat (0 : Int)) (c - Int.toNat (0 : Int)))))), s.m, s.nx⟩)
        [rng ((↑(List.length box) : Int) - (16 : Int)), rng ((↑(List.length a) : Int) + ((↑(List.length box) : Int) - (16 : Int))), decide (((↑(List.length a) : Int) + ((↑(List.length box) : Int) - (16 : Int))) ≤ (↑c : Int)) = true,
          (0 : Int) ≤ (0 : Int) ∧ (0 : Int) ≤ ((↑(List.length a) : Int) + ((↑(List.length box) : Int) - (16 : Int))) ∧ ((↑(List.length a) : Int) + ((↑(List.length box) : Int) - (16 : Int))) ≤ (↑c : Int),
          (0 : Int) ≤ (↑(List.length a) : Int) ∧ (↑(List.length a) : Int) ≤ (↑(Int.toNat ((↑(List.length a) : Int) + ((↑(List.length box) : Int) - (16 : Int))) - Int.toNat (0 : Int)) : Int) ∧ (↑(Int.toNat ((↑(List.length a) : Int) + ((↑(List.length box) : Int) - (16 : Int))) - Int.toNat (0 : Int)) : Int) ≤ (↑(c - Int.toNat (0 : Int)) : Int)] (by kernel_rfl)
        (obCons (by unfold rng; omega) <| obCons (by unfold rng; omega) <| obCons (decide_eq_true (by omega)) <| obCons (by omega) <| obCons (by omega) obNil) ?_
      have e1 : (if c = Int.toNat (0 : Int) then (0 : Nat) else Int.toNat (0 : Int) + (0 : Nat)) = 0 := by split <;> rfl
      have e3 : Int.toNat ((↑(List.length a) : Int) + ((↑(List.length box) : Int) - (16 : Int))) - Int.toNat (0 : Int) = a.length + (box.length - 16) := by omega
      have e4 : c - Int.toNat (0 : Int) = c := by omega
      rw [e1, e3, e4]
      have e5 : Int.toNat (↑(a.length + (box.length - 16)) : Int) - Int.toNat (↑(List.length a) : Int) = box.length - 16 := by omega
      have e6 : c - Int.toNat (↑(List.length a) : Int) = c - a.length := by omega
      rw [e5, e6]
      refine h c _ hcap (fun hp => ?_) ?_
      · rw [if_neg (by omega)]; omega
      · split <;> omega
    · have e0 : Int.toNat ((↑(List.length a) : Int) + ((↑(List.length box) : Int) - (16 : Int))) = a.length + (box.length - 16) := by omega
      refine Tri.stepR (cx := cxb false) mix T0ok (HSfok B false false) 1 0 noOrc oqPt [(5 + 18, 5 + 17), (5 + 12, 5 + 12), (5 + 14, 5 + 14), (5 + 15, 5 + 15), (5 + 16, 5 + 16)] (5 + 18)
        (oqP nonce key box (kC nonce) (splice (List.replicate (Int.toNat ((↑(List.length a) : Int) + ((↑(List.length box) : Int) - (16 : Int)))) (0 : BitVec (8 : Nat))) (0 : Nat) (List.take (Nat.min (List.length a) (Int.toNat ((↑(List.length a) : Int) + ((↑(List.length box) : Int) - (16 : Int))))) (List.drop (0 : Nat) (a ++ List.replicate (c - a.length) 0)))) (Int.toNat ((↑(List.length a) : Int) + ((↑(List.length box) : Int) - (16 : Int)))) (Int.toNat ((↑(List.length a) : Int) + ((↑(List.length box) : Int) - (16 : Int)))) (Int.toNat ((↑(List.length a) : Int) + ((↑(List.length box) : Int) - (16 : Int))))
          (if Int.toNat ((↑(List.length a) : Int) + ((↑(List.length box) : Int) - (16 : Int))) = Int.toNat (↑(List.length a) : Int) then (0 : Nat) else Int.toNat (↑(List.length a) : Int) + (0 : Nat))
          (Int.toNat (↑(Int.toNat ((↑(List.length a) : Int) + ((↑(List.length box) : Int) - (16 : Int)))) : Int) - Int.toNat (↑(List.length a) : Int))
          (Int.toNat ((↑(List.length a) : Int) + ((↑(List.length box) : Int) - (16 : Int))) - Int.toNat (↑(List.length a) : Int)))
        [rng ((↑(List.length box) : Int) - (16 : Int)), rng ((↑(List.length a) : Int) + ((↑(List.length box) : Int) - (16 : Int))), decide (((↑(List.length a) : Int) + ((↑(List.length box) : Int) - (16 : Int))) ≤ (↑c : Int)) = false,
          (0 : Int) ≤ ((↑(List.length a) : Int) + ((↑(List.length box) : Int) - (16 : Int))) ∧ ((↑(List.length a) : Int) + ((↑(List.length box) : Int) - (16 : Int))) = ((↑(List.length a) : Int) + ((↑(List.length box) : Int) - (16 : Int))) ∧ ((↑(List.length a) : Int) + ((↑(List.length box) : Int) - (16 : Int))) ≤ (281474976710656 : Int) ∧ (↑(1 : Nat) : Int) * ((↑(List.length a) : Int) + ((↑(List.length box) : Int) - (16 : Int))) ≤ (281474976710656 : Int),
          (0 : Nat) + List.length a ≤ List.length (a ++ List.replicate (c - a.length) (0 : BitVec 8)) ∧ (0 : Nat) + Int.toNat ((↑(List.length a) : Int) + ((↑(List.length box) : Int) - (16 : Int))) ≤ Int.toNat ((↑(List.length a) : Int) + ((↑(List.length box) : Int) - (16 : Int))),
          (0 : Int) ≤ (↑(List.length a) : Int) ∧ (↑(List.length a) : Int) ≤ (↑(Int.toNat ((↑(List.length a) : Int) + ((↑(List.length box) : Int) - (16 : Int)))) : Int) ∧ (↑(Int.toNat ((↑(List.length a) : Int) + ((↑(List.length box) : Int) - (16 : Int)))) : Int) ≤ (↑(Int.toNat ((↑(List.length a) : Int) + ((↑(List.length box) : Int) - (16 : Int)))) : Int)] (by kernel_rfl)
        (obCons (by unfold rng; omega) <| obCons (by unfold rng; omega) <| obCons (decide_eq_false (by omega)) <| obCons (by omega) <| obCons (by rw [List.length_append]; omega) <| obCons (by omega) obNil) ?_
      rw [e0]
      have e5 : Int.toNat (↑(a.length + (box.length - 16)) : Int) - Int.toNat (↑(List.length a) : Int) = box.length - 16 := by omega
      have e6 : a.length + (box.length - 16) - Int.toNat (↑(List.length a) : Int) = a.length + (box.length - 16) - a.length := by omega
      have e7 : splice (List.replicate (a.length + (box.length - 16)) (0 : BitVec 8)) 0 (List.take (Nat.min a.length (a.length + (box.length - 16))) (List.drop 0 (a ++ List.replicate (c - a.length) 0))) = a ++ List.replicate (a.length + (box.length - 16) - a.length) 0 := by
        have e8 : Nat.min a.length (a.length + (box.length - 16)) = a.length := Nat.min_eq_left (by omega)
        rw [e8, List.drop_zero, List.take_append_of_le_length (Nat.le_refl _), List.take_length]
        unfold splice
        rw [List.take_zero, List.nil_append, Nat.zero_add, List.drop_replicate]
      rw [e5, e6, e7]
      refine h _ _ (Nat.le_refl _) (fun hp => ?_) ?_
      · rw [if_neg (by omega)]; omega
      · split <;> omega
  · subst hn
    by_cases hz : box.length = 16
    · refine Tri.stepR (cx := cxb false) mix T0ok (HSfok B true false) 1 0 noOrc oqPt [(5 + 12, 5 + 12), (5 + 14, 5 + 14), (5 + 15, 5 + 15), (5 + 16, 5 + 16)] (5 + 17) (oqP0 nonce key box (kC nonce))
        [rng ((↑(List.length box) : Int) - (16 : Int)), rng ((0 : Int) + ((↑(List.length box) : Int) - (16 : Int))), decide ((0 : Int) + ((↑(List.length box) : Int) - (16 : Int)) ≤ (0 : Int)) = true, (0 : Int) ≤ (0 : Int) ∧ (0 : Int) ≤ (0 : Int) + ((↑(List.length box) : Int) - (16 : Int)) ∧ (0 : Int) + ((↑(List.length box) : Int) - (16 : Int)) ≤ (↑(0 : Nat) : Int),
          (0 : Int) ≤ (0 : Int) ∧ (0 : Int) ≤ (0 : Int) ∧ (0 : Int) ≤ (↑(0 : Nat) : Int)] (by kernel_rfl)
        (obCons (by unfold rng; omega) <| obCons (by unfold rng; omega) <| obCons (decide_eq_true (by omega)) <| obCons (by omega) <| obCons (by omega) obNil) ?_
      exact h0 rfl hz
    · have e0 : Int.toNat ((0 : Int) + ((↑(List.length box) : Int) - (16 : Int))) = box.length - 16 := by omega
      refine Tri.stepR (cx := cxb false) mix T0ok (HSfok B false false) 1 0 noOrc oqPt [(5 + 17, 5 + 17), (5 + 12, 5 + 12), (5 + 14, 5 + 14), (5 + 15, 5 + 15), (5 + 16, 5 + 16)] (5 + 18)
        (oqP nonce key box (kC nonce) (splice (List.replicate (Int.toNat ((0 : Int) + ((↑(List.length box) : Int) - (16 : Int)))) (0 : BitVec (8 : Nat))) (0 : Nat) (List.take (Nat.min (0 : Nat) (Int.toNat ((0 : Int) + ((↑(List.length box) : Int) - (16 : Int))))) (List.drop (0 : Nat) ([] : List (BitVec 8))))) (Int.toNat ((0 : Int) + ((↑(List.length box) : Int) - (16 : Int)))) (Int.toNat ((0 : Int) + ((↑(List.length box) : Int) - (16 : Int)))) (Int.toNat ((0 : Int) + ((↑(List.length box) : Int) - (16 : Int))))
          (if Int.toNat ((0 : Int) + ((↑(List.length box) : Int) - (16 : Int))) = Int.toNat (0 : Int) then (0 : Nat) else Int.toNat (0 : Int) + (0 : Nat))
          (Int.toNat (↑(Int.toNat ((0 : Int) + ((↑(List.length box) : Int) - (16 : Int)))) : Int) - Int.toNat (0 : Int))
          (Int.toNat ((0 : Int) + ((↑(List.length box) : Int) - (16 : Int))) - Int.toNat (0 : Int)))
        [rng ((↑(List.length box) : Int) - (16 : Int)), rng ((0 : Int) + ((↑(List.length box) : Int) - (16 : Int))), decide ((0 : Int) + ((↑(List.length box) : Int) - (16 : Int)) ≤ (0 : Int)) = false,
          (0 : Int) ≤ (0 : Int) + ((↑(List.length box) : Int) - (16 : Int)) ∧ (0 : Int) + ((↑(List.length box) : Int) - (16 : Int)) = (0 : Int) + ((↑(List.length box) : Int) - (16 : Int)) ∧ (0 : Int) + ((↑(List.length box) : Int) - (16 : Int)) ≤ (281474976710656 : Int) ∧ (↑(1 : Nat) : Int) * ((0 : Int) + ((↑(List.length box) : Int) - (16 : Int))) ≤ (281474976710656 : Int),
          (0 : Nat) + (0 : Nat) ≤ List.length ([] : List (BitVec 8)) ∧ (0 : Nat) + Int.toNat ((0 : Int) + ((↑(List.length box) : Int) - (16 : Int))) ≤ Int.toNat ((0 : Int) + ((↑(List.length box) : Int) - (16 : Int))),
          (0 : Int) ≤ (0 : Int) ∧ (0 : Int) ≤ (↑(Int.toNat ((0 : Int) + ((↑(List.length box) : Int) - (16 : Int)))) : Int) ∧ (↑(Int.toNat ((0 : Int) + ((↑(List.length box) : Int) - (16 : Int)))) : Int) ≤ (↑(Int.toNat ((0 : Int) + ((↑(List.length box) : Int) - (16 : Int)))) : Int)] (by kernel_rfl)
        (obCons (by unfold rng; omega) <| obCons (by unfold rng; omega) <| obCons (decide_eq_false (by omega)) <| obCons (by omega) <| obCons (by simp) <| obCons (by omega) obNil) ?_
      rw [e0]
      have e5 : Int.toNat (↑(box.length - 16) : Int) - Int.toNat (0 : Int) = box.length - 16 := by omega
      have e6 : box.length - 16 - Int.toNat (0 : Int) = box.length - 16 := by omega
      have e7 : splice (List.replicate (box.length - 16) (0 : BitVec 8)) 0 (List.take (Nat.min 0 (box.length - 16)) (List.drop 0 ([] : List (BitVec 8)))) = List.replicate (box.length - 16) 0 := by
        rw [List.drop_nil, List.take_nil]
        unfold splice
        rw [List.take_zero, List.nil_append, List.nil_append, List.length_nil, Nat.add_zero, List.drop_zero]
      rw [e5, e6, e7]
      have := h (box.length - 16) (if box.length - 16 = Int.toNat (0 : Int) then (0 : Nat) else Int.toNat (0 : Int) + (0 : Nat)) (by simp) (fun _ => by split <;> rfl) (by split <;> exact Nat.le_refl _)
      simpa using this
end Go.Sx.Bx

set_option maxRecDepth 1000000
set_option linter.unusedVariables false
namespace Go.Sx.Bx
open Go.Proofs Go.Sx
def oqLk : List (Nat × Nat) := [(5 + 17, 5 + 17), (5 + 18, 5 + 18), (5 + 14, 5 + 14), (5 + 15, 5 + 15), (5 + 16, 5 + 16)]
def oqLs : List Nat := [5 + 17, 5 + 18, 5 + 14, 5 + 15, 5 + 16]
theorem openC (B : Nat) (nonce key box ctr D : List (BitVec 8)) (N tot cp o n c m0 : Nat) (hl : 16 ≤ box.length) (hm : (32 < (box.drop 16).length ∧ m0 = 32) ∨ ((box.drop 16).length ≤ 32 ∧ m0 = (box.drop 16).length)) {R : Ex → St → Prop}
    (h : Tri P0 B (cxb false) 84 (5 + 14) ((oqRest.drop 15).drop 5) (oqL nonce key (box.drop 16) ctr D N (box.drop 16).length tot cp o n c m0 0) R) :
    Tri P0 B (cxb false) 84 (5 + 14) (oqRest.drop 15) (oqP nonce key box ctr D N tot cp o n c) R := by
  have e1 : Int.toNat (↑(List.length box) : Int) - Int.toNat (16 : Int) = (box.drop 16).length := by rw [List.length_drop]; omega
  have e2 := oq16 hl
  rcases hm with ⟨h1, rfl⟩ | ⟨h1, rfl⟩
  · refine Tri.stepR (cx := cxb false) mix T0ok (HXcok B false) 5 0 (orcL [(51, true)]) oqLt oqLk (5 + 19) (oqL nonce key (List.take (Int.toNat (↑(List.length box) : Int) - Int.toNat (16 : Int)) (List.drop (Int.toNat (16 : Int)) box)) ctr D N (Int.toNat (↑(List.length box) : Int) - Int.toNat (16 : Int)) tot cp o n c 32 0)
      [(0 : Int) ≤ (16 : Int) ∧ (16 : Int) ≤ (↑(List.length box) : Int) ∧ (↑(List.length box) : Int) ≤ (↑(List.length box) : Int) ∧ (↑(List.length box) : Int) ≤ (↑(List.length box) : Int),
  decide ((32 : Int) < (↑(Int.toNat (↑(List.length box) : Int) - Int.toNat (16 : Int)) : Int)) = true,
  (0 : Int) ≤ (32 : Int) ∧ (32 : Int) ≤ (↑(Int.toNat (↑(List.length box) : Int) - Int.toNat (16 : Int)) : Int) ∧ (32 : Int) ≤ (↑(List.length (List.take (Int.toNat (↑(List.length box) : Int) - Int.toNat (16 : Int)) (List.drop (Int.toNat (16 : Int)) box))) : Int)] (by kernel_rfl)
      (obCons (by omega) <| obCons (decide_eq_true (by omega)) <| obCons (by rw [e2]; omega) obNil) ?_
    rw [e2, e1]
    exact h
  · refine Tri.stepR (cx := cxb false) mix T0ok (HXcok B false) 5 0 (orcL [(51, false)]) oqLt oqLk (5 + 19) (oqL nonce key (List.take (Int.toNat (↑(List.length box) : Int) - Int.toNat (16 : Int)) (List.drop (Int.toNat (16 : Int)) box)) ctr D N (Int.toNat (↑(List.length box) : Int) - Int.toNat (16 : Int)) tot cp o n c (Int.toNat (↑(List.length box) : Int) - Int.toNat (16 : Int)) 0)
      [(0 : Int) ≤ (16 : Int) ∧ (16 : Int) ≤ (↑(List.length box) : Int) ∧ (↑(List.length box) : Int) ≤ (↑(List.length box) : Int) ∧ (↑(List.length box) : Int) ≤ (↑(List.length box) : Int),
  decide ((32 : Int) < (↑(Int.toNat (↑(List.length box) : Int) - Int.toNat (16 : Int)) : Int)) = false] (by kernel_rfl)
      (obCons (by omega) <| obCons (decide_eq_false (by omega)) obNil) ?_
    rw [e2, e1]
    exact h
/-- the bytes that the first block decrypts -/
theorem openD (B : Nat) (nonce key bx ctr a : List (BitVec 8)) (N tot cp o n c m0 r : Nat) (hm : m0 ≤ bx.length) (h32 : m0 ≤ 32) (hn : m0 ≤ n) (hr : m0 ≤ r) (ho : 0 < m0 → o = a.length) (hN : a.length + r ≤ N) {R : Ex → St → Prop}
    (h : Tri P0 B (cxb false) 84 (5 + 14) ((oqRest.drop 15).drop 6) (oqL nonce key bx ctr (seD a [] (encK (kF nonce key) bx m0) (r - m0)) N bx.length tot cp o n c m0 m0) R) :
    Tri P0 B (cxb false) 84 (5 + 14) ((oqRest.drop 15).drop 5) (oqL nonce key bx ctr (seD a [] [] r) N bx.length tot cp o n c m0 0) R := by
  refine Tri.loop (id := 0) (ι := { j : Nat // j ≤ m0 }) rfl (fun j => oqL nonce key bx ctr (seD a [] (encK (kF nonce key) bx j.1) (r - j.1)) N bx.length tot cp o n c m0 j.1) (fun j => m0 - j.1) ⟨0, Nat.zero_le _⟩ rfl (fun j => by show 5 + 14 ≤ 5 + 19; omega)
    (R1 := fun s => s = oqL nonce key bx ctr (seD a [] (encK (kF nonce key) bx m0) (r - m0)) N bx.length tot cp o n c m0 m0) (fun ⟨j, hj⟩ => ?_) (fun s' hs => ?_)
  · by_cases hlt : j < m0
    · refine Tri.fin (cx := cxb false) mix T0ok (HXcok B false) 0 (orcL [(57, true)]) oqLt oqLs (5 + 19) .n (oqL nonce key bx ctr ((seD a [] (encK (kF nonce key) bx j) (r - j)).set (Int.toNat (↑j : Int) + o) ((kF nonce key).getD (Int.toNat ((32 : Int) + (↑j : Int)) + 0) 0 ^^^ bx.getD (Int.toNat (↑j : Int) + 0) 0)) N bx.length tot cp o n c m0 (j + 1))
        [decide ((↑j : Int) < (↑m0 : Int)) = true, (0 : Int) ≤ (↑j : Int) ∧ (↑j : Int) < (↑m0 : Int) ∧ (↑j : Int) < (↑(List.length bx) : Int), Int.toNat (↑j : Int) + (0 : Nat) < List.length bx, rng ((32 : Int) + (↑j : Int)), (0 : Int) ≤ (32 : Int) + (↑j : Int) ∧ (32 : Int) + (↑j : Int) < (↑(64 : Nat) : Int),
          Int.toNat ((32 : Int) + (↑j : Int)) + (0 : Nat) < List.length (kF nonce key), (0 : Int) ≤ (↑j : Int) ∧ (↑j : Int) < (↑n : Int), Int.toNat (↑j : Int) + o + (1 : Nat) ≤ N, rng ((↑j : Int) + (1 : Int))] (by kernel_rfl)
        (obCons (decide_eq_true (by omega)) <| obCons (by omega) <| obCons (by omega) <| obCons (by unfold rng; omega) <| obCons (by omega) <| obCons (by have : (kF nonce key).length = 64 := rfl; omega) <| obCons (by omega) <| obCons (by have := ho (by omega); omega) <| obCons (by unfold rng; omega) obNil) (by kernel_rfl) ⟨⟨j + 1, hlt⟩, by show m0 - (j + 1) < m0 - j; omega, ?_⟩
      have e := seD_set (a := a) (X := []) (E := encK (kF nonce key) bx j) (r := r - j) (by omega) ((kF nonce key).getD (32 + j) 0 ^^^ bx.getD j 0)
      rw [encK_length, ← encK_succ] at e
      have i1 : Int.toNat (↑j : Int) + o = j + (a.length + ([] : List (BitVec 8)).length) := by rw [ho (by omega), List.length_nil]; omega
      have i2 : Int.toNat ((32 : Int) + (↑j : Int)) + 0 = 32 + j := by omega
      have i3 : Int.toNat (↑j : Int) + 0 = j := by omega
      rw [i1, i2, i3, e, show r - j - 1 = r - (j + 1) by omega]
    · obtain rfl : j = m0 := by omega
      exact Tri.fin (cx := cxb false) mix T0ok (HXcok B false) 0 (orcL [(57, false)]) oqLt oqLs (5 + 19) (.x 0) (oqL nonce key bx ctr (seD a [] (encK (kF nonce key) bx j) (r - j)) N bx.length tot cp o n c j j) [decide ((↑j : Int) < (↑j : Int)) = false] (by kernel_rfl) (obCons (by simp) obNil) (by kernel_rfl) rfl
  · subst hs
    exact h
end Go.Sx.Bx

set_option maxRecDepth 1000000
set_option linter.unusedVariables false
namespace Go.Sx.Bx
open Go.Proofs Go.Sx
def oqN (nonce key ctr D bx2 : List (BitVec 8)) (N l3 tot cp o3 n3 c3 : Nat) : St := ⟨[(0, .one (.s (.sl (5 + 17) o3 n3 c3))), (1, .one (.s (.osl (5 + 19) l3))), (15, .one (.s (.sl (5 + 17) 0 tot cp))), (10, .one (.s (.p (5 + 14) 0))), (11, .one (.s (.p (5 + 15) 0)))],
  [(5 + 17, ⟨N, .d8 D, true, false, false⟩), (5 + 19, ⟨l3, .d8 bx2, false, false, false⟩), (5 + 14, ⟨32, .d8 (kK nonce key), true, false, false⟩), (5 + 15, ⟨16, .d8 ctr, true, false, false⟩)], 5 + 20⟩
def oqO (D : List (BitVec 8)) (N tot cp : Nat) : St := ⟨[(15, .one (.s (.sl (5 + 17) 0 tot cp)))], [(5 + 17, ⟨N, .d8 D, true, false, false⟩)], 5 + 20⟩
/-- what secretbox.Open comes to -/
def obEf (D : List (BitVec 8)) (b : Bool) : Ef := ⟨.tup [.s (.osl (5 + 14) D.length), .s (.b b)], [(5 + 14, ⟨D.length, .d8 D, true, false, false⟩)], 5 + 15, .eff, []⟩

theorem openE1 (B : Nat) (nonce key bx a : List (BitVec 8)) (cp m0 o : Nat) (hmm : m0 ≤ bx.length) (hcp : a.length + bx.length ≤ cp) (ho : 0 < bx.length → o = a.length) (hoz : o ≤ a.length) (hlm : bx.length ≤ 2000000000) {R : Ex → St → Prop}
    (h : Tri P0 B (cxb false) 84 (5 + 14) ((oqRest.drop 15).drop 10) (oqO (seD a [] (sbE nonce key bx m0) (cp - a.length - bx.length)) cp (a.length + bx.length) cp) R) :
    Tri P0 B (cxb false) 84 (5 + 14) ((oqRest.drop 15).drop 6) (oqL nonce key bx (kC nonce) (seD a [] (encK (kF nonce key) bx m0) (cp - a.length - m0)) cp bx.length (a.length + bx.length) cp o bx.length (cp - a.length) m0 m0) R := by
  have E := encK_length (kF nonce key) bx m0
  refine Tri.step (cx := cxb false) mix T0ok (HXcok B false) 3 0 noOrc [0, 1, 15, 10, 11] [5 + 17, 5 + 19, 5 + 14, 5 + 15] (5 + 20)
    (oqN nonce key ((kC nonce).set (Int.toNat (8 : Int) + 0) 1#8) (seD a [] (encK (kF nonce key) bx m0) (cp - a.length - m0)) (List.take (Int.toNat (↑(List.length bx) : Int) - Int.toNat (↑m0 : Int)) (List.drop (Int.toNat (↑m0 : Int)) bx)) cp (Int.toNat (↑(List.length bx) : Int) - Int.toNat (↑m0 : Int)) (a.length + bx.length) cp
      (if cp - a.length = Int.toNat (↑m0 : Int) then o else Int.toNat (↑m0 : Int) + o) (Int.toNat (↑bx.length : Int) - Int.toNat (↑m0 : Int)) (cp - a.length - Int.toNat (↑m0 : Int)))
    [(0 : Int) ≤ (↑m0 : Int) ∧ (↑m0 : Int) ≤ (↑(List.length bx) : Int) ∧ (↑(List.length bx) : Int) ≤ (↑(List.length bx) : Int) ∧ (↑(List.length bx) : Int) ≤ (↑(List.length bx) : Int), (0 : Int) ≤ (↑m0 : Int) ∧ (↑m0 : Int) ≤ (↑bx.length : Int) ∧ (↑bx.length : Int) ≤ (↑(cp - a.length) : Int), (0 : Int) ≤ (8 : Int) ∧ (8 : Int) < (↑(16 : Nat) : Int), Int.toNat (8 : Int) + (0 : Nat) + (1 : Nat) ≤ (16 : Nat)]
    (by kernel_rfl) (obCons (by omega) <| obCons (by omega) <| obCons (by omega) <| obCons (by decide) obNil) (by kernel_rfl) ?_
  have i1 : Int.toNat (↑(List.length bx) : Int) - Int.toNat (↑m0 : Int) = bx.length - m0 := by omega
  have i2 : Int.toNat (↑m0 : Int) = m0 := by omega
  have i3 : List.take (bx.length - m0) (List.drop m0 bx) = bx.drop m0 := List.take_of_length_le (by rw [List.length_drop]; omega)
  have i4 : (kC nonce).set (Int.toNat (8 : Int) + 0) 1#8 = kC1 nonce := (lit_eq (z := 0) (n := 16) (by rw [List.length_set]; rfl)).symm
  rw [i1, i2, i3, i4]
  have hD : (seD a [] (encK (kF nonce key) bx m0) (cp - a.length - m0)).length = cp := by rw [seD_length, E, List.length_nil]; omega
  have hl2 : (bx.drop m0).length = bx.length - m0 := List.length_drop
  have hoff : 0 < bx.length - m0 → (if cp - a.length = m0 then o else m0 + o) = a.length + ([] : List (BitVec 8)).length + (encK (kF nonce key) bx m0).length := fun h0 => by
    rw [if_neg (by omega), ho (by omega), E, List.length_nil]; omega
  have hob : (if cp - a.length = m0 then o else m0 + o) + (bx.length - m0) ≤ cp := by
    rcases Nat.eq_zero_or_pos (bx.length - m0) with h0 | h0
    · rw [h0]; split <;> omega
    · rw [hoff h0, E, List.length_nil]; omega
  generalize ho3 : (if cp - a.length = m0 then o else m0 + o) = o3 at *
  have hX : (List.take (bx.length - m0) (List.drop o3 (seD a [] (encK (kF nonce key) bx m0) (cp - a.length - m0)))).length = bx.length - m0 := by rw [List.length_take, List.length_drop, hD]; omega
  have hS : (List.take (bx.length - m0) (List.drop 0 (bx.drop m0))) = bx.drop m0 := by rw [List.drop_zero, ← hl2, List.take_length]
  have hM : mixS (List.take (bx.length - m0) (List.drop 0 (bx.drop m0))) (List.take 16 (List.drop 0 (kC1 nonce))) (List.take 32 (List.drop 0 (kK nonce key))) (List.take (bx.length - m0) (List.drop o3 (seD a [] (encK (kF nonce key) bx m0) (cp - a.length - m0)))) (List.length (List.take (bx.length - m0) (List.drop 0 (bx.drop m0)))) = strS (bx.drop m0) (kC1 nonce) (kK nonce key) (bx.length - m0) := by
    rw [hS, hl2]
    unfold mixS
    have e0 : List.drop (bx.length - m0) (List.take (bx.length - m0) (List.drop o3 (seD a [] (encK (kF nonce key) bx m0) (cp - a.length - m0)))) = [] := List.drop_of_length_le (by rw [hX]; omega)
    rw [e0, List.append_nil]
    rfl
  refine Tri.step (cx := cxb false) mix T0ok (HXcok B false) 1 0 noOrc [15] [5 + 17] (5 + 20)
    (oqO (splice (seD a [] (encK (kF nonce key) bx m0) (cp - a.length - m0)) o3 (mixS (List.take (bx.length - m0) (List.drop 0 (bx.drop m0))) (List.take 16 (List.drop 0 (kC1 nonce))) (List.take 32 (List.drop 0 (kK nonce key))) (List.take (bx.length - m0) (List.drop o3 (seD a [] (encK (kF nonce key) bx m0) (cp - a.length - m0)))) (List.length (List.take (bx.length - m0) (List.drop 0 (bx.drop m0)))))) cp (a.length + bx.length) cp)
    [o3 + (bx.length - m0) ≤ List.length (seD a [] (encK (kF nonce key) bx m0) (cp - a.length - m0)) ∧ (bx.length - m0) ≤ cp - a.length - m0, (bx.length - m0) ≤ List.length (bx.drop m0), (0 : Nat) + (16 : Nat) ≤ List.length (kC1 nonce), (0 : Nat) + (32 : Nat) ≤ List.length (kK nonce key),
      List.length (mixS (List.take (bx.length - m0) (List.drop 0 (bx.drop m0))) (List.take 16 (List.drop 0 (kC1 nonce))) (List.take 32 (List.drop 0 (kK nonce key))) (List.take (bx.length - m0) (List.drop o3 (seD a [] (encK (kF nonce key) bx m0) (cp - a.length - m0)))) (List.length (List.take (bx.length - m0) (List.drop 0 (bx.drop m0))))) = List.length (List.take (bx.length - m0) (List.drop o3 (seD a [] (encK (kF nonce key) bx m0) (cp - a.length - m0)))) ∧ List.length (List.take (bx.length - m0) (List.drop 0 (bx.drop m0))) = List.length (List.take (bx.length - m0) (List.drop 0 (bx.drop m0))) ∧ List.length (List.take 16 (List.drop 0 (kC1 nonce))) = List.length (List.take 16 (List.drop 0 (kC1 nonce))) ∧ List.length (List.take 32 (List.drop 0 (kK nonce key))) = List.length (List.take 32 (List.drop 0 (kK nonce key))) ∧ True,
      List.length (List.take (bx.length - m0) (List.drop 0 (bx.drop m0))) ≤ List.length (List.take (bx.length - m0) (List.drop o3 (seD a [] (encK (kF nonce key) bx m0) (cp - a.length - m0))))]
    (by kernel_rfl) (obCons (by rw [hD]; omega) <| obCons (by rw [hl2]; omega) <| obCons (by show 0 + 16 ≤ 16; decide) <| obCons (by rw [kK_length]; decide) <| obCons ⟨by rw [hM, hX, strS_length], rfl, rfl, rfl, trivial⟩ <| obCons (by rw [hX, hS, hl2]; omega) obNil) (by kernel_rfl) ?_
  rw [hM]
  have hF : splice (seD a [] (encK (kF nonce key) bx m0) (cp - a.length - m0)) o3 (strS (bx.drop m0) (kC1 nonce) (kK nonce key) (bx.length - m0)) = seD a [] (sbE nonce key bx m0) (cp - a.length - bx.length) := by
    rcases Nat.eq_zero_or_pos (bx.length - m0) with h0 | h0
    · unfold sbE
      rw [h0]
      have : strS (bx.drop m0) (kC1 nonce) (kK nonce key) 0 = [] := List.eq_nil_of_length_eq_zero (by rw [strS_length])
      rw [this, seD_none, List.append_nil, show cp - a.length - m0 = cp - a.length - bx.length by omega]
    · rw [hoff h0]
      have := seD_fill (a := a) (X := []) (E := encK (kF nonce key) bx m0) (S := strS (bx.drop m0) (kC1 nonce) (kK nonce key) (bx.length - m0)) (r := cp - a.length - m0) (by rw [strS_length]; omega)
      rw [this, strS_length, show cp - a.length - m0 - (bx.length - m0) = cp - a.length - bx.length by omega]
      rfl
  rw [hF]
  exact h
theorem openE2 (B : Nat) (nonce key bx a : List (BitVec 8)) (cp m0 : Nat) (hmm : m0 ≤ bx.length) (hcp : a.length + bx.length ≤ cp) :
    Tri P0 B (cxb false) 84 (5 + 14) ((oqRest.drop 15).drop 10) (oqO (seD a [] (sbE nonce key bx m0) (cp - a.length - bx.length)) cp (a.length + bx.length) cp) (Ret (cxb false) Tryd.f21.results.toList (obEf (a ++ sbE nonce key bx m0) true)) := by
  have hE := sbE_length nonce key bx hmm
  have hD : (seD a [] (sbE nonce key bx m0) (cp - a.length - bx.length)).length = cp := by rw [seD_length, hE, List.length_nil]; omega
  refine Tri.thaw (k := 5 + 17) (d := 15) (o := 0) (n := a.length + bx.length) (c := cp) (N := cp) (D := seD a [] (sbE nonce key bx m0) (cp - a.length - bx.length)) (by kernel_rfl) (by kernel_rfl) (by rw [hD]; omega) hcp ?_
  have hfin : List.take (a.length + bx.length) (List.drop 0 (seD a [] (sbE nonce key bx m0) (cp - a.length - bx.length))) = a ++ sbE nonce key bx m0 := by
    rw [List.drop_zero]
    exact seD_take (by rw [hE, List.length_nil]; omega)
  rw [hfin]
  have hlen : a.length + bx.length = (a ++ sbE nonce key bx m0).length := by rw [List.length_append, hE]
  rw [hlen]
  refine Tri.stepR (cx := cxb false) mix T0ok (HXcok B false) 1 0 noOrc [8, 9] [(5 + 20, 5 + 14)] (5 + 15) ⟨[(8, .one (.s (.osl (5 + 14) (a ++ sbE nonce key bx m0).length))), (9, .one (.s (.b true)))], [(5 + 14, ⟨(a ++ sbE nonce key bx m0).length, .d8 (a ++ sbE nonce key bx m0), true, false, false⟩)], 5 + 15⟩ [] (by kernel_rfl) obNil ?_
  exact Tri.ret (cx := cxb false) mix T0ok (HXcok B false) 0 noOrc [8, 9] [5 + 14] (5 + 15) ⟨[(8, .one (.s (.osl (5 + 14) (a ++ sbE nonce key bx m0).length))), (9, .one (.s (.b true)))], [(5 + 14, ⟨(a ++ sbE nonce key bx m0).length, .d8 (a ++ sbE nonce key bx m0), true, false, false⟩)], 5 + 15⟩ [] .r (by kernel_rfl) obNil (by kernel_rfl) rfl [5 + 14] [] (by kernel_rfl) obNil
end Go.Sx.Bx

set_option maxRecDepth 1000000
set_option linter.unusedVariables false
namespace Go.Sx.Bx
open Go.Proofs Go.Sx
def oqZ (nonce key bx ctr : List (BitVec 8)) (l : Nat) : St := ⟨[(0, .one (.s .sl0)), (1, .one (.s (.osl (5 + 18) l))), (15, .one (.s (.osl (5 + 17) 0))), (16, .one (.s (.osl (5 + 18) l))), (54, .one (.s (.osl (5 + 18) l))), (55, .one (.s (.i l))), (56, .one (.s (.i (0 : Nat))))] ++ oqT nonce key,
  [(5 + 17, ⟨0, .d8 [], true, false, false⟩), (5 + 18, ⟨l, .d8 bx, false, false, false⟩)] ++ oqK nonce key ctr, 5 + 19⟩
/-- nothing ahead, nothing in the box -/
theorem openZ (B : Nat) (nonce key box : List (BitVec 8)) (hl : box.length = 16) :
    Tri P0 B (cxb false) 84 (5 + 14) (oqRest.drop 15) (oqP0 nonce key box (kC nonce)) (Ret (cxb false) Tryd.f21.results.toList (obEf [] true)) := by
  refine Tri.nilKey (d := 15) (by kernel_rfl) ?_
  have e1 : Int.toNat (↑(List.length box) : Int) - Int.toNat (16 : Int) = 0 := by omega
  refine Tri.stepR (cx := cxb false) mix T0ok (HXcok B false) 5 0 (orcL [(51, false)]) oqLt oqLk (5 + 19) (oqZ nonce key (List.take (Int.toNat (↑(List.length box) : Int) - Int.toNat (16 : Int)) (List.drop (Int.toNat (16 : Int)) box)) (kC nonce) (Int.toNat (↑(List.length box) : Int) - Int.toNat (16 : Int)))
      [(0 : Int) ≤ (16 : Int) ∧ (16 : Int) ≤ (↑(List.length box) : Int) ∧ (↑(List.length box) : Int) ≤ (↑(List.length box) : Int) ∧ (↑(List.length box) : Int) ≤ (↑(List.length box) : Int),
  decide ((32 : Int) < (↑(Int.toNat (↑(List.length box) : Int) - Int.toNat (16 : Int)) : Int)) = false] (by kernel_rfl)
      (obCons (by omega) <| obCons (decide_eq_false (by omega)) obNil) ?_
  rw [e1, List.take_zero]
  refine Tri.chg (cx := cxb true) rfl ?_
  refine Tri.stepR (cx := cxb true) mix T0ok (HXcok B true) 6 2 (orcL [(57, false)]) [8, 9] [(5 + 17, 5 + 14)] (5 + 15) ⟨[(8, .one (.s (.osl (5 + 14) 0))), (9, .one (.s (.b true)))], [(5 + 14, ⟨0, .d8 [], true, false, false⟩)], 5 + 15⟩ [decide ((↑(0 : Nat) : Int) < (↑(0 : Nat) : Int)) = false, List.length (List.take (Int.toNat (↑(0 : Nat) : Int) - Int.toNat (↑(0 : Nat) : Int)) (List.drop (0 : Nat) (List.take (Int.toNat (↑(0 : Nat) : Int) - Int.toNat (↑(0 : Nat) : Int)) (List.drop (Int.toNat (↑(0 : Nat) : Int)) ([] : List (BitVec 8)))))) ≤ List.length ([] : List (BitVec 8))] (by kernel_rfl) (obCons (by decide) <| obCons (by simp) obNil) ?_
  refine Tri.chg (cx := cxb false) rfl ?_
  exact Tri.ret (cx := cxb false) mix T0ok (HXcok B false) 0 noOrc [8, 9] [5 + 14] (5 + 15) ⟨[(8, .one (.s (.osl (5 + 14) 0))), (9, .one (.s (.b true)))], [(5 + 14, ⟨0, .d8 [], true, false, false⟩)], 5 + 15⟩ [] .r (by kernel_rfl) obNil (by kernel_rfl) rfl [5 + 14] [] (by kernel_rfl) obNil
theorem open1 (B : Nat) (a box nonce key : List (BitVec 8)) (hla : a.length ≤ 1000000000) (hlb : box.length ≤ 2000000000) : FnE P0 B 5 21 (sbA a.length box.length) (sbM a box nonce key) (5 + 14) (obEf (openV nonce key a box) (openK nonce key box)) := by
  by_cases hl : 16 ≤ box.length
  · have hk : openK nonce key box = !oqG nonce key box := by
      unfold openK
      rw [oqG_eq hl, Bool.not_not, Nat.ble_eq_true_of_le hl, Bool.true_and]
    cases hg : oqG nonce key box with
    | true =>
      have hk2 : openK nonce key box = false := by rw [hk, hg]; rfl
      have hv : openV nonce key a box = [] := by unfold openV; rw [hk2]; rfl
      rw [hk2, hv]
      refine FnE.nilTup (.d8 []) rfl rfl rfl (c := .eff) (ob := []) ?_
      refine FnE.tri (cx := cxb false) (sz := 84) (fn := Tryd.f21) (c := bodyOf Tryd.f21) T0ok (by kernel_rfl) (by kernel_rfl) (by kernel_rfl) (by kernel_rfl) (by kernel_rfl) (by kernel_rfl) (Nat.le_refl _) ?_
      refine openA B a box nonce key hl ?_
      refine openB B a box nonce key hl ?_
      exact openF B a box nonce key hl hlb hg
    | false =>
      have hk2 : openK nonce key box = true := by rw [hk, hg]; rfl
      have hv : openV nonce key a box = a ++ sbE nonce key (box.drop 16) (m32 (box.drop 16).length) := by unfold openV; rw [hk2]; rfl
      rw [hk2]
      have hbl : (box.drop 16).length = box.length - 16 := List.length_drop
      have hm := m32_or (box.drop 16).length
      have hmm : m32 (box.drop 16).length ≤ (box.drop 16).length := by omega
      have hlen : (openV nonce key a box).length = a.length + (box.length - 16) := by rw [hv, List.length_append, sbE_length _ _ _ hmm, hbl]
      refine FnE.tri (cx := cxb false) (sz := 84) (fn := Tryd.f21) (c := bodyOf Tryd.f21) T0ok (by kernel_rfl) (by kernel_rfl) (by kernel_rfl) (by kernel_rfl) (by kernel_rfl) (by kernel_rfl) (by show 5 + 14 ≤ 5 + 15; omega) ?_
      refine openA B a box nonce key hl ?_
      refine openB B a box nonce key hl ?_
      refine openG B a box nonce key hl hlb hg ?_
      refine openH B a box nonce key hl hla hlb (fun cp o hcp ho hoz => ?_) (fun ha hb => ?_)
      · refine openC B nonce key box _ _ _ _ _ _ _ _ (m32 (box.drop 16).length) hl hm ?_
        have ez : a ++ List.replicate (cp - a.length) (0 : BitVec 8) = seD a [] [] (cp - a.length) := rfl
        rw [ez]
        rw [← hbl] at hcp ho ⊢
        refine openD B nonce key (box.drop 16) _ a _ _ _ _ _ _ (m32 (box.drop 16).length) (cp - a.length) hmm (by omega) hmm (by omega) (fun h0 => ho (by omega)) (by omega) ?_
        refine openE1 B nonce key (box.drop 16) a cp _ o hmm hcp ho hoz (by omega) ?_
        rw [hv]
        exact openE2 B nonce key (box.drop 16) a cp _ hmm hcp
      · have hv0 : openV nonce key a box = [] := List.eq_nil_of_length_eq_zero (by rw [hlen, ha, hb]; rfl)
        rw [hv0]
        exact openZ B nonce key box hb
  · have hk2 : openK nonce key box = false := by
      unfold openK
      have : Nat.ble 16 box.length = false := by
        cases h : Nat.ble 16 box.length with
        | false => rfl
        | true => exact absurd (Nat.le_of_ble_eq_true h) hl
      rw [this]; rfl
    have hv : openV nonce key a box = [] := by unfold openV; rw [hk2]; rfl
    rw [hk2, hv]
    refine FnE.nilTup (.d8 []) rfl rfl rfl (c := .eff) (ob := []) ?_
    refine FnE.tri (cx := cxb false) (sz := 84) (fn := Tryd.f21) (c := bodyOf Tryd.f21) T0ok (by kernel_rfl) (by kernel_rfl) (by kernel_rfl) (by kernel_rfl) (by kernel_rfl) (by kernel_rfl) (Nat.le_refl _) ?_
    exact openS B a box nonce key (by omega)
end Go.Sx.Bx

set_option maxRecDepth 1000000
set_option linter.unusedVariables false
namespace Go.Sx.Bx
open Go.Proofs Go.Sx
theorem open0 (B : Nat) (a m nonce pub priv : List (BitVec 8)) {R : Ex → St → Prop} (h : Tri P0 B (cxb true) 22 (5 + 13) ((flat (bodyOf Tryd.f15)).drop 3) (bxS 12 a m nonce (preI (lit 0 32 pub) (lit 0 32 priv))) R) :
    Tri P0 B (cxb true) 22 (5 + 13) (flat (bodyOf Tryd.f15)) ⟨enum 0 (bxA a.length m.length), bxM a m nonce pub priv, 5 + 13⟩ R := by
  have hP : preI (lit 0 32 pub) (lit 0 32 priv) = hs z16 (lit 0 32 (smF (lit 0 32 priv) (lit 0 32 pub))) sigB := by rw [lit_eq (smF_length _ _)]; rfl
  cases hz : decide ((orA (smF (lit 0 32 priv) (lit 0 32 pub))).toNat = 0) with
  | false =>
    rw [hP] at h
    exact Tri.stepR (cx := cxb true) mix T0ok (HbYok B true) 3 0 noOrc [0, 1, 2, 12] bxKs (5 + 14) _ (bxOb pub priv false) (by kernel_rfl) (bxOb_ok hz) h
  | true =>
    have h0 := orA_zero (smF_length (lit 0 32 priv) (lit 0 32 pub)) (of_decide_eq_true hz)
    have hP2 : preI (lit 0 32 pub) (lit 0 32 priv) = hs z16 z32 sigB := by unfold preI; rw [h0]
    rw [hP2] at h
    exact Tri.stepR (cx := cxb true) mix T0ok (HbZok B true) 3 0 noOrc [0, 1, 2, 12] bxKs (5 + 14) _ (bxOb pub priv true) (by kernel_rfl) (bxOb_ok hz) h
noncomputable def HbO (a m nonce sh : List (BitVec 8)) (c : Bool) : Hook := hookC 21 (hookFr (sbA a.length m.length) (sbM a m nonce sh) (5 + 14) (obEf (openV nonce sh a m) (openK nonce sh m)).v (obEf (openV nonce sh a m) (openK nonce sh m)).m (5 + 15)) (H0 c)
theorem HbOok (B : Nat) {a m nonce sh : List (BitVec 8)} (hla : a.length ≤ 1000000000) (hlm : m.length ≤ 2000000000) (c : Bool) : HookOk P0 B 5 (HbO a m nonce sh c) := .cons (.frame (open1 B a m nonce sh hla hlm)) (H0ok B c)
def byEf (V : List (BitVec 8)) (b : Bool) : Ef := ⟨.tup [.s (.osl (5 + 13) V.length), .s (.b b)], (5 + 13, ⟨V.length, .d8 V, true, false, false⟩) :: gM, 5 + 14, .eff, []⟩
def byS (k t u : Nat) (V : List (BitVec 8)) (b : Bool) (M : Mem) : St := ⟨[(t, .one (.s (.osl k V.length))), (u, .one (.s (.b b)))], (k, ⟨V.length, .d8 V, true, false, false⟩) :: M, k + 1⟩
theorem bxOpen1 (B : Nat) (a m nonce pub priv : List (BitVec 8)) (hla : a.length ≤ 1000000000) (hlm : m.length ≤ 2000000000) : FnE P0 B 5 15 (bxA a.length m.length) (bxM a m nonce pub priv) (5 + 13) (byEf (openV nonce (shK pub priv) a m) (openK nonce (shK pub priv) m)) := by
  refine FnE.tri (cx := cxb false) (sz := 22) (fn := Tryd.f15) (c := bodyOf Tryd.f15) T0ok (by kernel_rfl) (by kernel_rfl) (by kernel_rfl) (by kernel_rfl) (by kernel_rfl) (by kernel_rfl) (by show 5 + 13 ≤ 5 + 14; omega) ?_
  refine Tri.chg (cx := cxb true) rfl ?_
  refine open0 B a m nonce pub priv ?_
  show Tri _ _ _ _ _ _ (bxS 12 a m nonce (shK pub priv)) _
  generalize shK pub priv = sh
  refine Tri.chg (cx := cxb false) rfl ?_
  refine Tri.stepR (cx := cxb false) mix T0ok (HbOok B (a := a) (m := m) (nonce := nonce) (sh := sh) hla hlm false) 1 0 noOrc [10, 11] [(5 + 14, 5 + 13), (3, 3), (5, 5)] (5 + 14) (byS (5 + 13) 10 11 (openV nonce sh a m) (openK nonce sh m) gM) (frOb a m nonce sh) (by kernel_rfl) (frOb_ok a m nonce sh) ?_
  exact Tri.ret (cx := cxb false) mix T0ok (H0ok B false) 0 noOrc [10, 11] [5 + 13, 3, 5] (5 + 14) (byS (5 + 13) 10 11 (openV nonce sh a m) (openK nonce sh m) gM) [] .r (by kernel_rfl) obNil (by kernel_rfl) rfl [5 + 13, 3, 5] [] (by kernel_rfl) obNil
noncomputable def HbJ (a m nonce pub priv : List (BitVec 8)) (c : Bool) : Hook := hookC 14 (hookOf (cxb c) cloneCt) (hookC 15 (hookFr (bxA a.length m.length) (bxM a m nonce pub priv) (5 + 13) (byEf (openV nonce (shK pub priv) a m) (openK nonce (shK pub priv) m)).v (byEf (openV nonce (shK pub priv) a m) (openK nonce (shK pub priv) m)).m (5 + 14)) (H0 c))
theorem HbJok (B : Nat) {a m nonce pub priv : List (BitVec 8)} (hla : a.length ≤ 1000000000) (hlm : m.length ≤ 2000000000) (c : Bool) : HookOk P0 B 5 (HbJ a m nonce pub priv c) := .cons (.ct (cx := cxb c) (clone_ok B)) (.cons (.frame (bxOpen1 B a m nonce pub priv hla hlm)) (H0ok B c))
def ibM2 (a m : List (BitVec 8)) : Mem := [(5 + 1, ⟨a.length, .d8 a, false, false, false⟩), (5 + 7, ⟨m.length, .d8 m, false, false, false⟩)] ++ gM
def ibA2 (a m nonce pub priv : List (BitVec 8)) : List SV := [.one (.s (.osl (5 + 1) a.length)), .one (.s (.osl (5 + 7) m.length))] ++ ibT nonce pub priv
def jbEf (V : List (BitVec 8)) (b : Bool) (M : Mem) : Ef := ⟨.tup [.s (.osl (5 + 8) V.length), .s (.b b)], (5 + 8, ⟨V.length, .d8 V, true, false, false⟩) :: M, 5 + 9, .eff, []⟩
theorem ibOpen1 (B : Nat) (a m nonce pub priv : List (BitVec 8)) (hla : a.length ≤ 1000000000) (hlm : m.length ≤ 2000000000) : FnE P0 B 5 7 (ibA2 a m nonce pub priv) (ibM2 a m) (5 + 8) (jbEf (openV nonce (shK pub priv) a m) (openK nonce (shK pub priv) m) (ibM2 a m)) := by
  refine FnE.tri (cx := cxb false) (sz := 19) (fn := Tryd.f7) (c := bodyOf Tryd.f7) T0ok (by kernel_rfl) (by kernel_rfl) (by kernel_rfl) (by kernel_rfl) (by kernel_rfl) (by kernel_rfl) (by show 5 + 8 ≤ 5 + 9; omega) ?_
  refine Tri.stepR (cx := cxb false) mix T0ok (HbJok B (nonce := nonce) (pub := pub) (priv := priv) hla hlm false) 2 0 noOrc [10, 11] [(5 + 13, 5 + 8), (5 + 1, 5 + 1), (5 + 7, 5 + 7), (3, 3), (5, 5)] (5 + 9) (byS (5 + 8) 10 11 (openV nonce (shK pub priv) a m) (openK nonce (shK pub priv) m) (ibM2 a m)) (len3 nonce pub priv (rdOb a (rdOb m (calOb a (List.take a.length (List.drop 0 a)) m (List.take m.length (List.drop 0 m)) nonce pub priv)))) (by kernel_rfl) (len3_ok (rdOb_ok (by omega) (rdOb_ok (by omega) (calOb_ok a m nonce pub priv)))) ?_
  exact Tri.ret (cx := cxb false) mix T0ok (H0ok B false) 0 noOrc [10, 11] [5 + 8, 5 + 1, 5 + 7, 3, 5] (5 + 9) (byS (5 + 8) 10 11 (openV nonce (shK pub priv) a m) (openK nonce (shK pub priv) m) (ibM2 a m)) [] .r (by kernel_rfl) obNil (by kernel_rfl) rfl [5 + 8, 5 + 1, 5 + 7, 3, 5] [] (by kernel_rfl) obNil
end Go.Sx.Bx
