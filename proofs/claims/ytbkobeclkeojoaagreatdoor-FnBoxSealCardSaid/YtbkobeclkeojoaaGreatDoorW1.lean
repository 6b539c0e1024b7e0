/- secretbox: what is called; the first block. secretbox: what is called; the first block. Once more, at other keys. secretbox.Seal: the first block. secretbox.Seal: the first block. Once more, at other keys. secretbox.Seal: room for what is sealed. secretbox.Seal: room for what is sealed. Once more, at other keys. Conditions: none. -/
import Derived.Test.YtbkobeclkeojoaaGreatDoorVQ1
import Derived.Test.YtbkobeclkeojoaaGreatDoorVP12b
import Derived.Test.YtbkobeclkeojoaaGreatDoorSx37
set_option maxRecDepth 1000000
set_option linter.unusedVariables false
namespace Go.Sx
open Go.Proofs
noncomputable def inX : In := ⟨Tryz.f57, bodyOf Tryz.f57, 66, .eff, noOrc⟩
theorem ioX : InOk P0 57 inX := ⟨by kernel_rfl, by kernel_rfl, by kernel_rfl⟩
noncomputable def HXa (c : Bool) : Hook := hookC 57 (hookAlt (hookOf (cxb c) genCt) (inl (cxb c) (HGs c) inX)) (HGs c)
theorem HXaok (B : Nat) (c : Bool) : HookOk P0 B 2 (HXa c) := .cons (.alt (.ct (cx := cxb c) (gen_ok B)) (.inl (cx := cxb c) mix T0ok (HGsok B c) ioX)) (HGsok B c)
noncomputable def HXb (c : Bool) : Hook := hookC 46 (hookOf (cxb c) hsCt) (hookC 51 (hookOf (cxb c) psumCt) (HXa c))
theorem HXbok (B : Nat) (c : Bool) : HookOk P0 B 2 (HXb c) := .cons (.ct (cx := cxb c) (hs_ok B)) (.cons (.ct (cx := cxb c) (psum_ok B)) (HXaok B c))

noncomputable def in49 : In := ⟨Tryz.f49, bodyOf Tryz.f49, 0, .eff, noOrc⟩
theorem io49 : InOk P0 49 in49 := ⟨by kernel_rfl, by kernel_rfl, by kernel_rfl⟩
noncomputable def HXc0 (c : Bool) : Hook := hookC 49 (inl (cxb c) (HXb c) in49) (HXb c)
theorem HXc0ok (B : Nat) (c : Bool) : HookOk P0 B 2 (HXc0 c) := HookOk.cons (HkOk.inl (cx := cxb c) mix T0ok (HXbok B c) io49) (HXbok B c)
noncomputable def in48 : In := ⟨Tryz.f48, bodyOf Tryz.f48, 0, .eff, noOrc⟩
theorem io48 : InOk P0 48 in48 := ⟨by kernel_rfl, by kernel_rfl, by kernel_rfl⟩
noncomputable def HXc (c : Bool) : Hook := hookC 48 (inl (cxb c) (HXc0 c) in48) (HXc0 c)
theorem HXcok (B : Nat) (c : Bool) : HookOk P0 B 2 (HXc c) := HookOk.cons (HkOk.inl (cx := cxb c) mix T0ok (HXc0ok B c) io48) (HXc0ok B c)
def sfOrc (b : Bool) : Orc := orcL [(14, b)]
noncomputable def inSf (b : Bool) : In := ⟨Tryz.f50, bodyOf Tryz.f50, 0, .eff, sfOrc b⟩
theorem ioSf (b : Bool) : InOk P0 50 (inSf b) := ⟨by kernel_rfl, by kernel_rfl, by kernel_rfl⟩
/-- sliceForAppend: which way its test goes -/
noncomputable def HSf (b : Bool) (c : Bool) : Hook := hookC 50 (inl (cxb c) (HXc c) (inSf b)) (HXc c)
theorem HSfok (B : Nat) (b : Bool) (c : Bool) : HookOk P0 B 2 (HSf b c) := .cons (.inl (cx := cxb c) mix T0ok (HXcok B c) (ioSf b)) (HXcok B c)
/-- where a message is sealed: nonce, key, what is ahead, message -/
def sbM (ahead msg nonce key : List (BitVec 8)) : Mem := [(2 + 2, ⟨24, .d8 (lit 0 24 nonce), true, false, false⟩), (2 + 3, ⟨32, .d8 (lit 0 32 key), true, false, false⟩), (2 + 4, ⟨0, .d8 ahead, true, true, false⟩), (2 + 5, ⟨0, .d8 msg, true, true, false⟩)]
def sbA (la lm : Nat) : List SV := [.one (.s (.osl (2 + 4) la)), .one (.s (.osl (2 + 5) lm)), .one (.s (.p (2 + 2) 0)), .one (.s (.p (2 + 3) 0))]
end Go.Sx

set_option maxRecDepth 1000000
set_option linter.unusedVariables false
namespace Go.Sx.Bx
open Go.Proofs Go.Sx
/-- where a message is sealed: nonce, key, what is ahead, message -/
def sbM (ahead msg nonce key : List (BitVec 8)) : Mem := [(2 + 8, ⟨24, .d8 (lit 0 24 nonce), true, false, false⟩), (2 + 13, ⟨32, .d8 (lit 0 32 key), true, false, false⟩), (2 + 11, ⟨0, .d8 ahead, true, true, false⟩), (2 + 12, ⟨0, .d8 msg, true, true, false⟩)]
def sbA (la lm : Nat) : List SV := [.one (.s (.osl (2 + 11) la)), .one (.s (.osl (2 + 12) lm)), .one (.s (.p (2 + 8) 0)), .one (.s (.p (2 + 13) 0))]
end Go.Sx.Bx

set_option maxRecDepth 1000000
set_option linter.unusedVariables false
namespace Go.Sx
open Go.Proofs
def xor64 (b X : List (BitVec 8)) : List (BitVec 8) := (List.range 64).map fun i => b.getD i 0 ^^^ X.getD i 0
def kK (nonce key : List (BitVec 8)) : List (BitVec 8) := lit 0 32 (k24 (lit 0 24 nonce) (lit 0 32 key))
def kC (nonce : List (BitVec 8)) : List (BitVec 8) := lit 0 16 (c24 (lit 0 24 nonce))
/-- the first block of the stream -/
def kF (nonce key : List (BitVec 8)) : List (BitVec 8) := xor64 (List.replicate 64 0) (bI (kC nonce) (kK nonce key))
def kP (nonce key : List (BitVec 8)) : List (BitVec 8) := lit 0 32 (kF nonce key)
/-- behind the first block: which temporaries and pieces there are -/
def seT (nonce key : List (BitVec 8)) : TM := [(9, .one (.s (.p (2 + 6) 0))), (10, .one (.s (.p (2 + 7) 0))), (11, .one (.s (.p (2 + 8) 0))), (12, .one (.s (.p (2 + 9) 0)))]
def seM (nonce key ctr : List (BitVec 8)) : Mem := [(2 + 6, ⟨32, .d8 (kK nonce key), true, false, false⟩), (2 + 7, ⟨16, .d8 ctr, true, false, false⟩), (2 + 8, ⟨64, .d8 (kF nonce key), true, false, false⟩), (2 + 9, ⟨32, .d8 (kP nonce key), true, false, false⟩)]
theorem sealA (B : Nat) (ahead msg nonce key : List (BitVec 8)) {R : Ex → St → Prop}
    (h : Tri P0 B (cxb true) 82 (2 + 6) ((flat (bodyOf Tryz.f32)).drop 8) ⟨[(0, .one (.s (.osl (2 + 4) ahead.length))), (1, .one (.s (.osl (2 + 5) msg.length)))] ++ seT nonce key, [(2 + 4, ⟨0, .d8 ahead, true, true, false⟩), (2 + 5, ⟨0, .d8 msg, true, true, false⟩)] ++ seM nonce key (kC nonce), 2 + 10⟩ R) :
    Tri P0 B (cxb true) 82 (2 + 6) (flat (bodyOf Tryz.f32)) ⟨enum 0 (sbA ahead.length msg.length), sbM ahead msg nonce key, 2 + 6⟩ R := by
  exact Tri.stepR (cx := cxb true) mix T0ok (HXcok B true) 8 0 noOrc [0, 1, 9, 10, 11, 12] [(2 + 4, 2 + 4), (2 + 5, 2 + 5), (2 + 6, 2 + 6), (2 + 7, 2 + 7), (2 + 10, 2 + 8), (2 + 14, 2 + 9)] (2 + 10) _ [] (by kernel_rfl) obNil h
end Go.Sx

set_option maxRecDepth 1000000
set_option linter.unusedVariables false
namespace Go.Sx.Bx
open Go.Proofs Go.Sx
/-- behind the first block: which temporaries and pieces there are -/
def seT (nonce key : List (BitVec 8)) : TM := [(9, .one (.s (.p (2 + 14) 0))), (10, .one (.s (.p (2 + 15) 0))), (11, .one (.s (.p (2 + 16) 0))), (12, .one (.s (.p (2 + 17) 0)))]
def seM (nonce key ctr : List (BitVec 8)) : Mem := [(2 + 14, ⟨32, .d8 (kK nonce key), true, false, false⟩), (2 + 15, ⟨16, .d8 ctr, true, false, false⟩), (2 + 16, ⟨64, .d8 (kF nonce key), true, false, false⟩), (2 + 17, ⟨32, .d8 (kP nonce key), true, false, false⟩)]
theorem sealA (B : Nat) (ahead msg nonce key : List (BitVec 8)) {R : Ex → St → Prop}
    (h : Tri P0 B (cxb true) 82 (2 + 14) ((flat (bodyOf Tryz.f32)).drop 8) ⟨[(0, .one (.s (.osl (2 + 11) ahead.length))), (1, .one (.s (.osl (2 + 12) msg.length)))] ++ seT nonce key, [(2 + 11, ⟨0, .d8 ahead, true, true, false⟩), (2 + 12, ⟨0, .d8 msg, true, true, false⟩)] ++ seM nonce key (kC nonce), 2 + 18⟩ R) :
    Tri P0 B (cxb true) 82 (2 + 14) (flat (bodyOf Tryz.f32)) ⟨enum 0 (sbA ahead.length msg.length), sbM ahead msg nonce key, 2 + 14⟩ R := by
  exact Tri.stepR (cx := cxb true) mix T0ok (HXcok B true) 8 0 noOrc [0, 1, 9, 10, 11, 12] [(2 + 11, 2 + 11), (2 + 12, 2 + 12), (2 + 14, 2 + 14), (2 + 15, 2 + 15), (2 + 18, 2 + 16), (2 + 22, 2 + 17)] (2 + 18) _ [] (by kernel_rfl) obNil h
end Go.Sx.Bx

set_option maxRecDepth 1000000
set_option linter.unusedVariables false
namespace Go.Sx
open Go.Proofs
def seB (nonce key msg ctr D : List (BitVec 8)) (N z tot cp o n c : Nat) : St := ⟨[(0, .one (.s (.sl (2 + 10) o n c))), (1, .one (.s (.osl (2 + 5) msg.length))), (13, .one (.s (.sl (2 + 10) z tot cp)))] ++ seT nonce key, [(2 + 10, ⟨N, .d8 D, true, false, false⟩), (2 + 5, ⟨0, .d8 msg, true, true, false⟩)] ++ seM nonce key ctr, 2 + 11⟩
noncomputable def sbRest : List Code := (flat (bodyOf Tryz.f32)).drop 8
def seTs : List Nat := [0, 1, 13, 9, 10, 11, 12]
theorem sealB (B : Nat) (ahead msg nonce key : List (BitVec 8)) (hla : ahead.length ≤ 1000000000) (hlm : msg.length ≤ 1000000000) {R : Ex → St → Prop}
    (h : ∀ cp, ahead.length + (msg.length + 16) ≤ cp → Tri P0 B (cxb false) 82 (2 + 6) (sbRest.drop 1) (seB nonce key msg (kC nonce) (ahead ++ List.replicate (cp - ahead.length) 0) cp 0 (ahead.length + (msg.length + 16)) cp ahead.length (msg.length + 16) (cp - ahead.length)) R) :
    Tri P0 B (cxb true) 82 (2 + 6) sbRest ⟨[(0, .one (.s (.osl (2 + 4) ahead.length))), (1, .one (.s (.osl (2 + 5) msg.length)))] ++ seT nonce key, [(2 + 4, ⟨0, .d8 ahead, true, true, false⟩), (2 + 5, ⟨0, .d8 msg, true, true, false⟩)] ++ seM nonce key (kC nonce), 2 + 10⟩ R := by
  refine Tri.chg (cx := cxb false) rfl ?_
  refine Tri.freeze (k := 2 + 4) (d := 0) (g := ⟨0, .d8 ahead, true, true, false⟩) (l := ahead) (by kernel_rfl) rfl rfl rfl (by kernel_rfl) (fun c hc => ?_) (fun h0 => ?_)
  · by_cases hcap : ahead.length + (msg.length + 16) ≤ c
    · refine Tri.stepR (cx := cxb false) mix T0ok (HSfok B true false) 1 0 noOrc seTs [(2 + 10, 2 + 10), (2 + 5, 2 + 5), (2 + 6, 2 + 6), (2 + 7, 2 + 7), (2 + 8, 2 + 8), (2 + 9, 2 + 9)] (2 + 11)
        (seB nonce key msg (kC nonce) (ahead ++ List.replicate (c - ahead.length) 0) c (if c = Int.toNat (0 : Int) then (0 : Nat) else Int.toNat (0 : Int) + (0 : Nat)) (Int.toNat ((↑(List.length ahead) : Int) + ((↑(List.length msg) : Int) + (16 : Int))) - Int.toNat (0 : Int)) (c - Int.toNat (0 : Int))
          (if c - Int.toNat (0 : Int) = Int.toNat (↑(List.length ahead) : Int) then
              if c = Int.toNat (0 : Int) then (0 : Nat) else Int.toNat (0 : Int) + (0 : Nat)
            else
              Int.toNat (↑(List.length ahead) : Int) +
                if c = Int.toNat (0 : Int) then (0 : Nat) else Int.toNat (0 : Int) + (0 : Nat))
          (Int.toNat
                (↑(Int.toNat ((↑(List.length ahead) : Int) + ((↑(List.length msg) : Int) + (16 : Int))) -
                      Int.toNat (0 : Int)) :
                  Int) -
              Int.toNat (↑(List.length ahead) : Int))
          (c - Int.toNat (0 : Int) - Int.toNat (↑(List.length ahead) : Int)))
        [rng ((↑(List.length msg) : Int) + (16 : Int)),
  rng ((↑(List.length ahead) : Int) + ((↑(List.length msg) : Int) + (16 : Int))),
  decide ((↑(List.length ahead) : Int) + ((↑(List.length msg) : Int) + (16 : Int)) ≤ (↑c : Int)) = true,
  (0 : Int) ≤ (0 : Int) ∧
    (0 : Int) ≤ (↑(List.length ahead) : Int) + ((↑(List.length msg) : Int) + (16 : Int)) ∧
      (↑(List.length ahead) : Int) + ((↑(List.length msg) : Int) + (16 : Int)) ≤ (↑c : Int),
  (0 : Int) ≤ (↑(List.length ahead) : Int) ∧
    (↑(List.length ahead) : Int) ≤
        (↑(Int.toNat ((↑(List.length ahead) : Int) + ((↑(List.length msg) : Int) + (16 : Int))) - Int.toNat (0 : Int)) :
          Int) ∧
      (↑(Int.toNat ((↑(List.length ahead) : Int) + ((↑(List.length msg) : Int) + (16 : Int))) - Int.toNat (0 : Int)) :
          Int) ≤
        (↑(c - Int.toNat (0 : Int)) : Int)] (by kernel_rfl)
        (obCons (by unfold rng; omega) <| obCons (by unfold rng; omega) <| obCons (decide_eq_true (by omega)) <| obCons (by omega) <| obCons (by omega) obNil) ?_
      have e1 : (if c = Int.toNat (0 : Int) then (0 : Nat) else Int.toNat (0 : Int) + (0 : Nat)) = 0 := by split <;> rfl
      have e2 : (if c - Int.toNat (0 : Int) = Int.toNat (↑(List.length ahead) : Int) then 0 else Int.toNat (↑(List.length ahead) : Int) + 0) = ahead.length := by
        rw [if_neg (by omega)]; omega
      have e3 : Int.toNat ((↑(List.length ahead) : Int) + ((↑(List.length msg) : Int) + (16 : Int))) - Int.toNat (0 : Int) = ahead.length + (msg.length + 16) := by omega
      have e4 : c - Int.toNat (0 : Int) = c := by omega
      rw [e1, e2, e3, e4]
      have e5 : Int.toNat (↑(ahead.length + (msg.length + 16)) : Int) - Int.toNat (↑(List.length ahead) : Int) = msg.length + 16 := by omega
      have e6 : c - Int.toNat (↑(List.length ahead) : Int) = c - ahead.length := by omega
      rw [e5, e6]
      exact h c hcap
    · have e0 : Int.toNat ((↑(List.length ahead) : Int) + ((↑(List.length msg) : Int) + (16 : Int))) = ahead.length + (msg.length + 16) := by omega
      refine Tri.stepR (cx := cxb false) mix T0ok (HSfok B false false) 1 0 noOrc seTs [(2 + 11, 2 + 10), (2 + 5, 2 + 5), (2 + 6, 2 + 6), (2 + 7, 2 + 7), (2 + 8, 2 + 8), (2 + 9, 2 + 9)] (2 + 11)
        (seB nonce key msg (kC nonce) (splice
            (List.replicate (Int.toNat ((↑(List.length ahead) : Int) + ((↑(List.length msg) : Int) + (16 : Int))))
              (0 : BitVec (8 : Nat)))
            (0 : Nat)
            (List.take
              (Nat.min (List.length ahead)
                (Int.toNat ((↑(List.length ahead) : Int) + ((↑(List.length msg) : Int) + (16 : Int)))))
              (List.drop (0 : Nat) (ahead ++ List.replicate (c - ahead.length) 0)))) (Int.toNat ((↑(List.length ahead) : Int) + ((↑(List.length msg) : Int) + (16 : Int)))) 0 (Int.toNat ((↑(List.length ahead) : Int) + ((↑(List.length msg) : Int) + (16 : Int)))) (Int.toNat ((↑(List.length ahead) : Int) + ((↑(List.length msg) : Int) + (16 : Int))))
          (if
                Int.toNat ((↑(List.length ahead) : Int) + ((↑(List.length msg) : Int) + (16 : Int))) =
                  Int.toNat (↑(List.length ahead) : Int) then
              (0 : Nat)
            else Int.toNat (↑(List.length ahead) : Int) + (0 : Nat))
          (Int.toNat (↑(Int.toNat ((↑(List.length ahead) : Int) + ((↑(List.length msg) : Int) + (16 : Int)))) : Int) -
              Int.toNat (↑(List.length ahead) : Int))
          (Int.toNat ((↑(List.length ahead) : Int) + ((↑(List.length msg) : Int) + (16 : Int))) -
              Int.toNat (↑(List.length ahead) : Int)))
        [rng ((↑(List.length msg) : Int) + (16 : Int)),
  rng ((↑(List.length ahead) : Int) + ((↑(List.length msg) : Int) + (16 : Int))),
  decide ((↑(List.length ahead) : Int) + ((↑(List.length msg) : Int) + (16 : Int)) ≤ (↑c : Int)) = false,
  (0 : Int) ≤ (↑(List.length ahead) : Int) + ((↑(List.length msg) : Int) + (16 : Int)) ∧
    (↑(List.length ahead) : Int) + ((↑(List.length msg) : Int) + (16 : Int)) =
        (↑(List.length ahead) : Int) + ((↑(List.length msg) : Int) + (16 : Int)) ∧
      (↑(List.length ahead) : Int) + ((↑(List.length msg) : Int) + (16 : Int)) ≤ (281474976710656 : Int) ∧
        (↑(1 : Nat) : Int) * ((↑(List.length ahead) : Int) + ((↑(List.length msg) : Int) + (16 : Int))) ≤
          (281474976710656 : Int),
  (0 : Nat) + List.length ahead ≤ List.length (ahead ++ List.replicate (c - ahead.length) (0 : BitVec 8)) ∧
    (0 : Nat) + Int.toNat ((↑(List.length ahead) : Int) + ((↑(List.length msg) : Int) + (16 : Int))) ≤
      Int.toNat ((↑(List.length ahead) : Int) + ((↑(List.length msg) : Int) + (16 : Int))),
  (0 : Int) ≤ (↑(List.length ahead) : Int) ∧
    (↑(List.length ahead) : Int) ≤
        (↑(Int.toNat ((↑(List.length ahead) : Int) + ((↑(List.length msg) : Int) + (16 : Int)))) : Int) ∧
      (↑(Int.toNat ((↑(List.length ahead) : Int) + ((↑(List.length msg) : Int) + (16 : Int)))) : Int) ≤
        (↑(Int.toNat ((↑(List.length ahead) : Int) + ((↑(List.length msg) : Int) + (16 : Int)))) : Int)] (by kernel_rfl)
        (obCons (by unfold rng; omega) <| obCons (by unfold rng; omega) <| obCons (decide_eq_false (by omega)) <| obCons (by omega) <| obCons (by rw [List.length_append]; omega) <| obCons (by omega) obNil) ?_
      rw [e0]
      have e2 : (if ahead.length + (msg.length + 16) = Int.toNat (↑(List.length ahead) : Int) then 0 else Int.toNat (↑(List.length ahead) : Int) + 0) = ahead.length := by
        rw [if_neg (by omega)]; omega
      have e5 : Int.toNat (↑(ahead.length + (msg.length + 16)) : Int) - Int.toNat (↑(List.length ahead) : Int) = msg.length + 16 := by omega
      have e6 : ahead.length + (msg.length + 16) - Int.toNat (↑(List.length ahead) : Int) = ahead.length + (msg.length + 16) - ahead.length := by omega
      have e7 : splice (List.replicate (ahead.length + (msg.length + 16)) (0 : BitVec 8)) 0 (List.take (Nat.min ahead.length (ahead.length + (msg.length + 16))) (List.drop 0 (ahead ++ List.replicate (c - ahead.length) 0))) = ahead ++ List.replicate (ahead.length + (msg.length + 16) - ahead.length) 0 := by
        have e8 : Nat.min ahead.length (ahead.length + (msg.length + 16)) = ahead.length := Nat.min_eq_left (by omega)
        rw [e8, List.drop_zero, List.take_append_of_le_length (Nat.le_refl _), List.take_length]
        unfold splice
        rw [List.take_zero, List.nil_append, Nat.zero_add, List.drop_replicate]
      rw [e2, e5, e6, e7]
      exact h _ (Nat.le_refl _)
  · subst h0
    have e0 : Int.toNat ((0 : Int) + ((↑(List.length msg) : Int) + (16 : Int))) = msg.length + 16 := by omega
    refine Tri.stepR (cx := cxb false) mix T0ok (HSfok B false false) 1 0 noOrc seTs [(2 + 10, 2 + 10), (2 + 5, 2 + 5), (2 + 6, 2 + 6), (2 + 7, 2 + 7), (2 + 8, 2 + 8), (2 + 9, 2 + 9)] (2 + 11)
      (seB nonce key msg (kC nonce) (splice
            (List.replicate (Int.toNat ((0 : Int) + ((↑(List.length msg) : Int) + (16 : Int)))) (0 : BitVec (8 : Nat)))
            (0 : Nat)
            (List.take (Nat.min (0 : Nat) (Int.toNat ((0 : Int) + ((↑(List.length msg) : Int) + (16 : Int)))))
              (List.drop (0 : Nat) ([] : List (BitVec 8))))) (Int.toNat ((0 : Int) + ((↑(List.length msg) : Int) + (16 : Int)))) 0 (Int.toNat ((0 : Int) + ((↑(List.length msg) : Int) + (16 : Int)))) (Int.toNat ((0 : Int) + ((↑(List.length msg) : Int) + (16 : Int)))) 0
        (Int.toNat (↑(Int.toNat ((0 : Int) + ((↑(List.length msg) : Int) + (16 : Int)))) : Int) - Int.toNat (0 : Int))
        (Int.toNat ((0 : Int) + ((↑(List.length msg) : Int) + (16 : Int))) - Int.toNat (0 : Int)))
      [rng ((↑(List.length msg) : Int) + (16 : Int)), rng ((0 : Int) + ((↑(List.length msg) : Int) + (16 : Int))),
  decide ((0 : Int) + ((↑(List.length msg) : Int) + (16 : Int)) ≤ (0 : Int)) = false,
  (0 : Int) ≤ (0 : Int) + ((↑(List.length msg) : Int) + (16 : Int)) ∧
    (0 : Int) + ((↑(List.length msg) : Int) + (16 : Int)) = (0 : Int) + ((↑(List.length msg) : Int) + (16 : Int)) ∧
      (0 : Int) + ((↑(List.length msg) : Int) + (16 : Int)) ≤ (281474976710656 : Int) ∧
        (↑(1 : Nat) : Int) * ((0 : Int) + ((↑(List.length msg) : Int) + (16 : Int))) ≤ (281474976710656 : Int),
  (0 : Nat) + (0 : Nat) ≤ List.length ([] : List (BitVec 8)) ∧
    (0 : Nat) + Int.toNat ((0 : Int) + ((↑(List.length msg) : Int) + (16 : Int))) ≤
      Int.toNat ((0 : Int) + ((↑(List.length msg) : Int) + (16 : Int))),
  (0 : Int) ≤ (0 : Int) ∧
    (0 : Int) ≤ (↑(Int.toNat ((0 : Int) + ((↑(List.length msg) : Int) + (16 : Int)))) : Int) ∧
      (↑(Int.toNat ((0 : Int) + ((↑(List.length msg) : Int) + (16 : Int)))) : Int) ≤
        (↑(Int.toNat ((0 : Int) + ((↑(List.length msg) : Int) + (16 : Int)))) : Int)] (by kernel_rfl)
      (obCons (by unfold rng; omega) <| obCons (by unfold rng; omega) <| obCons (decide_eq_false (by omega)) <| obCons (by omega) <| obCons (by simp) <| obCons (by omega) obNil) ?_
    rw [e0]
    have e5 : Int.toNat (↑(msg.length + 16) : Int) - Int.toNat (0 : Int) = msg.length + 16 := by omega
    have e6 : msg.length + 16 - Int.toNat (0 : Int) = msg.length + 16 := by omega
    have e7 : splice (List.replicate (msg.length + 16) (0 : BitVec 8)) 0 (List.take (Nat.min 0 (msg.length + 16)) (List.drop 0 ([] : List (BitVec 8)))) = List.replicate (msg.length + 16) 0 := by
      rw [List.drop_nil, List.take_nil]
      unfold splice
      rw [List.take_zero, List.nil_append, List.nil_append, List.length_nil, Nat.add_zero, List.drop_zero]
    rw [e5, e6, e7]
    have := h (msg.length + 16) (by simp)
    simpa using this
end Go.Sx

set_option maxRecDepth 1000000
set_option linter.unusedVariables false
namespace Go.Sx.Bx
open Go.Proofs Go.Sx
def seB (nonce key msg ctr D : List (BitVec 8)) (N z tot cp o n c : Nat) : St := ⟨[(0, .one (.s (.sl (2 + 18) o n c))), (1, .one (.s (.osl (2 + 12) msg.length))), (13, .one (.s (.sl (2 + 18) z tot cp)))] ++ seT nonce key, [(2 + 18, ⟨N, .d8 D, true, false, false⟩), (2 + 12, ⟨0, .d8 msg, true, true, false⟩)] ++ seM nonce key ctr, 2 + 19⟩
theorem sealB (B : Nat) (ahead msg nonce key : List (BitVec 8)) (hla : ahead.length ≤ 1000000000) (hlm : msg.length ≤ 1000000000) {R : Ex → St → Prop}
    (h : ∀ cp, ahead.length + (msg.length + 16) ≤ cp → Tri P0 B (cxb false) 82 (2 + 14) (sbRest.drop 1) (seB nonce key msg (kC nonce) (ahead ++ List.replicate (cp - ahead.length) 0) cp 0 (ahead.length + (msg.length + 16)) cp ahead.length (msg.length + 16) (cp - ahead.length)) R) :
    Tri P0 B (cxb true) 82 (2 + 14) sbRest ⟨[(0, .one (.s (.osl (2 + 11) ahead.length))), (1, .one (.s (.osl (2 + 12) msg.length)))] ++ seT nonce key, [(2 + 11, ⟨0, .d8 ahead, true, true, false⟩), (2 + 12, ⟨0, .d8 msg, true, true, false⟩)] ++ seM nonce key (kC nonce), 2 + 18⟩ R := by
  refine Tri.chg (cx := cxb false) rfl ?_
  refine Tri.freeze (k := 2 + 11) (d := 0) (g := ⟨0, .d8 ahead, true, true, false⟩) (l := ahead) (by kernel_rfl) rfl rfl rfl (by kernel_rfl) (fun c hc => ?_) (fun h0 => ?_)
  · by_cases hcap : ahead.length + (msg.length + 16) ≤ c
    · refine Tri.stepR (cx := cxb false) mix T0ok (HSfok B true false) 1 0 noOrc seTs [(2 + 18, 2 + 18), (2 + 12, 2 + 12), (2 + 14, 2 + 14), (2 + 15, 2 + 15), (2 + 16, 2 + 16), (2 + 17, 2 + 17)] (2 + 19)
        (seB nonce key msg (kC nonce) (ahead ++ List.replicate (c - ahead.length) 0) c (if c = Int.toNat (0 : Int) then (0 : Nat) else Int.toNat (0 : Int) + (0 : Nat)) (Int.toNat ((↑(List.length ahead) : Int) + ((↑(List.length msg) : Int) + (16 : Int))) - Int.toNat (0 : Int)) (c - Int.toNat (0 : Int))
          (if c - Int.toNat (0 : Int) = Int.toNat (↑(List.length ahead) : Int) then
              if c = Int.toNat (0 : Int) then (0 : Nat) else Int.toNat (0 : Int) + (0 : Nat)
            else
              Int.toNat (↑(List.length ahead) : Int) +
                if c = Int.toNat (0 : Int) then (0 : Nat) else Int.toNat (0 : Int) + (0 : Nat))
          (Int.toNat
                (↑(Int.toNat ((↑(List.length ahead) : Int) + ((↑(List.length msg) : Int) + (16 : Int))) -
                      Int.toNat (0 : Int)) :
                  Int) -
              Int.toNat (↑(List.length ahead) : Int))
          (c - Int.toNat (0 : Int) - Int.toNat (↑(List.length ahead) : Int)))
        [rng ((↑(List.length msg) : Int) + (16 : Int)),
  rng ((↑(List.length ahead) : Int) + ((↑(List.length msg) : Int) + (16 : Int))),
  decide ((↑(List.length ahead) : Int) + ((↑(List.length msg) : Int) + (16 : Int)) ≤ (↑c : Int)) = true,
  (0 : Int) ≤ (0 : Int) ∧
    (0 : Int) ≤ (↑(List.length ahead) : Int) + ((↑(List.length msg) : Int) + (16 : Int)) ∧
      (↑(List.length ahead) : Int) + ((↑(List.length msg) : Int) + (16 : Int)) ≤ (↑c : Int),
  (0 : Int) ≤ (↑(List.length ahead) : Int) ∧
    (↑(List.length ahead) : Int) ≤
        (↑(Int.toNat ((↑(List.length ahead) : Int) + ((↑(List.length msg) : Int) + (16 : Int))) - Int.toNat (0 : Int)) :
          Int) ∧
      (↑(Int.toNat ((↑(List.length ahead) : Int) + ((↑(List.length msg) : Int) + (16 : Int))) - Int.toNat (0 : Int)) :
          Int) ≤
        (↑(c - Int.toNat (0 : Int)) : Int)] (by kernel_rfl)
        (obCons (by unfold rng; omega) <| obCons (by unfold rng; omega) <| obCons (decide_eq_true (by omega)) <| obCons (by omega) <| obCons (by omega) obNil) ?_
      have e1 : (if c = Int.toNat (0 : Int) then (0 : Nat) else Int.toNat (0 : Int) + (0 : Nat)) = 0 := by split <;> rfl
      have e2 : (if c - Int.toNat (0 : Int) = Int.toNat (↑(List.length ahead) : Int) then 0 else Int.toNat (↑(List.length ahead) : Int) + 0) = ahead.length := by
        rw [if_neg (by omega)]; omega
      have e3 : Int.toNat ((↑(List.length ahead) : Int) + ((↑(List.length msg) : Int) + (16 : Int))) - Int.toNat (0 : Int) = ahead.length + (msg.length + 16) := by omega
      have e4 : c - Int.toNat (0 : Int) = c := by omega
      rw [e1, e2, e3, e4]
      have e5 : Int.toNat (↑(ahead.length + (msg.length + 16)) : Int) - Int.toNat (↑(List.length ahead) : Int) = msg.length + 16 := by omega
      have e6 : c - Int.toNat (↑(List.length ahead) : Int) = c - ahead.length := by omega
      rw [e5, e6]
      exact h c hcap
    · have e0 : Int.toNat ((↑(List.length ahead) : Int) + ((↑(List.length msg) : Int) + (16 : Int))) = ahead.length + (msg.length + 16) := by omega
      refine Tri.stepR (cx := cxb false) mix T0ok (HSfok B false false) 1 0 noOrc seTs [(2 + 19, 2 + 18), (2 + 12, 2 + 12), (2 + 14, 2 + 14), (2 + 15, 2 + 15), (2 + 16, 2 + 16), (2 + 17, 2 + 17)] (2 + 19)
        (seB nonce key msg (kC nonce) (splice
            (List.replicate (Int.toNat ((↑(List.length ahead) : Int) + ((↑(List.length msg) : Int) + (16 : Int))))
              (0 : BitVec (8 : Nat)))
            (0 : Nat)
            (List.take
              (Nat.min (List.length ahead)
                (Int.toNat ((↑(List.length ahead) : Int) + ((↑(List.length msg) : Int) + (16 : Int)))))
              (List.drop (0 : Nat) (ahead ++ List.replicate (c - ahead.length) 0)))) (Int.toNat ((↑(List.length ahead) : Int) + ((↑(List.length msg) : Int) + (16 : Int)))) 0 (Int.toNat ((↑(List.length ahead) : Int) + ((↑(List.length msg) : Int) + (16 : Int)))) (Int.toNat ((↑(List.length ahead) : Int) + ((↑(List.length msg) : Int) + (16 : Int))))
          (if
                Int.toNat ((↑(List.length ahead) : Int) + ((↑(List.length msg) : Int) + (16 : Int))) =
                  Int.toNat (↑(List.length ahead) : Int) then
              (0 : Nat)
            else Int.toNat (↑(List.length ahead) : Int) + (0 : Nat))
          (Int.toNat (↑(Int.toNat ((↑(List.length ahead) : Int) + ((↑(List.length msg) : Int) + (16 : Int)))) : Int) -
              Int.toNat (↑(List.length ahead) : Int))
          (Int.toNat ((↑(List.length ahead) : Int) + ((↑(List.length msg) : Int) + (16 : Int))) -
              Int.toNat (↑(List.length ahead) : Int)))
        [rng ((↑(List.length msg) : Int) + (16 : Int)),
  rng ((↑(List.length ahead) : Int) + ((↑(List.length msg) : Int) + (16 : Int))),
  decide ((↑(List.length ahead) : Int) + ((↑(List.length msg) : Int) + (16 : Int)) ≤ (↑c : Int)) = false,
  (0 : Int) ≤ (↑(List.length ahead) : Int) + ((↑(List.length msg) : Int) + (16 : Int)) ∧
    (↑(List.length ahead) : Int) + ((↑(List.length msg) : Int) + (16 : Int)) =
        (↑(List.length ahead) : Int) + ((↑(List.length msg) : Int) + (16 : Int)) ∧
      (↑(List.length ahead) : Int) + ((↑(List.length msg) : Int) + (16 : Int)) ≤ (281474976710656 : Int) ∧
        (↑(1 : Nat) : Int) * ((↑(List.length ahead) : Int) + ((↑(List.length msg) : Int) + (16 : Int))) ≤
          (281474976710656 : Int),
  (0 : Nat) + List.length ahead ≤ List.length (ahead ++ List.replicate (c - ahead.length) (0 : BitVec 8)) ∧
    (0 : Nat) + Int.toNat ((↑(List.length ahead) : Int) + ((↑(List.length msg) : Int) + (16 : Int))) ≤
      Int.toNat ((↑(List.length ahead) : Int) + ((↑(List.length msg) : Int) + (16 : Int))),
  (0 : Int) ≤ (↑(List.length ahead) : Int) ∧
    (↑(List.length ahead) : Int) ≤
        (↑(Int.toNat ((↑(List.length ahead) : Int) + ((↑(List.length msg) : Int) + (16 : Int)))) : Int) ∧
      (↑(Int.toNat ((↑(List.length ahead) : Int) + ((↑(List.length msg) : Int) + (16 : Int)))) : Int) ≤
        (↑(Int.toNat ((↑(List.length ahead) : Int) + ((↑(List.length msg) : Int) + (16 : Int)))) : Int)] (by kernel_rfl)
        (obCons (by unfold rng; omega) <| obCons (by unfold rng; omega) <| obCons (decide_eq_false (by omega)) <| obCons (by omega) <| obCons (by rw [List.length_append]; omega) <| obCons (by omega) obNil) ?_
      rw [e0]
      have e2 : (if ahead.length + (msg.length + 16) = Int.toNat (↑(List.length ahead) : Int) then 0 else Int.toNat (↑(List.length ahead) : Int) + 0) = ahead.length := by
        rw [if_neg (by omega)]; omega
      have e5 : Int.toNat (↑(ahead.length + (msg.length + 16)) : Int) - Int.toNat (↑(List.length ahead) : Int) = msg.length + 16 := by omega
      have e6 : ahead.length + (msg.length + 16) - Int.toNat (↑(List.length ahead) : Int) = ahead.length + (msg.length + 16) - ahead.length := by omega
      have e7 : splice (List.replicate (ahead.length + (msg.length + 16)) (0 : BitVec 8)) 0 (List.take (Nat.min ahead.length (ahead.length + (msg.length + 16))) (List.drop 0 (ahead ++ List.replicate (c - ahead.length) 0))) = ahead ++ List.replicate (ahead.length + (msg.length + 16) - ahead.length) 0 := by
        have e8 : Nat.min ahead.length (ahead.length + (msg.length + 16)) = ahead.length := Nat.min_eq_left (by omega)
        rw [e8, List.drop_zero, List.take_append_of_le_length (Nat.le_refl _), List.take_length]
        unfold splice
        rw [List.take_zero, List.nil_append, Nat.zero_add, List.drop_replicate]
      rw [e2, e5, e6, e7]
      exact h _ (Nat.le_refl _)
  · subst h0
    have e0 : Int.toNat ((0 : Int) + ((↑(List.length msg) : Int) + (16 : Int))) = msg.length + 16 := by omega
    refine Tri.stepR (cx := cxb false) mix T0ok (HSfok B false false) 1 0 noOrc seTs [(2 + 18, 2 + 18), (2 + 12, 2 + 12), (2 + 14, 2 + 14), (2 + 15, 2 + 15), (2 + 16, 2 + 16), (2 + 17, 2 + 17)] (2 + 19)
      (seB nonce key msg (kC nonce) (splice
            (List.replicate (Int.toNat ((0 : Int) + ((↑(List.length msg) : Int) + (16 : Int)))) (0 : BitVec (8 : Nat)))
            (0 : Nat)
            (List.take (Nat.min (0 : Nat) (Int.toNat ((0 : Int) + ((↑(List.length msg) : Int) + (16 : Int)))))
              (List.drop (0 : Nat) ([] : List (BitVec 8))))) (Int.toNat ((0 : Int) + ((↑(List.length msg) : Int) + (16 : Int)))) 0 (Int.toNat ((0 : Int) + ((↑(List.length msg) : Int) + (16 : Int)))) (Int.toNat ((0 : Int) + ((↑(List.length msg) : Int) + (16 : Int)))) 0
        (Int.toNat (↑(Int.toNat ((0 : Int) + ((↑(List.length msg) : Int) + (16 : Int)))) : Int) - Int.toNat (0 : Int))
        (Int.toNat ((0 : Int) + ((↑(List.length msg) : Int) + (16 : Int))) - Int.toNat (0 : Int)))
      [rng ((↑(List.length msg) : Int) + (16 : Int)), rng ((0 : Int) + ((↑(List.length msg) : Int) + (16 : Int))),
  decide ((0 : Int) + ((↑(List.length msg) : Int) + (16 : Int)) ≤ (0 : Int)) = false,
  (0 : Int) ≤ (0 : Int) + ((↑(List.length msg) : Int) + (16 : Int)) ∧
    (0 : Int) + ((↑(List.length msg) : Int) + (16 : Int)) = (0 : Int) + ((↑(List.length msg) : Int) + (16 : Int)) ∧
      (0 : Int) + ((↑(List.length msg) : Int) + (16 : Int)) ≤ (281474976710656 : Int) ∧
        (↑(1 : Nat) : Int) * ((0 : Int) + ((↑(List.length msg) : Int) + (16 : Int))) ≤ (281474976710656 : Int),
  (0 : Nat) + (0 : Nat) ≤ List.length ([] : List (BitVec 8)) ∧
    (0 : Nat) + Int.toNat ((0 : Int) + ((↑(List.length msg) : Int) + (16 : Int))) ≤
      Int.toNat ((0 : Int) + ((↑(List.length msg) : Int) + (16 : Int))),
  (0 : Int) ≤ (0 : Int) ∧
    (0 : Int) ≤ (↑(Int.toNat ((0 : Int) + ((↑(List.length msg) : Int) + (16 : Int)))) : Int) ∧
      (↑(Int.toNat ((0 : Int) + ((↑(List.length msg) : Int) + (16 : Int)))) : Int) ≤
        (↑(Int.toNat ((0 : Int) + ((↑(List.length msg) : Int) + (16 : Int)))) : Int)] (by kernel_rfl)
      (obCons (by unfold rng; omega) <| obCons (by unfold rng; omega) <| obCons (decide_eq_false (by omega)) <| obCons (by omega) <| obCons (by simp) <| obCons (by omega) obNil) ?_
    rw [e0]
    have e5 : Int.toNat (↑(msg.length + 16) : Int) - Int.toNat (0 : Int) = msg.length + 16 := by omega
    have e6 : msg.length + 16 - Int.toNat (0 : Int) = msg.length + 16 := by omega
    have e7 : splice (List.replicate (msg.length + 16) (0 : BitVec 8)) 0 (List.take (Nat.min 0 (msg.length + 16)) (List.drop 0 ([] : List (BitVec 8)))) = List.replicate (msg.length + 16) 0 := by
      rw [List.drop_nil, List.take_nil]
      unfold splice
      rw [List.take_zero, List.nil_append, List.nil_append, List.length_nil, Nat.add_zero, List.drop_zero]
    rw [e5, e6, e7]
    have := h (msg.length + 16) (by simp)
    simpa using this
end Go.Sx.Bx
