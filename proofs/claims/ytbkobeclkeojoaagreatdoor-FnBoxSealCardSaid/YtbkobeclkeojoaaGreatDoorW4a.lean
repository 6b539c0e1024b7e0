/- secretbox.Seal: the states. secretbox.Seal: the states. Once more, at other keys. Rows of bytes that are filled from the left. Conditions: none; plain definitions and theorems. secretbox.Seal: what is encrypted by the first block. secretbox.Seal: what is encrypted by the first block. Once more, at other keys. secretbox.Seal: the states behind the first block. secretbox.Seal: the states behind the first block. Once more, at other keys. secretbox.Seal: the rest of the message; the tag. secretbox.Seal: the rest of the message; the tag. Once more, at other keys. secretbox.Seal: what it computes. secretbox.Seal: what it computes. Once more, at other keys. secretbox.Seal and impl.Seal. secretbox.Seal and impl.Seal. Once more, at other keys. Conditions: none. -/
import Derived.Test.YtbkobeclkeojoaaGreatDoorW1
set_option maxRecDepth 1000000
set_option linter.unusedVariables false
namespace Go.Sx
open Go.Proofs
def seL (nonce key msg ctr D : List (BitVec 8)) (N tot cp o n c o2 n2 c2 m0 j : Nat) : St := ⟨[(0, .one (.s (.sl (2 + 10) o2 n2 c2))), (1, .one (.s (.osl (2 + 5) msg.length))), (13, .one (.s (.sl (2 + 10) 0 tot cp))), (14, .one (.s (.osl (2 + 5) m0))), (15, .one (.s (.sl (2 + 10) o n c))), (46, .one (.s (.osl (2 + 5) m0))), (47, .one (.s (.i m0))), (48, .one (.s (.i j)))] ++ seT nonce key, [(2 + 10, ⟨N, .d8 D, true, false, false⟩), (2 + 5, ⟨0, .d8 msg, true, true, false⟩)] ++ seM nonce key ctr, 2 + 11⟩
def seLts : List Nat := [0, 1, 13, 14, 15, 46, 47, 48, 9, 10, 11, 12]
def seLks : List Nat := [2 + 10, 2 + 5, 2 + 6, 2 + 7, 2 + 8, 2 + 9]
end Go.Sx

set_option maxRecDepth 1000000
set_option linter.unusedVariables false
namespace Go.Sx.Bx
open Go.Proofs Go.Sx
def seL (nonce key msg ctr D : List (BitVec 8)) (N tot cp o n c o2 n2 c2 m0 j : Nat) : St := ⟨[(0, .one (.s (.sl (2 + 18) o2 n2 c2))), (1, .one (.s (.osl (2 + 12) msg.length))), (13, .one (.s (.sl (2 + 18) 0 tot cp))), (14, .one (.s (.osl (2 + 12) m0))), (15, .one (.s (.sl (2 + 18) o n c))), (46, .one (.s (.osl (2 + 12) m0))), (47, .one (.s (.i m0))), (48, .one (.s (.i j)))] ++ seT nonce key, [(2 + 18, ⟨N, .d8 D, true, false, false⟩), (2 + 12, ⟨0, .d8 msg, true, true, false⟩)] ++ seM nonce key ctr, 2 + 19⟩
def seLks : List Nat := [2 + 18, 2 + 12, 2 + 14, 2 + 15, 2 + 16, 2 + 17]
end Go.Sx.Bx

set_option linter.unusedVariables false
namespace Go.Sx
open Go.Proofs
def encK (F msg : List (BitVec 8)) (j : Nat) : List (BitVec 8) := (List.range j).map fun i => F.getD (32 + i) 0 ^^^ msg.getD i 0
theorem encK_length (F msg : List (BitVec 8)) (j : Nat) : (encK F msg j).length = j := by simp [encK]
theorem encK_succ (F msg : List (BitVec 8)) (j : Nat) : encK F msg (j + 1) = encK F msg j ++ [F.getD (32 + j) 0 ^^^ msg.getD j 0] := by simp [encK, List.range_succ]
/-- what is ahead, the tag's place, what is filled, what is left -/
def seD (a X E : List (BitVec 8)) (r : Nat) : List (BitVec 8) := a ++ (X ++ (E ++ List.replicate r 0))
theorem seD_length (a X E : List (BitVec 8)) (r : Nat) : (seD a X E r).length = a.length + (X.length + (E.length + r)) := by simp [seD]
theorem seD_set {a X E : List (BitVec 8)} {r : Nat} (hr : 0 < r) (v : BitVec 8) : (seD a X E r).set (E.length + (a.length + X.length)) v = seD a X (E ++ [v]) (r - 1) := by
  unfold seD
  obtain ⟨q, rfl⟩ : ∃ q, r = q + 1 := ⟨r - 1, by omega⟩
  rw [List.set_append_right _ _ (by omega), List.set_append_right _ _ (by omega), List.set_append_right _ _ (by omega)]
  rw [show E.length + (a.length + X.length) - a.length - X.length - E.length = 0 by omega, List.replicate_succ, List.set_cons_zero]
  simp
theorem seD_fill {a X E S : List (BitVec 8)} {r : Nat} (hr : S.length ≤ r) : splice (seD a X E r) (a.length + X.length + E.length) S = seD a X (E ++ S) (r - S.length) := by
  unfold seD splice
  have e1 : (a ++ (X ++ (E ++ List.replicate r 0))).take (a.length + X.length + E.length) = a ++ (X ++ E) := by
    rw [← List.append_assoc, ← List.append_assoc, List.take_append_of_le_length (by simp; omega), List.take_of_length_le (by simp; omega), List.append_assoc]
  have e2 : (a ++ (X ++ (E ++ List.replicate r 0))).drop (a.length + X.length + E.length + S.length) = List.replicate (r - S.length) (0 : BitVec 8) := by
    rw [← List.append_assoc, ← List.append_assoc, List.drop_append, List.drop_of_length_le (by simp; omega), List.nil_append, List.drop_replicate]
    congr 1
    simp; omega
  rw [e1, e2]
  simp
theorem seD_none {D : List (BitVec 8)} {o : Nat} : splice D o ([] : List (BitVec 8)) = D := by
  unfold splice
  rw [List.nil_append, List.length_nil, Nat.add_zero, List.take_append_drop]
theorem seD_tag {a X E T : List (BitVec 8)} {r : Nat} (hT : T.length = X.length) : splice (seD a X E r) a.length T = seD a T E r := by
  unfold seD splice
  rw [List.take_append_of_le_length (Nat.le_refl _), List.take_length, List.drop_append, List.drop_of_length_le (by omega), List.nil_append, show a.length + T.length - a.length = X.length by omega, List.drop_append_of_le_length (Nat.le_refl _), List.drop_of_length_le (Nat.le_refl _), List.nil_append]
theorem seD_mid {a X E : List (BitVec 8)} {r n : Nat} (hn : n = E.length) : ((seD a X E r).drop (a.length + X.length)).take n = E := by
  subst hn
  unfold seD
  rw [← List.drop_drop, List.drop_append_of_le_length (Nat.le_refl _), List.drop_of_length_le (Nat.le_refl _), List.nil_append, List.drop_append_of_le_length (Nat.le_refl _), List.drop_of_length_le (Nat.le_refl _), List.nil_append, List.take_append_of_le_length (Nat.le_refl _), List.take_length]
theorem seD_take {a X E : List (BitVec 8)} {r n : Nat} (hn : n = a.length + (X.length + E.length)) : (seD a X E r).take n = a ++ (X ++ E) := by
  subst hn
  unfold seD
  rw [← List.append_assoc, ← List.append_assoc, List.take_append_of_le_length (by simp), List.take_of_length_le (by simp), List.append_assoc]
theorem seD_zero (a : List (BitVec 8)) {q r : Nat} (h : q = 16 + r) : a ++ List.replicate q (0 : BitVec 8) = seD a (List.replicate 16 0) [] r := by
  subst h
  unfold seD
  rw [List.nil_append, List.replicate_append_replicate]
end Go.Sx

set_option maxRecDepth 1000000
set_option linter.unusedVariables false
namespace Go.Sx
open Go.Proofs
theorem sealC (B : Nat) (nonce key msg ctr D : List (BitVec 8)) (N tot cp la c m0 : Nat) (hm : (32 < msg.length ∧ m0 = 32) ∨ (msg.length ≤ 32 ∧ m0 = msg.length)) (hc : msg.length + 16 ≤ c) {R : Ex → St → Prop}
    (h : Tri P0 B (cxb false) 82 (2 + 6) ((sbRest.drop 1).drop 6) (seL nonce key msg ctr D N tot cp la (msg.length + 16) c (if c = 16 then la else 16 + la) msg.length (c - 16) m0 0) R) :
    Tri P0 B (cxb false) 82 (2 + 6) (sbRest.drop 1) (seB nonce key msg ctr D N 0 tot cp la (msg.length + 16) c) R := by
  have e1 : Int.toNat (↑(msg.length + 16) : Int) - Int.toNat (16 : Int) = msg.length := by omega
  rcases hm with ⟨h1, rfl⟩ | ⟨h1, rfl⟩
  · refine Tri.step (cx := cxb false) mix T0ok (HXcok B false) 6 0 (orcL [(40, true)]) seLts seLks (2 + 11) (seL nonce key msg ctr D N tot cp la (msg.length + 16) c (if c = Int.toNat (16 : Int) then la else Int.toNat (16 : Int) + la) (Int.toNat (↑(msg.length + 16) : Int) - Int.toNat (16 : Int)) (c - Int.toNat (16 : Int)) 32 0)
      [decide ((32 : Int) < (↑(List.length msg) : Int)) = true,
  (0 : Int) ≤ (32 : Int) ∧ (32 : Int) ≤ (↑(List.length msg) : Int) ∧ (32 : Int) ≤ (↑(List.length msg) : Int),
  (0 : Int) ≤ (16 : Int) ∧ (16 : Int) ≤ (↑(msg.length + 16) : Int) ∧ (↑(msg.length + 16) : Int) ≤ (↑c : Int)] (by kernel_rfl) (obCons (decide_eq_true (by omega)) <| obCons (by omega) <| obCons (by omega) obNil) (by kernel_rfl) ?_
    rw [e1]
    exact h
  · refine Tri.step (cx := cxb false) mix T0ok (HXcok B false) 6 0 (orcL [(40, false)]) seLts seLks (2 + 11) (seL nonce key msg ctr D N tot cp la (msg.length + 16) c (if c = Int.toNat (16 : Int) then la else Int.toNat (16 : Int) + la) (Int.toNat (↑(msg.length + 16) : Int) - Int.toNat (16 : Int)) (c - Int.toNat (16 : Int)) msg.length 0)
      [decide ((32 : Int) < (↑(List.length msg) : Int)) = false,
  (0 : Int) ≤ (16 : Int) ∧ (16 : Int) ≤ (↑(msg.length + 16) : Int) ∧ (↑(msg.length + 16) : Int) ≤ (↑c : Int)] (by kernel_rfl) (obCons (decide_eq_false (by omega)) <| obCons (by omega) obNil) (by kernel_rfl) ?_
    rw [e1]
    exact h
/-- the bytes that the first block encrypts -/
theorem sealD (B : Nat) (nonce key msg ctr a X : List (BitVec 8)) (N tot cp o n c o2 n2 c2 m0 r : Nat) (hm : m0 ≤ msg.length) (h32 : m0 ≤ 32) (hn : m0 ≤ n2) (hr : m0 ≤ r) (ho : 0 < m0 → o2 = a.length + X.length) (hN : a.length + X.length + r ≤ N) {R : Ex → St → Prop}
    (h : Tri P0 B (cxb false) 82 (2 + 6) ((sbRest.drop 1).drop 7) (seL nonce key msg ctr (seD a X (encK (kF nonce key) msg m0) (r - m0)) N tot cp o n c o2 n2 c2 m0 m0) R) :
    Tri P0 B (cxb false) 82 (2 + 6) ((sbRest.drop 1).drop 6) (seL nonce key msg ctr (seD a X [] r) N tot cp o n c o2 n2 c2 m0 0) R := by
  refine Tri.loop (id := 0) (ι := { j : Nat // j ≤ m0 }) rfl (fun j => seL nonce key msg ctr (seD a X (encK (kF nonce key) msg j.1) (r - j.1)) N tot cp o n c o2 n2 c2 m0 j.1) (fun j => m0 - j.1) ⟨0, Nat.zero_le _⟩ rfl (fun j => by show 2 + 6 ≤ 2 + 11; omega)
    (R1 := fun s => s = seL nonce key msg ctr (seD a X (encK (kF nonce key) msg m0) (r - m0)) N tot cp o n c o2 n2 c2 m0 m0) (fun ⟨j, hj⟩ => ?_) (fun s' hs => ?_)
  · by_cases hlt : j < m0
    · refine Tri.fin (cx := cxb false) mix T0ok (HXcok B false) 0 (orcL [(49, true)]) seLts seLks (2 + 11) .n (seL nonce key msg ctr ((seD a X (encK (kF nonce key) msg j) (r - j)).set (Int.toNat (↑j : Int) + o2) ((kF nonce key).getD (Int.toNat ((32 : Int) + (↑j : Int)) + 0) 0 ^^^ msg.getD (Int.toNat (↑j : Int) + 0) 0)) N tot cp o n c o2 n2 c2 m0 (j + 1))
        [decide ((↑j : Int) < (↑m0 : Int)) = true, (0 : Int) ≤ (↑j : Int) ∧ (↑j : Int) < (↑m0 : Int) ∧ (↑j : Int) < (↑(List.length msg) : Int), Int.toNat (↑j : Int) + (0 : Nat) < List.length msg, rng ((32 : Int) + (↑j : Int)), (0 : Int) ≤ (32 : Int) + (↑j : Int) ∧ (32 : Int) + (↑j : Int) < (↑(64 : Nat) : Int),
          Int.toNat ((32 : Int) + (↑j : Int)) + (0 : Nat) < List.length (kF nonce key), (0 : Int) ≤ (↑j : Int) ∧ (↑j : Int) < (↑n2 : Int), Int.toNat (↑j : Int) + o2 + (1 : Nat) ≤ N, rng ((↑j : Int) + (1 : Int))] (by kernel_rfl)
        (obCons (decide_eq_true (by omega)) <| obCons (by omega) <| obCons (by omega) <| obCons (by unfold rng; omega) <| obCons (by omega) <| obCons (by have : (kF nonce key).length = 64 := rfl; omega) <| obCons (by omega) <| obCons (by have := ho (by omega); omega) <| obCons (by unfold rng; omega) obNil) (by kernel_rfl) ⟨⟨j + 1, hlt⟩, by show m0 - (j + 1) < m0 - j; omega, ?_⟩
      have e := seD_set (a := a) (X := X) (E := encK (kF nonce key) msg j) (r := r - j) (by omega) ((kF nonce key).getD (32 + j) 0 ^^^ msg.getD j 0)
      rw [encK_length, ← encK_succ] at e
      have i1 : Int.toNat (↑j : Int) + o2 = j + (a.length + X.length) := by rw [ho (by omega)]; omega
      have i2 : Int.toNat ((32 : Int) + (↑j : Int)) + 0 = 32 + j := by omega
      have i3 : Int.toNat (↑j : Int) + 0 = j := by omega
      rw [i1, i2, i3, e, show r - j - 1 = r - (j + 1) by omega]
    · obtain rfl : j = m0 := by omega
      exact Tri.fin (cx := cxb false) mix T0ok (HXcok B false) 0 (orcL [(49, false)]) seLts seLks (2 + 11) (.x 0) (seL nonce key msg ctr (seD a X (encK (kF nonce key) msg j) (r - j)) N tot cp o n c o2 n2 c2 j j) [decide ((↑j : Int) < (↑j : Int)) = false] (by kernel_rfl) (obCons (by simp) obNil) (by kernel_rfl) rfl
  · subst hs
    exact h
end Go.Sx

set_option maxRecDepth 1000000
set_option linter.unusedVariables false
namespace Go.Sx.Bx
open Go.Proofs Go.Sx
theorem sealC (B : Nat) (nonce key msg ctr D : List (BitVec 8)) (N tot cp la c m0 : Nat) (hm : (32 < msg.length ∧ m0 = 32) ∨ (msg.length ≤ 32 ∧ m0 = msg.length)) (hc : msg.length + 16 ≤ c) {R : Ex → St → Prop}
    (h : Tri P0 B (cxb false) 82 (2 + 14) ((sbRest.drop 1).drop 6) (seL nonce key msg ctr D N tot cp la (msg.length + 16) c (if c = 16 then la else 16 + la) msg.length (c - 16) m0 0) R) :
    Tri P0 B (cxb false) 82 (2 + 14) (sbRest.drop 1) (seB nonce key msg ctr D N 0 tot cp la (msg.length + 16) c) R := by
  have e1 : Int.toNat (↑(msg.length + 16) : Int) - Int.toNat (16 : Int) = msg.length := by omega
  rcases hm with ⟨h1, rfl⟩ | ⟨h1, rfl⟩
  · refine Tri.step (cx := cxb false) mix T0ok (HXcok B false) 6 0 (orcL [(40, true)]) seLts seLks (2 + 19) (seL nonce key msg ctr D N tot cp la (msg.length + 16) c (if c = Int.toNat (16 : Int) then la else Int.toNat (16 : Int) + la) (Int.toNat (↑(msg.length + 16) : Int) - Int.toNat (16 : Int)) (c - Int.toNat (16 : Int)) 32 0)
      [decide ((32 : Int) < (↑(List.length msg) : Int)) = true,
  (0 : Int) ≤ (32 : Int) ∧ (32 : Int) ≤ (↑(List.length msg) : Int) ∧ (32 : Int) ≤ (↑(List.length msg) : Int),
  (0 : Int) ≤ (16 : Int) ∧ (16 : Int) ≤ (↑(msg.length + 16) : Int) ∧ (↑(msg.length + 16) : Int) ≤ (↑c : Int)] (by kernel_rfl) (obCons (decide_eq_true (by omega)) <| obCons (by omega) <| obCons (by omega) obNil) (by kernel_rfl) ?_
    rw [e1]
    exact h
  · refine Tri.step (cx := cxb false) mix T0ok (HXcok B false) 6 0 (orcL [(40, false)]) seLts seLks (2 + 19) (seL nonce key msg ctr D N tot cp la (msg.length + 16) c (if c = Int.toNat (16 : Int) then la else Int.toNat (16 : Int) + la) (Int.toNat (↑(msg.length + 16) : Int) - Int.toNat (16 : Int)) (c - Int.toNat (16 : Int)) msg.length 0)
      [decide ((32 : Int) < (↑(List.length msg) : Int)) = false,
  (0 : Int) ≤ (16 : Int) ∧ (16 : Int) ≤ (↑(msg.length + 16) : Int) ∧ (↑(msg.length + 16) : Int) ≤ (↑c : Int)] (by kernel_rfl) (obCons (decide_eq_false (by omega)) <| obCons (by omega) obNil) (by kernel_rfl) ?_
    rw [e1]
    exact h
/-- the bytes that the first block encrypts -/
theorem sealD (B : Nat) (nonce key msg ctr a X : List (BitVec 8)) (N tot cp o n c o2 n2 c2 m0 r : Nat) (hm : m0 ≤ msg.length) (h32 : m0 ≤ 32) (hn : m0 ≤ n2) (hr : m0 ≤ r) (ho : 0 < m0 → o2 = a.length + X.length) (hN : a.length + X.length + r ≤ N) {R : Ex → St → Prop}
    (h : Tri P0 B (cxb false) 82 (2 + 14) ((sbRest.drop 1).drop 7) (seL nonce key msg ctr (seD a X (encK (kF nonce key) msg m0) (r - m0)) N tot cp o n c o2 n2 c2 m0 m0) R) :
    Tri P0 B (cxb false) 82 (2 + 14) ((sbRest.drop 1).drop 6) (seL nonce key msg ctr (seD a X [] r) N tot cp o n c o2 n2 c2 m0 0) R := by
  refine Tri.loop (id := 0) (ι := { j : Nat // j ≤ m0 }) rfl (fun j => seL nonce key msg ctr (seD a X (encK (kF nonce key) msg j.1) (r - j.1)) N tot cp o n c o2 n2 c2 m0 j.1) (fun j => m0 - j.1) ⟨0, Nat.zero_le _⟩ rfl (fun j => by show 2 + 14 ≤ 2 + 19; omega)
    (R1 := fun s => s = seL nonce key msg ctr (seD a X (encK (kF nonce key) msg m0) (r - m0)) N tot cp o n c o2 n2 c2 m0 m0) (fun ⟨j, hj⟩ => ?_) (fun s' hs => ?_)
  · by_cases hlt : j < m0
    · refine Tri.fin (cx := cxb false) mix T0ok (HXcok B false) 0 (orcL [(49, true)]) seLts seLks (2 + 19) .n (seL nonce key msg ctr ((seD a X (encK (kF nonce key) msg j) (r - j)).set (Int.toNat (↑j : Int) + o2) ((kF nonce key).getD (Int.toNat ((32 : Int) + (↑j : Int)) + 0) 0 ^^^ msg.getD (Int.toNat (↑j : Int) + 0) 0)) N tot cp o n c o2 n2 c2 m0 (j + 1))
        [decide ((↑j : Int) < (↑m0 : Int)) = true, (0 : Int) ≤ (↑j : Int) ∧ (↑j : Int) < (↑m0 : Int) ∧ (↑j : Int) < (↑(List.length msg) : Int), Int.toNat (↑j : Int) + (0 : Nat) < List.length msg, rng ((32 : Int) + (↑j : Int)), (0 : Int) ≤ (32 : Int) + (↑j : Int) ∧ (32 : Int) + (↑j : Int) < (↑(64 : Nat) : Int),
          Int.toNat ((32 : Int) + (↑j : Int)) + (0 : Nat) < List.length (kF nonce key), (0 : Int) ≤ (↑j : Int) ∧ (↑j : Int) < (↑n2 : Int), Int.toNat (↑j : Int) + o2 + (1 : Nat) ≤ N, rng ((↑j : Int) + (1 : Int))] (by kernel_rfl)
        (obCons (decide_eq_true (by omega)) <| obCons (by omega) <| obCons (by omega) <| obCons (by unfold rng; omega) <| obCons (by omega) <| obCons (by have : (kF nonce key).length = 64 := rfl; omega) <| obCons (by omega) <| obCons (by have := ho (by omega); omega) <| obCons (by unfold rng; omega) obNil) (by kernel_rfl) ⟨⟨j + 1, hlt⟩, by show m0 - (j + 1) < m0 - j; omega, ?_⟩
      have e := seD_set (a := a) (X := X) (E := encK (kF nonce key) msg j) (r := r - j) (by omega) ((kF nonce key).getD (32 + j) 0 ^^^ msg.getD j 0)
      rw [encK_length, ← encK_succ] at e
      have i1 : Int.toNat (↑j : Int) + o2 = j + (a.length + X.length) := by rw [ho (by omega)]; omega
      have i2 : Int.toNat ((32 : Int) + (↑j : Int)) + 0 = 32 + j := by omega
      have i3 : Int.toNat (↑j : Int) + 0 = j := by omega
      rw [i1, i2, i3, e, show r - j - 1 = r - (j + 1) by omega]
    · obtain rfl : j = m0 := by omega
      exact Tri.fin (cx := cxb false) mix T0ok (HXcok B false) 0 (orcL [(49, false)]) seLts seLks (2 + 19) (.x 0) (seL nonce key msg ctr (seD a X (encK (kF nonce key) msg j) (r - j)) N tot cp o n c o2 n2 c2 j j) [decide ((↑j : Int) < (↑j : Int)) = false] (by kernel_rfl) (obCons (by simp) obNil) (by kernel_rfl) rfl
  · subst hs
    exact h
end Go.Sx.Bx

set_option maxRecDepth 1000000
set_option linter.unusedVariables false
namespace Go.Sx
open Go.Proofs
def seN (nonce key ctr D msg2 : List (BitVec 8)) (N l3 tot cp o n c o2 n2 c2 o3 n3 c3 : Nat) : St := ⟨[(0, .one (.s (.sl (2 + 10) o3 n3 c3))), (1, .one (.s (.osl (2 + 11) l3))), (18, .one (.s (.sl (2 + 10) o2 n2 c2))), (13, .one (.s (.sl (2 + 10) 0 tot cp))), (15, .one (.s (.sl (2 + 10) o n c))), (9, .one (.s (.p (2 + 6) 0))), (10, .one (.s (.p (2 + 7) 0))), (12, .one (.s (.p (2 + 9) 0)))],
  [(2 + 10, ⟨N, .d8 D, true, false, false⟩), (2 + 11, ⟨l3, .d8 msg2, false, false, false⟩), (2 + 6, ⟨32, .d8 (kK nonce key), true, false, false⟩), (2 + 7, ⟨16, .d8 ctr, true, false, false⟩), (2 + 9, ⟨32, .d8 (kP nonce key), true, false, false⟩)], 2 + 12⟩
def seO (nonce key D : List (BitVec 8)) (N tot cp o n c o2 n2 c2 : Nat) : St := ⟨[(18, .one (.s (.sl (2 + 10) o2 n2 c2))), (13, .one (.s (.sl (2 + 10) 0 tot cp))), (15, .one (.s (.sl (2 + 10) o n c))), (12, .one (.s (.p (2 + 9) 0)))],
  [(2 + 10, ⟨N, .d8 D, true, false, false⟩), (2 + 9, ⟨32, .d8 (kP nonce key), true, false, false⟩)], 2 + 12⟩
def seP (D T : List (BitVec 8)) (N tot cp o n c : Nat) : St := ⟨[(13, .one (.s (.sl (2 + 10) 0 tot cp))), (15, .one (.s (.sl (2 + 10) o n c))), (19, .one (.s (.p (2 + 12) 0)))],
  [(2 + 10, ⟨N, .d8 D, true, false, false⟩), (2 + 12, ⟨16, .d8 T, true, false, false⟩)], 2 + 13⟩
end Go.Sx

set_option maxRecDepth 1000000
set_option linter.unusedVariables false
namespace Go.Sx.Bx
open Go.Proofs Go.Sx
def seN (nonce key ctr D msg2 : List (BitVec 8)) (N l3 tot cp o n c o2 n2 c2 o3 n3 c3 : Nat) : St := ⟨[(0, .one (.s (.sl (2 + 18) o3 n3 c3))), (1, .one (.s (.osl (2 + 19) l3))), (18, .one (.s (.sl (2 + 18) o2 n2 c2))), (13, .one (.s (.sl (2 + 18) 0 tot cp))), (15, .one (.s (.sl (2 + 18) o n c))), (9, .one (.s (.p (2 + 14) 0))), (10, .one (.s (.p (2 + 15) 0))), (12, .one (.s (.p (2 + 17) 0)))],
  [(2 + 18, ⟨N, .d8 D, true, false, false⟩), (2 + 19, ⟨l3, .d8 msg2, false, false, false⟩), (2 + 14, ⟨32, .d8 (kK nonce key), true, false, false⟩), (2 + 15, ⟨16, .d8 ctr, true, false, false⟩), (2 + 17, ⟨32, .d8 (kP nonce key), true, false, false⟩)], 2 + 20⟩
def seO (nonce key D : List (BitVec 8)) (N tot cp o n c o2 n2 c2 : Nat) : St := ⟨[(18, .one (.s (.sl (2 + 18) o2 n2 c2))), (13, .one (.s (.sl (2 + 18) 0 tot cp))), (15, .one (.s (.sl (2 + 18) o n c))), (12, .one (.s (.p (2 + 17) 0)))],
  [(2 + 18, ⟨N, .d8 D, true, false, false⟩), (2 + 17, ⟨32, .d8 (kP nonce key), true, false, false⟩)], 2 + 20⟩
def seP (D T : List (BitVec 8)) (N tot cp o n c : Nat) : St := ⟨[(13, .one (.s (.sl (2 + 18) 0 tot cp))), (15, .one (.s (.sl (2 + 18) o n c))), (19, .one (.s (.p (2 + 20) 0)))],
  [(2 + 18, ⟨N, .d8 D, true, false, false⟩), (2 + 20, ⟨16, .d8 T, true, false, false⟩)], 2 + 21⟩
end Go.Sx.Bx

set_option maxRecDepth 1000000
set_option linter.unusedVariables false
namespace Go.Sx
open Go.Proofs
/-- the counter of the second block -/
def kC1 (nonce : List (BitVec 8)) : List (BitVec 8) := lit 0 16 ((kC nonce).set 8 1#8)
/-- what a message is encrypted to -/
def sbE (nonce key msg : List (BitVec 8)) (m0 : Nat) : List (BitVec 8) := encK (kF nonce key) msg m0 ++ strS (msg.drop m0) (kC1 nonce) (kK nonce key) (msg.length - m0)
theorem sbE_length (nonce key msg : List (BitVec 8)) {m0 : Nat} (h : m0 ≤ msg.length) : (sbE nonce key msg m0).length = msg.length := by
  unfold sbE
  rw [List.length_append, encK_length, strS_length]; omega
def sbT (nonce key msg : List (BitVec 8)) (m0 : Nat) : List (BitVec 8) := lit 0 16 (poly (kP nonce key) (sbE nonce key msg m0))
def sealF (nonce key a msg : List (BitVec 8)) (m0 : Nat) : List (BitVec 8) := a ++ (sbT nonce key msg m0 ++ sbE nonce key msg m0)
theorem kK_length (nonce key : List (BitVec 8)) : (kK nonce key).length = 32 := rfl
theorem kP_length (nonce key : List (BitVec 8)) : (kP nonce key).length = 32 := rfl
def z16B : List (BitVec 8) := List.replicate 16 0
theorem z16B_length : z16B.length = 16 := rfl
def sbEf (a msg nonce key : List (BitVec 8)) (m0 : Nat) : Ef := ⟨.one (.s (.osl (2 + 6) (a.length + (msg.length + 16)))), [(2 + 6, ⟨a.length + (msg.length + 16), .d8 (sealF nonce key a msg m0), true, false, false⟩)], 2 + 7, .eff, []⟩

theorem sealE1 (B : Nat) (nonce key msg a : List (BitVec 8)) (cp m0 o2 : Nat) (hm : (32 < msg.length ∧ m0 = 32) ∨ (msg.length ≤ 32 ∧ m0 = msg.length)) (hcp : a.length + (msg.length + 16) ≤ cp) (ho : 0 < msg.length → o2 = a.length + 16) (hoz : o2 ≤ a.length + 16) (hlm : msg.length ≤ 1000000000) {R : Ex → St → Prop}
    (h : Tri P0 B (cxb false) 82 (2 + 6) ((sbRest.drop 1).drop 12) (seO nonce key (seD a z16B (sbE nonce key msg m0) (cp - a.length - 16 - msg.length)) cp (a.length + (msg.length + 16)) cp a.length (msg.length + 16) (cp - a.length) o2 msg.length (cp - a.length - 16)) R) :
    Tri P0 B (cxb false) 82 (2 + 6) ((sbRest.drop 1).drop 7) (seL nonce key msg (kC nonce) (seD a z16B (encK (kF nonce key) msg m0) (cp - a.length - 16 - m0)) cp (a.length + (msg.length + 16)) cp a.length (msg.length + 16) (cp - a.length) o2 msg.length (cp - a.length - 16) m0 m0) R := by
  have hmm : m0 ≤ msg.length := by omega
  have E := encK_length (kF nonce key) msg m0
  refine Tri.step (cx := cxb false) mix T0ok (HXcok B false) 4 0 noOrc [0, 1, 18, 13, 15, 9, 10, 12] [2 + 10, 2 + 11, 2 + 6, 2 + 7, 2 + 9] (2 + 12)
    (seN nonce key ((kC nonce).set (Int.toNat (8 : Int) + 0) 1#8) (seD a z16B (encK (kF nonce key) msg m0) (cp - a.length - 16 - m0)) (List.take (Int.toNat (↑(List.length msg) : Int) - Int.toNat (↑m0 : Int)) (List.drop (Int.toNat (↑m0 : Int)) msg)) cp (Int.toNat (↑(List.length msg) : Int) - Int.toNat (↑m0 : Int)) (a.length + (msg.length + 16)) cp a.length (msg.length + 16) (cp - a.length) o2 msg.length (cp - a.length - 16)
      (if cp - a.length - 16 = Int.toNat (↑m0 : Int) then o2 else Int.toNat (↑m0 : Int) + o2) (Int.toNat (↑msg.length : Int) - Int.toNat (↑m0 : Int)) (cp - a.length - 16 - Int.toNat (↑m0 : Int)))
    [(0 : Int) ≤ (↑m0 : Int) ∧ (↑m0 : Int) ≤ (↑(List.length msg) : Int) ∧ (↑(List.length msg) : Int) ≤ (↑(List.length msg) : Int) ∧ (↑(List.length msg) : Int) ≤ (↑(List.length msg) : Int), (0 : Int) ≤ (↑m0 : Int) ∧ (↑m0 : Int) ≤ (↑msg.length : Int) ∧ (↑msg.length : Int) ≤ (↑(cp - a.length - 16) : Int), (0 : Int) ≤ (8 : Int) ∧ (8 : Int) < (↑(16 : Nat) : Int), Int.toNat (8 : Int) + (0 : Nat) + (1 : Nat) ≤ (16 : Nat)]
    (by kernel_rfl) (obCons (by omega) <| obCons (by omega) <| obCons (by omega) <| obCons (by decide) obNil) (by kernel_rfl) ?_
  have i1 : Int.toNat (↑(List.length msg) : Int) - Int.toNat (↑m0 : Int) = msg.length - m0 := by omega
  have i2 : Int.toNat (↑m0 : Int) = m0 := by omega
  have i3 : List.take (msg.length - m0) (List.drop m0 msg) = msg.drop m0 := List.take_of_length_le (by rw [List.length_drop]; omega)
  have i4 : (kC nonce).set (Int.toNat (8 : Int) + 0) 1#8 = kC1 nonce := (lit_eq (z := 0) (n := 16) (by rw [List.length_set]; rfl)).symm
  rw [i1, i2, i3, i4]
  have hD : (seD a z16B (encK (kF nonce key) msg m0) (cp - a.length - 16 - m0)).length = cp := by rw [seD_length, E, z16B_length]; omega
  have hl2 : (msg.drop m0).length = msg.length - m0 := List.length_drop
  have hoff : 0 < msg.length - m0 → (if cp - a.length - 16 = m0 then o2 else m0 + o2) = a.length + z16B.length + (encK (kF nonce key) msg m0).length := fun h0 => by
    rw [if_neg (by omega), ho (by omega), E, z16B_length]; omega
  have hob : (if cp - a.length - 16 = m0 then o2 else m0 + o2) + (msg.length - m0) ≤ cp := by
    rcases Nat.eq_zero_or_pos (msg.length - m0) with h0 | h0
    · rw [h0]; split <;> omega
    · rw [hoff h0, E, z16B_length]; omega
  generalize ho3 : (if cp - a.length - 16 = m0 then o2 else m0 + o2) = o3 at *
  have hX : (List.take (msg.length - m0) (List.drop o3 (seD a z16B (encK (kF nonce key) msg m0) (cp - a.length - 16 - m0)))).length = msg.length - m0 := by rw [List.length_take, List.length_drop, hD]; omega
  have hS : (List.take (msg.length - m0) (List.drop 0 (msg.drop m0))) = msg.drop m0 := by rw [List.drop_zero, ← hl2, List.take_length]
  have hM : mixS (List.take (msg.length - m0) (List.drop 0 (msg.drop m0))) (List.take 16 (List.drop 0 (kC1 nonce))) (List.take 32 (List.drop 0 (kK nonce key))) (List.take (msg.length - m0) (List.drop o3 (seD a z16B (encK (kF nonce key) msg m0) (cp - a.length - 16 - m0)))) (List.length (List.take (msg.length - m0) (List.drop 0 (msg.drop m0)))) = strS (msg.drop m0) (kC1 nonce) (kK nonce key) (msg.length - m0) := by
    rw [hS, hl2]
    unfold mixS
    have e0 : List.drop (msg.length - m0) (List.take (msg.length - m0) (List.drop o3 (seD a z16B (encK (kF nonce key) msg m0) (cp - a.length - 16 - m0)))) = [] := List.drop_of_length_le (by rw [hX]; omega)
    rw [e0, List.append_nil]
    rfl
  refine Tri.step (cx := cxb false) mix T0ok (HXcok B false) 1 0 noOrc [18, 13, 15, 12] [2 + 10, 2 + 9] (2 + 12)
    (seO nonce key (splice (seD a z16B (encK (kF nonce key) msg m0) (cp - a.length - 16 - m0)) o3 (mixS (List.take (msg.length - m0) (List.drop 0 (msg.drop m0))) (List.take 16 (List.drop 0 (kC1 nonce))) (List.take 32 (List.drop 0 (kK nonce key))) (List.take (msg.length - m0) (List.drop o3 (seD a z16B (encK (kF nonce key) msg m0) (cp - a.length - 16 - m0)))) (List.length (List.take (msg.length - m0) (List.drop 0 (msg.drop m0)))))) cp (a.length + (msg.length + 16)) cp a.length (msg.length + 16) (cp - a.length) o2 msg.length (cp - a.length - 16))
    [o3 + (msg.length - m0) ≤ List.length (seD a z16B (encK (kF nonce key) msg m0) (cp - a.length - 16 - m0)) ∧ (msg.length - m0) ≤ cp - a.length - 16 - m0, (msg.length - m0) ≤ List.length (msg.drop m0), (0 : Nat) + (16 : Nat) ≤ List.length (kC1 nonce), (0 : Nat) + (32 : Nat) ≤ List.length (kK nonce key),
      List.length (mixS (List.take (msg.length - m0) (List.drop 0 (msg.drop m0))) (List.take 16 (List.drop 0 (kC1 nonce))) (List.take 32 (List.drop 0 (kK nonce key))) (List.take (msg.length - m0) (List.drop o3 (seD a z16B (encK (kF nonce key) msg m0) (cp - a.length - 16 - m0)))) (List.length (List.take (msg.length - m0) (List.drop 0 (msg.drop m0))))) = List.length (List.take (msg.length - m0) (List.drop o3 (seD a z16B (encK (kF nonce key) msg m0) (cp - a.length - 16 - m0)))) ∧ List.length (List.take (msg.length - m0) (List.drop 0 (msg.drop m0))) = List.length (List.take (msg.length - m0) (List.drop 0 (msg.drop m0))) ∧ List.length (List.take 16 (List.drop 0 (kC1 nonce))) = List.length (List.take 16 (List.drop 0 (kC1 nonce))) ∧ List.length (List.take 32 (List.drop 0 (kK nonce key))) = List.length (List.take 32 (List.drop 0 (kK nonce key))) ∧ True,
      List.length (List.take (msg.length - m0) (List.drop 0 (msg.drop m0))) ≤ List.length (List.take (msg.length - m0) (List.drop o3 (seD a z16B (encK (kF nonce key) msg m0) (cp - a.length - 16 - m0))))]
    (by kernel_rfl) (obCons (by rw [hD]; omega) <| obCons (by rw [hl2]; omega) <| obCons (by show 0 + 16 ≤ 16; decide) <| obCons (by rw [kK_length]; decide) <| obCons ⟨by rw [hM, hX, strS_length], rfl, rfl, rfl, trivial⟩ <| obCons (by rw [hX, hS, hl2]; omega) obNil) (by kernel_rfl) ?_
  rw [hM]
  have hF : splice (seD a z16B (encK (kF nonce key) msg m0) (cp - a.length - 16 - m0)) o3 (strS (msg.drop m0) (kC1 nonce) (kK nonce key) (msg.length - m0)) = seD a z16B (sbE nonce key msg m0) (cp - a.length - 16 - msg.length) := by
    rcases Nat.eq_zero_or_pos (msg.length - m0) with h0 | h0
    · unfold sbE
      rw [h0]
      have : strS (msg.drop m0) (kC1 nonce) (kK nonce key) 0 = [] := List.eq_nil_of_length_eq_zero (by rw [strS_length])
      rw [this, seD_none, List.append_nil, show cp - a.length - 16 - m0 = cp - a.length - 16 - msg.length by omega]
    · rw [hoff h0]
      have := seD_fill (a := a) (X := z16B) (E := encK (kF nonce key) msg m0) (S := strS (msg.drop m0) (kC1 nonce) (kK nonce key) (msg.length - m0)) (r := cp - a.length - 16 - m0) (by rw [strS_length]; omega)
      rw [this, strS_length, show cp - a.length - 16 - m0 - (msg.length - m0) = cp - a.length - 16 - msg.length by omega]
      rfl
  rw [hF]
  exact h
end Go.Sx

set_option maxRecDepth 1000000
set_option linter.unusedVariables false
namespace Go.Sx.Bx
open Go.Proofs Go.Sx
def sbEf (a msg nonce key : List (BitVec 8)) (m0 : Nat) : Ef := ⟨.one (.s (.osl (2 + 14) (a.length + (msg.length + 16)))), [(2 + 14, ⟨a.length + (msg.length + 16), .d8 (sealF nonce key a msg m0), true, false, false⟩)], 2 + 15, .eff, []⟩

theorem sealE1 (B : Nat) (nonce key msg a : List (BitVec 8)) (cp m0 o2 : Nat) (hm : (32 < msg.length ∧ m0 = 32) ∨ (msg.length ≤ 32 ∧ m0 = msg.length)) (hcp : a.length + (msg.length + 16) ≤ cp) (ho : 0 < msg.length → o2 = a.length + 16) (hoz : o2 ≤ a.length + 16) (hlm : msg.length ≤ 1000000000) {R : Ex → St → Prop}
    (h : Tri P0 B (cxb false) 82 (2 + 14) ((sbRest.drop 1).drop 12) (seO nonce key (seD a z16B (sbE nonce key msg m0) (cp - a.length - 16 - msg.length)) cp (a.length + (msg.length + 16)) cp a.length (msg.length + 16) (cp - a.length) o2 msg.length (cp - a.length - 16)) R) :
    Tri P0 B (cxb false) 82 (2 + 14) ((sbRest.drop 1).drop 7) (seL nonce key msg (kC nonce) (seD a z16B (encK (kF nonce key) msg m0) (cp - a.length - 16 - m0)) cp (a.length + (msg.length + 16)) cp a.length (msg.length + 16) (cp - a.length) o2 msg.length (cp - a.length - 16) m0 m0) R := by
  have hmm : m0 ≤ msg.length := by omega
  have E := encK_length (kF nonce key) msg m0
  refine Tri.step (cx := cxb false) mix T0ok (HXcok B false) 4 0 noOrc [0, 1, 18, 13, 15, 9, 10, 12] [2 + 18, 2 + 19, 2 + 14, 2 + 15, 2 + 17] (2 + 20)
    (seN nonce key ((kC nonce).set (Int.toNat (8 : Int) + 0) 1#8) (seD a z16B (encK (kF nonce key) msg m0) (cp - a.length - 16 - m0)) (List.take (Int.toNat (↑(List.length msg) : Int) - Int.toNat (↑m0 : Int)) (List.drop (Int.toNat (↑m0 : Int)) msg)) cp (Int.toNat (↑(List.length msg) : Int) - Int.toNat (↑m0 : Int)) (a.length + (msg.length + 16)) cp a.length (msg.length + 16) (cp - a.length) o2 msg.length (cp - a.length - 16)
      (if cp - a.length - 16 = Int.toNat (↑m0 : Int) then o2 else Int.toNat (↑m0 : Int) + o2) (Int.toNat (↑msg.length : Int) - Int.toNat (↑m0 : Int)) (cp - a.length - 16 - Int.toNat (↑m0 : Int)))
    [(0 : Int) ≤ (↑m0 : Int) ∧ (↑m0 : Int) ≤ (↑(List.length msg) : Int) ∧ (↑(List.length msg) : Int) ≤ (↑(List.length msg) : Int) ∧ (↑(List.length msg) : Int) ≤ (↑(List.length msg) : Int), (0 : Int) ≤ (↑m0 : Int) ∧ (↑m0 : Int) ≤ (↑msg.length : Int) ∧ (↑msg.length : Int) ≤ (↑(cp - a.length - 16) : Int), (0 : Int) ≤ (8 : Int) ∧ (8 : Int) < (↑(16 : Nat) : Int), Int.toNat (8 : Int) + (0 : Nat) + (1 : Nat) ≤ (16 : Nat)]
    (by kernel_rfl) (obCons (by omega) <| obCons (by omega) <| obCons (by omega) <| obCons (by decide) obNil) (by kernel_rfl) ?_
  have i1 : Int.toNat (↑(List.length msg) : Int) - Int.toNat (↑m0 : Int) = msg.length - m0 := by omega
  have i2 : Int.toNat (↑m0 : Int) = m0 := by omega
  have i3 : List.take (msg.length - m0) (List.drop m0 msg) = msg.drop m0 := List.take_of_length_le (by rw [List.length_drop]; omega)
  have i4 : (kC nonce).set (Int.toNat (8 : Int) + 0) 1#8 = kC1 nonce := (lit_eq (z := 0) (n := 16) (by rw [List.length_set]; rfl)).symm
  rw [i1, i2, i3, i4]
  have hD : (seD a z16B (encK (kF nonce key) msg m0) (cp - a.length - 16 - m0)).length = cp := by rw [seD_length, E, z16B_length]; omega
  have hl2 : (msg.drop m0).length = msg.length - m0 := List.length_drop
  have hoff : 0 < msg.length - m0 → (if cp - a.length - 16 = m0 then o2 else m0 + o2) = a.length + z16B.length + (encK (kF nonce key) msg m0).length := fun h0 => by
    rw [if_neg (by omega), ho (by omega), E, z16B_length]; omega
  have hob : (if cp - a.length - 16 = m0 then o2 else m0 + o2) + (msg.length - m0) ≤ cp := by
    rcases Nat.eq_zero_or_pos (msg.length - m0) with h0 | h0
    · rw [h0]; split <;> omega
    · rw [hoff h0, E, z16B_length]; omega
  generalize ho3 : (if cp - a.length - 16 = m0 then o2 else m0 + o2) = o3 at *
  have hX : (List.take (msg.length - m0) (List.drop o3 (seD a z16B (encK (kF nonce key) msg m0) (cp - a.length - 16 - m0)))).length = msg.length - m0 := by rw [List.length_take, List.length_drop, hD]; omega
  have hS : (List.take (msg.length - m0) (List.drop 0 (msg.drop m0))) = msg.drop m0 := by rw [List.drop_zero, ← hl2, List.take_length]
  have hM : mixS (List.take (msg.length - m0) (List.drop 0 (msg.drop m0))) (List.take 16 (List.drop 0 (kC1 nonce))) (List.take 32 (List.drop 0 (kK nonce key))) (List.take (msg.length - m0) (List.drop o3 (seD a z16B (encK (kF nonce key) msg m0) (cp - a.length - 16 - m0)))) (List.length (List.take (msg.length - m0) (List.drop 0 (msg.drop m0)))) = strS (msg.drop m0) (kC1 nonce) (kK nonce key) (msg.length - m0) := by
    rw [hS, hl2]
    unfold mixS
    have e0 : List.drop (msg.length - m0) (List.take (msg.length - m0) (List.drop o3 (seD a z16B (encK (kF nonce key) msg m0) (cp - a.length - 16 - m0)))) = [] := List.drop_of_length_le (by rw [hX]; omega)
    rw [e0, List.append_nil]
    rfl
  refine Tri.step (cx := cxb false) mix T0ok (HXcok B false) 1 0 noOrc [18, 13, 15, 12] [2 + 18, 2 + 17] (2 + 20)
    (seO nonce key (splice (seD a z16B (encK (kF nonce key) msg m0) (cp - a.length - 16 - m0)) o3 (mixS (List.take (msg.length - m0) (List.drop 0 (msg.drop m0))) (List.take 16 (List.drop 0 (kC1 nonce))) (List.take 32 (List.drop 0 (kK nonce key))) (List.take (msg.length - m0) (List.drop o3 (seD a z16B (encK (kF nonce key) msg m0) (cp - a.length - 16 - m0)))) (List.length (List.take (msg.length - m0) (List.drop 0 (msg.drop m0)))))) cp (a.length + (msg.length + 16)) cp a.length (msg.length + 16) (cp - a.length) o2 msg.length (cp - a.length - 16))
    [o3 + (msg.length - m0) ≤ List.length (seD a z16B (encK (kF nonce key) msg m0) (cp - a.length - 16 - m0)) ∧ (msg.length - m0) ≤ cp - a.length - 16 - m0, (msg.length - m0) ≤ List.length (msg.drop m0), (0 : Nat) + (16 : Nat) ≤ List.length (kC1 nonce), (0 : Nat) + (32 : Nat) ≤ List.length (kK nonce key),
      List.length (mixS (List.take (msg.length - m0) (List.drop 0 (msg.drop m0))) (List.take 16 (List.drop 0 (kC1 nonce))) (List.take 32 (List.drop 0 (kK nonce key))) (List.take (msg.length - m0) (List.drop o3 (seD a z16B (encK (kF nonce key) msg m0) (cp - a.length - 16 - m0)))) (List.length (List.take (msg.length - m0) (List.drop 0 (msg.drop m0))))) = List.length (List.take (msg.length - m0) (List.drop o3 (seD a z16B (encK (kF nonce key) msg m0) (cp - a.length - 16 - m0)))) ∧ List.length (List.take (msg.length - m0) (List.drop 0 (msg.drop m0))) = List.length (List.take (msg.length - m0) (List.drop 0 (msg.drop m0))) ∧ List.length (List.take 16 (List.drop 0 (kC1 nonce))) = List.length (List.take 16 (List.drop 0 (kC1 nonce))) ∧ List.length (List.take 32 (List.drop 0 (kK nonce key))) = List.length (List.take 32 (List.drop 0 (kK nonce key))) ∧ True,
      List.length (List.take (msg.length - m0) (List.drop 0 (msg.drop m0))) ≤ List.length (List.take (msg.length - m0) (List.drop o3 (seD a z16B (encK (kF nonce key) msg m0) (cp - a.length - 16 - m0))))]
    (by kernel_rfl) (obCons (by rw [hD]; omega) <| obCons (by rw [hl2]; omega) <| obCons (by show 0 + 16 ≤ 16; decide) <| obCons (by rw [kK_length]; decide) <| obCons ⟨by rw [hM, hX, strS_length], rfl, rfl, rfl, trivial⟩ <| obCons (by rw [hX, hS, hl2]; omega) obNil) (by kernel_rfl) ?_
  rw [hM]
  have hF : splice (seD a z16B (encK (kF nonce key) msg m0) (cp - a.length - 16 - m0)) o3 (strS (msg.drop m0) (kC1 nonce) (kK nonce key) (msg.length - m0)) = seD a z16B (sbE nonce key msg m0) (cp - a.length - 16 - msg.length) := by
    rcases Nat.eq_zero_or_pos (msg.length - m0) with h0 | h0
    · unfold sbE
      rw [h0]
      have : strS (msg.drop m0) (kC1 nonce) (kK nonce key) 0 = [] := List.eq_nil_of_length_eq_zero (by rw [strS_length])
      rw [this, seD_none, List.append_nil, show cp - a.length - 16 - m0 = cp - a.length - 16 - msg.length by omega]
    · rw [hoff h0]
      have := seD_fill (a := a) (X := z16B) (E := encK (kF nonce key) msg m0) (S := strS (msg.drop m0) (kC1 nonce) (kK nonce key) (msg.length - m0)) (r := cp - a.length - 16 - m0) (by rw [strS_length]; omega)
      rw [this, strS_length, show cp - a.length - 16 - m0 - (msg.length - m0) = cp - a.length - 16 - msg.length by omega]
      rfl
  rw [hF]
  exact h
end Go.Sx.Bx

set_option maxRecDepth 1000000
set_option linter.unusedVariables false
namespace Go.Sx
open Go.Proofs
theorem sealE2 (B : Nat) (nonce key msg a : List (BitVec 8)) (cp m0 o2 : Nat) (hmm : m0 ≤ msg.length) (hcp : a.length + (msg.length + 16) ≤ cp) (ho : 0 < msg.length → o2 = a.length + 16) (hoz : o2 ≤ a.length + 16) (hlm : msg.length ≤ 1000000000) :
    Tri P0 B (cxb false) 82 (2 + 6) ((sbRest.drop 1).drop 12) (seO nonce key (seD a z16B (sbE nonce key msg m0) (cp - a.length - 16 - msg.length)) cp (a.length + (msg.length + 16)) cp a.length (msg.length + 16) (cp - a.length) o2 msg.length (cp - a.length - 16)) (Ret (cxb false) Tryz.f32.results.toList (sbEf a msg nonce key m0)) := by
  have hE := sbE_length nonce key msg hmm
  have hD : (seD a z16B (sbE nonce key msg m0) (cp - a.length - 16 - msg.length)).length = cp := by rw [seD_length, hE, z16B_length]; omega
  have hmid : List.take msg.length (List.drop o2 (seD a z16B (sbE nonce key msg m0) (cp - a.length - 16 - msg.length))) = sbE nonce key msg m0 := by
    rcases Nat.eq_zero_or_pos msg.length with h0 | h0
    · rw [h0, List.take_zero]
      exact (List.eq_nil_of_length_eq_zero (by rw [hE, h0])).symm
    · rw [ho h0, ← z16B_length]
      exact seD_mid hE.symm
  have hT : (sbT nonce key msg m0).length = 16 := lit_length _ _ _
  refine Tri.step (cx := cxb false) mix T0ok (HXcok B false) 2 0 noOrc [13, 15, 19] [2 + 10, 2 + 12] (2 + 13)
    (seP (seD a z16B (sbE nonce key msg m0) (cp - a.length - 16 - msg.length)) (splice (List.replicate 16 0) 0 (lit 0 16 (poly (List.take 32 (List.drop 0 (kP nonce key))) (List.take msg.length (List.drop o2 (seD a z16B (sbE nonce key msg m0) (cp - a.length - 16 - msg.length))))))) cp (a.length + (msg.length + 16)) cp a.length (msg.length + 16) (cp - a.length))
    [(0 : Nat) + (16 : Nat) ≤ List.length (List.replicate (16 : Nat) (0 : BitVec (8 : Nat))), o2 + msg.length ≤ List.length (seD a z16B (sbE nonce key msg m0) (cp - a.length - 16 - msg.length)) ∧ msg.length ≤ cp - a.length - 16, (0 : Nat) + (32 : Nat) ≤ List.length (kP nonce key),
      List.length (lit (0 : BitVec 8) (16 : Nat) (poly (List.take (32 : Nat) (List.drop (0 : Nat) (kP nonce key))) (List.take msg.length (List.drop o2 (seD a z16B (sbE nonce key msg m0) (cp - a.length - 16 - msg.length)))))) = List.length (List.take (16 : Nat) (List.drop (0 : Nat) (List.replicate (16 : Nat) (0 : BitVec (8 : Nat))))) ∧ List.length (List.take msg.length (List.drop o2 (seD a z16B (sbE nonce key msg m0) (cp - a.length - 16 - msg.length)))) = List.length (List.take msg.length (List.drop o2 (seD a z16B (sbE nonce key msg m0) (cp - a.length - 16 - msg.length)))) ∧ List.length (List.take (32 : Nat) (List.drop (0 : Nat) (kP nonce key))) = List.length (List.take (32 : Nat) (List.drop (0 : Nat) (kP nonce key))) ∧ True,
      List.length (List.take msg.length (List.drop o2 (seD a z16B (sbE nonce key msg m0) (cp - a.length - 16 - msg.length)))) ≤ (4294967295 : Nat)]
    (by kernel_rfl) (obCons (by decide) <| obCons ⟨by rw [hD]; omega, by omega⟩ <| obCons (by rw [kP_length]; decide) <| obCons ⟨by rw [lit_length]; rfl, rfl, rfl, trivial⟩ <| obCons (by rw [hmid, hE]; omega) obNil) (by kernel_rfl) ?_
  have hs : splice (List.replicate 16 (0 : BitVec 8)) 0 (lit 0 16 (poly (List.take 32 (List.drop 0 (kP nonce key))) (List.take msg.length (List.drop o2 (seD a z16B (sbE nonce key msg m0) (cp - a.length - 16 - msg.length)))))) = sbT nonce key msg m0 := by
    rw [hmid]; rfl
  rw [hs]
  refine Tri.step (cx := cxb false) mix T0ok (HXcok B false) 1 0 noOrc [13] [2 + 10] (2 + 13)
    ⟨[(13, .one (.s (.sl (2 + 10) 0 (a.length + (msg.length + 16)) cp)))], [(2 + 10, ⟨cp, .d8 (splice (seD a z16B (sbE nonce key msg m0) (cp - a.length - 16 - msg.length)) a.length (List.take (Nat.min (Int.toNat (↑(16 : Nat) : Int) - Int.toNat (0 : Int)) (msg.length + 16)) (List.drop (Int.toNat (0 : Int) + (0 : Nat)) (sbT nonce key msg m0)))), true, false, false⟩)], 2 + 13⟩
    [(0 : Int) ≤ (0 : Int) ∧ (0 : Int) ≤ (↑(16 : Nat) : Int) ∧ (↑(16 : Nat) : Int) ≤ (↑(16 : Nat) : Int), Int.toNat (0 : Int) + (0 : Nat) + (Int.toNat (↑(16 : Nat) : Int) - Int.toNat (0 : Int)) ≤ List.length (sbT nonce key msg m0) ∧ a.length + (msg.length + 16) ≤ cp]
    (by kernel_rfl) (obCons (by omega) <| obCons ⟨by rw [hT]; decide, hcp⟩ obNil) (by kernel_rfl) ?_
  have hm16 : Nat.min (Int.toNat (↑(16 : Nat) : Int) - Int.toNat (0 : Int)) (msg.length + 16) = 16 := by
    have : Int.toNat (↑(16 : Nat) : Int) - Int.toNat (0 : Int) = 16 := by decide
    rw [this]; exact Nat.min_eq_left (by omega)
  have htk : List.take 16 (List.drop (Int.toNat (0 : Int) + 0) (sbT nonce key msg m0)) = sbT nonce key msg m0 := by
    rw [show Int.toNat (0 : Int) + 0 = 0 from rfl, List.drop_zero, ← hT, List.take_length]
  have htag := seD_tag (a := a) (X := z16B) (E := sbE nonce key msg m0) (T := sbT nonce key msg m0) (r := cp - a.length - 16 - msg.length) (by rw [hT, z16B_length])
  rw [hm16, htk, htag]
  have hD2 : (seD a (sbT nonce key msg m0) (sbE nonce key msg m0) (cp - a.length - 16 - msg.length)).length = cp := by rw [seD_length, hE, hT]; omega
  refine Tri.thaw (k := 2 + 10) (d := 13) (o := 0) (n := a.length + (msg.length + 16)) (c := cp) (N := cp) (D := seD a (sbT nonce key msg m0) (sbE nonce key msg m0) (cp - a.length - 16 - msg.length)) (by kernel_rfl) (by kernel_rfl) (by rw [hD2]; omega) (by omega) ?_
  have hfin : List.take (a.length + (msg.length + 16)) (List.drop 0 (seD a (sbT nonce key msg m0) (sbE nonce key msg m0) (cp - a.length - 16 - msg.length))) = sealF nonce key a msg m0 := by
    rw [List.drop_zero]
    exact seD_take (by rw [hE, hT]; omega)
  rw [hfin]
  refine Tri.stepR (cx := cxb false) mix T0ok (HXcok B false) 1 0 noOrc [8] [(2 + 13, 2 + 6)] (2 + 7) ⟨[(8, .one (.s (.osl (2 + 6) (a.length + (msg.length + 16)))))], [(2 + 6, ⟨a.length + (msg.length + 16), .d8 (sealF nonce key a msg m0), true, false, false⟩)], 2 + 7⟩ [] (by kernel_rfl) obNil ?_
  exact Tri.ret (cx := cxb false) mix T0ok (HXcok B false) 0 noOrc [8] [2 + 6] (2 + 7) ⟨[(8, .one (.s (.osl (2 + 6) (a.length + (msg.length + 16)))))], [(2 + 6, ⟨a.length + (msg.length + 16), .d8 (sealF nonce key a msg m0), true, false, false⟩)], 2 + 7⟩ [] .r (by kernel_rfl) obNil (by kernel_rfl) rfl [2 + 6] [] (by kernel_rfl) obNil
end Go.Sx

set_option maxRecDepth 1000000
set_option linter.unusedVariables false
namespace Go.Sx.Bx
open Go.Proofs Go.Sx
theorem sealE2 (B : Nat) (nonce key msg a : List (BitVec 8)) (cp m0 o2 : Nat) (hmm : m0 ≤ msg.length) (hcp : a.length + (msg.length + 16) ≤ cp) (ho : 0 < msg.length → o2 = a.length + 16) (hoz : o2 ≤ a.length + 16) (hlm : msg.length ≤ 1000000000) :
    Tri P0 B (cxb false) 82 (2 + 14) ((sbRest.drop 1).drop 12) (seO nonce key (seD a z16B (sbE nonce key msg m0) (cp - a.length - 16 - msg.length)) cp (a.length + (msg.length + 16)) cp a.length (msg.length + 16) (cp - a.length) o2 msg.length (cp - a.length - 16)) (Ret (cxb false) Tryz.f32.results.toList (sbEf a msg nonce key m0)) := by
  have hE := sbE_length nonce key msg hmm
  have hD : (seD a z16B (sbE nonce key msg m0) (cp - a.length - 16 - msg.length)).length = cp := by rw [seD_length, hE, z16B_length]; omega
  have hmid : List.take msg.length (List.drop o2 (seD a z16B (sbE nonce key msg m0) (cp - a.length - 16 - msg.length))) = sbE nonce key msg m0 := by
    rcases Nat.eq_zero_or_pos msg.length with h0 | h0
    · rw [h0, List.take_zero]
      exact (List.eq_nil_of_length_eq_zero (by rw [hE, h0])).symm
    · rw [ho h0, ← z16B_length]
      exact seD_mid hE.symm
  have hT : (sbT nonce key msg m0).length = 16 := lit_length _ _ _
  refine Tri.step (cx := cxb false) mix T0ok (HXcok B false) 2 0 noOrc [13, 15, 19] [2 + 18, 2 + 20] (2 + 21)
    (seP (seD a z16B (sbE nonce key msg m0) (cp - a.length - 16 - msg.length)) (splice (List.replicate 16 0) 0 (lit 0 16 (poly (List.take 32 (List.drop 0 (kP nonce key))) (List.take msg.length (List.drop o2 (seD a z16B (sbE nonce key msg m0) (cp - a.length - 16 - msg.length))))))) cp (a.length + (msg.length + 16)) cp a.length (msg.length + 16) (cp - a.length))
    [(0 : Nat) + (16 : Nat) ≤ List.length (List.replicate (16 : Nat) (0 : BitVec (8 : Nat))), o2 + msg.length ≤ List.length (seD a z16B (sbE nonce key msg m0) (cp - a.length - 16 - msg.length)) ∧ msg.length ≤ cp - a.length - 16, (0 : Nat) + (32 : Nat) ≤ List.length (kP nonce key),
      List.length (lit (0 : BitVec 8) (16 : Nat) (poly (List.take (32 : Nat) (List.drop (0 : Nat) (kP nonce key))) (List.take msg.length (List.drop o2 (seD a z16B (sbE nonce key msg m0) (cp - a.length - 16 - msg.length)))))) = List.length (List.take (16 : Nat) (List.drop (0 : Nat) (List.replicate (16 : Nat) (0 : BitVec (8 : Nat))))) ∧ List.length (List.take msg.length (List.drop o2 (seD a z16B (sbE nonce key msg m0) (cp - a.length - 16 - msg.length)))) = List.length (List.take msg.length (List.drop o2 (seD a z16B (sbE nonce key msg m0) (cp - a.length - 16 - msg.length)))) ∧ List.length (List.take (32 : Nat) (List.drop (0 : Nat) (kP nonce key))) = List.length (List.take (32 : Nat) (List.drop (0 : Nat) (kP nonce key))) ∧ True,
      List.length (List.take msg.length (List.drop o2 (seD a z16B (sbE nonce key msg m0) (cp - a.length - 16 - msg.length)))) ≤ (4294967295 : Nat)]
    (by kernel_rfl) (obCons (by decide) <| obCons ⟨by rw [hD]; omega, by omega⟩ <| obCons (by rw [kP_length]; decide) <| obCons ⟨by rw [lit_length]; rfl, rfl, rfl, trivial⟩ <| obCons (by rw [hmid, hE]; omega) obNil) (by kernel_rfl) ?_
  have hs : splice (List.replicate 16 (0 : BitVec 8)) 0 (lit 0 16 (poly (List.take 32 (List.drop 0 (kP nonce key))) (List.take msg.length (List.drop o2 (seD a z16B (sbE nonce key msg m0) (cp - a.length - 16 - msg.length)))))) = sbT nonce key msg m0 := by
    rw [hmid]; rfl
  rw [hs]
  refine Tri.step (cx := cxb false) mix T0ok (HXcok B false) 1 0 noOrc [13] [2 + 18] (2 + 21)
    ⟨[(13, .one (.s (.sl (2 + 18) 0 (a.length + (msg.length + 16)) cp)))], [(2 + 18, ⟨cp, .d8 (splice (seD a z16B (sbE nonce key msg m0) (cp - a.length - 16 - msg.length)) a.length (List.take (Nat.min (Int.toNat (↑(16 : Nat) : Int) - Int.toNat (0 : Int)) (msg.length + 16)) (List.drop (Int.toNat (0 : Int) + (0 : Nat)) (sbT nonce key msg m0)))), true, false, false⟩)], 2 + 21⟩
    [(0 : Int) ≤ (0 : Int) ∧ (0 : Int) ≤ (↑(16 : Nat) : Int) ∧ (↑(16 : Nat) : Int) ≤ (↑(16 : Nat) : Int), Int.toNat (0 : Int) + (0 : Nat) + (Int.toNat (↑(16 : Nat) : Int) - Int.toNat (0 : Int)) ≤ List.length (sbT nonce key msg m0) ∧ a.length + (msg.length + 16) ≤ cp]
    (by kernel_rfl) (obCons (by omega) <| obCons ⟨by rw [hT]; decide, hcp⟩ obNil) (by kernel_rfl) ?_
  have hm16 : Nat.min (Int.toNat (↑(16 : Nat) : Int) - Int.toNat (0 : Int)) (msg.length + 16) = 16 := by
    have : Int.toNat (↑(16 : Nat) : Int) - Int.toNat (0 : Int) = 16 := by decide
    rw [this]; exact Nat.min_eq_left (by omega)
  have htk : List.take 16 (List.drop (Int.toNat (0 : Int) + 0) (sbT nonce key msg m0)) = sbT nonce key msg m0 := by
    rw [show Int.toNat (0 : Int) + 0 = 0 from rfl, List.drop_zero, ← hT, List.take_length]
  have htag := seD_tag (a := a) (X := z16B) (E := sbE nonce key msg m0) (T := sbT nonce key msg m0) (r := cp - a.length - 16 - msg.length) (by rw [hT, z16B_length])
  rw [hm16, htk, htag]
  have hD2 : (seD a (sbT nonce key msg m0) (sbE nonce key msg m0) (cp - a.length - 16 - msg.length)).length = cp := by rw [seD_length, hE, hT]; omega
  refine Tri.thaw (k := 2 + 18) (d := 13) (o := 0) (n := a.length + (msg.length + 16)) (c := cp) (N := cp) (D := seD a (sbT nonce key msg m0) (sbE nonce key msg m0) (cp - a.length - 16 - msg.length)) (by kernel_rfl) (by kernel_rfl) (by rw [hD2]; omega) (by omega) ?_
  have hfin : List.take (a.length + (msg.length + 16)) (List.drop 0 (seD a (sbT nonce key msg m0) (sbE nonce key msg m0) (cp - a.length - 16 - msg.length))) = sealF nonce key a msg m0 := by
    rw [List.drop_zero]
    exact seD_take (by rw [hE, hT]; omega)
  rw [hfin]
  refine Tri.stepR (cx := cxb false) mix T0ok (HXcok B false) 1 0 noOrc [8] [(2 + 21, 2 + 14)] (2 + 15) ⟨[(8, .one (.s (.osl (2 + 14) (a.length + (msg.length + 16)))))], [(2 + 14, ⟨a.length + (msg.length + 16), .d8 (sealF nonce key a msg m0), true, false, false⟩)], 2 + 15⟩ [] (by kernel_rfl) obNil ?_
  exact Tri.ret (cx := cxb false) mix T0ok (HXcok B false) 0 noOrc [8] [2 + 14] (2 + 15) ⟨[(8, .one (.s (.osl (2 + 14) (a.length + (msg.length + 16)))))], [(2 + 14, ⟨a.length + (msg.length + 16), .d8 (sealF nonce key a msg m0), true, false, false⟩)], 2 + 15⟩ [] .r (by kernel_rfl) obNil (by kernel_rfl) rfl [2 + 14] [] (by kernel_rfl) obNil
end Go.Sx.Bx

set_option maxRecDepth 1000000
set_option linter.unusedVariables false
namespace Go.Sx
open Go.Proofs
def m32 (n : Nat) : Nat := bif Nat.blt 32 n then 32 else n
theorem m32_or (n : Nat) : (32 < n ∧ m32 n = 32) ∨ (n ≤ 32 ∧ m32 n = n) := by
  unfold m32
  cases h : Nat.blt 32 n with
  | true => exact .inl ⟨blt_iff.1 h, rfl⟩
  | false => exact .inr ⟨Nat.not_lt.1 fun hh => (by rw [blt_iff.2 hh] at h; cases h), rfl⟩
theorem seal1 (B : Nat) (a msg nonce key : List (BitVec 8)) (hla : a.length ≤ 1000000000) (hlm : msg.length ≤ 1000000000) : FnE P0 B 2 32 (sbA a.length msg.length) (sbM a msg nonce key) (2 + 6) (sbEf a msg nonce key (m32 msg.length)) := by
  have hm := m32_or msg.length
  refine FnE.tri (cx := cxb false) (sz := 82) (fn := Tryz.f32) (c := bodyOf Tryz.f32) T0ok (by kernel_rfl) (by kernel_rfl) (by kernel_rfl) (by kernel_rfl) (by kernel_rfl) (by kernel_rfl) (by show 2 + 6 ≤ 2 + 7; omega) ?_
  refine Tri.chg (cx := cxb true) rfl ?_
  refine sealA B a msg nonce key ?_
  refine sealB B a msg nonce key hla hlm fun cp hcp => ?_
  refine sealC B nonce key msg _ _ _ _ _ _ _ (m32 msg.length) hm (by omega) ?_
  have e16 : cp - a.length = 16 + (cp - a.length - 16) := by omega
  rw [seD_zero a e16]
  have ho : 0 < msg.length → (if cp - a.length = 16 then a.length else 16 + a.length) = a.length + 16 := fun h0 => by rw [if_neg (by omega)]; omega
  have hoz : (if cp - a.length = 16 then a.length else 16 + a.length) ≤ a.length + 16 := by split <;> omega
  have hmm : m32 msg.length ≤ msg.length := by omega
  refine sealD B nonce key msg _ a z16B _ _ _ _ _ _ _ _ _ _ (cp - a.length - 16) hmm (by omega) hmm (by omega) (fun h0 => by rw [ho (by omega), z16B_length]) (by rw [z16B_length]; omega) ?_
  refine sealE1 B nonce key msg a cp _ _ hm hcp ho hoz hlm ?_
  exact sealE2 B nonce key msg a cp _ _ hmm hcp ho hoz hlm
end Go.Sx

set_option maxRecDepth 1000000
set_option linter.unusedVariables false
namespace Go.Sx.Bx
open Go.Proofs Go.Sx
theorem seal1 (B : Nat) (a msg nonce key : List (BitVec 8)) (hla : a.length ≤ 1000000000) (hlm : msg.length ≤ 1000000000) : FnE P0 B 2 32 (sbA a.length msg.length) (sbM a msg nonce key) (2 + 14) (sbEf a msg nonce key (m32 msg.length)) := by
  have hm := m32_or msg.length
  refine FnE.tri (cx := cxb false) (sz := 82) (fn := Tryz.f32) (c := bodyOf Tryz.f32) T0ok (by kernel_rfl) (by kernel_rfl) (by kernel_rfl) (by kernel_rfl) (by kernel_rfl) (by kernel_rfl) (by show 2 + 14 ≤ 2 + 15; omega) ?_
  refine Tri.chg (cx := cxb true) rfl ?_
  refine sealA B a msg nonce key ?_
  refine sealB B a msg nonce key hla hlm fun cp hcp => ?_
  refine sealC B nonce key msg _ _ _ _ _ _ _ (m32 msg.length) hm (by omega) ?_
  have e16 : cp - a.length = 16 + (cp - a.length - 16) := by omega
  rw [seD_zero a e16]
  have ho : 0 < msg.length → (if cp - a.length = 16 then a.length else 16 + a.length) = a.length + 16 := fun h0 => by rw [if_neg (by omega)]; omega
  have hoz : (if cp - a.length = 16 then a.length else 16 + a.length) ≤ a.length + 16 := by split <;> omega
  have hmm : m32 msg.length ≤ msg.length := by omega
  refine sealD B nonce key msg _ a z16B _ _ _ _ _ _ _ _ _ _ (cp - a.length - 16) hmm (by omega) hmm (by omega) (fun h0 => by rw [ho (by omega), z16B_length]) (by rw [z16B_length]; omega) ?_
  refine sealE1 B nonce key msg a cp _ _ hm hcp ho hoz hlm ?_
  exact sealE2 B nonce key msg a cp _ _ hmm hcp ho hoz hlm
end Go.Sx.Bx
