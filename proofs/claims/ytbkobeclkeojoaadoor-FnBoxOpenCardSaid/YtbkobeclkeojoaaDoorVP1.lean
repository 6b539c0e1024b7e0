/- spec.settled. spec.digits, spec.lowered. spec.Poly1305. Bytes behind others; spec.Seal: the stream. spec.Seal. What is sealed, by bytes: the spec's box is the code's. Conditions: none; plain definitions and theorems. spec.Seal as a contract; few of two slices; what the laws call. The laws: states behind the tests of sizes. Conditions: none. -/
import Derived.Test.YtbkobeclkeojoaaDoorVQ1
import Derived.Test.YtbkobeclkeojoaaDoorQ2
import Derived.Test.YtbkobeclkeojoaaDoorW9
set_option maxRecDepth 1000000
set_option linter.unusedVariables false
namespace Go.Sx
open Go.Proofs

end Go.Sx

set_option maxRecDepth 1000000
set_option linter.unusedVariables false
namespace Go.Sx
open Go.Proofs

end Go.Sx

set_option maxRecDepth 1000000
set_option linter.unusedVariables false
namespace Go.Sx
open Go.Proofs

theorem Tri.code {P : Program} {B : Nat} {cx : Cx} {sz base : Nat} {l l' : List Code} {s : St} {R : Ex → St → Prop} (h : l = l') (ht : Tri P B cx sz base l' s R) : Tri P B cx sz base l s R := by rw [h]; exact ht
end Go.Sx

set_option maxRecDepth 1000000
set_option linter.unusedVariables false
namespace Go.Sx
open Go.Proofs
def behE (a b : List (BitVec 8)) : Ef := ⟨.one (.s (.osl (5 + 2) (a.length + b.length))), (5 + 2, ⟨0, .d8 (a ++ b), true, true, false⟩) :: isM a b, 5 + 3, .eff, []⟩
theorem beh1 (B : Nat) (a b : List (BitVec 8)) (hl : a.length + b.length ≤ 4294967295) : FnE P0 B 5 11 [.one (.s (.osl 5 a.length)), .one (.s (.osl (5 + 1) b.length))] (isM a b) (5 + 2) (behE a b) := by
  refine FnE.tri (cx := cxb false) (sz := 10) (fn := Tryd.f11) (c := bodyOf Tryd.f11) T0ok (by kernel_rfl) (by kernel_rfl) (by kernel_rfl) (by kernel_rfl) (by kernel_rfl) (by kernel_rfl) (by show 5 + 2 ≤ 5 + 3; omega) ?_
  refine Tri.stepR (cx := cxb false) mix T0ok (H0ok B false) 2 0 noOrc [4] [(5 + 4, 5 + 2), (5, 5), (5 + 1, 5 + 1)] (5 + 3) ⟨[(4, .one (.s (.osl (5 + 2) ((0 : Nat) + a.length + b.length))))], (5 + 2, ⟨0, .d8 (List.replicate (0 : Nat) (0 : BitVec 8) ++ List.take (List.length a) (List.drop (0 : Nat) a) ++ List.take (List.length b) (List.drop (0 : Nat) b)), true, true, false⟩) :: isM a b, 5 + 3⟩
    [(0 : Nat) = List.length (List.replicate (0 : Nat) (0 : BitVec (8 : Nat))) ∧ (0 : Nat) + List.length a ≤ List.length a ∧ (0 : Nat) + List.length a ≤ (4294967296 : Nat),
      (0 : Nat) + List.length a = List.length (List.replicate (0 : Nat) (0 : BitVec (8 : Nat)) ++ List.take (List.length a) (List.drop (0 : Nat) a)) ∧ (0 : Nat) + List.length b ≤ List.length b ∧ (0 : Nat) + List.length a + List.length b ≤ (4294967296 : Nat)] (by kernel_rfl)
    (obCons ⟨rfl, by omega, by omega⟩ <| obCons ⟨by rw [tk0, List.length_append]; rfl, by omega, by omega⟩ obNil) ?_
  rw [tk0, tk0, Nat.zero_add, List.replicate_zero, List.nil_append]
  exact Tri.ret (cx := cxb false) mix T0ok (H0ok B false) 0 noOrc [4] [5 + 2, 5, 5 + 1] (5 + 3) ⟨[(4, .one (.s (.osl (5 + 2) (a.length + b.length))))], (5 + 2, ⟨0, .d8 (a ++ b), true, true, false⟩) :: isM a b, 5 + 3⟩ [] .r (by kernel_rfl) obNil (by kernel_rfl) rfl [5 + 2, 5, 5 + 1] [] (by kernel_rfl) obNil
def behCt : Ct := ⟨[.slc false, .slc false], [], fun vs ds gs => match vs, ds, gs with
  | [], [.d8 a, .d8 b], [] => some ⟨.one (.s (.osl (5 + 2) (a.length + b.length))), [.d8 a, .d8 b], [⟨0, .d8 (a ++ b), true, true, false⟩], [a.length + b.length ≤ 4294967295]⟩
  | _, _, _ => none⟩
theorem beh_ok (B : Nat) : behCt.Ok P0 B 5 11 := by
  intro vs ds gs out h hpre hn
  unfold behCt at h
  dsimp only at h
  split at h <;> first | (cases h; done) | skip
  rename_i a b
  cases h
  exact beh1 B a b (hpre _ (by simp))

end Go.Sx

set_option maxRecDepth 1000000
set_option linter.unusedVariables false
namespace Go.Sx
open Go.Proofs
/-- the stream over 32 zeros and a message -/
def allS (nonce key m : List (BitVec 8)) : List (BitVec 8) := strS (List.replicate 32 0 ++ m) (kC nonce) (kK nonce key) (32 + m.length)
def spsV (nonce key m : List (BitVec 8)) : List (BitVec 8) := lit 0 16 (poly (lit 0 32 (allS nonce key m)) ((allS nonce key m).drop 32)) ++ (allS nonce key m).drop 32
end Go.Sx

set_option maxRecDepth 1000000
set_option linter.unusedVariables false
namespace Go.Sx
open Go.Proofs
theorem strS_map (inp c k : List (BitVec 8)) : ∀ n, strS inp c k n = (List.range n).map fun j => inp.getD j 0 ^^^ (blk c k (j / 64)).getD (j % 64) 0
  | 0 => rfl
  | n + 1 => by rw [List.range_succ, List.map_append, ← strS_map inp c k n]; rfl
theorem getD_map_range (f : Nat → BitVec 8) {n j : Nat} (h : j < n) : ((List.range n).map f).getD j 0 = f j := by
  simp [List.getD, h]
theorem strS_getD (inp c k : List (BitVec 8)) {n j : Nat} (h : j < n) : (strS inp c k n).getD j 0 = inp.getD j 0 ^^^ (blk c k (j / 64)).getD (j % 64) 0 := by
  rw [strS_map, getD_map_range _ h]
theorem map_range_app (f : Nat → BitVec 8) (a b : Nat) : (List.range (a + b)).map f = (List.range a).map f ++ (List.range b).map fun j => f (a + j) := by
  rw [List.range_add, List.map_append, List.map_map]; rfl
theorem map_range_congr {f g : Nat → BitVec 8} {n : Nat} (h : ∀ j, j < n → f j = g j) : (List.range n).map f = (List.range n).map g :=
  List.map_congr_left fun j hj => h j (List.mem_range.1 hj)
theorem kC_cells (nonce : List (BitVec 8)) : ∃ a0 a1 a2 a3 a4 a5 a6 a7 : BitVec 8, kC nonce = [a0, a1, a2, a3, a4, a5, a6, a7, 0, 0, 0, 0, 0, 0, 0, 0] :=
  ⟨_, _, _, _, _, _, _, _, rfl⟩
theorem kC1_cnt (nonce : List (BitVec 8)) : kC1 nonce = cnt (kC nonce) 1 := by
  unfold kC1
  obtain ⟨a0, a1, a2, a3, a4, a5, a6, a7, h⟩ := kC_cells nonce
  rw [h]
  simp [cnt, pkB, addc, lit, List.range_succ]
theorem blk_kC1 (nonce k : List (BitVec 8)) (i : Nat) : blk (kC1 nonce) k i = blk (kC nonce) k (1 + i) := by
  unfold blk
  rw [kC1_cnt, cnt_cnt]
theorem bI_kC (nonce k : List (BitVec 8)) : bI (kC nonce) k = blk (kC nonce) k 0 := by
  rw [← bI_blk, cnt_zero _ rfl]
/-- a byte of the stream behind the tag's key -/
def ksB (nonce key : List (BitVec 8)) (j : Nat) : BitVec 8 := (blk (kC nonce) (kK nonce key) ((32 + j) / 64)).getD ((32 + j) % 64) 0
theorem kF_getD (nonce key : List (BitVec 8)) {j : Nat} (h : j < 64) : (kF nonce key).getD j 0 = (blk (kC nonce) (kK nonce key) 0).getD j 0 := by
  unfold kF xor64
  rw [getD_map_range _ h, bI_kC]
  have : (List.replicate 64 (0 : BitVec 8)).getD j 0 = 0 := by rw [List.getD_eq_getElem?_getD, List.getElem?_replicate, if_pos h]; rfl
  rw [this]; exact BitVec.zero_xor
theorem sbE_map (nonce key m : List (BitVec 8)) : sbE nonce key m (m32 m.length) = (List.range m.length).map fun j => m.getD j 0 ^^^ ksB nonce key j := by
  have hm := m32_or m.length
  generalize m32 m.length = m0 at *
  have hmm : m0 ≤ m.length := by omega
  obtain ⟨r, hr⟩ : ∃ r, m.length = m0 + r := ⟨m.length - m0, by omega⟩
  unfold sbE
  rw [hr, map_range_app, strS_map, Nat.add_sub_cancel_left]
  congr 1
  · unfold encK
    refine map_range_congr fun j hj => ?_
    rw [kF_getD _ _ (by omega), BitVec.xor_comm]
    unfold ksB
    rw [show (32 + j) / 64 = 0 by omega, show (32 + j) % 64 = 32 + j by omega]
  · refine map_range_congr fun j hj => ?_
    have h0 : m0 = 32 := by omega
    subst h0
    unfold ksB
    rw [blk_kC1, show (32 + (32 + j)) / 64 = 1 + j / 64 by omega, show (32 + (32 + j)) % 64 = j % 64 by omega]
    congr 1
    simp [List.getD]
theorem allS_drop (nonce key m : List (BitVec 8)) : (allS nonce key m).drop 32 = sbE nonce key m (m32 m.length) := by
  rw [sbE_map]
  unfold allS
  rw [strS_map, map_range_app, List.drop_left' (by simp)]
  refine map_range_congr fun j hj => ?_
  unfold ksB
  congr 1
  rw [List.getD_eq_getElem?_getD, List.getElem?_append_right (by simp), List.length_replicate, Nat.add_sub_cancel_left, ← List.getD_eq_getElem?_getD]
theorem lit_congr {n : Nat} {l l' : List (BitVec 8)} (h : ∀ j, j < n → l.getD j 0 = l'.getD j 0) : lit 0 n l = lit 0 n l' := map_range_congr h
theorem allS_key (nonce key m : List (BitVec 8)) : lit 0 32 (allS nonce key m) = kP nonce key := by
  unfold kP
  refine lit_congr fun j hj => ?_
  unfold allS
  rw [strS_getD _ _ _ (by omega), kF_getD _ _ (by omega), show j / 64 = 0 by omega, show j % 64 = j by omega]
  have : (List.replicate 32 (0 : BitVec 8) ++ m).getD j 0 = 0 := by
    rw [List.getD_eq_getElem?_getD, List.getElem?_append_left (by simpa using hj), List.getElem?_replicate, if_pos hj]; rfl
  rw [this]; exact BitVec.zero_xor
/-- the spec's box is the code's, behind nothing -/
theorem spsV_eq (nonce key m : List (BitVec 8)) : spsV nonce key m = sealV nonce key [] m := by
  unfold spsV sealV sealF sbT
  rw [allS_key, allS_drop, List.nil_append]
theorem sealV_length (nonce key a m : List (BitVec 8)) : (sealV nonce key a m).length = a.length + (m.length + 16) := by
  have hmm : m32 m.length ≤ m.length := by have := m32_or m.length; omega
  unfold sealV sealF sbT
  rw [List.length_append, List.length_append, lit_length, sbE_length _ _ _ hmm, Nat.add_comm 16]
theorem spsV_length (nonce key m : List (BitVec 8)) : (spsV nonce key m).length = m.length + 16 := by
  rw [spsV_eq, sealV_length, List.length_nil, Nat.zero_add]
theorem spsV_take (nonce key m : List (BitVec 8)) : (spsV nonce key m).take 16 = poly (kP nonce key) (sbE nonce key m (m32 m.length)) := by
  unfold spsV
  rw [allS_key, allS_drop, List.take_left' (lit_length _ _ _), lit_eq (poly_length _ _)]
theorem spsV_drop (nonce key m : List (BitVec 8)) : (spsV nonce key m).drop 16 = sbE nonce key m (m32 m.length) := by
  unfold spsV
  rw [allS_drop, List.drop_left' (lit_length _ _ _)]
theorem sbE_back (nonce key m : List (BitVec 8)) : sbE nonce key (sbE nonce key m (m32 m.length)) (m32 (sbE nonce key m (m32 m.length)).length) = m := by
  have hmm : m32 m.length ≤ m.length := by have := m32_or m.length; omega
  rw [sbE_map nonce key (sbE nonce key m (m32 m.length)), sbE_length _ _ _ hmm, sbE_map]
  apply List.ext_getElem?
  intro i
  rw [List.getElem?_map]
  rcases Nat.lt_or_ge i m.length with hi | hi
  · rw [List.getElem?_range hi, Option.map_some, getD_map_range _ hi, BitVec.xor_assoc, BitVec.xor_self, BitVec.xor_zero]
    simp [List.getD, hi]
  · rw [List.getElem?_eq_none (by simpa using hi), List.getElem?_eq_none hi]; rfl
theorem openK_seal (nonce key m : List (BitVec 8)) : openK nonce key (spsV nonce key m) = true := by
  unfold openK
  rw [spsV_length, spsV_take, spsV_drop, decide_eq_true rfl, Bool.and_true]
  exact Nat.ble_eq_true_of_le (by omega)
theorem openV_seal (nonce key a m : List (BitVec 8)) : openV nonce key a (spsV nonce key m) = a ++ m := by
  unfold openV
  rw [openK_seal, cond_true, spsV_drop, sbE_back]
end Go.Sx

set_option maxRecDepth 1000000
set_option linter.unusedVariables false
namespace Go.Sx
open Go.Proofs
/-- which way few's test goes, of the first slice and of the second -/
def few2Orc (b c : Bool) : Orc := fun t d => bif Nat.beq d 16 then (match find t 8 with
  | some (.one (.s (.i (.ofNat 0)))) => some (!b)
  | _ => some (!c)) else none
noncomputable def inFew2 (b c : Bool) : In := ⟨Tryd.f4, bodyOf Tryd.f4, 4, .read, few2Orc b c⟩
theorem ioFew2 (b c : Bool) : InOk P0 4 (inFew2 b c) := ⟨by kernel_rfl, by kernel_rfl, by kernel_rfl⟩
end Go.Sx

set_option maxRecDepth 1000000
set_option linter.unusedVariables false
namespace Go.Sx
open Go.Proofs
end Go.Sx
