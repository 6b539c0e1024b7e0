/- Bytes behind others; spec.Seal: the stream. spec.Seal. What is sealed, by bytes: the spec's box is the code's. Conditions: none; plain definitions and theorems. spec.Seal as a contract; few of two slices; what the laws call. The laws: states behind the tests of sizes. Conditions: none. -/
import Derived.Test.YtdigakgfngfnkaaW10
import Derived.Test.YtdigakgfngfnkaaVP1
set_option maxRecDepth 1000000
set_option linter.unusedVariables false
namespace Go.Sx
open Go.Proofs
def behE (a b : List (BitVec 8)) : Ef := ⟨.one (.s (.osl (1 + 2) (a.length + b.length))), (1 + 2, ⟨0, .d8 (a ++ b), true, true, false⟩) :: isM a b, 1 + 3, .eff, []⟩
theorem beh1 (B : Nat) (a b : List (BitVec 8)) (hl : a.length + b.length ≤ 4294967295) : FnE P0 B 1 11 [.one (.s (.osl 1 a.length)), .one (.s (.osl (1 + 1) b.length))] (isM a b) (1 + 2) (behE a b) := by
  refine FnE.tri (cx := cxb false) (sz := 10) (fn := Try.f11) (c := bodyOf Try.f11) T0ok (by kernel_rfl) (by kernel_rfl) (by kernel_rfl) (by kernel_rfl) (by kernel_rfl) (by kernel_rfl) (by show 1 + 2 ≤ 1 + 3; omega) ?_
  refine Tri.stepR (cx := cxb false) mix T0ok (H0ok B false) 2 0 noOrc [4] [(1 + 4, 1 + 2), (1, 1), (1 + 1, 1 + 1)] (1 + 3) ⟨[(4, .one (.s (.osl (1 + 2) ((0 : Nat) + a.length + b.length))))], (1 + 2, ⟨0, .d8 (List.replicate (0 : Nat) (0 : BitVec 8) ++ List.take (List.length a) (List.drop (0 : Nat) a) ++ List.take (List.length b) (List.drop (0 : Nat) b)), true, true, false⟩) :: isM a b, 1 + 3⟩
    [(0 : Nat) = List.length (List.replicate (0 : Nat) (0 : BitVec (8 : Nat))) ∧ (0 : Nat) + List.length a ≤ List.length a ∧ (0 : Nat) + List.length a ≤ (4294967296 : Nat),
      (0 : Nat) + List.length a = List.length (List.replicate (0 : Nat) (0 : BitVec (8 : Nat)) ++ List.take (List.length a) (List.drop (0 : Nat) a)) ∧ (0 : Nat) + List.length b ≤ List.length b ∧ (0 : Nat) + List.length a + List.length b ≤ (4294967296 : Nat)] (by kernel_rfl)
    (obCons ⟨rfl, by omega, by omega⟩ <| obCons ⟨by rw [tk0, List.length_append]; rfl, by omega, by omega⟩ obNil) ?_
  rw [tk0, tk0, Nat.zero_add, List.replicate_zero, List.nil_append]
  exact Tri.ret (cx := cxb false) mix T0ok (H0ok B false) 0 noOrc [4] [1 + 2, 1, 1 + 1] (1 + 3) ⟨[(4, .one (.s (.osl (1 + 2) (a.length + b.length))))], (1 + 2, ⟨0, .d8 (a ++ b), true, true, false⟩) :: isM a b, 1 + 3⟩ [] .r (by kernel_rfl) obNil (by kernel_rfl) rfl [1 + 2, 1, 1 + 1] [] (by kernel_rfl) obNil
def behCt : Ct := ⟨[.slc false, .slc false], [], fun vs ds gs => match vs, ds, gs with
  | [], [.d8 a, .d8 b], [] => some ⟨.one (.s (.osl (1 + 2) (a.length + b.length))), [.d8 a, .d8 b], [⟨0, .d8 (a ++ b), true, true, false⟩], [a.length + b.length ≤ 4294967295]⟩
  | _, _, _ => none⟩
theorem beh_ok (B : Nat) : behCt.Ok P0 B 1 11 := by
  intro vs ds gs out h hpre hn
  unfold behCt at h
  dsimp only at h
  split at h <;> first | (cases h; done) | skip
  rename_i a b
  cases h
  exact beh1 B a b (hpre _ (by simp))

noncomputable def HSp (c : Bool) : Hook := hookC 15 (hookOf (cxb c) plCt) (hookC 14 (hookOf (cxb c) ssCt) (H0 c))
theorem HSpok (B : Nat) (c : Bool) : HookOk P0 B 1 (HSp c) := .cons (.ct (cx := cxb c) (poly_ok B)) (.cons (.ct (cx := cxb c) (ssCt_ok B)) (H0ok B c))
def ssM (m : List (BitVec 8)) : Mem := [(1, ⟨m.length, .d8 m, false, false, false⟩)]
def ssAr (m nonce key : List (BitVec 8)) : List SV := [.one (.s (.osl 1 m.length)), .one (.ag [.d8 (lit 0 24 nonce)]), .one (.ag [.d8 (lit 0 32 key)])]
def ssS (m all : List (BitVec 8)) : St := ⟨[(7, .one (.s (.osl (1 + 1) all.length)))], (1 + 1, ⟨0, .d8 all, true, true, false⟩) :: ssM m, 1 + 2⟩
end Go.Sx

set_option maxRecDepth 1000000
set_option linter.unusedVariables false
namespace Go.Sx
open Go.Proofs
def ssS2 (m all : List (BitVec 8)) : St := ⟨[(7, .one (.s (.osl (1 + 1) all.length)))], (1 + 1, ⟨all.length, .d8 all, false, false, false⟩) :: ssM m, 1 + 2⟩
def ssE (m V : List (BitVec 8)) : Ef := ⟨.one (.s (.osl (1 + 1) V.length)), (1 + 1, ⟨0, .d8 V, true, true, false⟩) :: ssM m, 1 + 2, .eff, []⟩
theorem sps2 (B : Nat) (m p E : List (BitVec 8)) (hE : E.length ≤ 4000000000) : Tri P0 B (cxb false) 22 (1 + 1) ((flat (bodyOf Try.f12)).drop 2) (ssS2 m (lit 0 32 p ++ E)) (Ret (cxb false) Try.f12.results.toList (ssE m (lit 0 16 (poly (lit 0 32 p) E) ++ E))) := by
  have hlp : (lit 0 32 p : List (BitVec 8)).length = 32 := lit_length _ _ _
  have hl : (lit 0 32 p ++ E).length = 32 + E.length := by rw [List.length_append, hlp]
  have e0 : Int.toNat (↑(lit 0 32 p ++ E).length : Int) - Int.toNat (32 : Int) = E.length := by omega
  have e1 : List.drop (Int.toNat (32 : Int)) (lit 0 32 p ++ E) = E := List.drop_left' hlp
  have e2 : List.take (Int.toNat (32 : Int)) (List.drop 0 (lit 0 32 p ++ E)) = lit 0 32 p := by rw [List.drop_zero]; exact List.take_left' hlp
  have e3 : List.take (Int.toNat (↑(lit 0 32 p ++ E).length : Int) - Int.toNat (32 : Int)) (List.drop (Int.toNat (32 : Int)) (lit 0 32 p ++ E)) = E := by rw [e0, e1, List.take_length]
  have e4 : List.take (Int.toNat (↑(lit 0 32 p ++ E).length : Int) - Int.toNat (32 : Int)) (List.drop 0 (List.take (Int.toNat (↑(lit 0 32 p ++ E).length : Int) - Int.toNat (32 : Int)) (List.drop (Int.toNat (32 : Int)) (lit 0 32 p ++ E)))) = E := by rw [e3, List.drop_zero, e0, List.take_length]
  refine Tri.stepR (cx := cxb false) mix T0ok (HSpok B false) 1 0 noOrc [6] [(1 + 5, 1 + 1), (1, 1)] (1 + 2)
    ⟨[(6, .one (.s (.osl (1 + 1) (16 + (Int.toNat (↑(lit 0 32 p ++ E).length : Int) - Int.toNat (32 : Int))))))], (1 + 1, ⟨0, .d8 (lit 0 16 (poly (List.take (Int.toNat (32 : Int)) (List.drop 0 (lit 0 32 p ++ E))) (List.take (Int.toNat (↑(lit 0 32 p ++ E).length : Int) - Int.toNat (32 : Int)) (List.drop 0 (List.take (Int.toNat (↑(lit 0 32 p ++ E).length : Int) - Int.toNat (32 : Int)) (List.drop (Int.toNat (32 : Int)) (lit 0 32 p ++ E)))))) ++ List.take (Int.toNat (↑(lit 0 32 p ++ E).length : Int) - Int.toNat (32 : Int)) (List.drop 0 (List.take (Int.toNat (↑(lit 0 32 p ++ E).length : Int) - Int.toNat (32 : Int)) (List.drop (Int.toNat (32 : Int)) (lit 0 32 p ++ E))))), true, true, false⟩) :: ssM m, 1 + 2⟩
    [(0 : Int) ≤ (32 : Int) ∧ (32 : Int) ≤ (↑(lit 0 32 p ++ E).length : Int) ∧ (32 : Int) ≤ (↑(lit 0 32 p ++ E).length : Int),
     (0 : Int) ≤ (32 : Int) ∧ (32 : Int) ≤ (↑(lit 0 32 p ++ E).length : Int) ∧ (↑(lit 0 32 p ++ E).length : Int) ≤ (↑(lit 0 32 p ++ E).length : Int) ∧ (↑(lit 0 32 p ++ E).length : Int) ≤ (↑(lit 0 32 p ++ E).length : Int),
     Int.toNat (32 : Int) ≤ (lit 0 32 p ++ E).length,
     Int.toNat (↑(lit 0 32 p ++ E).length : Int) - Int.toNat (32 : Int) ≤ List.length (List.take (Int.toNat (↑(lit 0 32 p ++ E).length : Int) - Int.toNat (32 : Int)) (List.drop (Int.toNat (32 : Int)) (lit 0 32 p ++ E))),
     List.length (List.take (Int.toNat (32 : Int)) (List.drop 0 (lit 0 32 p ++ E))) = List.length (List.take (Int.toNat (32 : Int)) (List.drop 0 (lit 0 32 p ++ E))) ∧ List.length (List.take (Int.toNat (↑(lit 0 32 p ++ E).length : Int) - Int.toNat (32 : Int)) (List.drop 0 (List.take (Int.toNat (↑(lit 0 32 p ++ E).length : Int) - Int.toNat (32 : Int)) (List.drop (Int.toNat (32 : Int)) (lit 0 32 p ++ E))))) = List.length (List.take (Int.toNat (↑(lit 0 32 p ++ E).length : Int) - Int.toNat (32 : Int)) (List.drop 0 (List.take (Int.toNat (↑(lit 0 32 p ++ E).length : Int) - Int.toNat (32 : Int)) (List.drop (Int.toNat (32 : Int)) (lit 0 32 p ++ E))))) ∧ True,
     List.length (List.take (Int.toNat (↑(lit 0 32 p ++ E).length : Int) - Int.toNat (32 : Int)) (List.drop 0 (List.take (Int.toNat (↑(lit 0 32 p ++ E).length : Int) - Int.toNat (32 : Int)) (List.drop (Int.toNat (32 : Int)) (lit 0 32 p ++ E))))) ≤ 4294967295,
     (0 : Int) ≤ (32 : Int) ∧ (32 : Int) ≤ (↑(lit 0 32 p ++ E).length : Int) ∧ (↑(lit 0 32 p ++ E).length : Int) ≤ (↑(lit 0 32 p ++ E).length : Int) ∧ (↑(lit 0 32 p ++ E).length : Int) ≤ (↑(lit 0 32 p ++ E).length : Int),
     16 = List.length (lit 0 16 (poly (List.take (Int.toNat (32 : Int)) (List.drop 0 (lit 0 32 p ++ E))) (List.take (Int.toNat (↑(lit 0 32 p ++ E).length : Int) - Int.toNat (32 : Int)) (List.drop 0 (List.take (Int.toNat (↑(lit 0 32 p ++ E).length : Int) - Int.toNat (32 : Int)) (List.drop (Int.toNat (32 : Int)) (lit 0 32 p ++ E))))))) ∧ 0 + (Int.toNat (↑(lit 0 32 p ++ E).length : Int) - Int.toNat (32 : Int)) ≤ List.length (List.take (Int.toNat (↑(lit 0 32 p ++ E).length : Int) - Int.toNat (32 : Int)) (List.drop (Int.toNat (32 : Int)) (lit 0 32 p ++ E))) ∧ 16 + (Int.toNat (↑(lit 0 32 p ++ E).length : Int) - Int.toNat (32 : Int)) ≤ 4294967296]
    (by kernel_rfl)
    (by
      rw [e4, e3, e2, e0, hl]
      exact obCons (by omega) <| obCons (by omega) <| obCons (by show 32 ≤ _; omega) <| obCons (Nat.le_refl _) <| obCons ⟨rfl, rfl, trivial⟩ <| obCons (by omega) <| obCons (by omega) <| obCons ⟨by rw [lit_length], by omega, by omega⟩ obNil) ?_
  rw [e4, e2, e0]
  have hv : 16 + E.length = (lit 0 16 (poly (lit 0 32 p) E) ++ E).length := by rw [List.length_append, lit_length]
  rw [hv]
  exact Tri.ret (cx := cxb false) mix T0ok (H0ok B false) 0 noOrc [6] [1 + 1, 1] (1 + 2) ⟨[(6, .one (.s (.osl (1 + 1) (lit 0 16 (poly (lit 0 32 p) E) ++ E).length)))], (1 + 1, ⟨0, .d8 (lit 0 16 (poly (lit 0 32 p) E) ++ E), true, true, false⟩) :: ssM m, 1 + 2⟩ [] .r (by kernel_rfl) obNil (by kernel_rfl) rfl [1 + 1, 1] [] (by kernel_rfl) obNil
/-- the stream over 32 zeros and a message -/
def allS (nonce key m : List (BitVec 8)) : List (BitVec 8) := strS (List.replicate 32 0 ++ m) (kC nonce) (kK nonce key) (32 + m.length)
theorem allS_length (nonce key m : List (BitVec 8)) : (allS nonce key m).length = 32 + m.length := strS_length _ _ _ _
def spsV (nonce key m : List (BitVec 8)) : List (BitVec 8) := lit 0 16 (poly (lit 0 32 (allS nonce key m)) ((allS nonce key m).drop 32)) ++ (allS nonce key m).drop 32
theorem lit_app {n : Nat} {l : List (BitVec 8)} (h : n ≤ l.length) : lit 0 n l ++ l.drop n = l := by
  have : lit 0 n l = l.take n := by
    apply List.ext_getElem?
    intro i
    unfold lit
    rw [List.getElem?_map]
    rcases Nat.lt_or_ge i n with hi | hi
    · rw [List.getElem?_range hi, List.getElem?_take, if_pos hi]
      simp [List.getD, show i < l.length by omega]
    · rw [List.getElem?_eq_none (by simpa using hi), List.getElem?_take, if_neg (by omega)]; rfl
  rw [this, List.take_append_drop]
theorem sps1 (B : Nat) (m nonce key : List (BitVec 8)) (hm : m.length ≤ 2000000000) : FnE P0 B 1 12 (ssAr m nonce key) (ssM m) (1 + 1) (ssE m (spsV nonce key m)) := by
  refine FnE.tri (cx := cxb false) (sz := 22) (fn := Try.f12) (c := bodyOf Try.f12) T0ok (by kernel_rfl) (by kernel_rfl) (by kernel_rfl) (by kernel_rfl) (by kernel_rfl) (by kernel_rfl) (by show 1 + 1 ≤ 1 + 2; omega) ?_
  have e0 : List.take (Int.toNat (32 : Int)) (List.drop (0 : Nat) (List.replicate (Int.toNat (32 : Int)) (0 : BitVec (8 : Nat)))) ++ List.take (List.length m) (List.drop (0 : Nat) m) = List.replicate 32 0 ++ m := by rw [tk0]; rfl
  have e1 : List.take (Int.toNat (32 : Int) + List.length m) (List.drop 0 (List.replicate 32 (0 : BitVec 8) ++ m)) = List.replicate 32 0 ++ m := by
    rw [List.drop_zero]; exact List.take_of_length_le (by rw [List.length_append, List.length_replicate]; exact Nat.le_refl _)
  have e2 : (List.replicate 32 (0 : BitVec 8) ++ m).length = 32 + m.length := by rw [List.length_append, List.length_replicate]
  have e3 : List.take (Int.toNat (↑(24 : Nat) : Int) - Int.toNat (0 : Int)) (List.drop (Int.toNat (0 : Int) + (0 : Nat)) (lit (0 : BitVec 8) 24 nonce)) = lit 0 24 nonce := rfl
  refine Tri.stepR (cx := cxb false) mix T0ok (HSpok B false) 2 0 noOrc [7] [(1 + 5, 1 + 1), (1, 1)] (1 + 2)
    ⟨[(7, .one (.s (.osl (1 + 1) (List.length (List.take (Int.toNat (32 : Int) + List.length m) (List.drop (0 : Nat) (List.take (Int.toNat (32 : Int)) (List.drop (0 : Nat) (List.replicate (Int.toNat (32 : Int)) (0 : BitVec (8 : Nat)))) ++ List.take (List.length m) (List.drop (0 : Nat) m))))))))],
     (1 + 1, ⟨0, .d8 (strS (List.take (Int.toNat (32 : Int) + List.length m) (List.drop (0 : Nat) (List.take (Int.toNat (32 : Int)) (List.drop (0 : Nat) (List.replicate (Int.toNat (32 : Int)) (0 : BitVec (8 : Nat)))) ++ List.take (List.length m) (List.drop (0 : Nat) m))))
            (lit (0 : BitVec (8 : Nat)) (16 : Nat) (c24 (List.take (Int.toNat (↑(24 : Nat) : Int) - Int.toNat (0 : Int)) (List.drop (Int.toNat (0 : Int) + (0 : Nat)) (lit (0 : BitVec (8 : Nat)) (24 : Nat) nonce)))))
            (lit (0 : BitVec (8 : Nat)) (32 : Nat) (k24 (List.take (Int.toNat (↑(24 : Nat) : Int) - Int.toNat (0 : Int)) (List.drop (Int.toNat (0 : Int) + (0 : Nat)) (lit (0 : BitVec (8 : Nat)) (24 : Nat) nonce))) (lit (0 : BitVec (8 : Nat)) (32 : Nat) key)))
            (List.length (List.take (Int.toNat (32 : Int) + List.length m) (List.drop (0 : Nat) (List.take (Int.toNat (32 : Int)) (List.drop (0 : Nat) (List.replicate (Int.toNat (32 : Int)) (0 : BitVec (8 : Nat)))) ++ List.take (List.length m) (List.drop (0 : Nat) m)))))), true, true, false⟩) :: ssM m, 1 + 2⟩
    [List.length (lit (0 : BitVec (8 : Nat)) (24 : Nat) nonce) = List.length (List.replicate (24 : Nat) (0 : BitVec (8 : Nat))) ∧ True,
     List.length (lit (0 : BitVec (8 : Nat)) (32 : Nat) key) = List.length (List.replicate (32 : Nat) (0 : BitVec (8 : Nat))) ∧ True,
     (0 : Int) ≤ (0 : Int) ∧ (0 : Int) ≤ (↑(24 : Nat) : Int) ∧ (↑(24 : Nat) : Int) ≤ (↑(24 : Nat) : Int),
     (0 : Int) ≤ (32 : Int) ∧ (32 : Int) = (32 : Int) ∧ (32 : Int) ≤ (281474976710656 : Int) ∧ (↑(1 : Nat) : Int) * (32 : Int) ≤ (281474976710656 : Int),
     Int.toNat (32 : Int) = Int.toNat (32 : Int) ∧ (0 : Nat) + Int.toNat (32 : Int) ≤ Int.toNat (32 : Int) ∧ (0 : Nat) + List.length m ≤ List.length m ∧ Int.toNat (32 : Int) + List.length m ≤ (4294967296 : Nat),
     some (Seg.mk (List.length (List.replicate (32 : Nat) (0 : BitVec (8 : Nat)))) (SegD.d8 (lit (0 : BitVec (8 : Nat)) (32 : Nat) key)) true false !true) = some (Seg.mk (List.length (List.replicate (32 : Nat) (0 : BitVec (8 : Nat)))) (SegD.d8 (lit (0 : BitVec (8 : Nat)) (32 : Nat) key)) true false !true),
     Int.toNat (0 : Int) + (0 : Nat) + (Int.toNat (↑(24 : Nat) : Int) - Int.toNat (0 : Int)) ≤ List.length (lit (0 : BitVec (8 : Nat)) (24 : Nat) nonce) ∧ Int.toNat (↑(24 : Nat) : Int) - Int.toNat (0 : Int) ≤ (24 : Nat) - Int.toNat (0 : Int),
     Int.toNat (32 : Int) + List.length m ≤ List.length (List.take (Int.toNat (32 : Int)) (List.drop (0 : Nat) (List.replicate (Int.toNat (32 : Int)) (0 : BitVec (8 : Nat)))) ++ List.take (List.length m) (List.drop (0 : Nat) m)),
     List.length (List.take (Int.toNat (↑(24 : Nat) : Int) - Int.toNat (0 : Int)) (List.drop (Int.toNat (0 : Int) + (0 : Nat)) (lit (0 : BitVec (8 : Nat)) (24 : Nat) nonce))) = List.length (List.take (Int.toNat (↑(24 : Nat) : Int) - Int.toNat (0 : Int)) (List.drop (Int.toNat (0 : Int) + (0 : Nat)) (lit (0 : BitVec (8 : Nat)) (24 : Nat) nonce))) ∧
       List.length (List.take (Int.toNat (32 : Int) + List.length m) (List.drop (0 : Nat) (List.take (Int.toNat (32 : Int)) (List.drop (0 : Nat) (List.replicate (Int.toNat (32 : Int)) (0 : BitVec (8 : Nat)))) ++ List.take (List.length m) (List.drop (0 : Nat) m)))) = List.length (List.take (Int.toNat (32 : Int) + List.length m) (List.drop (0 : Nat) (List.take (Int.toNat (32 : Int)) (List.drop (0 : Nat) (List.replicate (Int.toNat (32 : Int)) (0 : BitVec (8 : Nat)))) ++ List.take (List.length m) (List.drop (0 : Nat) m)))) ∧ True,
     List.length (List.take (Int.toNat (32 : Int) + List.length m) (List.drop (0 : Nat) (List.take (Int.toNat (32 : Int)) (List.drop (0 : Nat) (List.replicate (Int.toNat (32 : Int)) (0 : BitVec (8 : Nat)))) ++ List.take (List.length m) (List.drop (0 : Nat) m)))) ≤ (4294967295 : Nat)]
    (by kernel_rfl)
    (by
      rw [e0, e1, e2]
      exact obCons ⟨by rw [lit_length]; rfl, trivial⟩ <| obCons ⟨by rw [lit_length]; rfl, trivial⟩ <| obCons (by omega) <| obCons (by omega) <| obCons (by omega) <| obCons rfl <| obCons ⟨by rw [lit_length]; decide, by decide⟩ <| obCons (by show 32 + m.length ≤ _; omega) <| obCons ⟨rfl, rfl, trivial⟩ <| obCons (by omega) obNil) ?_
  rw [e0, e1, e2, e3]
  show Tri _ _ _ _ _ _ ⟨[(7, .one (.s (.osl (1 + 1) (32 + m.length))))], (1 + 1, ⟨0, .d8 (allS nonce key m), true, true, false⟩) :: ssM m, 1 + 2⟩ _
  have hal := allS_length nonce key m
  refine Tri.view (k := 1 + 1) (d := 7) (n := 32 + m.length) (g := ⟨0, .d8 (allS nonce key m), true, true, false⟩) (by kernel_rfl) (by kernel_rfl) (by show _ ≤ (allS nonce key m).length; omega) ?_
  refine Tri.ren (ts := [7]) (ks := [(1 + 2, 1 + 1), (1, 1)]) (nx := 1 + 2) (s' := ⟨[(7, .one (.s (.osl (1 + 1) (32 + m.length))))], (1 + 1, ⟨32 + m.length, .d8 (((allS nonce key m).drop 0).take (32 + m.length)), false, false, false⟩) :: ssM m, 1 + 2⟩) (by kernel_rfl) ?_
  rw [← hal, tk0]
  show Tri _ _ _ _ _ _ (ssS2 m (allS nonce key m)) _
  have e5 := lit_app (n := 32) (l := allS nonce key m) (by omega)
  rw [← e5]
  have := sps2 B m (allS nonce key m) ((allS nonce key m).drop 32) (by rw [List.length_drop]; omega)
  exact this
end Go.Sx

set_option maxRecDepth 1000000
set_option linter.unusedVariables false
namespace Go.Sx
open Go.Proofs
theorem strS_map (inp c k : List (BitVec 8)) : ∀ n, strS inp c k n = (List.range n).map fun j => inp.getD j 0 ^^^ (blk c k (j / 64)).getD (j % 64) 0
  | 0 => rfl
  | n + 1 => by rw [List.range_succ, List.map_append, ← strS_map inp c k n]; rfl
theorem getD_map_range (f : Nat → BitVec 8) {n j : Nat} (h : j < n) : ((List.range n).map f).getD j 0 = f j := by
  simp [List.getD, h]
theorem strS_getD (inp c k : List (BitVec 8)) {n j : Nat} (h : j < n) : (strS inp c k n).getD j 0 = inp.getD j 0 ^^^ (blk c k (j / 64)).getD (j % 64) 0 := by
  rw [strS_map, getD_map_range _ h]
theorem map_range_app (f : Nat → BitVec 8) (a b : Nat) : (List.range (a + b)).map f = (List.range a).map f ++ (List.range b).map fun j => f (a + j) := by
  rw [List.range_add, List.map_append, List.map_map]; rfl
theorem map_range_congr {f g : Nat → BitVec 8} {n : Nat} (h : ∀ j, j < n → f j = g j) : (List.range n).map f = (List.range n).map g :=
  List.map_congr_left fun j hj => h j (List.mem_range.1 hj)
theorem kC_cells (nonce : List (BitVec 8)) : ∃ a0 a1 a2 a3 a4 a5 a6 a7 : BitVec 8, kC nonce = [a0, a1, a2, a3, a4, a5, a6, a7, 0, 0, 0, 0, 0, 0, 0, 0] :=
  ⟨_, _, _, _, _, _, _, _, rfl⟩
theorem kC1_cnt (nonce : List (BitVec 8)) : kC1 nonce = cnt (kC nonce) 1 := by
  unfold kC1
  obtain ⟨a0, a1, a2, a3, a4, a5, a6, a7, h⟩ := kC_cells nonce
  rw [h]
  simp [cnt, pkB, addc, lit, List.range_succ]
theorem blk_kC1 (nonce k : List (BitVec 8)) (i : Nat) : blk (kC1 nonce) k i = blk (kC nonce) k (1 + i) := by
  unfold blk
  rw [kC1_cnt, cnt_cnt]
theorem bI_kC (nonce k : List (BitVec 8)) : bI (kC nonce) k = blk (kC nonce) k 0 := by
  rw [← bI_blk, cnt_zero _ rfl]
/-- a byte of the stream behind the tag's key -/
def ksB (nonce key : List (BitVec 8)) (j : Nat) : BitVec 8 := (blk (kC nonce) (kK nonce key) ((32 + j) / 64)).getD ((32 + j) % 64) 0
theorem kF_getD (nonce key : List (BitVec 8)) {j : Nat} (h : j < 64) : (kF nonce key).getD j 0 = (blk (kC nonce) (kK nonce key) 0).getD j 0 := by
  unfold kF xor64
  rw [getD_map_range _ h, bI_kC]
  have : (List.replicate 64 (0 : BitVec 8)).getD j 0 = 0 := by rw [List.getD_eq_getElem?_getD, List.getElem?_replicate, if_pos h]; rfl
  rw [this]; exact BitVec.zero_xor
theorem sbE_map (nonce key m : List (BitVec 8)) : sbE nonce key m (m32 m.length) = (List.range m.length).map fun j => m.getD j 0 ^^^ ksB nonce key j := by
  have hm := m32_or m.length
  generalize m32 m.length = m0 at *
  have hmm : m0 ≤ m.length := by omega
  obtain ⟨r, hr⟩ : ∃ r, m.length = m0 + r := ⟨m.length - m0, by omega⟩
  unfold sbE
  rw [hr, map_range_app, strS_map, Nat.add_sub_cancel_left]
  congr 1
  · unfold encK
    refine map_range_congr fun j hj => ?_
    rw [kF_getD _ _ (by omega), BitVec.xor_comm]
    unfold ksB
    rw [show (32 + j) / 64 = 0 by omega, show (32 + j) % 64 = 32 + j by omega]
  · refine map_range_congr fun j hj => ?_
    have h0 : m0 = 32 := by omega
    subst h0
    unfold ksB
    rw [blk_kC1, show (32 + (32 + j)) / 64 = 1 + j / 64 by omega, show (32 + (32 + j)) % 64 = j % 64 by omega]
    congr 1
    simp [List.getD]
theorem allS_drop (nonce key m : List (BitVec 8)) : (allS nonce key m).drop 32 = sbE nonce key m (m32 m.length) := by
  rw [sbE_map]
  unfold allS
  rw [strS_map, map_range_app, List.drop_left' (by simp)]
  refine map_range_congr fun j hj => ?_
  unfold ksB
  congr 1
  rw [List.getD_eq_getElem?_getD, List.getElem?_append_right (by simp), List.length_replicate, Nat.add_sub_cancel_left, ← List.getD_eq_getElem?_getD]
theorem lit_congr {n : Nat} {l l' : List (BitVec 8)} (h : ∀ j, j < n → l.getD j 0 = l'.getD j 0) : lit 0 n l = lit 0 n l' := map_range_congr h
theorem allS_key (nonce key m : List (BitVec 8)) : lit 0 32 (allS nonce key m) = kP nonce key := by
  unfold kP
  refine lit_congr fun j hj => ?_
  unfold allS
  rw [strS_getD _ _ _ (by omega), kF_getD _ _ (by omega), show j / 64 = 0 by omega, show j % 64 = j by omega]
  have : (List.replicate 32 (0 : BitVec 8) ++ m).getD j 0 = 0 := by
    rw [List.getD_eq_getElem?_getD, List.getElem?_append_left (by simpa using hj), List.getElem?_replicate, if_pos hj]; rfl
  rw [this]; exact BitVec.zero_xor
/-- the spec's box is the code's, behind nothing -/
theorem spsV_eq (nonce key m : List (BitVec 8)) : spsV nonce key m = sealV nonce key [] m := by
  unfold spsV sealV sealF sbT
  rw [allS_key, allS_drop, List.nil_append]
theorem sealV_app (nonce key a m : List (BitVec 8)) : sealV nonce key a m = a ++ spsV nonce key m := by
  rw [spsV_eq]; unfold sealV sealF; rw [List.nil_append]
theorem sealV_length (nonce key a m : List (BitVec 8)) : (sealV nonce key a m).length = a.length + (m.length + 16) := by
  have hmm : m32 m.length ≤ m.length := by have := m32_or m.length; omega
  unfold sealV sealF sbT
  rw [List.length_append, List.length_append, lit_length, sbE_length _ _ _ hmm, Nat.add_comm 16]
theorem spsV_length (nonce key m : List (BitVec 8)) : (spsV nonce key m).length = m.length + 16 := by
  rw [spsV_eq, sealV_length, List.length_nil, Nat.zero_add]
theorem spsV_take (nonce key m : List (BitVec 8)) : (spsV nonce key m).take 16 = poly (kP nonce key) (sbE nonce key m (m32 m.length)) := by
  unfold spsV
  rw [allS_key, allS_drop, List.take_left' (lit_length _ _ _), lit_eq (poly_length _ _)]
theorem spsV_drop (nonce key m : List (BitVec 8)) : (spsV nonce key m).drop 16 = sbE nonce key m (m32 m.length) := by
  unfold spsV
  rw [allS_drop, List.drop_left' (lit_length _ _ _)]
theorem sbE_back (nonce key m : List (BitVec 8)) : sbE nonce key (sbE nonce key m (m32 m.length)) (m32 (sbE nonce key m (m32 m.length)).length) = m := by
  have hmm : m32 m.length ≤ m.length := by have := m32_or m.length; omega
  rw [sbE_map nonce key (sbE nonce key m (m32 m.length)), sbE_length _ _ _ hmm, sbE_map]
  apply List.ext_getElem?
  intro i
  rw [List.getElem?_map]
  rcases Nat.lt_or_ge i m.length with hi | hi
  · rw [List.getElem?_range hi, Option.map_some, getD_map_range _ hi, BitVec.xor_assoc, BitVec.xor_self, BitVec.xor_zero]
    simp [List.getD, hi]
  · rw [List.getElem?_eq_none (by simpa using hi), List.getElem?_eq_none hi]; rfl
theorem openK_seal (nonce key m : List (BitVec 8)) : openK nonce key (spsV nonce key m) = true := by
  unfold openK
  rw [spsV_length, spsV_take, spsV_drop, decide_eq_true rfl, Bool.and_true]
  exact Nat.ble_eq_true_of_le (by omega)
theorem openV_seal (nonce key a m : List (BitVec 8)) : openV nonce key a (spsV nonce key m) = a ++ m := by
  unfold openV
  rw [openK_seal, cond_true, spsV_drop, sbE_back]
end Go.Sx

set_option maxRecDepth 1000000
set_option linter.unusedVariables false
namespace Go.Sx
open Go.Proofs
def spsCt : Ct := ⟨[.slc false, .val, .val], [], fun vs ds gs => match vs, ds, gs with
  | [.one (.ag [.d8 nonce]), .one (.ag [.d8 key])], [.d8 m], [] => bif Nat.beq nonce.length 24 && Nat.beq key.length 32 then some ⟨.one (.s (.osl (1 + 1) (spsV nonce key m).length)), [.d8 m], [⟨0, .d8 (spsV nonce key m), true, true, false⟩], [m.length ≤ 2000000000]⟩ else none
  | _, _, _ => none⟩
theorem sps_ok (B : Nat) : spsCt.Ok P0 B 1 12 := by
  intro vs ds gs out hh hpre hn
  unfold spsCt at hh
  dsimp only at hh
  split at hh <;> first | (cases hh; done) | skip
  rename_i nonce key m
  cases hb : (Nat.beq nonce.length 24 && Nat.beq key.length 32) with
  | false => rw [hb] at hh; cases hh
  | true =>
    rw [hb, cond_true] at hh
    cases hh
    simp only [Bool.and_eq_true] at hb
    have h1 := Nat.eq_of_beq_eq_true hb.1
    have h2 := Nat.eq_of_beq_eq_true hb.2
    have := sps1 B m nonce key (hpre _ (by simp))
    unfold ssAr ssM ssE at this
    rw [lit_eq h1, lit_eq h2] at this
    exact this
/-- which way few's test goes, of the first slice and of the second -/
def few2Orc (b c : Bool) : Orc := fun t d => bif Nat.beq d 16 then (match find t 8 with
  | some (.one (.s (.i (.ofNat 0)))) => some (!b)
  | _ => some (!c)) else none
noncomputable def inFew2 (b c : Bool) : In := ⟨Try.f8, bodyOf Try.f8, 4, .read, few2Orc b c⟩
theorem ioFew2 (b c : Bool) : InOk P0 8 (inFew2 b c) := ⟨by kernel_rfl, by kernel_rfl, by kernel_rfl⟩
/-- what the laws call, by which way few's tests go -/
noncomputable def HLs (b d : Bool) (c : Bool) : Hook := hookC 8 (inl (cxb c) (H0 c) (inFew2 b d)) (hookC 10 (hookOf (cxb c) sealCt) (hookC 16 (hookOf (cxb c) sealCt) (hookC 13 (hookOf (cxb c) openCt) (hookC 17 (hookOf (cxb c) openCt) (hookC 12 (hookOf (cxb c) spsCt) (hookC 15 (hookOf (cxb c) plCt) (hookC 14 (hookOf (cxb c) ssCt) (hookC 11 (hookOf (cxb c) behCt) (hookC 9 (hookOf (cxb c) sameCt) (H0 c))))))))))
theorem HLsok (B : Nat) (b d c : Bool) : HookOk P0 B 1 (HLs b d c) := .cons (HkOk.inl (cx := cxb c) mix T0ok (H0ok B c) (ioFew2 b d)) (.cons (.ct (cx := cxb c) (seal_ok B)) (.cons (.ct (cx := cxb c) (sealAfter_ok B)) (.cons (.ct (cx := cxb c) (open_ok B)) (.cons (.ct (cx := cxb c) (openAfter_ok B)) (.cons (.ct (cx := cxb c) (sps_ok B)) (.cons (.ct (cx := cxb c) (poly_ok B)) (.cons (.ct (cx := cxb c) (ssCt_ok B)) (.cons (.ct (cx := cxb c) (beh_ok B)) (.cons (.ct (cx := cxb c) (same_ok B)) (H0ok B c))))))))))
end Go.Sx

set_option maxRecDepth 1000000
set_option linter.unusedVariables false
namespace Go.Sx
open Go.Proofs
def law2 (a m nonce key : List (BitVec 8)) : St := ⟨[(0, .one (.s (.osl 1 a.length))), (1, .one (.s (.osl (1 + 1) m.length))), (6, .one (.s (.p (1 + 2) 0))), (7, .one (.s (.p (1 + 3) 0)))], isM a m ++ [(1 + 2, ⟨24, .d8 (lit 0 24 nonce), true, false, false⟩), (1 + 3, ⟨32, .d8 (lit 0 32 key), true, false, false⟩)], 1 + 4⟩
def law1 (t : TM) (k : Nat) (m nonce key : List (BitVec 8)) : St := ⟨t ++ [(k, .one (.s (.p (1 + 1) 0))), (k + 1, .one (.s (.p (1 + 2) 0)))], ssM m ++ [(1 + 1, ⟨24, .d8 (lit 0 24 nonce), true, false, false⟩), (1 + 2, ⟨32, .d8 (lit 0 32 key), true, false, false⟩)], 1 + 3⟩
end Go.Sx
