/- spec.HSalsa as a contract. spec.Salsa20. spec.Salsa20: the contract. Conditions: none. -/
import Derived.Test.YtdigakgfngfnkaaVS12
set_option maxRecDepth 1000000
set_option linter.unusedVariables false
namespace Go.Sx
open Go.Proofs
def hsSCt : Ct := ⟨[.val, .val, .val], [], fun vs ds gs => match vs, ds, gs with
  | [.one (.ag [.d8 inp]), .one (.ag [.d8 key]), .one (.s (.str c))], [], [] => bif Nat.beq inp.length 16 && (Nat.beq key.length 32 && Nat.beq c.length 16) then some ⟨.one (.ag [.d8 (lit 0 32 (hs inp key c))]), [], [], []⟩ else none
  | _, _, _ => none⟩

theorem hsS1 (B : Nat) (inp key c : List (BitVec 8)) : FnE P0 B 1 21 [.one (.ag [.d8 (lit 0 16 inp)]), .one (.ag [.d8 (lit 0 32 key)]), .one (.s (.str (lit 0 16 c)))] [] 1
    ⟨.one (.ag [.d8 (lit 0 32 (hsOutS (drs (mxW inp key c) 10)))]), [], 1, .eff, []⟩ := by
  refine FnE.tri (cx := cxb true) (sz := 55) (fn := Try.f21) (c := bodyOf Try.f21) T0ok (by kernel_rfl) (by kernel_rfl) (by kernel_rfl) (by kernel_rfl) (by kernel_rfl) (by kernel_rfl) (Nat.le_refl _) ?_
  exact Tri.ret (cx := cxb true) mix T0ok (HS0ok B true) 20 noOrc [6] [1 + 2] (1 + 8) ⟨[(6, .one (.s (.p (1 + 2) 0)))], [(1 + 2, ⟨32, .d8 (lit 0 32 (hsOutS (drs (mxW inp key c) 10))), true, false, false⟩)], 1 + 8⟩ [] .r (by kernel_rfl) obNil (by kernel_rfl) rfl [] [] (by kernel_rfl) obNil

theorem hsS_ok (B : Nat) : hsSCt.Ok P0 B 1 21 := by
  intro vs ds gs out h hpre hn
  unfold hsSCt at h
  dsimp only at h
  split at h <;> first | (cases h; done) | skip
  rename_i inp key c
  cases hb : (Nat.beq inp.length 16 && (Nat.beq key.length 32 && Nat.beq c.length 16)) with
  | false => rw [hb] at h; cases h
  | true =>
    rw [hb, cond_true] at h
    cases h
    simp only [Bool.and_eq_true] at hb
    obtain ⟨h1, h2, h3⟩ := hb
    have := hsS1 B inp key c
    rw [lit_eq (Nat.eq_of_beq_eq_true h1), lit_eq (Nat.eq_of_beq_eq_true h2), lit_eq (Nat.eq_of_beq_eq_true h3), hsOutS_eq] at this
    exact this
end Go.Sx

set_option maxRecDepth 1000000
set_option linter.unusedVariables false
namespace Go.Sx
open Go.Proofs
def c8 (n : List (BitVec 8)) : List (BitVec 8) := pkB n 0 8 ++ List.replicate 8 0
def c24 (n : List (BitVec 8)) : List (BitVec 8) := pkB n 16 8 ++ List.replicate 8 0
def k24 (n key : List (BitVec 8)) : List (BitVec 8) := hs (lit 0 16 n) (lit 0 32 key) sigma

noncomputable def HJs (c : Bool) : Hook := hookC 21 (hookOf (cxb c) hsSCt) (hookC 22 (hookOf (cxb c) streamCt) (H0 c))
theorem HJsok (B : Nat) (c : Bool) : HookOk P0 B 1 (HJs c) := .cons (.ct (cx := cxb c) (hsS_ok B)) (.cons (.ct (cx := cxb c) (stream_ok B)) (H0ok B c))
def sArgs (k : Nat) (inp key : List (BitVec 8)) : List SV := [.one (.ag [.d8 (lit 0 32 key)]), .one (.s (.osl 1 k)), .one (.s (.osl (1 + 1) inp.length))]
def sMs (k : Nat) (inp nonce : List (BitVec 8)) : Mem := [(1, ⟨k, .d8 (lit 0 k nonce), false, false, false⟩), (1 + 1, ⟨inp.length, .d8 inp, false, false, false⟩)]
end Go.Sx

set_option maxRecDepth 1000000
set_option linter.unusedVariables false
namespace Go.Sx
open Go.Proofs
theorem ss8 (B : Nat) (inp nonce key : List (BitVec 8)) (hlen : inp.length ≤ 4294967295) : FnE P0 B 1 14 (sArgs 8 inp key) (sMs 8 inp nonce) (1 + 2)
    ⟨.one (.s (.osl (1 + 2) inp.length)), (1 + 2, ⟨0, .d8 (strS inp (lit 0 16 (c8 (lit 0 8 nonce))) (lit 0 32 key) inp.length), true, true, false⟩) :: sMs 8 inp nonce, 1 + 3, .eff, []⟩ := by
  refine FnE.tri (cx := cxb true) (sz := 26) (fn := Try.f14) (c := bodyOf Try.f14) T0ok (by kernel_rfl) (by kernel_rfl) (by kernel_rfl) (by kernel_rfl) (by kernel_rfl) (by kernel_rfl) (by show 1 + 2 ≤ 1 + 3; omega) ?_
  refine Tri.step (cx := cxb true) mix T0ok (HJsok B true) 5 0 noOrc [2, 3, 7] [1, 1 + 1, 1 + 2, 1 + 3] (1 + 4) ⟨[(2, .one (.s (.osl (1 + 1) inp.length))), (3, .one (.s (.p (1 + 2) 0))), (7, .one (.s (.p (1 + 3) 0)))], sMs 8 inp nonce ++ [(1 + 2, ⟨32, .d8 (lit 0 32 key), true, false, false⟩), (1 + 3, ⟨16, .d8 (lit 0 16 (c8 (lit 0 8 nonce))), true, false, false⟩)], 1 + 4⟩ [] (by kernel_rfl) obNil (by kernel_rfl) ?_
  refine Tri.chg (cx := cxb false) rfl ?_
  refine Tri.stepR (cx := cxb false) mix T0ok (HJsok B false) 1 0 noOrc [6] [(1, 1), (1 + 1, 1 + 1), (1 + 4, 1 + 2)] (1 + 3) (St.mk [(nat_lit 6, SV.one (SV0.s (Sc.osl (1 + 2) (List.length (List.take (List.length inp) (List.drop (0 : Nat) inp))))))] [(1, Seg.mk (nat_lit 8) (SegD.d8 (lit (0 : BitVec (8 : Nat)) (8 : Nat) nonce)) false false false), (1 + 1, Seg.mk (List.length inp) (SegD.d8 inp) false false false), (1 + 2, Seg.mk (nat_lit 0) (SegD.d8 (strS (List.take (List.length inp) (List.drop (0 : Nat) inp)) (lit (0 : BitVec (8 : Nat)) (16 : Nat) (c8 (lit (0 : BitVec (8 : Nat)) (8 : Nat) nonce))) (lit (0 : BitVec (8 : Nat)) (32 : Nat) key) (List.length (List.take (List.length inp) (List.drop (0 : Nat) inp))))) true true false)] (1 + 3)) ([List.length inp ≤ List.length inp, List.length (List.take (List.length inp) (List.drop (0 : Nat) inp)) = List.length (List.take (List.length inp) (List.drop (0 : Nat) inp)) ∧ True, List.length (List.take (List.length inp) (List.drop (0 : Nat) inp)) ≤ (4294967295 : Nat)]) (by kernel_rfl) (by (repeat' (first | exact obNil | refine obCons ?_ ?_)); all_goals (first | trivial | omega | (simp [hlen] <;> omega))) ?_
  rw [List.drop_zero, List.take_length]
  refine Tri.chg (cx := cxb true) rfl ?_
  exact Tri.ret (cx := cxb true) mix T0ok (H0ok B true) 0 noOrc [6] [1, 1 + 1, 1 + 2] (1 + 3) (⟨[(6, .one (.s (.osl (1 + 2) inp.length)))], sMs 8 inp nonce ++ [(1 + 2, ⟨0, .d8 (strS inp (lit 0 16 (c8 (lit 0 8 nonce))) (lit 0 32 key) inp.length), true, true, false⟩)], 1 + 3⟩) [] .r (by kernel_rfl) obNil (by kernel_rfl) rfl [1 + 2, 1, 1 + 1] [] (by kernel_rfl) obNil

theorem ss24 (B : Nat) (inp nonce key : List (BitVec 8)) (hlen : inp.length ≤ 4294967295) : FnE P0 B 1 14 (sArgs 24 inp key) (sMs 24 inp nonce) (1 + 2)
    ⟨.one (.s (.osl (1 + 2) inp.length)), (1 + 2, ⟨0, .d8 (strS inp (lit 0 16 (c24 (lit 0 24 nonce))) (lit 0 32 (k24 (lit 0 24 nonce) (lit 0 32 key))) inp.length), true, true, false⟩) :: sMs 24 inp nonce, 1 + 3, .eff, []⟩ := by
  refine FnE.tri (cx := cxb true) (sz := 26) (fn := Try.f14) (c := bodyOf Try.f14) T0ok (by kernel_rfl) (by kernel_rfl) (by kernel_rfl) (by kernel_rfl) (by kernel_rfl) (by kernel_rfl) (by show 1 + 2 ≤ 1 + 3; omega) ?_
  refine Tri.step (cx := cxb true) mix T0ok (HJsok B true) 5 0 noOrc [2, 3, 7] [1, 1 + 1, 1 + 2, 1 + 4] (1 + 5) ⟨[(2, .one (.s (.osl (1 + 1) inp.length))), (3, .one (.s (.p (1 + 2) 0))), (7, .one (.s (.p (1 + 4) 0)))], sMs 24 inp nonce ++ [(1 + 2, ⟨32, .d8 (lit 0 32 (k24 (lit 0 24 nonce) (lit 0 32 key))), true, false, false⟩), (1 + 4, ⟨16, .d8 (lit 0 16 (c24 (lit 0 24 nonce))), true, false, false⟩)], 1 + 5⟩ [] (by kernel_rfl) obNil (by kernel_rfl) ?_
  refine Tri.chg (cx := cxb false) rfl ?_
  refine Tri.stepR (cx := cxb false) mix T0ok (HJsok B false) 1 0 noOrc [6] [(1, 1), (1 + 1, 1 + 1), (1 + 5, 1 + 2)] (1 + 3) (St.mk [(nat_lit 6, SV.one (SV0.s (Sc.osl (1 + 2) (List.length (List.take (List.length inp) (List.drop (0 : Nat) inp))))))] [(1, Seg.mk (nat_lit 24) (SegD.d8 (lit (0 : BitVec (8 : Nat)) (24 : Nat) nonce)) false false false), (1 + 1, Seg.mk (List.length inp) (SegD.d8 inp) false false false), (1 + 2, Seg.mk (nat_lit 0) (SegD.d8 (strS (List.take (List.length inp) (List.drop (0 : Nat) inp)) (lit (0 : BitVec (8 : Nat)) (16 : Nat) (c24 (lit (0 : BitVec (8 : Nat)) (24 : Nat) nonce))) (lit (0 : BitVec (8 : Nat)) (32 : Nat) (k24 (lit (0 : BitVec (8 : Nat)) (24 : Nat) nonce) (lit (0 : BitVec (8 : Nat)) (32 : Nat) key))) (List.length (List.take (List.length inp) (List.drop (0 : Nat) inp))))) true true false)] (1 + 3)) ([List.length inp ≤ List.length inp, List.length (List.take (List.length inp) (List.drop (0 : Nat) inp)) = List.length (List.take (List.length inp) (List.drop (0 : Nat) inp)) ∧ True, List.length (List.take (List.length inp) (List.drop (0 : Nat) inp)) ≤ (4294967295 : Nat)]) (by kernel_rfl) (by (repeat' (first | exact obNil | refine obCons ?_ ?_)); all_goals (first | trivial | omega | (simp [hlen] <;> omega))) ?_
  rw [List.drop_zero, List.take_length]
  refine Tri.chg (cx := cxb true) rfl ?_
  exact Tri.ret (cx := cxb true) mix T0ok (H0ok B true) 0 noOrc [6] [1, 1 + 1, 1 + 2] (1 + 3) (⟨[(6, .one (.s (.osl (1 + 2) inp.length)))], sMs 24 inp nonce ++ [(1 + 2, ⟨0, .d8 (strS inp (lit 0 16 (c24 (lit 0 24 nonce))) (lit 0 32 (k24 (lit 0 24 nonce) (lit 0 32 key))) inp.length), true, true, false⟩)], 1 + 3⟩) [] .r (by kernel_rfl) obNil (by kernel_rfl) rfl [1 + 2, 1, 1 + 1] [] (by kernel_rfl) obNil

def ssCt : Ct := ⟨[.val, .slc false, .slc false], [], fun vs ds gs => match vs, ds, gs with
  | [.one (.ag [.d8 key])], [.d8 nonce, .d8 inp], [] => bif Nat.beq key.length 32 && Nat.beq nonce.length 8 then some ⟨.one (.s (.osl (1 + 2) inp.length)), [.d8 nonce, .d8 inp], [⟨0, .d8 (strS inp (lit 0 16 (c8 nonce)) key inp.length), true, true, false⟩], [inp.length ≤ 4294967295]⟩
    else bif Nat.beq key.length 32 && Nat.beq nonce.length 24 then some ⟨.one (.s (.osl (1 + 2) inp.length)), [.d8 nonce, .d8 inp], [⟨0, .d8 (strS inp (lit 0 16 (c24 nonce)) (lit 0 32 (k24 nonce key)) inp.length), true, true, false⟩], [inp.length ≤ 4294967295]⟩ else none
  | _, _, _ => none⟩

theorem ssCt_ok (B : Nat) : ssCt.Ok P0 B 1 14 := by
  intro vs ds gs o h hpre hn
  unfold ssCt at h
  dsimp only at h
  split at h <;> first | (cases h; done) | skip
  rename_i key nonce inp
  cases hb : (Nat.beq key.length 32 && Nat.beq nonce.length 8) with
  | false =>
    rw [hb, cond_false] at h
    cases hc : (Nat.beq key.length 32 && Nat.beq nonce.length 24) with
    | false => rw [hc] at h; cases h
    | true =>
      rw [hc, cond_true] at h
      cases h
      simp only [Bool.and_eq_true] at hc
      have h1 := Nat.eq_of_beq_eq_true hc.1
      have h2 := Nat.eq_of_beq_eq_true hc.2
      have := ss24 B inp nonce key (hpre _ (by simp))
      unfold sMs sArgs at this
      rw [lit_eq h1, lit_eq h2] at this
      simp only [ssCt, canArgs, segsOf, globs, addM, List.length_cons, List.length_nil, SegD.len, h2]
      exact this
  | true =>
    rw [hb, cond_true] at h
    cases h
    simp only [Bool.and_eq_true] at hb
    have h1 := Nat.eq_of_beq_eq_true hb.1
    have h2 := Nat.eq_of_beq_eq_true hb.2
    have := ss8 B inp nonce key (hpre _ (by simp))
    unfold sMs sArgs at this
    rw [lit_eq h1, lit_eq h2] at this
    simp only [ssCt, canArgs, segsOf, globs, addM, List.length_cons, List.length_nil, SegD.len, h2]
    exact this
end Go.Sx
