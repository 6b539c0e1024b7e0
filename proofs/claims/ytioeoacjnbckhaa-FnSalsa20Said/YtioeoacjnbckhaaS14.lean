/- impl.Stream. Conditions: none. -/
import Derived.Test.YtioeoacjnbckhaaS13
set_option maxRecDepth 1000000
set_option linter.unusedVariables false
namespace Go.Sx
open Go.Proofs

noncomputable def HGn (c : Bool) : Hook := hookC 65 (hookOf (cxb c) genCt) (hookC 46 (hookOf (cxb c) cloneCt) (H0 c))
theorem HGnok (B : Nat) (c : Bool) : HookOk P0 B 2 (HGn c) := .cons (.ct (cx := cxb c) (gen_ok B)) (.cons (.ct (cx := cxb c) (clone_ok B)) (H0ok B c))
noncomputable def in45 : In := ⟨Try.f45, bodyOf Try.f45, 0, .eff, noOrc⟩
theorem io45 : InOk P0 45 in45 := ⟨by kernel_rfl, by kernel_rfl, by kernel_rfl⟩
noncomputable def HXK (c : Bool) : Hook := hookC 45 (inl (cxb c) (HGn c) in45) (HGn c)
theorem HXKok (B : Nat) (c : Bool) : HookOk P0 B 2 (HXK c) := HookOk.cons (HkOk.inl (cx := cxb c) mix T0ok (HGnok B c) io45) (HGnok B c)
theorem mixS_full (inp ctr key out : List (BitVec 8)) {n : Nat} (h : out.length ≤ n) : mixS inp ctr key out n = strS inp ctr key n := by
  unfold mixS; rw [List.drop_of_length_le h, List.append_nil]

theorem splice_full (a b : List (BitVec 8)) (h : a.length ≤ b.length) : splice a 0 b = b := by
  unfold splice; simp [List.drop_of_length_le h]

theorem istream1 (B : Nat) (inp ctr key : List (BitVec 8)) (hlen : inp.length ≤ 4294967295) : FnE P0 B 2 23 [.one (.s (.osl 2 inp.length)), .one (.ag [.d8 (lit 0 16 ctr)]), .one (.ag [.d8 (lit 0 32 key)])] [(2, ⟨inp.length, .d8 inp, false, false, false⟩)] (2 + 1)
    ⟨.one (.s (.sl (2 + 1) 0 inp.length inp.length)), [(2 + 1, ⟨inp.length, .d8 (strS inp (lit 0 16 ctr) (lit 0 32 key) inp.length), true, false, false⟩), (2, ⟨inp.length, .d8 inp, false, false, false⟩)], 2 + 2, .eff, []⟩ := by
  refine FnE.tri (cx := cxb false) (sz := 16) (fn := Try.f23) (c := bodyOf Try.f23) T0ok (by kernel_rfl) (by kernel_rfl) (by kernel_rfl) (by kernel_rfl) (by kernel_rfl) (by kernel_rfl) (by show 2 + 1 ≤ 2 + 2; omega) ?_
  have e : strS inp (lit 0 16 ctr) (lit 0 32 key) inp.length = splice (List.replicate (Int.toNat (↑(List.length inp) : Int)) (0 : BitVec (8 : Nat))) (0 : Nat) (mixS (List.take (List.length (List.take (List.length inp) (List.drop (0 : Nat) inp))) (List.drop (0 : Nat) (List.take (List.length inp) (List.drop (0 : Nat) inp)))) (List.take (16 : Nat) (List.drop (0 : Nat) (lit (0 : BitVec (8 : Nat)) (16 : Nat) ctr))) (List.take (32 : Nat) (List.drop (0 : Nat) (lit (0 : BitVec (8 : Nat)) (32 : Nat) key))) (List.take (Int.toNat (↑(List.length inp) : Int)) (List.drop (0 : Nat) (List.replicate (Int.toNat (↑(List.length inp) : Int)) (0 : BitVec (8 : Nat))))) (List.length (List.take (List.length (List.take (List.length inp) (List.drop (0 : Nat) inp))) (List.drop (0 : Nat) (List.take (List.length inp) (List.drop (0 : Nat) inp)))))) := by
    rw [splice_full _ _ (by rw [mixS_length] <;> simp)]
    rw [mixS_full _ _ _ _ (by simp)]
    rw [List.drop_zero, List.take_length, List.drop_zero, List.take_length]
    rfl
  rw [e]
  refine Tri.stepR (cx := cxb false) mix T0ok (HXKok B false) 4 1 noOrc [6] [(2, 2), (2 + 3, 2 + 1)] (2 + 2) (St.mk [(nat_lit 6, SV.one (SV0.s (Sc.sl (nat_lit 3) (nat_lit 0) (Int.toNat (↑(List.length inp) : Int)) (Int.toNat (↑(List.length inp) : Int)))))] [(nat_lit 2, Seg.mk (List.length inp) (SegD.d8 inp) false false false), (nat_lit 3, Seg.mk (Int.toNat (↑(List.length inp) : Int)) (SegD.d8 (splice (List.replicate (Int.toNat (↑(List.length inp) : Int)) (0 : BitVec (8 : Nat))) (0 : Nat) (mixS (List.take (List.length (List.take (List.length inp) (List.drop (0 : Nat) inp))) (List.drop (0 : Nat) (List.take (List.length inp) (List.drop (0 : Nat) inp)))) (List.take (16 : Nat) (List.drop (0 : Nat) (lit (0 : BitVec (8 : Nat)) (16 : Nat) ctr))) (List.take (32 : Nat) (List.drop (0 : Nat) (lit (0 : BitVec (8 : Nat)) (32 : Nat) key))) (List.take (Int.toNat (↑(List.length inp) : Int)) (List.drop (0 : Nat) (List.replicate (Int.toNat (↑(List.length inp) : Int)) (0 : BitVec (8 : Nat))))) (List.length (List.take (List.length (List.take (List.length inp) (List.drop (0 : Nat) inp))) (List.drop (0 : Nat) (List.take (List.length inp) (List.drop (0 : Nat) inp)))))))) true false false)] (nat_lit 4)) ([List.length (lit (0 : BitVec (8 : Nat)) (16 : Nat) ctr) = List.length (List.replicate (16 : Nat) (0 : BitVec (8 : Nat))) ∧ True, List.length (lit (0 : BitVec (8 : Nat)) (32 : Nat) key) = List.length (List.replicate (32 : Nat) (0 : BitVec (8 : Nat))) ∧ True, (0 : Int) ≤ (↑(List.length inp) : Int) ∧ (↑(List.length inp) : Int) = (↑(List.length inp) : Int) ∧ (↑(List.length inp) : Int) ≤ (281474976710656 : Int) ∧ (↑(1 : Nat) : Int) * (↑(List.length inp) : Int) ≤ (281474976710656 : Int), List.length inp ≤ List.length inp, List.length (List.take (List.length inp) (List.drop (0 : Nat) inp)) = List.length (List.take (List.length inp) (List.drop (0 : Nat) inp)) ∧ True, List.length (List.take (List.length inp) (List.drop (0 : Nat) inp)) ≤ (4294967295 : Nat), (0 : Nat) + Int.toNat (↑(List.length inp) : Int) ≤ List.length (List.replicate (Int.toNat (↑(List.length inp) : Int)) (0 : BitVec (8 : Nat))) ∧ Int.toNat (↑(List.length inp) : Int) ≤ Int.toNat (↑(List.length inp) : Int), List.length (List.take (List.length inp) (List.drop (0 : Nat) inp)) ≤ List.length (List.take (List.length inp) (List.drop (0 : Nat) inp)), (0 : Nat) + (16 : Nat) ≤ List.length (lit (0 : BitVec (8 : Nat)) (16 : Nat) ctr), (0 : Nat) + (32 : Nat) ≤ List.length (lit (0 : BitVec (8 : Nat)) (32 : Nat) key), List.length (mixS (List.take (List.length (List.take (List.length inp) (List.drop (0 : Nat) inp))) (List.drop (0 : Nat) (List.take (List.length inp) (List.drop (0 : Nat) inp)))) (List.take (16 : Nat) (List.drop (0 : Nat) (lit (0 : BitVec (8 : Nat)) (16 : Nat) ctr))) (List.take (32 : Nat) (List.drop (0 : Nat) (lit (0 : BitVec (8 : Nat)) (32 : Nat) key))) (List.take (Int.toNat (↑(List.length inp) : Int)) (List.drop (0 : Nat) (List.replicate (Int.toNat (↑(List.length inp) : Int)) (0 : BitVec (8 : Nat))))) (List.length (List.take (List.length (List.take (List.length inp) (List.drop (0 : Nat) inp))) (List.drop (0 : Nat) (List.take (List.length inp) (List.drop (0 : Nat) inp)))))) = List.length (List.take (Int.toNat (↑(List.length inp) : Int)) (List.drop (0 : Nat) (List.replicate (Int.toNat (↑(List.length inp) : Int)) (0 : BitVec (8 : Nat))))) ∧ List.length (List.take (List.length (List.take (List.length inp) (List.drop (0 : Nat) inp))) (List.drop (0 : Nat) (List.take (List.length inp) (List.drop (0 : Nat) inp)))) = List.length (List.take (List.length (List.take (List.length inp) (List.drop (0 : Nat) inp))) (List.drop (0 : Nat) (List.take (List.length inp) (List.drop (0 : Nat) inp)))) ∧ List.length (List.take (16 : Nat) (List.drop (0 : Nat) (lit (0 : BitVec (8 : Nat)) (16 : Nat) ctr))) = List.length (List.take (16 : Nat) (List.drop (0 : Nat) (lit (0 : BitVec (8 : Nat)) (16 : Nat) ctr))) ∧ List.length (List.take (32 : Nat) (List.drop (0 : Nat) (lit (0 : BitVec (8 : Nat)) (32 : Nat) key))) = List.length (List.take (32 : Nat) (List.drop (0 : Nat) (lit (0 : BitVec (8 : Nat)) (32 : Nat) key))) ∧ True, List.length (List.take (List.length (List.take (List.length inp) (List.drop (0 : Nat) inp))) (List.drop (0 : Nat) (List.take (List.length inp) (List.drop (0 : Nat) inp)))) ≤ List.length (List.take (Int.toNat (↑(List.length inp) : Int)) (List.drop (0 : Nat) (List.replicate (Int.toNat (↑(List.length inp) : Int)) (0 : BitVec (8 : Nat)))))]) (by kernel_rfl) (by (repeat' (first | exact obNil | refine obCons ?_ ?_)); all_goals (first | trivial | omega | (simp [mixS_length, lit_length] <;> omega))) ?_
  exact Tri.ret (cx := cxb false) mix T0ok (HXKok B false) 0 noOrc [6] [2 + 1, 2] (2 + 2) (St.mk [(nat_lit 6, SV.one (SV0.s (Sc.sl (nat_lit 3) (nat_lit 0) (Int.toNat (↑(List.length inp) : Int)) (Int.toNat (↑(List.length inp) : Int)))))] [(nat_lit 3, Seg.mk (Int.toNat (↑(List.length inp) : Int)) (SegD.d8 (splice (List.replicate (Int.toNat (↑(List.length inp) : Int)) (0 : BitVec (8 : Nat))) (0 : Nat) (mixS (List.take (List.length (List.take (List.length inp) (List.drop (0 : Nat) inp))) (List.drop (0 : Nat) (List.take (List.length inp) (List.drop (0 : Nat) inp)))) (List.take (16 : Nat) (List.drop (0 : Nat) (lit (0 : BitVec (8 : Nat)) (16 : Nat) ctr))) (List.take (32 : Nat) (List.drop (0 : Nat) (lit (0 : BitVec (8 : Nat)) (32 : Nat) key))) (List.take (Int.toNat (↑(List.length inp) : Int)) (List.drop (0 : Nat) (List.replicate (Int.toNat (↑(List.length inp) : Int)) (0 : BitVec (8 : Nat))))) (List.length (List.take (List.length (List.take (List.length inp) (List.drop (0 : Nat) inp))) (List.drop (0 : Nat) (List.take (List.length inp) (List.drop (0 : Nat) inp)))))))) true false false), (nat_lit 2, Seg.mk (List.length inp) (SegD.d8 inp) false false false)] (nat_lit 4)) [] .r (by kernel_rfl) obNil (by kernel_rfl) rfl [2 + 1, 2] [] (by kernel_rfl) obNil

def istreamCt : Ct := ⟨[.slc false, .val, .val], [], fun vs ds gs => match vs, ds, gs with
  | [.one (.ag [.d8 ctr]), .one (.ag [.d8 key])], [.d8 inp], [] => bif Nat.beq ctr.length 16 && Nat.beq key.length 32 then some ⟨.one (.s (.sl (2 + 1) 0 inp.length inp.length)), [.d8 inp], [⟨inp.length, .d8 (strS inp ctr key inp.length), true, false, false⟩], [inp.length ≤ 4294967295]⟩ else none
  | _, _, _ => none⟩

theorem istream_ok (B : Nat) : istreamCt.Ok P0 B 2 23 := by
  intro vs ds gs out h hpre hn
  unfold istreamCt at h
  dsimp only at h
  split at h <;> first | (cases h; done) | skip
  rename_i ctr key inp
  cases hb : (Nat.beq ctr.length 16 && Nat.beq key.length 32) with
  | false => rw [hb] at h; cases h
  | true =>
    rw [hb, cond_true] at h
    cases h
    simp only [Bool.and_eq_true] at hb
    have := istream1 B inp ctr key (hpre _ (by simp))
    rw [lit_eq (Nat.eq_of_beq_eq_true hb.1), lit_eq (Nat.eq_of_beq_eq_true hb.2)] at this
    exact this
end Go.Sx
