/- salsa.HSalsa20 whose result lies where its key lay. x25519ScalarMult where the shared key is computed. The shared key: hooks. impl.Precompute: what it computes. Conditions: none. -/
import Derived.Test.YtbkobeclkeojoaaGreatDoorS1
import Derived.Test.YtbkobeclkeojoaaGreatDoorSx37
import Derived.Test.YtbkobeclkeojoaaGreatDoorF7c
set_option maxRecDepth 1000000
set_option linter.unusedVariables false
namespace Go.Sx
open Go.Proofs
def hkM (key inp c : List (BitVec 8)) : Mem := [(2, ⟨32, .d8 (lit 0 32 key), true, false, false⟩), (2 + 1, ⟨16, .d8 (lit 0 16 inp), false, false, false⟩), (2 + 2, ⟨16, .d8 (lit 0 16 c), false, false, false⟩)]
def hkSt (inp key c : List (BitVec 8)) (j : Nat) : St := ⟨wT 8 (drs (mxW inp key c) j) ++ [(24, .one (.s (.i (2 * j : Nat)))), (0, .one (.s (.p 2 0)))], hkM key inp c, 2 + 3⟩
theorem hk1 (B : Nat) (inp key c : List (BitVec 8)) : FnE P0 B 2 46 [.one (.s (.p 2 0)), .one (.s (.p (2 + 1) 0)), .one (.s (.p 2 0)), .one (.s (.p (2 + 2) 0))] (hkM key inp c) (2 + 3) ⟨.tup [], hkM (hs inp key c) inp c, 2 + 3, .eff, []⟩ := by
  refine FnE.tri (cx := cxb true) (sz := 854) (fn := Tryz.f46) (c := bodyOf Tryz.f46) T0ok (by kernel_rfl) (by kernel_rfl) (by kernel_rfl) (by kernel_rfl) (by kernel_rfl) (by kernel_rfl) (Nat.le_refl _) ?_
  refine Tri.step mix T0ok (HQok B true) 17 0 noOrc [8, 9, 10, 11, 12, 13, 14, 15, 16, 17, 18, 19, 20, 21, 22, 23, 24, 0] [2, 2 + 1, 2 + 2] (2 + 3) (hkSt inp key c 0) [] (by kernel_rfl) obNil (by kernel_rfl) ?_
  refine Tri.loop (id := 0) (ι := { j : Nat // j ≤ 10 }) rfl (fun j => hkSt inp key c j.1) (fun j => 10 - j.1) ⟨0, Nat.zero_le _⟩ rfl (fun j => Nat.le_refl _) (R1 := fun s => s = hkSt inp key c 10) (fun ⟨j, hj⟩ => ?_) (fun s' hs => ?_)
  · by_cases hlt : j < 10
    · refine Tri.chg (cx := cxb false) rfl ?_
      exact Tri.fin (cx := cxb false) mix T0ok (HQok B false) 0 (orcL [(443, true)]) [8, 9, 10, 11, 12, 13, 14, 15, 16, 17, 18, 19, 20, 21, 22, 23, 24, 0] [2, 2 + 1, 2 + 2] (2 + 3) .n (hkSt inp key c (j + 1)) [decide (((2 * j : Nat) : Int) < 20) = true, rng (((2 * j : Nat) : Int) + 2)] (by kernel_rfl) (obCons (by simp; omega) <| obCons (by unfold rng; omega) obNil) (by kernel_rfl) ⟨⟨j + 1, hlt⟩, by show 10 - (j + 1) < 10 - j; omega, rfl⟩
    · obtain rfl : j = 10 := by omega
      exact Tri.fin (cx := cxb true) mix T0ok (HQok B true) 0 noOrc [8, 9, 10, 11, 12, 13, 14, 15, 16, 17, 18, 19, 20, 21, 22, 23, 24, 0] [2, 2 + 1, 2 + 2] (2 + 3) (.x 0) (hkSt inp key c 10) [] (by kernel_rfl) obNil (by kernel_rfl) (by simp)
  · subst hs
    exact Tri.ret (cx := cxb true) mix T0ok (HQok B true) 0 noOrc [] [2, 2 + 1, 2 + 2] (2 + 3) ⟨[], hkM (Go.Sx.hs inp key c) inp c, 2 + 3⟩ [] .n (by kernel_rfl) obNil (by kernel_rfl) rfl [2, 2 + 1, 2 + 2] [] (by kernel_rfl) obNil
def hkCt : Ct := ⟨[.ptr 32 true, .ptr 16 false, .ptr 16 false], [], fun vs ds gs => match vs, ds, gs with
  | [], [.d8 key, .d8 inp, .d8 c], [] => bif Nat.beq key.length 32 && (Nat.beq inp.length 16 && Nat.beq c.length 16) then some ⟨.tup [], [.d8 (lit 0 32 (hs inp key c)), .d8 inp, .d8 c], [], []⟩ else none
  | _, _, _ => none⟩
theorem hk_ok (B : Nat) : hkCt.OkD P0 B 2 46 [0, 1, 0, 2] := by
  intro vs ds gs out h hpre hn
  unfold hkCt at h
  dsimp only at h
  split at h <;> first | (cases h; done) | skip
  rename_i key inp c
  cases hb : (Nat.beq key.length 32 && (Nat.beq inp.length 16 && Nat.beq c.length 16)) with
  | false => rw [hb] at h; cases h
  | true =>
    rw [hb, cond_true] at h
    cases h
    simp only [Bool.and_eq_true] at hb
    obtain ⟨h1, h2, h3⟩ := hb
    have h1 := Nat.eq_of_beq_eq_true h1
    have h2 := Nat.eq_of_beq_eq_true h2
    have h3 := Nat.eq_of_beq_eq_true h3
    have := hk1 B inp key c
    unfold hkM at this
    rw [lit_eq h1, lit_eq h2, lit_eq h3] at this
    simp only [hkCt, canArgs, segsOf, globs, addM, SegD.len, h1, h2, h3, lit_length]
    exact this
end Go.Sx

set_option maxRecDepth 1000000
set_option linter.unusedVariables false
namespace Go.Sx
open Go.Proofs
end Go.Sx

set_option maxRecDepth 1000000
set_option linter.unusedVariables false
namespace Go.Sx
open Go.Proofs
def z32 : List (BitVec 8) := List.replicate 32 0
end Go.Sx

set_option maxRecDepth 1000000
set_option linter.unusedVariables false
namespace Go.Sx
open Go.Proofs
def orA (o : List (BitVec 8)) : BitVec 8 := (List.range 32).foldl (fun x j => x ||| o.getD j 0) 0#8
def sigB : List (BitVec 8) := [101#8, 120#8, 112#8, 97#8, 110#8, 100#8, 32#8, 51#8, 50#8, 45#8, 98#8, 121#8, 116#8, 101#8, 32#8, 107#8]
def z16 : List (BitVec 8) := List.replicate 16 0
theorem or_zero {x y : BitVec 8} (h : x ||| y = 0#8) : x = 0#8 ∧ y = 0#8 := by
  constructor
  · apply BitVec.eq_of_getLsbD_eq
    intro i hi
    have := congrArg (fun v => v.getLsbD i) h
    simp only [BitVec.getLsbD_or, BitVec.getLsbD_zero, Bool.or_eq_false_iff] at this ⊢
    exact this.1
  · apply BitVec.eq_of_getLsbD_eq
    intro i hi
    have := congrArg (fun v => v.getLsbD i) h
    simp only [BitVec.getLsbD_or, BitVec.getLsbD_zero, Bool.or_eq_false_iff] at this ⊢
    exact this.2
theorem fold_or_zero (o : List (BitVec 8)) : ∀ (l : List Nat) (x : BitVec 8), l.foldl (fun x j => x ||| o.getD j 0) x = 0#8 → x = 0#8 ∧ ∀ j ∈ l, o.getD j 0 = 0#8
  | [], x, h => ⟨h, fun j hj => by cases hj⟩
  | i :: r, x, h => by
    obtain ⟨h1, h2⟩ := fold_or_zero o r _ h
    obtain ⟨h3, h4⟩ := or_zero h1
    exact ⟨h3, fun j hj => by
      rcases List.mem_cons.1 hj with rfl | hj
      · exact h4
      · exact h2 j hj⟩
theorem orA_zero {o : List (BitVec 8)} (hl : o.length = 32) (h : (orA o).toNat = 0) : o = z32 := by
  have h0 : orA o = 0#8 := BitVec.eq_of_toNat_eq h
  have := (fold_or_zero o _ _ h0).2
  apply List.ext_getElem?
  intro j
  rcases Nat.lt_or_ge j 32 with hj | hj
  · have hz := this j (List.mem_range.2 hj)
    rw [List.getD_eq_getElem?_getD, List.getElem?_eq_getElem (by omega), Option.getD_some] at hz
    rw [List.getElem?_eq_getElem (by omega), hz]
    unfold z32
    rw [List.getElem?_replicate, if_pos hj]
    rfl
  · rw [List.getElem?_eq_none (by omega), List.getElem?_eq_none (by unfold z32; rw [List.length_replicate]; exact hj)]
theorem smF_length (s p : List (BitVec 8)) : (smF s p).length = 32 := rfl
/-- the key that two sides share, as the program computes it -/
def preI (a b : List (BitVec 8)) : List (BitVec 8) := hs z16 (smF b a) sigB

end Go.Sx
