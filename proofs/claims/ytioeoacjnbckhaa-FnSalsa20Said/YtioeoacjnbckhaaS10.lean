/- spec.Stream. Conditions: none. -/
import Derived.Test.YtioeoacjnbckhaaS9
set_option maxRecDepth 1000000
set_option linter.unusedVariables false
namespace Go.Sx
open Go.Proofs

/-- the stream added to the first j bytes -/
def strS (inp ctr key : List (BitVec 8)) : Nat → List (BitVec 8)
  | 0 => []
  | j + 1 => strS inp ctr key j ++ [inp.getD j 0 ^^^ (blk ctr key (j / 64)).getD (j % 64) 0]
theorem strS_length (inp ctr key : List (BitVec 8)) : ∀ j, (strS inp ctr key j).length = j
  | 0 => rfl
  | j + 1 => by simp [strS, strS_length inp ctr key j]

def strT : List Nat := [4, 5, 7, 8, 13, 14, 15]

structure StrI (inp ctr key : List (BitVec 8)) where
  j : Nat
  b : List (BitVec 8)
  o : List (BitVec 8)
  le : j ≤ inp.length
  ho : o = strS inp ctr key j
  hb : b.length = 64
  hk : j % 64 ≠ 0 → b = blk ctr key (j / 64)

theorem stream1 (B : Nat) (inp ctr key : List (BitVec 8)) (hlen : inp.length ≤ 4294967295) : FnE P0 B 2 24 [.one (.s (.osl 2 inp.length)), .one (.ag [.d8 (lit 0 16 ctr)]), .one (.ag [.d8 (lit 0 32 key)])] [(2, ⟨inp.length, .d8 inp, false, false, false⟩)] (2 + 1)
    ⟨.one (.s (.osl (2 + 1) inp.length)), [(2 + 1, ⟨0, .d8 (strS inp (lit 0 16 ctr) (lit 0 32 key) inp.length), true, true, false⟩), (2, ⟨inp.length, .d8 inp, false, false, false⟩)], 2 + 2, .eff, []⟩ := by
  refine FnE.tri (cx := cxb false) (sz := 41) (fn := Try.f24) (c := bodyOf Try.f24) T0ok (by kernel_rfl) (by kernel_rfl) (by kernel_rfl) (by kernel_rfl) (by kernel_rfl) (by kernel_rfl) (by show 2 + 1 ≤ 2 + 2; omega) ?_
  refine Tri.step (cx := cxb false) mix T0ok (HBok B false) 4 0 noOrc strT [2, 2 + 1, 2 + 2, 2 + 3, 2 + 4] (2 + 5) (sst inp ctr key 0 (List.replicate 64 0) []) [(lit 0 16 ctr).length = (List.replicate 16 (0 : BitVec 8)).length ∧ True, (lit 0 32 key).length = (List.replicate 32 (0 : BitVec 8)).length ∧ True] (by kernel_rfl)
    (obCons (by simp [lit_length]) <| obCons (by simp [lit_length]) obNil) (by kernel_rfl) ?_
  refine Tri.loop (id := 0) (ι := StrI inp (lit 0 16 ctr) (lit 0 32 key)) rfl (fun i => sst inp ctr key i.j i.b i.o) (fun i => inp.length - i.j) ⟨0, List.replicate 64 0, [], Nat.zero_le _, rfl, by simp, fun h => absurd rfl h⟩ rfl (fun i => by show 2 + 1 ≤ 2 + 5; omega)
    (R1 := fun s => s = ⟨[(7, .one (.s (.osl (2 + 1) inp.length)))], [(2, ⟨inp.length, .d8 inp, false, false, false⟩), (2 + 1, ⟨0, .d8 (strS inp (lit 0 16 ctr) (lit 0 32 key) inp.length), true, true, false⟩)], 2 + 2⟩) (fun ⟨j, b, o, le, ho, hb, hk⟩ => ?_) (fun s' hs => ?_)
  · by_cases hlt : j < inp.length
    · have hol : o.length = j := by rw [ho, strS_length]
      by_cases h64 : j % 64 = 0
      · refine Tri.finR (cx := cxb false) mix T0ok (HBok B false) 0 (orcL [(16, true), (22, true)]) strT [(2, 2), (2 + 1, 2 + 1), (2 + 2, 2 + 2), (2 + 6, 2 + 3), (2 + 4, 2 + 4)] (2 + 5) .n (sst inp ctr key (j + 1) (blk (lit 0 16 ctr) (lit 0 32 key) (j / 64)) (o ++ [inp.getD j 0 ^^^ (blk (lit 0 16 ctr) (lit 0 32 key) (j / 64)).getD (j % 64) 0]))
          [decide ((j : Int) < (inp.length : Int)) = true, 0 ≤ (j : Int) ∧ (j : Int) < (inp.length : Int) ∧ (j : Int) < (inp.length : Int), Int.toNat j + 0 < inp.length, 0 ≤ (j : Int) ∧ (0 : Int) < 64, decide ((j : Int) % 64 = 0) = true, 0 ≤ (j : Int) ∧ (0 : Int) < 64 ∧ rng j, True, j / 64 ≤ 1099511627776, True, True,
            0 ≤ (j : Int) ∧ (0 : Int) < 64, 0 ≤ (j : Int) % 64 ∧ (j : Int) % 64 < (64 : Nat), Int.toNat ((j : Int) % 64) + 0 < (blk (lit 0 16 ctr) (lit 0 32 key) (j / 64)).length,
            j = o.length ∧ 0 + 1 ≤ (List.set (List.replicate 1 (0 : BitVec 8)) (0 * 1) (inp.getD (Int.toNat j + 0) 0 ^^^ (blk (lit 0 16 ctr) (lit 0 32 key) (j / 64)).getD (Int.toNat ((j : Int) % 64) + 0) 0)).length ∧ j + 1 ≤ 4294967296, rng ((j : Int) + 1)] (by kernel_rfl)
          (obCons (by simpa using hlt) <| obCons (by omega) <| obCons (by omega) <| obCons (by omega) <| obCons (by simp; omega) <| obCons (by unfold rng; omega) <| obCons trivial <| obCons (by omega) <| obCons trivial <| obCons trivial <|
            obCons (by omega) <| obCons (by omega) <| obCons (by rw [blk, lit_length]; omega) <| obCons (by simp; omega) <| obCons (by unfold rng; omega) obNil)
          ⟨⟨j + 1, blk (lit 0 16 ctr) (lit 0 32 key) (j / 64), o ++ [inp.getD j 0 ^^^ (blk (lit 0 16 ctr) (lit 0 32 key) (j / 64)).getD (j % 64) 0], hlt, by rw [ho]; rfl, lit_length _ _ _, fun h => by rw [show (j + 1) / 64 = j / 64 by omega]⟩, by show inp.length - (j + 1) < inp.length - j; omega, rfl⟩
      · have hbk := hk h64
        refine Tri.finR (cx := cxb false) mix T0ok (HBok B false) 0 (orcL [(16, true), (22, false)]) strT [(2, 2), (2 + 1, 2 + 1), (2 + 2, 2 + 2), (2 + 6, 2 + 3), (2 + 4, 2 + 4)] (2 + 5) .n (sst inp ctr key (j + 1) b (o ++ [inp.getD j 0 ^^^ b.getD (j % 64) 0]))
          [decide ((j : Int) < (inp.length : Int)) = true, 0 ≤ (j : Int) ∧ (j : Int) < (inp.length : Int) ∧ (j : Int) < (inp.length : Int), Int.toNat j + 0 < inp.length, 0 ≤ (j : Int) ∧ (0 : Int) < 64, decide ((j : Int) % 64 = 0) = false,
            0 ≤ (j : Int) ∧ (0 : Int) < 64, 0 ≤ (j : Int) % 64 ∧ (j : Int) % 64 < (64 : Nat), Int.toNat ((j : Int) % 64) + 0 < b.length,
            j = o.length ∧ 0 + 1 ≤ (List.set (List.replicate 1 (0 : BitVec 8)) (0 * 1) (inp.getD (Int.toNat j + 0) 0 ^^^ b.getD (Int.toNat ((j : Int) % 64) + 0) 0)).length ∧ j + 1 ≤ 4294967296, rng ((j : Int) + 1)] (by kernel_rfl)
          (obCons (by simpa using hlt) <| obCons (by omega) <| obCons (by omega) <| obCons (by omega) <| obCons (by simp; omega) <|
            obCons (by omega) <| obCons (by omega) <| obCons (by omega) <| obCons (by simp; omega) <| obCons (by unfold rng; omega) obNil)
          ⟨⟨j + 1, b, o ++ [inp.getD j 0 ^^^ b.getD (j % 64) 0], hlt, by rw [ho, hbk]; rfl, hb, fun h => by rw [hbk, show (j + 1) / 64 = j / 64 by omega]⟩, by show inp.length - (j + 1) < inp.length - j; omega, rfl⟩
    · obtain rfl : j = inp.length := by omega
      subst ho
      exact Tri.finR (cx := cxb false) mix T0ok (HBok B false) 0 (orcL [(16, false)]) [7] [(2, 2), (2 + 3, 2 + 1)] (2 + 2) (.x 0) ⟨[(7, .one (.s (.osl (2 + 1) inp.length)))], [(2, ⟨inp.length, .d8 inp, false, false, false⟩), (2 + 1, ⟨0, .d8 (strS inp (lit 0 16 ctr) (lit 0 32 key) inp.length), true, true, false⟩)], 2 + 2⟩ [decide ((inp.length : Int) < (inp.length : Int)) = false] (by kernel_rfl) (obCons (by simp) obNil) (by simp)
  · subst hs
    exact Tri.ret (cx := cxb false) mix T0ok (HBok B false) 0 noOrc [6] [2 + 1, 2] (2 + 2) ⟨[(6, .one (.s (.osl (2 + 1) inp.length)))], [(2 + 1, ⟨0, .d8 (strS inp (lit 0 16 ctr) (lit 0 32 key) inp.length), true, true, false⟩), (2, ⟨inp.length, .d8 inp, false, false, false⟩)], 2 + 2⟩ [] .r (by kernel_rfl) obNil (by kernel_rfl) rfl [2 + 1, 2] [] (by kernel_rfl) obNil

def streamCt : Ct := ⟨[.slc false, .val, .val], [], fun vs ds gs => match vs, ds, gs with
  | [.one (.ag [.d8 ctr]), .one (.ag [.d8 key])], [.d8 inp], [] => bif Nat.beq ctr.length 16 && Nat.beq key.length 32 then some ⟨.one (.s (.osl (2 + 1) inp.length)), [.d8 inp], [⟨0, .d8 (strS inp ctr key inp.length), true, true, false⟩], [inp.length ≤ 4294967295]⟩ else none
  | _, _, _ => none⟩

theorem stream_ok (B : Nat) : streamCt.Ok P0 B 2 24 := by
  intro vs ds gs out h hpre hn
  unfold streamCt at h
  dsimp only at h
  split at h <;> first | (cases h; done) | skip
  rename_i ctr key inp
  cases hb : (Nat.beq ctr.length 16 && Nat.beq key.length 32) with
  | false => rw [hb] at h; cases h
  | true =>
    rw [hb, cond_true] at h
    cases h
    simp only [Bool.and_eq_true] at hb
    have := stream1 B inp ctr key (hpre _ (by simp))
    rw [lit_eq (Nat.eq_of_beq_eq_true hb.1), lit_eq (Nat.eq_of_beq_eq_true hb.2)] at this
    exact this
end Go.Sx
