/- The spec's counter and stream. Conditions: none. -/
import Derived.Test.YtioeoacjnbckhaaQ1
set_option maxRecDepth 1000000
set_option linter.unusedVariables false
namespace Go.Sx
open Go.Proofs

theorem rng_add8 {a : Int} (x : BitVec 8) (h0 : 0 ≤ a) (h1 : a ≤ 4611686018427387904) : rng (a + (x.toNat : Int)) := by
  have := x.isLt
  unfold rng; omega

def cntSt (c : List (BitVec 8)) (n j : Nat) : St := ⟨[(1, .one (.s (.i (cs c n j).1))), (2, .one (.s (.p 2 0))), (4, .one (.s (.p (2 + 1) 0))), (5, .one (.s (.i (8 + j : Nat))))], [(2, ⟨16, .d8 (cs c n j).2, true, false, false⟩), (2 + 1, ⟨16, .d8 (List.replicate 16 0), true, false, false⟩)], 2 + 2⟩

theorem counted1 (B : Nat) (c : List (BitVec 8)) (n : Nat) (hc : c.length = 16) (hn : n ≤ 1099511627776) : FnE P0 B 2 47 [.one (.ag [.d8 c]), .one (.s (.i n))] [] 2 ⟨.one (.ag [.d8 (lit 0 16 (cs c n 8).2)]), [], 2, .eff, []⟩ := by
  refine FnE.tri (cx := cxb false) (sz := 23) (fn := Try.f47) (c := bodyOf Try.f47) T0ok (by kernel_rfl) (by kernel_rfl) (by kernel_rfl) (by kernel_rfl) (by kernel_rfl) (by kernel_rfl) (Nat.le_refl _) ?_
  refine Tri.step (cx := cxb false) mix T0ok (HQok B false) 2 0 noOrc [1, 2, 4, 5] [2, 2 + 1] (2 + 2) (cntSt c n 0) [lensEq [.d8 (List.replicate 16 0)] [.d8 c]] (by kernel_rfl) (obCons ⟨by simpa [SegD.len] using hc, trivial⟩ obNil) (by kernel_rfl) ?_
  refine Tri.loop (id := 0) (ι := { j : Nat // j ≤ 8 }) rfl (fun j => cntSt c n j.1) (fun j => 8 - j.1) ⟨0, Nat.zero_le _⟩ rfl (fun j => Nat.le_add_right _ _) (R1 := fun s => s = cntSt c n 8) (fun ⟨j, hj⟩ => ?_) (fun s' hs => ?_)
  · by_cases hlt : j < 8
    · have hl := cs_length c n j
      have hle := cs_le c n j
      refine Tri.fin (cx := cxb false) mix T0ok (HQok B false) 0 (orcL [(7, true)]) [1, 2, 4, 5] [2, 2 + 1] (2 + 2) .n (cntSt c n (j + 1)) [decide (((8 + j : Nat) : Int) < 16) = true, 0 ≤ ((8 + j : Nat) : Int) ∧ ((8 + j : Nat) : Int) < (16 : Nat),
        Int.toNat (8 + j : Nat) + 0 < (cs c n j).2.length, rng (((cs c n j).1 : Int) + (((cs c n j).2.getD (Int.toNat (8 + j : Nat) + 0) 0).toNat : Int)), 0 ≤ ((8 + j : Nat) : Int) ∧ ((8 + j : Nat) : Int) < (16 : Nat), Int.toNat (8 + j : Nat) + 0 + 1 ≤ 16, (8#64).toNat ≤ 63, rng (((8 + j : Nat) : Int) + 1)] (by kernel_rfl)
        (obCons (by simp; omega) <| obCons (by omega) <| obCons (by omega) <| obCons (rng_add8 _ (by omega) (by omega)) <| obCons (by omega) <| obCons (by omega) <| obCons (by decide) <| obCons (by unfold rng; omega) obNil) (by kernel_rfl) ⟨⟨j + 1, hlt⟩, by show 8 - (j + 1) < 8 - j; omega, rfl⟩
    · obtain rfl : j = 8 := by omega
      exact Tri.fin (cx := cxb false) mix T0ok (HQok B false) 0 noOrc [1, 2, 4, 5] [2, 2 + 1] (2 + 2) (.x 0) (cntSt c n 8) [] (by kernel_rfl) obNil (by kernel_rfl) (by simp)
  · have e : cntSt c n 8 = ⟨[(1, .one (.s (.i (cs c n 8).1))), (2, .one (.s (.p 2 0))), (4, .one (.s (.p (2 + 1) 0))), (5, .one (.s (.i (8 + 8 : Nat))))], [(2, ⟨16, .d8 (lit 0 16 (cs c n 8).2), true, false, false⟩), (2 + 1, ⟨16, .d8 (List.replicate 16 0), true, false, false⟩)], 2 + 2⟩ := by
      unfold cntSt; rw [lit_eq ((cs_length c n 8).trans hc)]
    rw [hs, e]
    exact Tri.ret (cx := cxb false) mix T0ok (HQok B false) 0 noOrc [4] [2 + 1] (2 + 2) ⟨[(4, .one (.s (.p (2 + 1) 0)))], [(2 + 1, ⟨16, .d8 (lit 0 16 (cs c n 8).2), true, false, false⟩)], 2 + 2⟩ [] .r (by kernel_rfl) obNil (by kernel_rfl) rfl [] [] (by kernel_rfl) obNil

def countedCt : Ct := ⟨[.val, .val], [], fun vs ds gs => match vs, ds, gs with
  | [.one (.ag [.d8 c]), .one (.s (.i (.ofNat n)))], [], [] => bif Nat.beq c.length 16 then some ⟨.one (.ag [.d8 (lit 0 16 (cnt c n))]), [], [], [n ≤ 1099511627776]⟩ else none
  | _, _, _ => none⟩

theorem counted_ok (B : Nat) : countedCt.Ok P0 B 2 47 := by
  intro vs ds gs out h hpre hn
  unfold countedCt at h
  dsimp only at h
  split at h <;> first | (cases h; done) | skip
  rename_i c n
  cases hb : (Nat.beq c.length 16) with
  | false => rw [hb] at h; cases h
  | true =>
    rw [hb, cond_true] at h
    cases h
    have hc := Nat.eq_of_beq_eq_true hb
    have hle : n ≤ 1099511627776 := hpre _ (by simp)
    have := counted1 B c n hc hle
    rw [cs_cnt c n hc] at this
    exact this

/-- block n of a key's stream from a counter on -/
def sigma : List (BitVec 8) := [101, 120, 112, 97, 110, 100, 32, 51, 50, 45, 98, 121, 116, 101, 32, 107]
def blk (ctr key : List (BitVec 8)) (n : Nat) : List (BitVec 8) := lit 0 64 (coreS (mxW (lit 0 16 (cnt ctr n)) key sigma) 10)

noncomputable def HB (c : Bool) : Hook := hookC 47 (hookOf (cxb c) countedCt) (hookC 40 (hookOf (cxb c) matrixCt) (hookC 44 (hookOf (cxb c) core10Ct) (H0 c)))
theorem HBok (B : Nat) (c : Bool) : HookOk P0 B 2 (HB c) := .cons (.ct (cx := cxb c) (counted_ok B)) (.cons (.ct (cx := cxb c) (matrix_ok B)) (.cons (.ct (cx := cxb c) (core10_ok B)) (H0ok B c)))

def sst (inp ctr key : List (BitVec 8)) (j : Nat) (b o : List (BitVec 8)) : St :=
  ⟨[(4, .one (.s (.p (2 + 1) 0))), (5, .one (.s (.p (2 + 2) 0))), (7, .one (.s (.osl (2 + 3) j))), (8, .one (.s (.p (2 + 4) 0))), (13, .one (.s (.osl 2 inp.length))), (14, .one (.s (.i inp.length))), (15, .one (.s (.i j)))],
   [(2, ⟨inp.length, .d8 inp, false, false, false⟩), (2 + 1, ⟨16, .d8 (lit 0 16 ctr), true, false, false⟩), (2 + 2, ⟨32, .d8 (lit 0 32 key), true, false, false⟩), (2 + 3, ⟨0, .d8 o, true, true, false⟩), (2 + 4, ⟨64, .d8 b, true, false, false⟩)], 2 + 5⟩
end Go.Sx
