/- The spec's rounds: so many double rounds. Conditions: none. -/
import Derived.Test.YtioeoacjnbckhaaS1
set_option maxRecDepth 1000000
set_option linter.unusedVariables false
namespace Go.Sx
open Go.Proofs

def roundsCt : Ct := ⟨[.val, .val], [], fun vs ds gs => match vs, ds, gs with
  | [.one (.ag [.d32 x]), .one (.s (.i (.ofNat n)))], [], [] => bif Nat.beq x.length 16 && Nat.ble n 1000 then some ⟨.one (.ag [.d32 (lit 0 16 (drs x n))]), [], [], []⟩ else none
  | _, _, _ => none⟩

def roundsSt (x : List (BitVec 32)) (n j : Nat) : St := ⟨[(1, .one (.s (.i n))), (2, .one (.s (.p 2 0))), (4, .one (.s (.p (2 + 1) 0))), (5, .one (.s (.i j)))], [(2, ⟨16, .d32 (lit 0 16 (drs x j)), true, false, false⟩), (2 + 1, ⟨16, .d32 (List.replicate 16 0), true, false, false⟩)], 2 + 2⟩

theorem rounds1 (B : Nat) (x : List (BitVec 32)) (n : Nat) (hn : n ≤ 1000) : FnE P0 B 2 42 [.one (.ag [.d32 (lit 0 16 x)]), .one (.s (.i n))] [] 2 ⟨.one (.ag [.d32 (lit 0 16 (drs x n))]), [], 2, .eff, []⟩ := by
  refine FnE.tri (cx := cxb true) (sz := 59) (fn := Try.f42) (c := bodyOf Try.f42) T0ok (by kernel_rfl) (by kernel_rfl) (by kernel_rfl) (by kernel_rfl) (by kernel_rfl) (by kernel_rfl) (Nat.le_refl _) ?_
  refine Tri.step mix T0ok (HQok B true) 2 0 noOrc [1, 2, 4, 5] [2, 2 + 1] (2 + 2) (roundsSt x n 0) [] (by kernel_rfl) obNil (by kernel_rfl) ?_
  refine Tri.loop (id := 0) (ι := { j : Nat // j ≤ n }) rfl (fun j => roundsSt x n j.1) (fun j => n - j.1) ⟨0, Nat.zero_le _⟩ rfl (fun j => Nat.le_add_right _ _) (R1 := fun s => s = roundsSt x n n) (fun ⟨j, hj⟩ => ?_) (fun s' hs => ?_)
  · by_cases hlt : j < n
    · refine Tri.step (cx := cxb true) mix T0ok (HQok B true) 3 5 (orcL [(10, true)]) [1, 2, 4, 5] [2, 2 + 1] (2 + 2) ⟨[(1, .one (.s (.i n))), (2, .one (.s (.p 2 0))), (4, .one (.s (.p (2 + 1) 0))), (5, .one (.s (.i j)))], [(2, ⟨16, .d32 (lit 0 16 (drs x (j + 1))), true, false, false⟩), (2 + 1, ⟨16, .d32 (List.replicate 16 0), true, false, false⟩)], 2 + 2⟩ [decide ((j : Int) < (n : Int)) = true] (by kernel_rfl) (obCons (by simp; omega) obNil) (by kernel_rfl) ?_
      refine Tri.chg (cx := cxb false) rfl ?_
      exact Tri.fin (cx := cxb false) mix T0ok (HQok B false) 0 noOrc [1, 2, 4, 5] [2, 2 + 1] (2 + 2) .n (roundsSt x n (j + 1)) [rng ((j : Int) + 1)] (by kernel_rfl) (obCons (by unfold rng; omega) obNil) (by kernel_rfl) ⟨⟨j + 1, hlt⟩, by show n - (j + 1) < n - j; omega, rfl⟩
    · obtain rfl : j = n := by omega
      exact Tri.fin (cx := cxb true) mix T0ok (HQok B true) 0 (orcL [(10, false)]) [1, 2, 4, 5] [2, 2 + 1] (2 + 2) (.x 0) (roundsSt x j j) [decide ((j : Int) < (j : Int)) = false] (by kernel_rfl) (obCons (by simp) obNil) (by kernel_rfl) (by simp)
  · subst hs
    exact Tri.ret (cx := cxb true) mix T0ok (HQok B true) 0 noOrc [4] [2 + 1] (2 + 2) ⟨[(4, .one (.s (.p (2 + 1) 0)))], [(2 + 1, ⟨16, .d32 (lit 0 16 (drs x n)), true, false, false⟩)], 2 + 2⟩ [] .r (by kernel_rfl) obNil (by kernel_rfl) rfl [] [] (by kernel_rfl) obNil

end Go.Sx
