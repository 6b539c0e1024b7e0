/- salsa.Core208 and salsa.core. FnCore208: the walk. Conditions: none. -/
import Derived.Test.YtamohebdaifjbaaS1
set_option maxRecDepth 1000000
set_option linter.unusedVariables false
namespace Go.Sx
open Go.Proofs

def addW (x y : List (BitVec 32)) : List (BitVec 32) :=
  [w_ x 0 + w_ y 0, w_ x 1 + w_ y 1, w_ x 2 + w_ y 2, w_ x 3 + w_ y 3, w_ x 4 + w_ y 4, w_ x 5 + w_ y 5, w_ x 6 + w_ y 6, w_ x 7 + w_ y 7,
    w_ x 8 + w_ y 8, w_ x 9 + w_ y 9, w_ x 10 + w_ y 10, w_ x 11 + w_ y 11, w_ x 12 + w_ y 12, w_ x 13 + w_ y 13, w_ x 14 + w_ y 14, w_ x 15 + w_ y 15]
def wBytes (b : BitVec 32 → List (BitVec 8)) (z : List (BitVec 32)) : List (BitVec 8) :=
  b (w_ z 0) ++ (b (w_ z 1) ++ (b (w_ z 2) ++ (b (w_ z 3) ++ (b (w_ z 4) ++ (b (w_ z 5) ++ (b (w_ z 6) ++ (b (w_ z 7) ++
    (b (w_ z 8) ++ (b (w_ z 9) ++ (b (w_ z 10) ++ (b (w_ z 11) ++ (b (w_ z 12) ++ (b (w_ z 13) ++ (b (w_ z 14) ++ b (w_ z 15)))))))))))))))
/-- the sixteen words of 64 bytes -/
def ws64 (l : List (BitVec 8)) : List (BitVec 32) :=
  [le32 l 0, le32 l 4, le32 l 8, le32 l 12, le32 l 16, le32 l 20, le32 l 24, le32 l 28, le32 l 32, le32 l 36, le32 l 40, le32 l 44, le32 l 48, le32 l 52, le32 l 56, le32 l 60]
/-- the core of sixteen words, as bytes -/
def coreI (w : List (BitVec 32)) (n : Nat) : List (BitVec 8) := wBytes b4 (addW (drs w n) w)
def coreS (w : List (BitVec 32)) (n : Nat) : List (BitVec 8) := wBytes b4S (addW w (drs w n))
theorem coreS_eq (w : List (BitVec 32)) (n : Nat) : coreS w n = coreI w n := by
  have : addW w (drs w n) = addW (drs w n) w := by unfold addW; simp only [BitVec.add_comm]
  unfold coreS coreI
  rw [this]
  simp [wBytes, b4S_eq]

def c208Ct : Ct := ⟨[.ptr 64 true, .ptr 64 false], [], fun vs ds gs => match vs, ds, gs with
  | [], [.d8 out, .d8 inp], [] => bif Nat.beq out.length 64 && Nat.beq inp.length 64 then some ⟨.tup [], [.d8 (lit 0 64 (coreI (ws64 inp) 4)), .d8 inp], [], []⟩ else none
  | _, _, _ => none⟩

def c208M (out inp : List (BitVec 8)) : Mem := [(0, ⟨64, .d8 (lit 0 64 out), true, false, false⟩), (0 + 1, ⟨64, .d8 (lit 0 64 inp), false, false, false⟩)]
def c208St (out inp : List (BitVec 8)) (j : Nat) : St := ⟨wT 20 (drs (ws64 inp) j) ++ (wT 4 (ws64 inp) ++ [(36, .one (.s (.i (2 * j : Nat)))), (0, .one (.s (.p 0 0)))]), c208M out inp, 0 + 2⟩
def c208T : List Nat := [20, 21, 22, 23, 24, 25, 26, 27, 28, 29, 30, 31, 32, 33, 34, 35, 4, 5, 6, 7, 8, 9, 10, 11, 12, 13, 14, 15, 16, 17, 18, 19, 36, 0]

theorem c208_1 (B : Nat) (out inp : List (BitVec 8)) : FnE P0 B 0 15 [.one (.s (.p 0 0)), .one (.s (.p (0 + 1) 0))] (c208M out inp) (0 + 2) ⟨.tup [], c208M (coreI (ws64 inp) 4) inp, 0 + 2, .eff, []⟩ := by
  refine FnE.tri (cx := cxb true) (sz := 1114) (fn := Try.f15) (c := bodyOf Try.f15) T0ok (by kernel_rfl) (by kernel_rfl) (by kernel_rfl) (by kernel_rfl) (by kernel_rfl) (by kernel_rfl) (Nat.le_refl _) ?_
  refine Tri.step mix T0ok (HQok B true) 19 0 noOrc c208T [0, 0 + 1] (0 + 2) (c208St out inp 0) [] (by kernel_rfl) obNil (by kernel_rfl) ?_
  refine Tri.loop (id := 0) (ι := { j : Nat // j ≤ 4 }) rfl (fun j => c208St out inp j.1) (fun j => 4 - j.1) ⟨0, Nat.zero_le _⟩ rfl (fun j => Nat.le_refl _) (R1 := fun s => s = c208St out inp 4) (fun ⟨j, hj⟩ => ?_) (fun s' hs => ?_)
  · by_cases hlt : j < 4
    · refine Tri.chg (cx := cxb false) rfl ?_
      exact Tri.fin (cx := cxb false) mix T0ok (HQok B false) 0 (orcL [(471, true)]) c208T [0, 0 + 1] (0 + 2) .n (c208St out inp (j + 1)) [decide (((2 * j : Nat) : Int) < 8) = true, rng (((2 * j : Nat) : Int) + 2)] (by kernel_rfl) (obCons (by simp; omega) <| obCons (by unfold rng; omega) obNil) (by kernel_rfl) ⟨⟨j + 1, hlt⟩, by show 4 - (j + 1) < 4 - j; omega, rfl⟩
    · obtain rfl : j = 4 := by omega
      exact Tri.fin (cx := cxb true) mix T0ok (HQok B true) 0 noOrc c208T [0, 0 + 1] (0 + 2) (.x 0) (c208St out inp 4) [] (by kernel_rfl) obNil (by kernel_rfl) (by simp)
  · subst hs
    exact Tri.ret (cx := cxb true) mix T0ok (HQok B true) 0 noOrc [] [0, 0 + 1] (0 + 2) ⟨[], c208M (coreI (ws64 inp) 4) inp, 0 + 2⟩ [] .n (by kernel_rfl) obNil (by kernel_rfl) rfl [0, 0 + 1] [] (by kernel_rfl) obNil

theorem c208_ok (B : Nat) : c208Ct.Ok P0 B 0 15 := by
  intro vs ds gs out h hpre hn
  unfold c208Ct at h
  dsimp only at h
  split at h <;> first | (cases h; done) | skip
  rename_i o inp
  cases hb : (Nat.beq o.length 64 && Nat.beq inp.length 64) with
  | false => rw [hb] at h; cases h
  | true =>
    rw [hb, cond_true] at h
    cases h
    simp only [Bool.and_eq_true] at hb
    obtain ⟨h1, h2⟩ := hb
    have h1 := Nat.eq_of_beq_eq_true h1
    have h2 := Nat.eq_of_beq_eq_true h2
    have := c208_1 B o inp
    unfold c208M at this
    rw [lit_eq h1, lit_eq h2] at this
    simp only [c208Ct, canArgs, segsOf, globs, addM, List.length_cons, List.length_nil, SegD.len, h1, h2, lit_length, Nat.add_zero]
    exact this

end Go.Sx

set_option maxRecDepth 1000000
set_option linter.unusedVariables false
namespace Go.Sx
open Go.Proofs

noncomputable def HC (c : Bool) : Hook := hookC 25 (hookOf (cxb c) roundsCt) (hookC 15 (hookOf (cxb c) c208Ct) (HQ c))
theorem HCok (B : Nat) (c : Bool) : HookOk P0 B 0 (HC c) := .cons (.ct (cx := cxb c) (rounds_ok B)) (.cons (.ct (cx := cxb c) (c208_ok B)) (HQok B c))

noncomputable def in16 : In := ⟨Try.f16, bodyOf Try.f16, 66, .read, noOrc⟩
theorem io16 : InOk P0 16 in16 := ⟨by kernel_rfl, by kernel_rfl, by kernel_rfl⟩
noncomputable def HD0 (c : Bool) : Hook := hookC 16 (inl (cxb c) (HC c) in16) (HC c)
theorem HD0ok (B : Nat) (c : Bool) : HookOk P0 B 0 (HD0 c) := HookOk.cons (HkOk.inl (cx := cxb c) mix T0ok (HCok B c) io16) (HCok B c)
noncomputable def in8 : In := ⟨Try.f8, bodyOf Try.f8, 0, .read, noOrc⟩
theorem io8 : InOk P0 8 in8 := ⟨by kernel_rfl, by kernel_rfl, by kernel_rfl⟩
noncomputable def HD1 (c : Bool) : Hook := hookC 8 (inl (cxb c) (HD0 c) in8) (HD0 c)
theorem HD1ok (B : Nat) (c : Bool) : HookOk P0 B 0 (HD1 c) := HookOk.cons (HkOk.inl (cx := cxb c) mix T0ok (HD0ok B c) io8) (HD0ok B c)
noncomputable def in7 : In := ⟨Try.f7, bodyOf Try.f7, 0, .read, noOrc⟩
theorem io7 : InOk P0 7 in7 := ⟨by kernel_rfl, by kernel_rfl, by kernel_rfl⟩
noncomputable def HD (c : Bool) : Hook := hookC 7 (inl (cxb c) (HD1 c) in7) (HD1 c)
theorem HDok (B : Nat) (c : Bool) : HookOk P0 B 0 (HD c) := HookOk.cons (HkOk.inl (cx := cxb c) mix T0ok (HD1ok B c) io7) (HD1ok B c)
def one64 : List (BitVec 8) := 1 :: List.replicate 63 0

theorem lawC1 (B : Nat) (x : List (BitVec 8)) (h : coreI (ws64 x) 4 = coreS (ws64 x) 4) : FnE P0 B 0 3 [.one (.ag [.d8 (lit 0 64 x)])] [] 0
    ⟨.one (.s (.b (bif decide (lit 0 64 (coreI (ws64 x) 4) = lit 0 64 (coreS (ws64 x) 4)) then !decide (lit 0 64 (coreI (ws64 one64) 4) = List.replicate 64 0) else false))), [], 0, .eff, []⟩ := by
  refine FnE.tri (cx := cxb true) (sz := 14) (fn := Try.f3) (c := bodyOf Try.f3) T0ok (by kernel_rfl) (by kernel_rfl) (by kernel_rfl) (by kernel_rfl) (by kernel_rfl) (by kernel_rfl) (Nat.le_refl _) ?_
  exact Tri.ret (cx := cxb true) mix T0ok (HDok B true) 0 (orcL [(8, true)]) [2] [] (0 + 3) ⟨[(2, .one (.s (.b (bif decide (lit 0 64 (coreI (ws64 x) 4) = lit 0 64 (coreS (ws64 x) 4)) then !decide (lit 0 64 (coreI (ws64 one64) 4) = List.replicate 64 0) else false))))], [], 0 + 3⟩
    [decide (lit 0 64 (coreI (ws64 x) 4) = lit 0 64 (coreS (ws64 x) 4)) = true, decide (lit 0 64 (coreI (ws64 x) 4) = lit 0 64 (coreS (ws64 x) 4)) = true, decide (lit 0 64 (coreI (ws64 x) 4) = lit 0 64 (coreS (ws64 x) 4)) = true, decide (lit 0 64 (coreI (ws64 x) 4) = lit 0 64 (coreS (ws64 x) 4)) = true] .r (by kernel_rfl)
    (obCons (by rw [h]; simp) <| obCons (by rw [h]; simp) <| obCons (by rw [h]; simp) <| obCons (by rw [h]; simp) obNil) (by kernel_rfl) rfl [] [] (by kernel_rfl) obNil

theorem one64_ne : decide (lit 0 64 (coreI (ws64 one64) 4) = List.replicate 64 0) = false := by decide +kernel

theorem lawC (B : Nat) {x : List (BitVec 8)} (h1 : x.length = 64) : FnE P0 B 0 3 [.one (.ag [.d8 x])] [] 0 ⟨.one (.s (.b true)), [], 0, .eff, []⟩ := by
  have := lawC1 B x (coreS_eq _ _).symm
  rw [lit_eq h1, coreS_eq, one64_ne] at this
  simpa using this
end Go.Sx
