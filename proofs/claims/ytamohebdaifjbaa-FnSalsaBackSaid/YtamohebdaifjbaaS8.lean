/- The spec's matrix and core, by value; salsa.core. Conditions: none. -/
import Derived.Test.YtamohebdaifjbaaS6
set_option maxRecDepth 1000000
set_option linter.unusedVariables false
namespace Go.Sx
open Go.Proofs

/-- n cells from o on -/
def pick (l : List (BitVec 8)) (o n : Nat) : List (BitVec 8) := (List.range n).map fun i => l.getD (o + i) 0
theorem pick_length (l : List (BitVec 8)) (o n : Nat) : (pick l o n).length = n := by simp [pick]
def mx (inp key c : List (BitVec 8)) : List (BitVec 8) := pick c 0 4 ++ (pick key 0 16 ++ (pick c 4 4 ++ (pick inp 0 16 ++ (pick c 8 4 ++ (pick key 16 16 ++ pick c 12 4)))))
theorem ws_mx (inp key c : List (BitVec 8)) : ws64 (lit 0 64 (mx inp key c)) = mxW inp key c := rfl

def matrixCt : Ct := ⟨[.val, .val, .val], [], fun vs ds gs => match vs, ds, gs with
  | [.one (.ag [.d8 key]), .one (.ag [.d8 inp]), .one (.s (.str c))], [], [] => bif Nat.beq key.length 32 && (Nat.beq inp.length 16 && Nat.beq c.length 16) then some ⟨.one (.ag [.d8 (lit 0 64 (mx inp key c))]), [], [], []⟩ else none
  | _, _, _ => none⟩

theorem matrix1 (B : Nat) (inp key c : List (BitVec 8)) : FnE P0 B 0 19 [.one (.ag [.d8 (lit 0 32 key)]), .one (.ag [.d8 (lit 0 16 inp)]), .one (.s (.str (lit 0 16 c)))] [] 0 ⟨.one (.ag [.d8 (lit 0 64 (mx inp key c))]), [], 0, .eff, []⟩ := by
  refine FnE.tri (cx := cxb true) (sz := 35) (fn := Try.f19) (c := bodyOf Try.f19) T0ok (by kernel_rfl) (by kernel_rfl) (by kernel_rfl) (by kernel_rfl) (by kernel_rfl) (by kernel_rfl) (Nat.le_refl _) ?_
  exact Tri.ret (cx := cxb true) mix T0ok (HQok B true) 0 noOrc [6] [0 + 2] (0 + 4) ⟨[(6, .one (.s (.p (0 + 2) 0)))], [(0 + 2, ⟨64, .d8 (lit 0 64 (mx inp key c)), true, false, false⟩)], 0 + 4⟩ [] .r (by kernel_rfl) obNil (by kernel_rfl) rfl [] [] (by kernel_rfl) obNil

theorem matrix_ok (B : Nat) : matrixCt.Ok P0 B 0 19 := by
  intro vs ds gs out h hpre hn
  unfold matrixCt at h
  dsimp only at h
  split at h <;> first | (cases h; done) | skip
  rename_i key inp c
  cases hb : (Nat.beq key.length 32 && (Nat.beq inp.length 16 && Nat.beq c.length 16)) with
  | false => rw [hb] at h; cases h
  | true =>
    rw [hb, cond_true] at h
    cases h
    simp only [Bool.and_eq_true] at hb
    obtain ⟨h1, h2, h3⟩ := hb
    have := matrix1 B inp key c
    rw [lit_eq (Nat.eq_of_beq_eq_true h1), lit_eq (Nat.eq_of_beq_eq_true h2), lit_eq (Nat.eq_of_beq_eq_true h3)] at this
    exact this

def coreCt : Ct := ⟨[.val, .val], [], fun vs ds gs => match vs, ds, gs with
  | [.one (.ag [.d8 b]), .one (.s (.i (.ofNat n)))], [], [] => bif Nat.beq b.length 64 && Nat.ble n 1000 then some ⟨.one (.ag [.d8 (lit 0 64 (coreS (ws64 b) n))]), [], [], []⟩ else none
  | _, _, _ => none⟩

noncomputable def HR1 (c : Bool) : Hook := hookC 25 (hookOf (cxb c) roundsCt) (HQ c)
theorem HR1ok (B : Nat) (c : Bool) : HookOk P0 B 0 (HR1 c) := .cons (.ct (cx := cxb c) (rounds_ok B)) (HQok B c)

/-- with a literal number of rounds -/
theorem core1 (B : Nat) (b : List (BitVec 8)) : FnE P0 B 0 16 [.one (.ag [.d8 (lit 0 64 b)]), .one (.s (.i 10))] [] 0 ⟨.one (.ag [.d8 (lit 0 64 (coreS (ws64 b) 10))]), [], 0, .eff, []⟩ := by
  refine FnE.tri (cx := cxb true) (sz := 46) (fn := Try.f16) (c := bodyOf Try.f16) T0ok (by kernel_rfl) (by kernel_rfl) (by kernel_rfl) (by kernel_rfl) (by kernel_rfl) (by kernel_rfl) (Nat.le_refl _) ?_
  exact Tri.ret (cx := cxb true) mix T0ok (HR1ok B true) 66 noOrc [4] [0 + 1] (0 + 5) ⟨[(4, .one (.s (.p (0 + 1) 0)))], [(0 + 1, ⟨64, .d8 (lit 0 64 (coreS (ws64 b) 10)), true, false, false⟩)], 0 + 5⟩ [] .r (by kernel_rfl) obNil (by kernel_rfl) rfl [] [] (by kernel_rfl) obNil

def core10Ct : Ct := ⟨[.val, .val], [], fun vs ds gs => match vs, ds, gs with
  | [.one (.ag [.d8 b]), .one (.s (.i (.ofNat n)))], [], [] => bif Nat.beq b.length 64 && Nat.beq n 10 then some ⟨.one (.ag [.d8 (lit 0 64 (coreS (ws64 b) 10))]), [], [], []⟩ else none
  | _, _, _ => none⟩

theorem core10_ok (B : Nat) : core10Ct.Ok P0 B 0 16 := by
  intro vs ds gs out h hpre hn
  unfold core10Ct at h
  dsimp only at h
  split at h <;> first | (cases h; done) | skip
  rename_i b n
  cases hb : (Nat.beq b.length 64 && Nat.beq n 10) with
  | false => rw [hb] at h; cases h
  | true =>
    rw [hb, cond_true] at h
    cases h
    simp only [Bool.and_eq_true] at hb
    obtain ⟨h1, h2⟩ := hb
    have := core1 B b
    rw [lit_eq (Nat.eq_of_beq_eq_true h1)] at this
    have h2 := Nat.eq_of_beq_eq_true h2
    subst h2
    exact this

/-! ### salsa.core -/

def scCt : Ct := ⟨[.ptr 64 true, .ptr 16 false, .ptr 32 false, .ptr 16 false], [], fun vs ds gs => match vs, ds, gs with
  | [], [.d8 out, .d8 inp, .d8 key, .d8 c], [] => bif Nat.beq out.length 64 && (Nat.beq inp.length 16 && (Nat.beq key.length 32 && Nat.beq c.length 16)) then some ⟨.tup [], [.d8 (lit 0 64 (coreI (mxW inp key c) 10)), .d8 inp, .d8 key, .d8 c], [], []⟩ else none
  | _, _, _ => none⟩

def scM (out inp key c : List (BitVec 8)) : Mem := [(0, ⟨64, .d8 (lit 0 64 out), true, false, false⟩), (0 + 1, ⟨16, .d8 (lit 0 16 inp), false, false, false⟩), (0 + 2, ⟨32, .d8 (lit 0 32 key), false, false, false⟩), (0 + 3, ⟨16, .d8 (lit 0 16 c), false, false, false⟩)]
def scSt (out inp key c : List (BitVec 8)) (j : Nat) : St := ⟨wT 24 (drs (mxW inp key c) j) ++ (wT 8 (mxW inp key c) ++ [(40, .one (.s (.i (2 * j : Nat)))), (0, .one (.s (.p 0 0)))]), scM out inp key c, 0 + 4⟩
def scT : List Nat := [24, 25, 26, 27, 28, 29, 30, 31, 32, 33, 34, 35, 36, 37, 38, 39, 8, 9, 10, 11, 12, 13, 14, 15, 16, 17, 18, 19, 20, 21, 22, 23, 40, 0]

theorem sc1 (B : Nat) (out inp key c : List (BitVec 8)) : FnE P0 B 0 30 [.one (.s (.p 0 0)), .one (.s (.p (0 + 1) 0)), .one (.s (.p (0 + 2) 0)), .one (.s (.p (0 + 3) 0))] (scM out inp key c) (0 + 4) ⟨.tup [], scM (coreI (mxW inp key c) 10) inp key c, 0 + 4, .eff, []⟩ := by
  refine FnE.tri (cx := cxb true) (sz := 1118) (fn := Try.f30) (c := bodyOf Try.f30) T0ok (by kernel_rfl) (by kernel_rfl) (by kernel_rfl) (by kernel_rfl) (by kernel_rfl) (by kernel_rfl) (Nat.le_refl _) ?_
  refine Tri.step mix T0ok (HQok B true) 19 0 noOrc scT [0, 0 + 1, 0 + 2, 0 + 3] (0 + 4) (scSt out inp key c 0) [] (by kernel_rfl) obNil (by kernel_rfl) ?_
  refine Tri.loop (id := 0) (ι := { j : Nat // j ≤ 10 }) rfl (fun j => scSt out inp key c j.1) (fun j => 10 - j.1) ⟨0, Nat.zero_le _⟩ rfl (fun j => Nat.le_refl _) (R1 := fun s => s = scSt out inp key c 10) (fun ⟨j, hj⟩ => ?_) (fun s' hs => ?_)
  · by_cases hlt : j < 10
    · refine Tri.chg (cx := cxb false) rfl ?_
      exact Tri.fin (cx := cxb false) mix T0ok (HQok B false) 0 (orcL [(475, true)]) scT [0, 0 + 1, 0 + 2, 0 + 3] (0 + 4) .n (scSt out inp key c (j + 1)) [decide (((2 * j : Nat) : Int) < 20) = true, rng (((2 * j : Nat) : Int) + 2)] (by kernel_rfl) (obCons (by simp; omega) <| obCons (by unfold rng; omega) obNil) (by kernel_rfl) ⟨⟨j + 1, hlt⟩, by show 10 - (j + 1) < 10 - j; omega, rfl⟩
    · obtain rfl : j = 10 := by omega
      exact Tri.fin (cx := cxb true) mix T0ok (HQok B true) 0 noOrc scT [0, 0 + 1, 0 + 2, 0 + 3] (0 + 4) (.x 0) (scSt out inp key c 10) [] (by kernel_rfl) obNil (by kernel_rfl) (by simp)
  · subst hs
    exact Tri.ret (cx := cxb true) mix T0ok (HQok B true) 0 noOrc [] [0, 0 + 1, 0 + 2, 0 + 3] (0 + 4) ⟨[], scM (coreI (mxW inp key c) 10) inp key c, 0 + 4⟩ [] .n (by kernel_rfl) obNil (by kernel_rfl) rfl [0, 0 + 1, 0 + 2, 0 + 3] [] (by kernel_rfl) obNil

theorem sc_ok (B : Nat) : scCt.Ok P0 B 0 30 := by
  intro vs ds gs out h hpre hn
  unfold scCt at h
  dsimp only at h
  split at h <;> first | (cases h; done) | skip
  rename_i o inp key c
  cases hb : (Nat.beq o.length 64 && (Nat.beq inp.length 16 && (Nat.beq key.length 32 && Nat.beq c.length 16))) with
  | false => rw [hb] at h; cases h
  | true =>
    rw [hb, cond_true] at h
    cases h
    simp only [Bool.and_eq_true] at hb
    obtain ⟨h1, h2, h3, h4⟩ := hb
    have h1 := Nat.eq_of_beq_eq_true h1
    have h2 := Nat.eq_of_beq_eq_true h2
    have h3 := Nat.eq_of_beq_eq_true h3
    have h4 := Nat.eq_of_beq_eq_true h4
    have := sc1 B o inp key c
    unfold scM at this
    rw [lit_eq h1, lit_eq h2, lit_eq h3, lit_eq h4] at this
    simp only [scCt, canArgs, segsOf, globs, addM, List.length_cons, List.length_nil, SegD.len, h1, h2, h3, h4, lit_length, Nat.add_zero]
    exact this

end Go.Sx
