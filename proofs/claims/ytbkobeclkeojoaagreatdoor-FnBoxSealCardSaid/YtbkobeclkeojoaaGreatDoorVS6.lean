/- The core of sixteen words. The spec's matrix and core, by value; salsa.core. Conditions: none. -/
import Derived.Test.YtbkobeclkeojoaaGreatDoorY0
set_option maxRecDepth 1000000
set_option linter.unusedVariables false
namespace Go.Sx
open Go.Proofs
def addW (x y : List (BitVec 32)) : List (BitVec 32) :=
  [w_ x 0 + w_ y 0, w_ x 1 + w_ y 1, w_ x 2 + w_ y 2, w_ x 3 + w_ y 3, w_ x 4 + w_ y 4, w_ x 5 + w_ y 5, w_ x 6 + w_ y 6, w_ x 7 + w_ y 7,
    w_ x 8 + w_ y 8, w_ x 9 + w_ y 9, w_ x 10 + w_ y 10, w_ x 11 + w_ y 11, w_ x 12 + w_ y 12, w_ x 13 + w_ y 13, w_ x 14 + w_ y 14, w_ x 15 + w_ y 15]
def wBytes (b : BitVec 32 → List (BitVec 8)) (z : List (BitVec 32)) : List (BitVec 8) :=
  b (w_ z 0) ++ (b (w_ z 1) ++ (b (w_ z 2) ++ (b (w_ z 3) ++ (b (w_ z 4) ++ (b (w_ z 5) ++ (b (w_ z 6) ++ (b (w_ z 7) ++
    (b (w_ z 8) ++ (b (w_ z 9) ++ (b (w_ z 10) ++ (b (w_ z 11) ++ (b (w_ z 12) ++ (b (w_ z 13) ++ (b (w_ z 14) ++ b (w_ z 15)))))))))))))))
/-- the sixteen words of 64 bytes -/
def ws64 (l : List (BitVec 8)) : List (BitVec 32) :=
  [le32 l 0, le32 l 4, le32 l 8, le32 l 12, le32 l 16, le32 l 20, le32 l 24, le32 l 28, le32 l 32, le32 l 36, le32 l 40, le32 l 44, le32 l 48, le32 l 52, le32 l 56, le32 l 60]
/-- the core of sixteen words, as bytes -/
def coreI (w : List (BitVec 32)) (n : Nat) : List (BitVec 8) := wBytes b4 (addW (drs w n) w)
def coreS (w : List (BitVec 32)) (n : Nat) : List (BitVec 8) := wBytes b4S (addW w (drs w n))
theorem coreS_eq (w : List (BitVec 32)) (n : Nat) : coreS w n = coreI w n := by
  have : addW w (drs w n) = addW (drs w n) w := by unfold addW; simp only [BitVec.add_comm]
  unfold coreS coreI
  rw [this]
  simp [wBytes, b4S_eq]


noncomputable def in20 : In := ⟨Tryz.f20, bodyOf Tryz.f20, 0, .read, noOrc⟩
theorem io20 : InOk P0 20 in20 := ⟨by kernel_rfl, by kernel_rfl, by kernel_rfl⟩
noncomputable def HS0 (c : Bool) : Hook := hookC 20 (inl (cxb c) (HR c) in20) (HR c)
theorem HS0ok (B : Nat) (c : Bool) : HookOk P0 B 2 (HS0 c) := HookOk.cons (HkOk.inl (cx := cxb c) mix T0ok (HRok B c) io20) (HRok B c)
end Go.Sx

set_option maxRecDepth 1000000
set_option linter.unusedVariables false
namespace Go.Sx
open Go.Proofs
/-- n cells from o on -/
def pkB (l : List (BitVec 8)) (o n : Nat) : List (BitVec 8) := (List.range n).map fun i => l.getD (o + i) 0
theorem pkB_length (l : List (BitVec 8)) (o n : Nat) : (pkB l o n).length = n := by simp [pkB]
def mx (inp key c : List (BitVec 8)) : List (BitVec 8) := pkB c 0 4 ++ (pkB key 0 16 ++ (pkB c 4 4 ++ (pkB inp 0 16 ++ (pkB c 8 4 ++ (pkB key 16 16 ++ pkB c 12 4)))))
def matrixCt : Ct := ⟨[.val, .val, .val], [], fun vs ds gs => match vs, ds, gs with
  | [.one (.ag [.d8 key]), .one (.ag [.d8 inp]), .one (.s (.str c))], [], [] => bif Nat.beq key.length 32 && (Nat.beq inp.length 16 && Nat.beq c.length 16) then some ⟨.one (.ag [.d8 (lit 0 64 (mx inp key c))]), [], [], []⟩ else none
  | _, _, _ => none⟩

theorem matrix1 (B : Nat) (inp key c : List (BitVec 8)) : FnE P0 B 2 20 [.one (.ag [.d8 (lit 0 32 key)]), .one (.ag [.d8 (lit 0 16 inp)]), .one (.s (.str (lit 0 16 c)))] [] 2 ⟨.one (.ag [.d8 (lit 0 64 (mx inp key c))]), [], 2, .eff, []⟩ := by
  refine FnE.tri (cx := cxb true) (sz := 35) (fn := Tryz.f20) (c := bodyOf Tryz.f20) T0ok (by kernel_rfl) (by kernel_rfl) (by kernel_rfl) (by kernel_rfl) (by kernel_rfl) (by kernel_rfl) (Nat.le_refl _) ?_
  exact Tri.ret (cx := cxb true) mix T0ok (HQok B true) 0 noOrc [6] [2 + 2] (2 + 4) ⟨[(6, .one (.s (.p (2 + 2) 0)))], [(2 + 2, ⟨64, .d8 (lit 0 64 (mx inp key c)), true, false, false⟩)], 2 + 4⟩ [] .r (by kernel_rfl) obNil (by kernel_rfl) rfl [] [] (by kernel_rfl) obNil

theorem matrix_ok (B : Nat) : matrixCt.Ok P0 B 2 20 := by
  intro vs ds gs out h hpre hn
  unfold matrixCt at h
  dsimp only at h
  split at h <;> first | (cases h; done) | skip
  rename_i key inp c
  cases hb : (Nat.beq key.length 32 && (Nat.beq inp.length 16 && Nat.beq c.length 16)) with
  | false => rw [hb] at h; cases h
  | true =>
    rw [hb, cond_true] at h
    cases h
    simp only [Bool.and_eq_true] at hb
    obtain ⟨h1, h2, h3⟩ := hb
    have := matrix1 B inp key c
    rw [lit_eq (Nat.eq_of_beq_eq_true h1), lit_eq (Nat.eq_of_beq_eq_true h2), lit_eq (Nat.eq_of_beq_eq_true h3)] at this
    exact this

noncomputable def HR1 (c : Bool) : Hook := hookC 22 (hookOf (cxb c) roundsCt) (HQ c)
theorem HR1ok (B : Nat) (c : Bool) : HookOk P0 B 2 (HR1 c) := .cons (.ct (cx := cxb c) (rounds_ok B)) (HQok B c)

/-- with a literal number of rounds -/
theorem core1 (B : Nat) (b : List (BitVec 8)) : FnE P0 B 2 33 [.one (.ag [.d8 (lit 0 64 b)]), .one (.s (.i 10))] [] 2 ⟨.one (.ag [.d8 (lit 0 64 (coreS (ws64 b) 10))]), [], 2, .eff, []⟩ := by
  refine FnE.tri (cx := cxb true) (sz := 46) (fn := Tryz.f33) (c := bodyOf Tryz.f33) T0ok (by kernel_rfl) (by kernel_rfl) (by kernel_rfl) (by kernel_rfl) (by kernel_rfl) (by kernel_rfl) (Nat.le_refl _) ?_
  exact Tri.ret (cx := cxb true) mix T0ok (HR1ok B true) 66 noOrc [4] [2 + 1] (2 + 5) ⟨[(4, .one (.s (.p (2 + 1) 0)))], [(2 + 1, ⟨64, .d8 (lit 0 64 (coreS (ws64 b) 10)), true, false, false⟩)], 2 + 5⟩ [] .r (by kernel_rfl) obNil (by kernel_rfl) rfl [] [] (by kernel_rfl) obNil

def core10Ct : Ct := ⟨[.val, .val], [], fun vs ds gs => match vs, ds, gs with
  | [.one (.ag [.d8 b]), .one (.s (.i (.ofNat n)))], [], [] => bif Nat.beq b.length 64 && Nat.beq n 10 then some ⟨.one (.ag [.d8 (lit 0 64 (coreS (ws64 b) 10))]), [], [], []⟩ else none
  | _, _, _ => none⟩

theorem core10_ok (B : Nat) : core10Ct.Ok P0 B 2 33 := by
  intro vs ds gs out h hpre hn
  unfold core10Ct at h
  dsimp only at h
  split at h <;> first | (cases h; done) | skip
  rename_i b n
  cases hb : (Nat.beq b.length 64 && Nat.beq n 10) with
  | false => rw [hb] at h; cases h
  | true =>
    rw [hb, cond_true] at h
    cases h
    simp only [Bool.and_eq_true] at hb
    obtain ⟨h1, h2⟩ := hb
    have := core1 B b
    rw [lit_eq (Nat.eq_of_beq_eq_true h1)] at this
    have h2 := Nat.eq_of_beq_eq_true h2
    subst h2
    exact this

/-! ### salsa.core -/

def scCt : Ct := ⟨[.ptr 64 true, .ptr 16 false, .ptr 32 false, .ptr 16 false], [], fun vs ds gs => match vs, ds, gs with
  | [], [.d8 out, .d8 inp, .d8 key, .d8 c], [] => bif Nat.beq out.length 64 && (Nat.beq inp.length 16 && (Nat.beq key.length 32 && Nat.beq c.length 16)) then some ⟨.tup [], [.d8 (lit 0 64 (coreI (mxW inp key c) 10)), .d8 inp, .d8 key, .d8 c], [], []⟩ else none
  | _, _, _ => none⟩

def scM (out inp key c : List (BitVec 8)) : Mem := [(2, ⟨64, .d8 (lit 0 64 out), true, false, false⟩), (2 + 1, ⟨16, .d8 (lit 0 16 inp), false, false, false⟩), (2 + 2, ⟨32, .d8 (lit 0 32 key), false, false, false⟩), (2 + 3, ⟨16, .d8 (lit 0 16 c), false, false, false⟩)]
def scSt (out inp key c : List (BitVec 8)) (j : Nat) : St := ⟨wT 24 (drs (mxW inp key c) j) ++ (wT 8 (mxW inp key c) ++ [(40, .one (.s (.i (2 * j : Nat)))), (0, .one (.s (.p 2 0)))]), scM out inp key c, 2 + 4⟩
def scT : List Nat := [24, 25, 26, 27, 28, 29, 30, 31, 32, 33, 34, 35, 36, 37, 38, 39, 8, 9, 10, 11, 12, 13, 14, 15, 16, 17, 18, 19, 20, 21, 22, 23, 40, 0]

theorem sc1 (B : Nat) (out inp key c : List (BitVec 8)) : FnE P0 B 2 64 [.one (.s (.p 2 0)), .one (.s (.p (2 + 1) 0)), .one (.s (.p (2 + 2) 0)), .one (.s (.p (2 + 3) 0))] (scM out inp key c) (2 + 4) ⟨.tup [], scM (coreI (mxW inp key c) 10) inp key c, 2 + 4, .eff, []⟩ := by
  refine FnE.tri (cx := cxb true) (sz := 1118) (fn := Tryz.f64) (c := bodyOf Tryz.f64) T0ok (by kernel_rfl) (by kernel_rfl) (by kernel_rfl) (by kernel_rfl) (by kernel_rfl) (by kernel_rfl) (Nat.le_refl _) ?_
  refine Tri.step mix T0ok (HQok B true) 19 0 noOrc scT [2, 2 + 1, 2 + 2, 2 + 3] (2 + 4) (scSt out inp key c 0) [] (by kernel_rfl) obNil (by kernel_rfl) ?_
  refine Tri.loop (id := 0) (ι := { j : Nat // j ≤ 10 }) rfl (fun j => scSt out inp key c j.1) (fun j => 10 - j.1) ⟨0, Nat.zero_le _⟩ rfl (fun j => Nat.le_refl _) (R1 := fun s => s = scSt out inp key c 10) (fun ⟨j, hj⟩ => ?_) (fun s' hs => ?_)
  · by_cases hlt : j < 10
    · refine Tri.chg (cx := cxb false) rfl ?_
      exact Tri.fin (cx := cxb false) mix T0ok (HQok B false) 0 (orcL [(475, true)]) scT [2, 2 + 1, 2 + 2, 2 + 3] (2 + 4) .n (scSt out inp key c (j + 1)) [decide (((2 * j : Nat) : Int) < 20) = true, rng (((2 * j : Nat) : Int) + 2)] (by kernel_rfl) (obCons (by simp; omega) <| obCons (by unfold rng; omega) obNil) (by kernel_rfl) ⟨⟨j + 1, hlt⟩, by show 10 - (j + 1) < 10 - j; omega, rfl⟩
    · obtain rfl : j = 10 := by omega
      exact Tri.fin (cx := cxb true) mix T0ok (HQok B true) 0 noOrc scT [2, 2 + 1, 2 + 2, 2 + 3] (2 + 4) (.x 0) (scSt out inp key c 10) [] (by kernel_rfl) obNil (by kernel_rfl) (by simp)
  · subst hs
    exact Tri.ret (cx := cxb true) mix T0ok (HQok B true) 0 noOrc [] [2, 2 + 1, 2 + 2, 2 + 3] (2 + 4) ⟨[], scM (coreI (mxW inp key c) 10) inp key c, 2 + 4⟩ [] .n (by kernel_rfl) obNil (by kernel_rfl) rfl [2, 2 + 1, 2 + 2, 2 + 3] [] (by kernel_rfl) obNil

theorem sc_ok (B : Nat) : scCt.Ok P0 B 2 64 := by
  intro vs ds gs out h hpre hn
  unfold scCt at h
  dsimp only at h
  split at h <;> first | (cases h; done) | skip
  rename_i o inp key c
  cases hb : (Nat.beq o.length 64 && (Nat.beq inp.length 16 && (Nat.beq key.length 32 && Nat.beq c.length 16))) with
  | false => rw [hb] at h; cases h
  | true =>
    rw [hb, cond_true] at h
    cases h
    simp only [Bool.and_eq_true] at hb
    obtain ⟨h1, h2, h3, h4⟩ := hb
    have h1 := Nat.eq_of_beq_eq_true h1
    have h2 := Nat.eq_of_beq_eq_true h2
    have h3 := Nat.eq_of_beq_eq_true h3
    have h4 := Nat.eq_of_beq_eq_true h4
    have := sc1 B o inp key c
    unfold scM at this
    rw [lit_eq h1, lit_eq h2, lit_eq h3, lit_eq h4] at this
    simp only [scCt, canArgs, segsOf, globs, addM, List.length_cons, List.length_nil, SegD.len, h1, h2, h3, h4, lit_length, Nat.add_zero]
    exact this
end Go.Sx
