/- Salsa20's words: what is walked into, and the spec's rounds. The spec's rounds: so many double rounds. salsa.HSalsa20: what it makes of sixteen bytes, a key and constants. FnHSalsa: the walk. Conditions: none. -/
import Derived.Test.YtamohebdaifjbaaPg
set_option maxRecDepth 1000000
set_option linter.unusedVariables false
namespace Go.Sx
open Go.Proofs

noncomputable def in23 : In := ⟨Try.f23, bodyOf Try.f23, 0, .read, noOrc⟩
theorem io23 : InOk P0 23 in23 := ⟨by kernel_rfl, by kernel_rfl, by kernel_rfl⟩
noncomputable def HQ0 (c : Bool) : Hook := hookC 23 (inl (cxb c) (H0 c) in23) (H0 c)
theorem HQ0ok (B : Nat) (c : Bool) : HookOk P0 B 0 (HQ0 c) := HookOk.cons (HkOk.inl (cx := cxb c) mix T0ok (H0ok B c) io23) (H0ok B c)
noncomputable def in31 : In := ⟨Try.f31, bodyOf Try.f31, 0, .read, noOrc⟩
theorem io31 : InOk P0 31 in31 := ⟨by kernel_rfl, by kernel_rfl, by kernel_rfl⟩
noncomputable def HQ1 (c : Bool) : Hook := hookC 31 (inl (cxb c) (HQ0 c) in31) (HQ0 c)
theorem HQ1ok (B : Nat) (c : Bool) : HookOk P0 B 0 (HQ1 c) := HookOk.cons (HkOk.inl (cx := cxb c) mix T0ok (HQ0ok B c) io31) (HQ0ok B c)
noncomputable def in24 : In := ⟨Try.f24, bodyOf Try.f24, 0, .read, noOrc⟩
theorem io24 : InOk P0 24 in24 := ⟨by kernel_rfl, by kernel_rfl, by kernel_rfl⟩
noncomputable def HQ2 (c : Bool) : Hook := hookC 24 (inl (cxb c) (HQ1 c) in24) (HQ1 c)
theorem HQ2ok (B : Nat) (c : Bool) : HookOk P0 B 0 (HQ2 c) := HookOk.cons (HkOk.inl (cx := cxb c) mix T0ok (HQ1ok B c) io24) (HQ1ok B c)
noncomputable def in29 : In := ⟨Try.f29, bodyOf Try.f29, 0, .eff, noOrc⟩
theorem io29 : InOk P0 29 in29 := ⟨by kernel_rfl, by kernel_rfl, by kernel_rfl⟩
noncomputable def HQ (c : Bool) : Hook := hookC 29 (inl (cxb c) (HQ2 c) in29) (HQ2 c)
theorem HQok (B : Nat) (c : Bool) : HookOk P0 B 0 (HQ c) := HookOk.cons (HkOk.inl (cx := cxb c) mix T0ok (HQ2ok B c) io29) (HQ2ok B c)
/-- a word turned to the left -/
def rol (x : BitVec 32) (n : Nat) : BitVec 32 := x <<< n ||| x >>> (32 - n)

/-- a double round on sixteen words -/
def dr16 (x0 x1 x2 x3 x4 x5 x6 x7 x8 x9 x10 x11 x12 x13 x14 x15 : BitVec 32) : List (BitVec 32) :=
  let x4 := x4 ^^^ rol (x0 + x12) 7
  let x8 := x8 ^^^ rol (x4 + x0) 9
  let x12 := x12 ^^^ rol (x8 + x4) 13
  let x0 := x0 ^^^ rol (x12 + x8) 18
  let x9 := x9 ^^^ rol (x5 + x1) 7
  let x13 := x13 ^^^ rol (x9 + x5) 9
  let x1 := x1 ^^^ rol (x13 + x9) 13
  let x5 := x5 ^^^ rol (x1 + x13) 18
  let x14 := x14 ^^^ rol (x10 + x6) 7
  let x2 := x2 ^^^ rol (x14 + x10) 9
  let x6 := x6 ^^^ rol (x2 + x14) 13
  let x10 := x10 ^^^ rol (x6 + x2) 18
  let x3 := x3 ^^^ rol (x15 + x11) 7
  let x7 := x7 ^^^ rol (x3 + x15) 9
  let x11 := x11 ^^^ rol (x7 + x3) 13
  let x15 := x15 ^^^ rol (x11 + x7) 18
  let x1 := x1 ^^^ rol (x0 + x3) 7
  let x2 := x2 ^^^ rol (x1 + x0) 9
  let x3 := x3 ^^^ rol (x2 + x1) 13
  let x0 := x0 ^^^ rol (x3 + x2) 18
  let x6 := x6 ^^^ rol (x5 + x4) 7
  let x7 := x7 ^^^ rol (x6 + x5) 9
  let x4 := x4 ^^^ rol (x7 + x6) 13
  let x5 := x5 ^^^ rol (x4 + x7) 18
  let x11 := x11 ^^^ rol (x10 + x9) 7
  let x8 := x8 ^^^ rol (x11 + x10) 9
  let x9 := x9 ^^^ rol (x8 + x11) 13
  let x10 := x10 ^^^ rol (x9 + x8) 18
  let x12 := x12 ^^^ rol (x15 + x14) 7
  let x13 := x13 ^^^ rol (x12 + x15) 9
  let x14 := x14 ^^^ rol (x13 + x12) 13
  let x15 := x15 ^^^ rol (x14 + x13) 18
  [x0, x1, x2, x3, x4, x5, x6, x7, x8, x9, x10, x11, x12, x13, x14, x15]

def w_ (l : List (BitVec 32)) (i : Nat) : BitVec 32 := l.getD i 0
def dr (l : List (BitVec 32)) : List (BitVec 32) :=
  dr16 (w_ l 0) (w_ l 1) (w_ l 2) (w_ l 3) (w_ l 4) (w_ l 5) (w_ l 6) (w_ l 7) (w_ l 8) (w_ l 9) (w_ l 10) (w_ l 11) (w_ l 12) (w_ l 13) (w_ l 14) (w_ l 15)
/-- n double rounds -/
def drs (l : List (BitVec 32)) : Nat → List (BitVec 32)
  | 0 => l
  | n + 1 => dr (drs l n)
theorem drs_length {l : List (BitVec 32)} (h : l.length = 16) : ∀ n, (drs l n).length = 16
  | 0 => h
  | n + 1 => rfl

/-- the words of the rounds' body: the inner loops of one double round -/
noncomputable def roundsBody : List Code := flat (bodyOf Try.f25)
end Go.Sx

set_option maxRecDepth 1000000
set_option linter.unusedVariables false
namespace Go.Sx
open Go.Proofs

def roundsCt : Ct := ⟨[.val, .val], [], fun vs ds gs => match vs, ds, gs with
  | [.one (.ag [.d32 x]), .one (.s (.i (.ofNat n)))], [], [] => bif Nat.beq x.length 16 && Nat.ble n 1000 then some ⟨.one (.ag [.d32 (lit 0 16 (drs x n))]), [], [], []⟩ else none
  | _, _, _ => none⟩

def roundsSt (x : List (BitVec 32)) (n j : Nat) : St := ⟨[(1, .one (.s (.i n))), (2, .one (.s (.p 0 0))), (4, .one (.s (.p (0 + 1) 0))), (5, .one (.s (.i j)))], [(0, ⟨16, .d32 (lit 0 16 (drs x j)), true, false, false⟩), (0 + 1, ⟨16, .d32 (List.replicate 16 0), true, false, false⟩)], 0 + 2⟩

theorem rounds1 (B : Nat) (x : List (BitVec 32)) (n : Nat) (hn : n ≤ 1000) : FnE P0 B 0 25 [.one (.ag [.d32 (lit 0 16 x)]), .one (.s (.i n))] [] 0 ⟨.one (.ag [.d32 (lit 0 16 (drs x n))]), [], 0, .eff, []⟩ := by
  refine FnE.tri (cx := cxb true) (sz := 59) (fn := Try.f25) (c := bodyOf Try.f25) T0ok (by kernel_rfl) (by kernel_rfl) (by kernel_rfl) (by kernel_rfl) (by kernel_rfl) (by kernel_rfl) (Nat.le_refl _) ?_
  refine Tri.step mix T0ok (HQok B true) 2 0 noOrc [1, 2, 4, 5] [0, 0 + 1] (0 + 2) (roundsSt x n 0) [] (by kernel_rfl) obNil (by kernel_rfl) ?_
  refine Tri.loop (id := 0) (ι := { j : Nat // j ≤ n }) rfl (fun j => roundsSt x n j.1) (fun j => n - j.1) ⟨0, Nat.zero_le _⟩ rfl (fun j => Nat.le_add_right _ _) (R1 := fun s => s = roundsSt x n n) (fun ⟨j, hj⟩ => ?_) (fun s' hs => ?_)
  · by_cases hlt : j < n
    · refine Tri.step (cx := cxb true) mix T0ok (HQok B true) 3 5 (orcL [(10, true)]) [1, 2, 4, 5] [0, 0 + 1] (0 + 2) ⟨[(1, .one (.s (.i n))), (2, .one (.s (.p 0 0))), (4, .one (.s (.p (0 + 1) 0))), (5, .one (.s (.i j)))], [(0, ⟨16, .d32 (lit 0 16 (drs x (j + 1))), true, false, false⟩), (0 + 1, ⟨16, .d32 (List.replicate 16 0), true, false, false⟩)], 0 + 2⟩ [decide ((j : Int) < (n : Int)) = true] (by kernel_rfl) (obCons (by simp; omega) obNil) (by kernel_rfl) ?_
      refine Tri.chg (cx := cxb false) rfl ?_
      exact Tri.fin (cx := cxb false) mix T0ok (HQok B false) 0 noOrc [1, 2, 4, 5] [0, 0 + 1] (0 + 2) .n (roundsSt x n (j + 1)) [rng ((j : Int) + 1)] (by kernel_rfl) (obCons (by unfold rng; omega) obNil) (by kernel_rfl) ⟨⟨j + 1, hlt⟩, by show n - (j + 1) < n - j; omega, rfl⟩
    · obtain rfl : j = n := by omega
      exact Tri.fin (cx := cxb true) mix T0ok (HQok B true) 0 (orcL [(10, false)]) [1, 2, 4, 5] [0, 0 + 1] (0 + 2) (.x 0) (roundsSt x j j) [decide ((j : Int) < (j : Int)) = false] (by kernel_rfl) (obCons (by simp) obNil) (by kernel_rfl) (by simp)
  · subst hs
    exact Tri.ret (cx := cxb true) mix T0ok (HQok B true) 0 noOrc [4] [0 + 1] (0 + 2) ⟨[(4, .one (.s (.p (0 + 1) 0)))], [(0 + 1, ⟨16, .d32 (lit 0 16 (drs x n)), true, false, false⟩)], 0 + 2⟩ [] .r (by kernel_rfl) obNil (by kernel_rfl) rfl [] [] (by kernel_rfl) obNil

end Go.Sx

set_option maxRecDepth 1000000
set_option linter.unusedVariables false
namespace Go.Sx
open Go.Proofs

theorem rounds_ok (B : Nat) : roundsCt.Ok P0 B 0 25 := by
  intro vs ds gs out h hpre hn
  unfold roundsCt at h
  dsimp only at h
  split at h <;> first | (cases h; done) | skip
  rename_i x n
  cases hb : (Nat.beq x.length 16 && Nat.ble n 1000) with
  | false => rw [hb] at h; cases h
  | true =>
    rw [hb, cond_true] at h
    cases h
    simp only [Bool.and_eq_true] at hb
    have := rounds1 B x n (Nat.le_of_ble_eq_true hb.2)
    rw [lit_eq (Nat.eq_of_beq_eq_true hb.1)] at this
    exact this

/-- four bytes, the lowest first -/
def le32 (l : List (BitVec 8)) (i : Nat) : BitVec 32 := (l.getD i 0).setWidth 32 ||| (l.getD (i + 1) 0).setWidth 32 <<< 8 ||| (l.getD (i + 2) 0).setWidth 32 <<< 16 ||| (l.getD (i + 3) 0).setWidth 32 <<< 24
def b4 (x : BitVec 32) : List (BitVec 8) := [x.setWidth 8, (x >>> 8).setWidth 8, (x >>> 16).setWidth 8, (x >>> 24).setWidth 8]

/-- the sixteen words of constants, a key and sixteen bytes -/
def mxW (inp key c : List (BitVec 8)) : List (BitVec 32) :=
  [le32 c 0, le32 key 0, le32 key 4, le32 key 8, le32 key 12, le32 c 4, le32 inp 0, le32 inp 4, le32 inp 8, le32 inp 12, le32 c 8, le32 key 16, le32 key 20, le32 key 24, le32 key 28, le32 c 12]
def hsOut (x : List (BitVec 32)) : List (BitVec 8) := b4 (w_ x 0) ++ (b4 (w_ x 5) ++ (b4 (w_ x 10) ++ (b4 (w_ x 15) ++ (b4 (w_ x 6) ++ (b4 (w_ x 7) ++ (b4 (w_ x 8) ++ b4 (w_ x 9)))))))
def hs (inp key c : List (BitVec 8)) : List (BitVec 8) := hsOut (drs (mxW inp key c) 10)

def wT (t0 : Nat) (w : List (BitVec 32)) : TM := (List.range 16).map fun i => (t0 + i, .one (.s (.u32 (w_ w i))))

def hsCt : Ct := ⟨[.ptr 32 true, .ptr 16 false, .ptr 32 false, .ptr 16 false], [], fun vs ds gs => match vs, ds, gs with
  | [], [.d8 out, .d8 inp, .d8 key, .d8 c], [] => bif Nat.beq out.length 32 && (Nat.beq inp.length 16 && (Nat.beq key.length 32 && Nat.beq c.length 16)) then some ⟨.tup [], [.d8 (lit 0 32 (hs inp key c)), .d8 inp, .d8 key, .d8 c], [], []⟩ else none
  | _, _, _ => none⟩

def hsM (out inp key c : List (BitVec 8)) : Mem := [(0, ⟨32, .d8 (lit 0 32 out), true, false, false⟩), (0 + 1, ⟨16, .d8 (lit 0 16 inp), false, false, false⟩), (0 + 2, ⟨32, .d8 (lit 0 32 key), false, false, false⟩), (0 + 3, ⟨16, .d8 (lit 0 16 c), false, false, false⟩)]
def hsSt (out inp key c : List (BitVec 8)) (j : Nat) : St := ⟨wT 8 (drs (mxW inp key c) j) ++ [(24, .one (.s (.i (2 * j : Nat)))), (0, .one (.s (.p 0 0)))], hsM out inp key c, 0 + 4⟩

theorem hs1 (B : Nat) (out inp key c : List (BitVec 8)) : FnE P0 B 0 27 [.one (.s (.p 0 0)), .one (.s (.p (0 + 1) 0)), .one (.s (.p (0 + 2) 0)), .one (.s (.p (0 + 3) 0))] (hsM out inp key c) (0 + 4) ⟨.tup [], hsM (hs inp key c) inp key c, 0 + 4, .eff, []⟩ := by
  refine FnE.tri (cx := cxb true) (sz := 854) (fn := Try.f27) (c := bodyOf Try.f27) T0ok (by kernel_rfl) (by kernel_rfl) (by kernel_rfl) (by kernel_rfl) (by kernel_rfl) (by kernel_rfl) (Nat.le_refl _) ?_
  refine Tri.step mix T0ok (HQok B true) 17 0 noOrc [8, 9, 10, 11, 12, 13, 14, 15, 16, 17, 18, 19, 20, 21, 22, 23, 24, 0] [0, 0 + 1, 0 + 2, 0 + 3] (0 + 4) (hsSt out inp key c 0) [] (by kernel_rfl) obNil (by kernel_rfl) ?_
  refine Tri.loop (id := 0) (ι := { j : Nat // j ≤ 10 }) rfl (fun j => hsSt out inp key c j.1) (fun j => 10 - j.1) ⟨0, Nat.zero_le _⟩ rfl (fun j => Nat.le_refl _) (R1 := fun s => s = hsSt out inp key c 10) (fun ⟨j, hj⟩ => ?_) (fun s' hs => ?_)
  · by_cases hlt : j < 10
    · refine Tri.chg (cx := cxb false) rfl ?_
      exact Tri.fin (cx := cxb false) mix T0ok (HQok B false) 0 (orcL [(443, true)]) [8, 9, 10, 11, 12, 13, 14, 15, 16, 17, 18, 19, 20, 21, 22, 23, 24, 0] [0, 0 + 1, 0 + 2, 0 + 3] (0 + 4) .n (hsSt out inp key c (j + 1)) [decide (((2 * j : Nat) : Int) < 20) = true, rng (((2 * j : Nat) : Int) + 2)] (by kernel_rfl) (obCons (by simp; omega) <| obCons (by unfold rng; omega) obNil) (by kernel_rfl) ⟨⟨j + 1, hlt⟩, by show 10 - (j + 1) < 10 - j; omega, rfl⟩
    · obtain rfl : j = 10 := by omega
      exact Tri.fin (cx := cxb true) mix T0ok (HQok B true) 0 noOrc [8, 9, 10, 11, 12, 13, 14, 15, 16, 17, 18, 19, 20, 21, 22, 23, 24, 0] [0, 0 + 1, 0 + 2, 0 + 3] (0 + 4) (.x 0) (hsSt out inp key c 10) [] (by kernel_rfl) obNil (by kernel_rfl) (by simp)
  · subst hs
    exact Tri.ret (cx := cxb true) mix T0ok (HQok B true) 0 noOrc [] [0, 0 + 1, 0 + 2, 0 + 3] (0 + 4) ⟨[], hsM (Go.Sx.hs inp key c) inp key c, 0 + 4⟩ [] .n (by kernel_rfl) obNil (by kernel_rfl) rfl [0, 0 + 1, 0 + 2, 0 + 3] [] (by kernel_rfl) obNil

theorem hs_ok (B : Nat) : hsCt.Ok P0 B 0 27 := by
  intro vs ds gs out h hpre hn
  unfold hsCt at h
  dsimp only at h
  split at h <;> first | (cases h; done) | skip
  rename_i o inp key c
  cases hb : (Nat.beq o.length 32 && (Nat.beq inp.length 16 && (Nat.beq key.length 32 && Nat.beq c.length 16))) with
  | false => rw [hb] at h; cases h
  | true =>
    rw [hb, cond_true] at h
    cases h
    simp only [Bool.and_eq_true] at hb
    obtain ⟨h1, h2, h3, h4⟩ := hb
    have h1 := Nat.eq_of_beq_eq_true h1
    have h2 := Nat.eq_of_beq_eq_true h2
    have h3 := Nat.eq_of_beq_eq_true h3
    have h4 := Nat.eq_of_beq_eq_true h4
    have := hs1 B o inp key c
    unfold hsM at this
    rw [lit_eq h1, lit_eq h2, lit_eq h3, lit_eq h4] at this
    have e1 : o.length = 32 := h1
    simp only [hsCt, canArgs, segsOf, globs, addM, List.length_cons, List.length_nil, SegD.len, h1, h2, h3, h4, lit_length, Nat.add_zero]
    exact this

end Go.Sx

set_option maxRecDepth 1000000
set_option linter.unusedVariables false
namespace Go.Sx
open Go.Proofs

noncomputable def HR (c : Bool) : Hook := hookC 25 (hookOf (cxb c) roundsCt) (hookC 27 (hookOf (cxb c) hsCt) (HQ c))
theorem HRok (B : Nat) (c : Bool) : HookOk P0 B 0 (HR c) := .cons (.ct (cx := cxb c) (rounds_ok B)) (.cons (.ct (cx := cxb c) (hs_ok B)) (HQok B c))

noncomputable def in19 : In := ⟨Try.f19, bodyOf Try.f19, 0, .read, noOrc⟩
theorem io19 : InOk P0 19 in19 := ⟨by kernel_rfl, by kernel_rfl, by kernel_rfl⟩
noncomputable def HS0 (c : Bool) : Hook := hookC 19 (inl (cxb c) (HR c) in19) (HR c)
theorem HS0ok (B : Nat) (c : Bool) : HookOk P0 B 0 (HS0 c) := HookOk.cons (HkOk.inl (cx := cxb c) mix T0ok (HRok B c) io19) (HRok B c)
noncomputable def in22 : In := ⟨Try.f22, bodyOf Try.f22, 20, .read, noOrc⟩
theorem io22 : InOk P0 22 in22 := ⟨by kernel_rfl, by kernel_rfl, by kernel_rfl⟩
noncomputable def HS (c : Bool) : Hook := hookC 22 (inl (cxb c) (HS0 c) in22) (HS0 c)
theorem HSok (B : Nat) (c : Bool) : HookOk P0 B 0 (HS c) := HookOk.cons (HkOk.inl (cx := cxb c) mix T0ok (HS0ok B c) io22) (HS0ok B c)
def b4S (x : BitVec 32) : List (BitVec 8) := [(x >>> 0).setWidth 8, (x >>> 8).setWidth 8, (x >>> 16).setWidth 8, (x >>> 24).setWidth 8]
theorem b4S_eq (x : BitVec 32) : b4S x = b4 x := by simp [b4S, b4]
def hsOutS (x : List (BitVec 32)) : List (BitVec 8) := b4S (w_ x 0) ++ (b4S (w_ x 5) ++ (b4S (w_ x 10) ++ (b4S (w_ x 15) ++ (b4S (w_ x 6) ++ (b4S (w_ x 7) ++ (b4S (w_ x 8) ++ b4S (w_ x 9)))))))
theorem hsOutS_eq (x : List (BitVec 32)) : hsOutS x = hsOut x := by simp [hsOutS, hsOut, b4S_eq]

end Go.Sx
