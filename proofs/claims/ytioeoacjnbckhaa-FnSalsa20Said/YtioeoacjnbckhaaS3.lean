/- salsa.HSalsa20: what it makes of sixteen bytes, a key and constants. Conditions: none. -/
import Derived.Test.YtioeoacjnbckhaaS2
set_option maxRecDepth 1000000
set_option linter.unusedVariables false
namespace Go.Sx
open Go.Proofs

theorem rounds_ok (B : Nat) : roundsCt.Ok P0 B 2 42 := by
  intro vs ds gs out h hpre hn
  unfold roundsCt at h
  dsimp only at h
  split at h <;> first | (cases h; done) | skip
  rename_i x n
  cases hb : (Nat.beq x.length 16 && Nat.ble n 1000) with
  | false => rw [hb] at h; cases h
  | true =>
    rw [hb, cond_true] at h
    cases h
    simp only [Bool.and_eq_true] at hb
    have := rounds1 B x n (Nat.le_of_ble_eq_true hb.2)
    rw [lit_eq (Nat.eq_of_beq_eq_true hb.1)] at this
    exact this

/-- four bytes, the lowest first -/
def le32 (l : List (BitVec 8)) (i : Nat) : BitVec 32 := (l.getD i 0).setWidth 32 ||| (l.getD (i + 1) 0).setWidth 32 <<< 8 ||| (l.getD (i + 2) 0).setWidth 32 <<< 16 ||| (l.getD (i + 3) 0).setWidth 32 <<< 24
def b4 (x : BitVec 32) : List (BitVec 8) := [x.setWidth 8, (x >>> 8).setWidth 8, (x >>> 16).setWidth 8, (x >>> 24).setWidth 8]

/-- the sixteen words of constants, a key and sixteen bytes -/
def mxW (inp key c : List (BitVec 8)) : List (BitVec 32) :=
  [le32 c 0, le32 key 0, le32 key 4, le32 key 8, le32 key 12, le32 c 4, le32 inp 0, le32 inp 4, le32 inp 8, le32 inp 12, le32 c 8, le32 key 16, le32 key 20, le32 key 24, le32 key 28, le32 c 12]
def hsOut (x : List (BitVec 32)) : List (BitVec 8) := b4 (w_ x 0) ++ (b4 (w_ x 5) ++ (b4 (w_ x 10) ++ (b4 (w_ x 15) ++ (b4 (w_ x 6) ++ (b4 (w_ x 7) ++ (b4 (w_ x 8) ++ b4 (w_ x 9)))))))
def hs (inp key c : List (BitVec 8)) : List (BitVec 8) := hsOut (drs (mxW inp key c) 10)

def wT (t0 : Nat) (w : List (BitVec 32)) : TM := (List.range 16).map fun i => (t0 + i, .one (.s (.u32 (w_ w i))))

def hsCt : Ct := ⟨[.ptr 32 true, .ptr 16 false, .ptr 32 false, .ptr 16 false], [], fun vs ds gs => match vs, ds, gs with
  | [], [.d8 out, .d8 inp, .d8 key, .d8 c], [] => bif Nat.beq out.length 32 && (Nat.beq inp.length 16 && (Nat.beq key.length 32 && Nat.beq c.length 16)) then some ⟨.tup [], [.d8 (lit 0 32 (hs inp key c)), .d8 inp, .d8 key, .d8 c], [], []⟩ else none
  | _, _, _ => none⟩

def hsM (out inp key c : List (BitVec 8)) : Mem := [(2, ⟨32, .d8 (lit 0 32 out), true, false, false⟩), (2 + 1, ⟨16, .d8 (lit 0 16 inp), false, false, false⟩), (2 + 2, ⟨32, .d8 (lit 0 32 key), false, false, false⟩), (2 + 3, ⟨16, .d8 (lit 0 16 c), false, false, false⟩)]
def hsSt (out inp key c : List (BitVec 8)) (j : Nat) : St := ⟨wT 8 (drs (mxW inp key c) j) ++ [(24, .one (.s (.i (2 * j : Nat)))), (0, .one (.s (.p 2 0)))], hsM out inp key c, 2 + 4⟩

theorem hs1 (B : Nat) (out inp key c : List (BitVec 8)) : FnE P0 B 2 39 [.one (.s (.p 2 0)), .one (.s (.p (2 + 1) 0)), .one (.s (.p (2 + 2) 0)), .one (.s (.p (2 + 3) 0))] (hsM out inp key c) (2 + 4) ⟨.tup [], hsM (hs inp key c) inp key c, 2 + 4, .eff, []⟩ := by
  refine FnE.tri (cx := cxb true) (sz := 854) (fn := Try.f39) (c := bodyOf Try.f39) T0ok (by kernel_rfl) (by kernel_rfl) (by kernel_rfl) (by kernel_rfl) (by kernel_rfl) (by kernel_rfl) (Nat.le_refl _) ?_
  refine Tri.step mix T0ok (HQok B true) 17 0 noOrc [8, 9, 10, 11, 12, 13, 14, 15, 16, 17, 18, 19, 20, 21, 22, 23, 24, 0] [2, 2 + 1, 2 + 2, 2 + 3] (2 + 4) (hsSt out inp key c 0) [] (by kernel_rfl) obNil (by kernel_rfl) ?_
  refine Tri.loop (id := 0) (ι := { j : Nat // j ≤ 10 }) rfl (fun j => hsSt out inp key c j.1) (fun j => 10 - j.1) ⟨0, Nat.zero_le _⟩ rfl (fun j => Nat.le_refl _) (R1 := fun s => s = hsSt out inp key c 10) (fun ⟨j, hj⟩ => ?_) (fun s' hs => ?_)
  · by_cases hlt : j < 10
    · refine Tri.chg (cx := cxb false) rfl ?_
      exact Tri.fin (cx := cxb false) mix T0ok (HQok B false) 0 (orcL [(443, true)]) [8, 9, 10, 11, 12, 13, 14, 15, 16, 17, 18, 19, 20, 21, 22, 23, 24, 0] [2, 2 + 1, 2 + 2, 2 + 3] (2 + 4) .n (hsSt out inp key c (j + 1)) [decide (((2 * j : Nat) : Int) < 20) = true, rng (((2 * j : Nat) : Int) + 2)] (by kernel_rfl) (obCons (by simp; omega) <| obCons (by unfold rng; omega) obNil) (by kernel_rfl) ⟨⟨j + 1, hlt⟩, by show 10 - (j + 1) < 10 - j; omega, rfl⟩
    · obtain rfl : j = 10 := by omega
      exact Tri.fin (cx := cxb true) mix T0ok (HQok B true) 0 noOrc [8, 9, 10, 11, 12, 13, 14, 15, 16, 17, 18, 19, 20, 21, 22, 23, 24, 0] [2, 2 + 1, 2 + 2, 2 + 3] (2 + 4) (.x 0) (hsSt out inp key c 10) [] (by kernel_rfl) obNil (by kernel_rfl) (by simp)
  · subst hs
    exact Tri.ret (cx := cxb true) mix T0ok (HQok B true) 0 noOrc [] [2, 2 + 1, 2 + 2, 2 + 3] (2 + 4) ⟨[], hsM (Go.Sx.hs inp key c) inp key c, 2 + 4⟩ [] .n (by kernel_rfl) obNil (by kernel_rfl) rfl [2, 2 + 1, 2 + 2, 2 + 3] [] (by kernel_rfl) obNil

theorem hs_ok (B : Nat) : hsCt.Ok P0 B 2 39 := by
  intro vs ds gs out h hpre hn
  unfold hsCt at h
  dsimp only at h
  split at h <;> first | (cases h; done) | skip
  rename_i o inp key c
  cases hb : (Nat.beq o.length 32 && (Nat.beq inp.length 16 && (Nat.beq key.length 32 && Nat.beq c.length 16))) with
  | false => rw [hb] at h; cases h
  | true =>
    rw [hb, cond_true] at h
    cases h
    simp only [Bool.and_eq_true] at hb
    obtain ⟨h1, h2, h3, h4⟩ := hb
    have h1 := Nat.eq_of_beq_eq_true h1
    have h2 := Nat.eq_of_beq_eq_true h2
    have h3 := Nat.eq_of_beq_eq_true h3
    have h4 := Nat.eq_of_beq_eq_true h4
    have := hs1 B o inp key c
    unfold hsM at this
    rw [lit_eq h1, lit_eq h2, lit_eq h3, lit_eq h4] at this
    have e1 : o.length = 32 := h1
    simp only [hsCt, canArgs, segsOf, globs, addM, List.length_cons, List.length_nil, SegD.len, h1, h2, h3, h4, lit_length, Nat.add_zero]
    exact this

end Go.Sx
