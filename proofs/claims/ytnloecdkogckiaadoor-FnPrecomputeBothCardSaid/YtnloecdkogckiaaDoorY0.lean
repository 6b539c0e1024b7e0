/- The spec's HSalsa20: what is walked into. FnPrecompute: the walk. spec.Precompute: what it computes. FnPrecompute: the law's run. FnPrecompute: for every input the law returns true. Conditions: none. -/
import Derived.Test.YtnloecdkogckiaaDoorS1
import Derived.Test.YtnloecdkogckiaaDoorG1
import Derived.Test.YtnloecdkogckiaaDoorX5b
import Derived.Test.YtnloecdkogckiaaDoorE7
import Derived.Test.YtnloecdkogckiaaDoorSx37
set_option maxRecDepth 1000000
set_option linter.unusedVariables false
namespace Go.Sx
open Go.Proofs
noncomputable def HR (c : Bool) : Hook := hookC 29 (hookOf (cxb c) roundsCt) (hookC 25 (hookOf (cxb c) hsCt) (HQ c))
theorem HRok (B : Nat) (c : Bool) : HookOk P0 B 4 (HR c) := .cons (.ct (cx := cxb c) (rounds_ok B)) (.cons (.ct (cx := cxb c) (hs_ok B)) (HQok B c))

def b4S (x : BitVec 32) : List (BitVec 8) := [(x >>> 0).setWidth 8, (x >>> 8).setWidth 8, (x >>> 16).setWidth 8, (x >>> 24).setWidth 8]
theorem b4S_eq (x : BitVec 32) : b4S x = b4 x := by simp [b4S, b4]
def hsOutS (x : List (BitVec 32)) : List (BitVec 8) := b4S (w_ x 0) ++ (b4S (w_ x 5) ++ (b4S (w_ x 10) ++ (b4S (w_ x 15) ++ (b4S (w_ x 6) ++ (b4S (w_ x 7) ++ (b4S (w_ x 8) ++ b4S (w_ x 9)))))))
theorem hsOutS_eq (x : List (BitVec 32)) : hsOutS x = hsOut x := by simp [hsOutS, hsOut, b4S_eq]

end Go.Sx

set_option maxRecDepth 1000000
set_option linter.unusedVariables false
namespace Go.Sx
open Go.Proofs
def preF : List SV → Option SV := fun
  | [.one (.ag [.d8 a]), .one (.ag [.d8 b])] => bif Nat.beq a.length 32 && Nat.beq b.length 32 then some (.one (.ag [.d8 (lit 0 32 (preI a b))])) else none
  | _ => none
theorem preQ_ok (B : Nat) : HkOk P0 B 4 8 (hookQ gM preF) := by
  refine HkOk.quiet (nx0 := 4 + 1) (by kernel_rfl) (Nat.le_succ _) ?_
  intro args v h
  unfold preF at h
  split at h <;> first | (cases h; done) | skip
  rename_i a b
  cases hb : (Nat.beq a.length 32 && Nat.beq b.length 32) with
  | false => rw [hb] at h; cases h
  | true =>
    rw [hb, cond_true] at h
    cases h
    simp only [Bool.and_eq_true] at hb
    have k1 := Nat.eq_of_beq_eq_true hb.1
    have k2 := Nat.eq_of_beq_eq_true hb.2
    have := pre1 B a b k1 k2
    rw [lit_eq k1, lit_eq k2] at this
    exact ⟨_, _, this⟩
noncomputable def HXp (c : Bool) : Hook := hookC 11 (hookOf (cxb c) x25519Ct) (hookC 8 (hookQ gM preF) (HR c))
theorem HXpok (B : Nat) (c : Bool) : HookOk P0 B 4 (HXp c) := .cons (.ct (cx := cxb c) (x25519_ok B)) (.cons (preQ_ok B) (HRok B c))

noncomputable def in27 : In := ⟨Tryd.f27, bodyOf Tryd.f27, 0, .read, noOrc⟩
theorem io27 : InOk P0 27 in27 := ⟨by kernel_rfl, by kernel_rfl, by kernel_rfl⟩
noncomputable def HW0 (c : Bool) : Hook := hookC 27 (inl (cxb c) (HXp c) in27) (HXp c)
theorem HW0ok (B : Nat) (c : Bool) : HookOk P0 B 4 (HW0 c) := HookOk.cons (HkOk.inl (cx := cxb c) mix T0ok (HXpok B c) io27) (HXpok B c)
noncomputable def in13 : In := ⟨Tryd.f13, bodyOf Tryd.f13, 20, .read, noOrc⟩
theorem io13 : InOk P0 13 in13 := ⟨by kernel_rfl, by kernel_rfl, by kernel_rfl⟩
noncomputable def HW1 (c : Bool) : Hook := hookC 13 (inl (cxb c) (HW0 c) in13) (HW0 c)
theorem HW1ok (B : Nat) (c : Bool) : HookOk P0 B 4 (HW1 c) := HookOk.cons (HkOk.inl (cx := cxb c) mix T0ok (HW0ok B c) io13) (HW0ok B c)
noncomputable def in9 : In := ⟨Tryd.f9, bodyOf Tryd.f9, 0, .read, noOrc⟩
theorem io9 : InOk P0 9 in9 := ⟨by kernel_rfl, by kernel_rfl, by kernel_rfl⟩
noncomputable def HW (c : Bool) : Hook := hookC 9 (inl (cxb c) (HW1 c) in9) (HW1 c)
theorem HWok (B : Nat) (c : Bool) : HookOk P0 B 4 (HW c) := HookOk.cons (HkOk.inl (cx := cxb c) mix T0ok (HW1ok B c) io9) (HW1ok B c)
end Go.Sx

set_option maxRecDepth 1000000
set_option linter.unusedVariables false
namespace Go.Sx
open Go.Proofs
theorem spc1 (B : Nat) (a b : List (BitVec 8)) : FnE P0 B 4 9 [.one (.ag [.d8 (lit 0 32 a)]), .one (.ag [.d8 (lit 0 32 b)])] [] 4
    ⟨.one (.ag [.d8 (lit 0 32 (hsOutS (drs (mxW z16 (x25519 (lit 0 32 b) (lit 0 32 a)) sigB) 10)))]), [], 4, .eff, []⟩ := by
  refine FnE.tri (cx := cxb true) (sz := 10) (fn := Tryd.f9) (c := bodyOf Tryd.f9) T0ok (by kernel_rfl) (by kernel_rfl) (by kernel_rfl) (by kernel_rfl) (by kernel_rfl) (by kernel_rfl) (Nat.le_refl _) ?_
  exact Tri.ret (cx := cxb true) mix T0ok (HWok B true) 0 noOrc [4] [4 + 2] (4 + 3) ⟨[(4, .one (.s (.p (4 + 2) 0)))], [(4 + 2, ⟨32, .d8 (lit 0 32 (hsOutS (drs (mxW z16 (x25519 (lit 0 32 b) (lit 0 32 a)) sigB) 10))), true, false, false⟩)], 4 + 3⟩ [] .r (by kernel_rfl) obNil (by kernel_rfl) rfl [] [] (by kernel_rfl) obNil
/-- the key that two sides share -/
def preS (a b : List (BitVec 8)) : List (BitVec 8) := hs z16 (x25519 b a) sigB
theorem preI_S {a b : List (BitVec 8)} (la : a.length = 32) (lb : b.length = 32) : preI a b = preS a b := by unfold preI preS; rw [smF_eq b a lb la]
def spcCt : Ct := ⟨[.val, .val], [], fun vs ds gs => match vs, ds, gs with
  | [.one (.ag [.d8 a]), .one (.ag [.d8 b])], [], [] => bif Nat.beq a.length 32 && Nat.beq b.length 32 then some ⟨.one (.ag [.d8 (lit 0 32 (preS a b))]), [], [], []⟩ else none
  | _, _, _ => none⟩
theorem spc_ok (B : Nat) : spcCt.Ok P0 B 4 9 := by
  intro vs ds gs out h hpre hn
  unfold spcCt at h
  dsimp only at h
  split at h <;> first | (cases h; done) | skip
  rename_i a b
  cases hb : (Nat.beq a.length 32 && Nat.beq b.length 32) with
  | false => rw [hb] at h; cases h
  | true =>
    rw [hb, cond_true] at h
    cases h
    simp only [Bool.and_eq_true] at hb
    obtain ⟨k1, k2⟩ := hb
    have := spc1 B a b
    rw [lit_eq (Nat.eq_of_beq_eq_true k1), lit_eq (Nat.eq_of_beq_eq_true k2), hsOutS_eq] at this
    exact this
noncomputable def HV (c : Bool) : Hook := hookC 9 (hookOf (cxb c) spcCt) (hookC 8 (hookQ gM preF) (H0 c))
theorem HVok (B : Nat) (c : Bool) : HookOk P0 B 4 (HV c) := .cons (.ct (cx := cxb c) (spc_ok B)) (.cons (preQ_ok B) (H0ok B c))
end Go.Sx

set_option maxRecDepth 1000000
set_option linter.unusedVariables false
namespace Go.Sx
open Go.Proofs
def pcM (a b : List (BitVec 8)) : Mem := [(4 + 1, ⟨32, .d8 (lit 0 32 a), true, false, false⟩), (4 + 2, ⟨32, .d8 (lit 0 32 b), true, false, false⟩)] ++ gM
theorem lawPc1 (B : Nat) (a b : List (BitVec 8)) : FnE P0 B 4 4 [.one (.ag [.d8 (lit 0 32 a)]), .one (.ag [.d8 (lit 0 32 b)])] gM (4 + 1)
    ⟨.one (.s (.b (decide (lit 0 32 (preI (lit 0 32 a) (lit 0 32 b)) = lit 0 32 (preS (lit 0 32 a) (lit 0 32 b)))))), gM, 4 + 1, .eff, []⟩ := by
  refine FnE.tri (cx := cxb true) (sz := 12) (fn := Tryd.f4) (c := bodyOf Tryd.f4) T0ok (by kernel_rfl) (by kernel_rfl) (by kernel_rfl) (by kernel_rfl) (by kernel_rfl) (by kernel_rfl) (Nat.le_refl _) ?_
  refine Tri.step (cx := cxb true) mix T0ok (HVok B true) 1 0 noOrc [2, 3] [4 + 1, 4 + 2, 3, 4] (4 + 3) ⟨[(2, .one (.s (.p (4 + 1) 0))), (3, .one (.s (.p (4 + 2) 0)))], pcM a b, 4 + 3⟩ [] (by kernel_rfl) obNil (by kernel_rfl) ?_
  exact Tri.ret (cx := cxb true) mix T0ok (HVok B true) 0 noOrc [4] [3, 4] (4 + 3) ⟨[(4, .one (.s (.b (decide (lit 0 32 (preI (lit 0 32 a) (lit 0 32 b)) = lit 0 32 (preS (lit 0 32 a) (lit 0 32 b)))))))], gM, 4 + 3⟩ [find (pcM a b) 3 = some ⟨1, .dc [.p 4 0], false, false, false⟩, find (pcM a b) 4 = some (sgr one5 false)] .r (by kernel_rfl) (obCons rfl <| obCons rfl obNil) (by kernel_rfl) rfl [3, 4] [] (by kernel_rfl) obNil
end Go.Sx

set_option linter.unusedVariables false
set_option maxRecDepth 1000000
namespace Go.Sx
open Go.Proofs
theorem lawPc (B : Nat) {a b : List (BitVec 8)} (la : a.length = 32) (lb : b.length = 32) : FnE P0 B 4 4 [.one (.ag [.d8 a]), .one (.ag [.d8 b])] gM (4 + 1)
    ⟨.one (.s (.b true)), gM, 4 + 1, .eff, []⟩ := by
  have := lawPc1 B a b
  rw [lit_eq la, lit_eq lb, preI_S la lb, decide_eq_true rfl] at this
  exact this

/-- where the globals, and further pieces, lie -/
def envG (locs : List Loc) : Env := fun k => if k < 4 then ⟨k, 0, 1, false⟩ else locs.getD (k - 4) ⟨0, 0, 0, true⟩
theorem gM_ro {W : World} {b o : Nat} {locs : List Loc} {nx : Nat} (hx : 4 < nx) (h3 : W.cell? ⟨3, 0, none⟩ = some (.pointer (some ⟨b, o, none⟩))) (h5 : ∀ j, j < 5 → W.cell? ⟨b, o + j, none⟩ = some (.int .u64 ((one5.getD j 0).toNat : Int))) :
    ∀ k s, find gM k = some s → SegRo (envG (⟨b, o, 5, false⟩ :: locs)) nx k s W := by
  have e3 : envG (⟨b, o, 5, false⟩ :: locs) 3 = ⟨3, 0, 1, false⟩ := rfl
  have e4 : envG (⟨b, o, 5, false⟩ :: locs) 4 = ⟨b, o, 5, false⟩ := rfl
  intro k s hk
  unfold gM at hk
  rw [find_cons, find_cons, find_nil] at hk
  split at hk
  · rename_i hk3
    subst hk3
    cases hk
    refine ⟨rfl, rfl, rfl, rfl, by rw [e3]; exact Nat.le_refl _, fun a => (by rw [e3] at a; cases a), fun j x hx => ?_, by omega, by show ([Sc.p 4 0] : List Sc).all (Sc.lt nx) = true; simp only [List.all_cons, List.all_nil, Bool.and_true]; exact blt_iff.2 hx⟩
    rw [e3]
    match j, hx with
    | 0, hx =>
      cases hx
      show W.cell? ⟨3, 0, none⟩ = some (.pointer (some ⟨(envG (⟨b, o, 5, false⟩ :: locs) 4).blk, (envG (⟨b, o, 5, false⟩ :: locs) 4).off + 0, none⟩))
      rw [e4]
      exact h3
    | j + 1, hx => simp [SegD.scs] at hx
  · split at hk
    · rename_i hk4
      subst hk4
      cases hk
      refine ⟨rfl, rfl, rfl, rfl, by rw [e4]; exact Nat.le_refl _, fun a => (by rw [e4] at a; cases a), fun j x hx => ?_, hx, rfl⟩
      rw [e4]
      have hj : j < 5 := (List.getElem?_eq_some_iff.1 hx).1
      have := h5 j hj
      rw [this]
      have hx' : (one5.map Sc.u64)[j]? = some x := hx
      rw [List.getElem?_map, Option.map_eq_some_iff] at hx'
      obtain ⟨y, hy, rfl⟩ := hx'
      show some (Value.int .u64 ((one5.getD j 0).toNat : Int)) = some (Value.int .u64 (y.toNat : Int))
      rw [List.getD_eq_getElem?_getD, hy]; rfl
    · cases hk
end Go.Sx
