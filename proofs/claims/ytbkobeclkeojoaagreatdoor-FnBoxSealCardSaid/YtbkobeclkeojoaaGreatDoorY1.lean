/- FnPrecompute: the walk. spec.Precompute: what it computes. FnPrecompute: the law's run. FnPrecompute: for every input the law returns true. Conditions: none. -/
import Derived.Test.YtbkobeclkeojoaaGreatDoorG1
import Derived.Test.YtbkobeclkeojoaaGreatDoorY0
import Derived.Test.YtbkobeclkeojoaaGreatDoorX5b
import Derived.Test.YtbkobeclkeojoaaGreatDoorE7
import Derived.Test.YtbkobeclkeojoaaGreatDoorSx37
set_option maxRecDepth 1000000
set_option linter.unusedVariables false
namespace Go.Sx
open Go.Proofs
noncomputable def HXp (c : Bool) : Hook := hookC 13 (hookOf (cxb c) x25519Ct) (HR c)
theorem HXpok (B : Nat) (c : Bool) : HookOk P0 B 2 (HXp c) := .cons (.ct (cx := cxb c) (x25519_ok B)) (HRok B c)

noncomputable def HWyin20 : In := ⟨Tryz.f20, bodyOf Tryz.f20, 0, .read, noOrc⟩
theorem HWyio20 : InOk P0 20 HWyin20 := ⟨by kernel_rfl, by kernel_rfl, by kernel_rfl⟩
noncomputable def HWy0 (c : Bool) : Hook := hookC 20 (inl (cxb c) (HXp c) HWyin20) (HXp c)
theorem HWy0ok (B : Nat) (c : Bool) : HookOk P0 B 2 (HWy0 c) := HookOk.cons (HkOk.inl (cx := cxb c) mix T0ok (HXpok B c) HWyio20) (HXpok B c)
noncomputable def HWyin12 : In := ⟨Tryz.f12, bodyOf Tryz.f12, 20, .read, noOrc⟩
theorem HWyio12 : InOk P0 12 HWyin12 := ⟨by kernel_rfl, by kernel_rfl, by kernel_rfl⟩
noncomputable def HWy1 (c : Bool) : Hook := hookC 12 (inl (cxb c) (HWy0 c) HWyin12) (HWy0 c)
theorem HWy1ok (B : Nat) (c : Bool) : HookOk P0 B 2 (HWy1 c) := HookOk.cons (HkOk.inl (cx := cxb c) mix T0ok (HWy0ok B c) HWyio12) (HWy0ok B c)
noncomputable def HWyin7 : In := ⟨Tryz.f7, bodyOf Tryz.f7, 0, .read, noOrc⟩
theorem HWyio7 : InOk P0 7 HWyin7 := ⟨by kernel_rfl, by kernel_rfl, by kernel_rfl⟩
noncomputable def HWy (c : Bool) : Hook := hookC 7 (inl (cxb c) (HWy1 c) HWyin7) (HWy1 c)
theorem HWyok (B : Nat) (c : Bool) : HookOk P0 B 2 (HWy c) := HookOk.cons (HkOk.inl (cx := cxb c) mix T0ok (HWy1ok B c) HWyio7) (HWy1ok B c)
end Go.Sx

set_option maxRecDepth 1000000
set_option linter.unusedVariables false
namespace Go.Sx
open Go.Proofs
theorem spc1 (B : Nat) (a b : List (BitVec 8)) : FnE P0 B 2 7 [.one (.ag [.d8 (lit 0 32 a)]), .one (.ag [.d8 (lit 0 32 b)])] [] 2
    ⟨.one (.ag [.d8 (lit 0 32 (hsOutS (drs (mxW z16 (x25519 (lit 0 32 b) (lit 0 32 a)) sigB) 10)))]), [], 2, .eff, []⟩ := by
  refine FnE.tri (cx := cxb true) (sz := 10) (fn := Tryz.f7) (c := bodyOf Tryz.f7) T0ok (by kernel_rfl) (by kernel_rfl) (by kernel_rfl) (by kernel_rfl) (by kernel_rfl) (by kernel_rfl) (Nat.le_refl _) ?_
  exact Tri.ret (cx := cxb true) mix T0ok (HWyok B true) 0 noOrc [4] [2 + 2] (2 + 3) ⟨[(4, .one (.s (.p (2 + 2) 0)))], [(2 + 2, ⟨32, .d8 (lit 0 32 (hsOutS (drs (mxW z16 (x25519 (lit 0 32 b) (lit 0 32 a)) sigB) 10))), true, false, false⟩)], 2 + 3⟩ [] .r (by kernel_rfl) obNil (by kernel_rfl) rfl [] [] (by kernel_rfl) obNil
/-- the key that two sides share -/
def preS (a b : List (BitVec 8)) : List (BitVec 8) := hs z16 (x25519 b a) sigB
theorem preI_S {a b : List (BitVec 8)} (la : a.length = 32) (lb : b.length = 32) : preI a b = preS a b := by unfold preI preS; rw [smF_eq b a lb la]
def spcCt : Ct := ⟨[.val, .val], [], fun vs ds gs => match vs, ds, gs with
  | [.one (.ag [.d8 a]), .one (.ag [.d8 b])], [], [] => bif Nat.beq a.length 32 && Nat.beq b.length 32 then some ⟨.one (.ag [.d8 (lit 0 32 (preS a b))]), [], [], []⟩ else none
  | _, _, _ => none⟩
theorem spc_ok (B : Nat) : spcCt.Ok P0 B 2 7 := by
  intro vs ds gs out h hpre hn
  unfold spcCt at h
  dsimp only at h
  split at h <;> first | (cases h; done) | skip
  rename_i a b
  cases hb : (Nat.beq a.length 32 && Nat.beq b.length 32) with
  | false => rw [hb] at h; cases h
  | true =>
    rw [hb, cond_true] at h
    cases h
    simp only [Bool.and_eq_true] at hb
    obtain ⟨k1, k2⟩ := hb
    have := spc1 B a b
    rw [lit_eq (Nat.eq_of_beq_eq_true k1), lit_eq (Nat.eq_of_beq_eq_true k2), hsOutS_eq] at this
    exact this
end Go.Sx

set_option maxRecDepth 1000000
set_option linter.unusedVariables false
namespace Go.Sx
open Go.Proofs
end Go.Sx

set_option linter.unusedVariables false
set_option maxRecDepth 1000000
namespace Go.Sx
open Go.Proofs
/-- where the globals, and further pieces, lie -/
def envG (locs : List Loc) : Env := fun k => if k < 2 then ⟨k, 0, 1, false⟩ else locs.getD (k - 2) ⟨0, 0, 0, true⟩
theorem gM_ro {W : World} {b o : Nat} {locs : List Loc} {nx : Nat} (hx : 2 < nx) (h3 : W.cell? ⟨1, 0, none⟩ = some (.pointer (some ⟨b, o, none⟩))) (h5 : ∀ j, j < 5 → W.cell? ⟨b, o + j, none⟩ = some (.int .u64 ((one5.getD j 0).toNat : Int))) :
    ∀ k s, find gM k = some s → SegRo (envG (⟨b, o, 5, false⟩ :: locs)) nx k s W := by
  have e3 : envG (⟨b, o, 5, false⟩ :: locs) 1 = ⟨1, 0, 1, false⟩ := rfl
  have e4 : envG (⟨b, o, 5, false⟩ :: locs) 2 = ⟨b, o, 5, false⟩ := rfl
  intro k s hk
  unfold gM at hk
  rw [find_cons, find_cons, find_nil] at hk
  split at hk
  · rename_i hk3
    subst hk3
    cases hk
    refine ⟨rfl, rfl, rfl, rfl, by rw [e3]; exact Nat.le_refl _, fun a => (by rw [e3] at a; cases a), fun j x hx => ?_, by omega, by show ([Sc.p 2 0] : List Sc).all (Sc.lt nx) = true; simp only [List.all_cons, List.all_nil, Bool.and_true]; exact blt_iff.2 hx⟩
    rw [e3]
    match j, hx with
    | 0, hx =>
      cases hx
      show W.cell? ⟨1, 0, none⟩ = some (.pointer (some ⟨(envG (⟨b, o, 5, false⟩ :: locs) 2).blk, (envG (⟨b, o, 5, false⟩ :: locs) 2).off + 0, none⟩))
      rw [e4]
      exact h3
    | j + 1, hx => simp [SegD.scs] at hx
  · split at hk
    · rename_i hk4
      subst hk4
      cases hk
      refine ⟨rfl, rfl, rfl, rfl, by rw [e4]; exact Nat.le_refl _, fun a => (by rw [e4] at a; cases a), fun j x hx => ?_, hx, rfl⟩
      rw [e4]
      have hj : j < 5 := (List.getElem?_eq_some_iff.1 hx).1
      have := h5 j hj
      rw [this]
      have hx' : (one5.map Sc.u64)[j]? = some x := hx
      rw [List.getElem?_map, Option.map_eq_some_iff] at hx'
      obtain ⟨y, hy, rfl⟩ := hx'
      show some (Value.int .u64 ((one5.getD j 0).toNat : Int)) = some (Value.int .u64 (y.toNat : Int))
      rw [List.getD_eq_getElem?_getD, hy]; rfl
    · cases hk
end Go.Sx
