/- FnPrecompute: the walk. spec.Precompute: what it computes. FnPrecompute: the law's run. FnPrecompute: for every input the law returns true. Conditions: none. -/
import Derived.Test.YtbkobeclkeojoaaDoorG1
import Derived.Test.YtbkobeclkeojoaaDoorY0
import Derived.Test.YtbkobeclkeojoaaDoorX5b
import Derived.Test.YtbkobeclkeojoaaDoorE7
import Derived.Test.YtbkobeclkeojoaaDoorSx37
set_option maxRecDepth 1000000
set_option linter.unusedVariables false
namespace Go.Sx
open Go.Proofs
def preF : List SV → Option SV := fun
  | [.one (.ag [.d8 a]), .one (.ag [.d8 b])] => bif Nat.beq a.length 32 && Nat.beq b.length 32 then some (.one (.ag [.d8 (lit 0 32 (preI a b))])) else none
  | _ => none
theorem preQ_ok (B : Nat) : HkOk P0 B 5 9 (hookQ gM preF) := by
  refine HkOk.quiet (nx0 := 5 + 1) (by kernel_rfl) (Nat.le_succ _) ?_
  intro args v h
  unfold preF at h
  split at h <;> first | (cases h; done) | skip
  rename_i a b
  cases hb : (Nat.beq a.length 32 && Nat.beq b.length 32) with
  | false => rw [hb] at h; cases h
  | true =>
    rw [hb, cond_true] at h
    cases h
    simp only [Bool.and_eq_true] at hb
    have k1 := Nat.eq_of_beq_eq_true hb.1
    have k2 := Nat.eq_of_beq_eq_true hb.2
    have := pre1 B a b k1 k2
    rw [lit_eq k1, lit_eq k2] at this
    exact ⟨_, _, this⟩
end Go.Sx

set_option maxRecDepth 1000000
set_option linter.unusedVariables false
namespace Go.Sx
open Go.Proofs
/-- the key that two sides share -/
def preS (a b : List (BitVec 8)) : List (BitVec 8) := hs z16 (x25519 b a) sigB
theorem preI_S {a b : List (BitVec 8)} (la : a.length = 32) (lb : b.length = 32) : preI a b = preS a b := by unfold preI preS; rw [smF_eq b a lb la]
end Go.Sx

set_option maxRecDepth 1000000
set_option linter.unusedVariables false
namespace Go.Sx
open Go.Proofs
end Go.Sx

set_option linter.unusedVariables false
set_option maxRecDepth 1000000
namespace Go.Sx
open Go.Proofs
/-- where the globals, and further pieces, lie -/
def envG (locs : List Loc) : Env := fun k => if k < 5 then ⟨k, 0, 1, false⟩ else locs.getD (k - 5) ⟨0, 0, 0, true⟩
theorem gM_ro {W : World} {b o : Nat} {locs : List Loc} {nx : Nat} (hx : 5 < nx) (h3 : W.cell? ⟨3, 0, none⟩ = some (.pointer (some ⟨b, o, none⟩))) (h5 : ∀ j, j < 5 → W.cell? ⟨b, o + j, none⟩ = some (.int .u64 ((one5.getD j 0).toNat : Int))) :
    ∀ k s, find gM k = some s → SegRo (envG (⟨b, o, 5, false⟩ :: locs)) nx k s W := by
  have e3 : envG (⟨b, o, 5, false⟩ :: locs) 3 = ⟨3, 0, 1, false⟩ := rfl
  have e4 : envG (⟨b, o, 5, false⟩ :: locs) 5 = ⟨b, o, 5, false⟩ := rfl
  intro k s hk
  unfold gM at hk
  rw [find_cons, find_cons, find_nil] at hk
  split at hk
  · rename_i hk3
    subst hk3
    cases hk
    refine ⟨rfl, rfl, rfl, rfl, by rw [e3]; exact Nat.le_refl _, fun a => (by rw [e3] at a; cases a), fun j x hx => ?_, by omega, by show ([Sc.p 5 0] : List Sc).all (Sc.lt nx) = true; simp only [List.all_cons, List.all_nil, Bool.and_true]; exact blt_iff.2 hx⟩
    rw [e3]
    match j, hx with
    | 0, hx =>
      cases hx
      show W.cell? ⟨3, 0, none⟩ = some (.pointer (some ⟨(envG (⟨b, o, 5, false⟩ :: locs) 5).blk, (envG (⟨b, o, 5, false⟩ :: locs) 5).off + 0, none⟩))
      rw [e4]
      exact h3
    | j + 1, hx => simp [SegD.scs] at hx
  · split at hk
    · rename_i hk4
      subst hk4
      cases hk
      refine ⟨rfl, rfl, rfl, rfl, by rw [e4]; exact Nat.le_refl _, fun a => (by rw [e4] at a; cases a), fun j x hx => ?_, hx, rfl⟩
      rw [e4]
      have hj : j < 5 := (List.getElem?_eq_some_iff.1 hx).1
      have := h5 j hj
      rw [this]
      have hx' : (one5.map Sc.u64)[j]? = some x := hx
      rw [List.getElem?_map, Option.map_eq_some_iff] at hx'
      obtain ⟨y, hy, rfl⟩ := hx'
      show some (Value.int .u64 ((one5.getD j 0).toNat : Int)) = some (Value.int .u64 (y.toNat : Int))
      rw [List.getD_eq_getElem?_getD, hy]; rfl
    · cases hk
end Go.Sx
