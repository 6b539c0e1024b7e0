/- slices.Clone, laws.same, laws.few. Conditions: none. -/
import Derived.Test.YtnloecdkogckiaaS1
set_option maxRecDepth 1000000
set_option linter.unusedVariables false
namespace Go.Sx
open Go.Proofs

def cloneCt : Ct := ⟨[.slc false], [], fun vs ds gs => match vs, ds, gs with
  | [], [.d8 l], [] => some ⟨.one (.s (.osl (1 + 1) l.length)), [.d8 l], [⟨0, .d8 l, true, true, false⟩], [l.length ≤ 4294967295]⟩
  | _, _, _ => none⟩

theorem clone1 (B : Nat) (l : List (BitVec 8)) (c : Nat) (hl : l.length ≤ 4294967295) : FnE P0 B 1 21 [.one (.s (.sl 1 0 l.length c))] [(1, ⟨l.length, .d8 l, false, false, false⟩)] (1 + 1)
    ⟨.one (.s (.osl (1 + 1) (0 + l.length))), [(1 + 1, ⟨0, .d8 ([] ++ (l.drop 0).take l.length), true, true, false⟩), (1, ⟨l.length, .d8 l, false, false, false⟩)], 1 + 2, .eff, []⟩ := by
  refine FnE.tri (cx := cxb false) (sz := 8) (fn := Try.f21) (c := bodyOf Try.f21) T0ok (by kernel_rfl) (by kernel_rfl) (by kernel_rfl) (by kernel_rfl) (by kernel_rfl) (by kernel_rfl) (by show 1 + 1 ≤ 1 + 2; omega) ?_
  refine Tri.stepR (cx := cxb false) mix T0ok (H0ok B false) 4 0 noOrc [2] [(1, 1), (1 + 2, 1 + 1)] (1 + 2) ⟨[(2, .one (.s (.osl (1 + 1) (0 + l.length))))], [(1, ⟨l.length, .d8 l, false, false, false⟩), (1 + 1, ⟨0, .d8 ([] ++ (l.drop 0).take l.length), true, true, false⟩)], 1 + 2⟩ [0 = ([] : List (BitVec 8)).length ∧ 0 + l.length ≤ l.length ∧ 0 + l.length ≤ 4294967296] (by kernel_rfl) (obCons (by simp; omega) obNil) ?_
  exact Tri.ret (cx := cxb false) mix T0ok (H0ok B false) 0 noOrc [2] [1 + 1, 1] (1 + 2) ⟨[(2, .one (.s (.osl (1 + 1) (0 + l.length))))], [(1 + 1, ⟨0, .d8 ([] ++ (l.drop 0).take l.length), true, true, false⟩), (1, ⟨l.length, .d8 l, false, false, false⟩)], 1 + 2⟩ [] .r (by kernel_rfl) obNil (by kernel_rfl) rfl [1 + 1, 1] [] (by kernel_rfl) obNil

theorem clone0 (B : Nat) (l : List (BitVec 8)) : FnE P0 B 1 21 [.one (.s .sl0)] [(1, ⟨l.length, .d8 l, false, false, false⟩)] (1 + 1)
    ⟨.one (.s .sl0), [(1, ⟨l.length, .d8 l, false, false, false⟩)], 1 + 1, .eff, []⟩ := by
  refine FnE.tri (cx := cxb false) (sz := 8) (fn := Try.f21) (c := bodyOf Try.f21) T0ok (by kernel_rfl) (by kernel_rfl) (by kernel_rfl) (by kernel_rfl) (by kernel_rfl) (by kernel_rfl) (Nat.le_refl _) ?_
  exact Tri.ret (cx := cxb false) mix T0ok (H0ok B false) 0 noOrc [2] [1] (1 + 1) ⟨[(2, .one (.s .sl0))], [(1, ⟨l.length, .d8 l, false, false, false⟩)], 1 + 1⟩ [] .r (by kernel_rfl) obNil (by kernel_rfl) rfl [1] [] (by kernel_rfl) obNil

theorem clone_ok (B : Nat) : cloneCt.Ok P0 B 1 21 := by
  intro vs ds gs out h hpre hn
  unfold cloneCt at h
  dsimp only at h
  split at h <;> first | (cases h; done) | skip
  rename_i l
  cases h
  have hl : l.length ≤ 4294967295 := hpre _ (by simp)
  refine FnE.slice (A := fun x => [.one (.s x)]) (k := 1) (n := l.length) (s := ⟨l.length, .d8 l, false, false, false⟩) (fun x y ρ h => by simp [SV.den, SV0.den, h]) (by kernel_rfl) (Nat.le_refl _) (fun c hc => ?_) (fun h0 => ?_)
  · have := clone1 B l c hl
    rw [Nat.zero_add, List.nil_append, List.drop_zero, List.take_length] at this
    exact this
  · have e : l = [] := List.eq_nil_of_length_eq_zero h0
    subst e
    exact FnE.nilRes (.d8 []) rfl rfl (clone0 B [])

def sameCt : Ct := ⟨[.slc false, .slc false], [], fun vs ds gs => match vs, ds, gs with
  | [], [.d8 a, .d8 b], [] => some ⟨.one (.s (.b (decide (a = b)))), [.d8 a, .d8 b], [], []⟩
  | _, _, _ => none⟩

theorem same1 (B : Nat) (a b : List (BitVec 8)) : FnE P0 B 1 12 [.one (.s (.osl 1 a.length)), .one (.s (.osl (1 + 1) b.length))] [(1, ⟨a.length, .d8 a, false, false, false⟩), (1 + 1, ⟨b.length, .d8 b, false, false, false⟩)] (1 + 2)
    ⟨.one (.s (.b (decide ((a.drop 0).take a.length = (b.drop 0).take b.length)))), [(1, ⟨a.length, .d8 a, false, false, false⟩), (1 + 1, ⟨b.length, .d8 b, false, false, false⟩)], 1 + 2, .eff, []⟩ := by
  refine FnE.tri (cx := cxb false) (sz := 10) (fn := Try.f12) (c := bodyOf Try.f12) T0ok (by kernel_rfl) (by kernel_rfl) (by kernel_rfl) (by kernel_rfl) (by kernel_rfl) (by kernel_rfl) (Nat.le_refl _) ?_
  exact Tri.ret (cx := cxb false) mix T0ok (H0ok B false) 0 noOrc [4] [1, 1 + 1] (1 + 2) ⟨[(4, .one (.s (.b (decide ((a.drop 0).take a.length = (b.drop 0).take b.length)))))], [(1, ⟨a.length, .d8 a, false, false, false⟩), (1 + 1, ⟨b.length, .d8 b, false, false, false⟩)], 1 + 2⟩ [0 + a.length ≤ a.length, 0 + b.length ≤ b.length] .r (by kernel_rfl) (obCons (by omega) <| obCons (by omega) obNil) (by kernel_rfl) rfl [1, 1 + 1] [] (by kernel_rfl) obNil

theorem same_ok (B : Nat) : sameCt.Ok P0 B 1 12 := by
  intro vs ds gs out h hpre hn
  unfold sameCt at h
  dsimp only at h
  split at h <;> first | (cases h; done) | skip
  rename_i a b
  cases h
  have := same1 B a b
  rw [List.drop_zero, List.drop_zero, List.take_length, List.take_length] at this
  exact this

/-- few: of one slice, or of two: which way its tests go -/
def few1Orc (b : Bool) : Orc := fun _ d => bif Nat.beq d 16 then some (!b) else none
noncomputable def inFew1 (b : Bool) : In := ⟨Try.f8, bodyOf Try.f8, 3, .read, few1Orc b⟩
theorem ioFew1 (b : Bool) : InOk P0 8 (inFew1 b) := ⟨by kernel_rfl, by kernel_rfl, by kernel_rfl⟩

end Go.Sx
