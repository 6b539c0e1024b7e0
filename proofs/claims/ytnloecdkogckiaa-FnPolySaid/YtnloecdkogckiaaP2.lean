/- spec.digits, spec.lowered. Conditions: none. -/
import Derived.Test.YtnloecdkogckiaaP1
set_option maxRecDepth 1000000
set_option linter.unusedVariables false
namespace Go.Sx
open Go.Proofs

/-- bytes as nine digits, with a one behind them -/
def digL (l : List (BitVec 8)) : List (BitVec 64) := lit 0 9 (d16 (l ++ [1#8]))
def digM (n : Nat) (b : List (BitVec 8)) : Mem := [(1, ⟨n, .d8 (lit 0 n b), false, false, false⟩)]
def digE (n : Nat) (b : List (BitVec 8)) : Ef := ⟨.one (.ag [.d64 (digL (lit 0 n b))]), digM n b, 1 + 1, .eff, []⟩
def digSt (n : Nat) (b : List (BitVec 8)) : St := ⟨[(2, .one (.s (.p (1 + 1) 0)))], [(1, ⟨n, .d8 (lit 0 n b), false, false, false⟩), (1 + 1, ⟨9, .d64 (digL (lit 0 n b)), true, false, false⟩)], 1 + 3⟩

theorem dig0 (B : Nat) (b : List (BitVec 8)) : FnE P0 B 1 17 [.one (.s (.osl 1 0))] (digM 0 b) (1 + 1) (digE 0 b) := by
  refine FnE.tri (cx := cxb true) (sz := 34) (fn := Try.f17) (c := bodyOf Try.f17) T0ok (by kernel_rfl) (by kernel_rfl) (by kernel_rfl) (by kernel_rfl) (by kernel_rfl) (by kernel_rfl) (Nat.le_refl _) ?_
  exact Tri.ret (cx := cxb true) mix T0ok (H0ok B true) 2 noOrc [2] [1, 1 + 1] (1 + 3) (digSt 0 b) [] .r (by kernel_rfl) obNil (by kernel_rfl) rfl [1] [] (by kernel_rfl) obNil

theorem dig1 (B : Nat) (b : List (BitVec 8)) : FnE P0 B 1 17 [.one (.s (.osl 1 1))] (digM 1 b) (1 + 1) (digE 1 b) := by
  refine FnE.tri (cx := cxb true) (sz := 34) (fn := Try.f17) (c := bodyOf Try.f17) T0ok (by kernel_rfl) (by kernel_rfl) (by kernel_rfl) (by kernel_rfl) (by kernel_rfl) (by kernel_rfl) (Nat.le_refl _) ?_
  exact Tri.ret (cx := cxb true) mix T0ok (H0ok B true) 3 noOrc [2] [1, 1 + 1] (1 + 3) (digSt 1 b) [] .r (by kernel_rfl) obNil (by kernel_rfl) rfl [1] [] (by kernel_rfl) obNil

theorem dig2 (B : Nat) (b : List (BitVec 8)) : FnE P0 B 1 17 [.one (.s (.osl 1 2))] (digM 2 b) (1 + 1) (digE 2 b) := by
  refine FnE.tri (cx := cxb true) (sz := 34) (fn := Try.f17) (c := bodyOf Try.f17) T0ok (by kernel_rfl) (by kernel_rfl) (by kernel_rfl) (by kernel_rfl) (by kernel_rfl) (by kernel_rfl) (Nat.le_refl _) ?_
  exact Tri.ret (cx := cxb true) mix T0ok (H0ok B true) 4 noOrc [2] [1, 1 + 1] (1 + 3) (digSt 2 b) [] .r (by kernel_rfl) obNil (by kernel_rfl) rfl [1] [] (by kernel_rfl) obNil

theorem dig3 (B : Nat) (b : List (BitVec 8)) : FnE P0 B 1 17 [.one (.s (.osl 1 3))] (digM 3 b) (1 + 1) (digE 3 b) := by
  refine FnE.tri (cx := cxb true) (sz := 34) (fn := Try.f17) (c := bodyOf Try.f17) T0ok (by kernel_rfl) (by kernel_rfl) (by kernel_rfl) (by kernel_rfl) (by kernel_rfl) (by kernel_rfl) (Nat.le_refl _) ?_
  exact Tri.ret (cx := cxb true) mix T0ok (H0ok B true) 5 noOrc [2] [1, 1 + 1] (1 + 3) (digSt 3 b) [] .r (by kernel_rfl) obNil (by kernel_rfl) rfl [1] [] (by kernel_rfl) obNil

theorem dig4 (B : Nat) (b : List (BitVec 8)) : FnE P0 B 1 17 [.one (.s (.osl 1 4))] (digM 4 b) (1 + 1) (digE 4 b) := by
  refine FnE.tri (cx := cxb true) (sz := 34) (fn := Try.f17) (c := bodyOf Try.f17) T0ok (by kernel_rfl) (by kernel_rfl) (by kernel_rfl) (by kernel_rfl) (by kernel_rfl) (by kernel_rfl) (Nat.le_refl _) ?_
  exact Tri.ret (cx := cxb true) mix T0ok (H0ok B true) 6 noOrc [2] [1, 1 + 1] (1 + 3) (digSt 4 b) [] .r (by kernel_rfl) obNil (by kernel_rfl) rfl [1] [] (by kernel_rfl) obNil

theorem dig5 (B : Nat) (b : List (BitVec 8)) : FnE P0 B 1 17 [.one (.s (.osl 1 5))] (digM 5 b) (1 + 1) (digE 5 b) := by
  refine FnE.tri (cx := cxb true) (sz := 34) (fn := Try.f17) (c := bodyOf Try.f17) T0ok (by kernel_rfl) (by kernel_rfl) (by kernel_rfl) (by kernel_rfl) (by kernel_rfl) (by kernel_rfl) (Nat.le_refl _) ?_
  exact Tri.ret (cx := cxb true) mix T0ok (H0ok B true) 7 noOrc [2] [1, 1 + 1] (1 + 3) (digSt 5 b) [] .r (by kernel_rfl) obNil (by kernel_rfl) rfl [1] [] (by kernel_rfl) obNil

theorem dig6 (B : Nat) (b : List (BitVec 8)) : FnE P0 B 1 17 [.one (.s (.osl 1 6))] (digM 6 b) (1 + 1) (digE 6 b) := by
  refine FnE.tri (cx := cxb true) (sz := 34) (fn := Try.f17) (c := bodyOf Try.f17) T0ok (by kernel_rfl) (by kernel_rfl) (by kernel_rfl) (by kernel_rfl) (by kernel_rfl) (by kernel_rfl) (Nat.le_refl _) ?_
  exact Tri.ret (cx := cxb true) mix T0ok (H0ok B true) 8 noOrc [2] [1, 1 + 1] (1 + 3) (digSt 6 b) [] .r (by kernel_rfl) obNil (by kernel_rfl) rfl [1] [] (by kernel_rfl) obNil

theorem dig7 (B : Nat) (b : List (BitVec 8)) : FnE P0 B 1 17 [.one (.s (.osl 1 7))] (digM 7 b) (1 + 1) (digE 7 b) := by
  refine FnE.tri (cx := cxb true) (sz := 34) (fn := Try.f17) (c := bodyOf Try.f17) T0ok (by kernel_rfl) (by kernel_rfl) (by kernel_rfl) (by kernel_rfl) (by kernel_rfl) (by kernel_rfl) (Nat.le_refl _) ?_
  exact Tri.ret (cx := cxb true) mix T0ok (H0ok B true) 9 noOrc [2] [1, 1 + 1] (1 + 3) (digSt 7 b) [] .r (by kernel_rfl) obNil (by kernel_rfl) rfl [1] [] (by kernel_rfl) obNil

theorem dig8 (B : Nat) (b : List (BitVec 8)) : FnE P0 B 1 17 [.one (.s (.osl 1 8))] (digM 8 b) (1 + 1) (digE 8 b) := by
  refine FnE.tri (cx := cxb true) (sz := 34) (fn := Try.f17) (c := bodyOf Try.f17) T0ok (by kernel_rfl) (by kernel_rfl) (by kernel_rfl) (by kernel_rfl) (by kernel_rfl) (by kernel_rfl) (Nat.le_refl _) ?_
  exact Tri.ret (cx := cxb true) mix T0ok (H0ok B true) 10 noOrc [2] [1, 1 + 1] (1 + 3) (digSt 8 b) [] .r (by kernel_rfl) obNil (by kernel_rfl) rfl [1] [] (by kernel_rfl) obNil

theorem dig9 (B : Nat) (b : List (BitVec 8)) : FnE P0 B 1 17 [.one (.s (.osl 1 9))] (digM 9 b) (1 + 1) (digE 9 b) := by
  refine FnE.tri (cx := cxb true) (sz := 34) (fn := Try.f17) (c := bodyOf Try.f17) T0ok (by kernel_rfl) (by kernel_rfl) (by kernel_rfl) (by kernel_rfl) (by kernel_rfl) (by kernel_rfl) (Nat.le_refl _) ?_
  exact Tri.ret (cx := cxb true) mix T0ok (H0ok B true) 11 noOrc [2] [1, 1 + 1] (1 + 3) (digSt 9 b) [] .r (by kernel_rfl) obNil (by kernel_rfl) rfl [1] [] (by kernel_rfl) obNil

theorem dig10 (B : Nat) (b : List (BitVec 8)) : FnE P0 B 1 17 [.one (.s (.osl 1 10))] (digM 10 b) (1 + 1) (digE 10 b) := by
  refine FnE.tri (cx := cxb true) (sz := 34) (fn := Try.f17) (c := bodyOf Try.f17) T0ok (by kernel_rfl) (by kernel_rfl) (by kernel_rfl) (by kernel_rfl) (by kernel_rfl) (by kernel_rfl) (Nat.le_refl _) ?_
  exact Tri.ret (cx := cxb true) mix T0ok (H0ok B true) 12 noOrc [2] [1, 1 + 1] (1 + 3) (digSt 10 b) [] .r (by kernel_rfl) obNil (by kernel_rfl) rfl [1] [] (by kernel_rfl) obNil

theorem dig11 (B : Nat) (b : List (BitVec 8)) : FnE P0 B 1 17 [.one (.s (.osl 1 11))] (digM 11 b) (1 + 1) (digE 11 b) := by
  refine FnE.tri (cx := cxb true) (sz := 34) (fn := Try.f17) (c := bodyOf Try.f17) T0ok (by kernel_rfl) (by kernel_rfl) (by kernel_rfl) (by kernel_rfl) (by kernel_rfl) (by kernel_rfl) (Nat.le_refl _) ?_
  exact Tri.ret (cx := cxb true) mix T0ok (H0ok B true) 13 noOrc [2] [1, 1 + 1] (1 + 3) (digSt 11 b) [] .r (by kernel_rfl) obNil (by kernel_rfl) rfl [1] [] (by kernel_rfl) obNil

theorem dig12 (B : Nat) (b : List (BitVec 8)) : FnE P0 B 1 17 [.one (.s (.osl 1 12))] (digM 12 b) (1 + 1) (digE 12 b) := by
  refine FnE.tri (cx := cxb true) (sz := 34) (fn := Try.f17) (c := bodyOf Try.f17) T0ok (by kernel_rfl) (by kernel_rfl) (by kernel_rfl) (by kernel_rfl) (by kernel_rfl) (by kernel_rfl) (Nat.le_refl _) ?_
  exact Tri.ret (cx := cxb true) mix T0ok (H0ok B true) 14 noOrc [2] [1, 1 + 1] (1 + 3) (digSt 12 b) [] .r (by kernel_rfl) obNil (by kernel_rfl) rfl [1] [] (by kernel_rfl) obNil

theorem dig13 (B : Nat) (b : List (BitVec 8)) : FnE P0 B 1 17 [.one (.s (.osl 1 13))] (digM 13 b) (1 + 1) (digE 13 b) := by
  refine FnE.tri (cx := cxb true) (sz := 34) (fn := Try.f17) (c := bodyOf Try.f17) T0ok (by kernel_rfl) (by kernel_rfl) (by kernel_rfl) (by kernel_rfl) (by kernel_rfl) (by kernel_rfl) (Nat.le_refl _) ?_
  exact Tri.ret (cx := cxb true) mix T0ok (H0ok B true) 15 noOrc [2] [1, 1 + 1] (1 + 3) (digSt 13 b) [] .r (by kernel_rfl) obNil (by kernel_rfl) rfl [1] [] (by kernel_rfl) obNil

theorem dig14 (B : Nat) (b : List (BitVec 8)) : FnE P0 B 1 17 [.one (.s (.osl 1 14))] (digM 14 b) (1 + 1) (digE 14 b) := by
  refine FnE.tri (cx := cxb true) (sz := 34) (fn := Try.f17) (c := bodyOf Try.f17) T0ok (by kernel_rfl) (by kernel_rfl) (by kernel_rfl) (by kernel_rfl) (by kernel_rfl) (by kernel_rfl) (Nat.le_refl _) ?_
  exact Tri.ret (cx := cxb true) mix T0ok (H0ok B true) 16 noOrc [2] [1, 1 + 1] (1 + 3) (digSt 14 b) [] .r (by kernel_rfl) obNil (by kernel_rfl) rfl [1] [] (by kernel_rfl) obNil

theorem dig15 (B : Nat) (b : List (BitVec 8)) : FnE P0 B 1 17 [.one (.s (.osl 1 15))] (digM 15 b) (1 + 1) (digE 15 b) := by
  refine FnE.tri (cx := cxb true) (sz := 34) (fn := Try.f17) (c := bodyOf Try.f17) T0ok (by kernel_rfl) (by kernel_rfl) (by kernel_rfl) (by kernel_rfl) (by kernel_rfl) (by kernel_rfl) (Nat.le_refl _) ?_
  exact Tri.ret (cx := cxb true) mix T0ok (H0ok B true) 17 noOrc [2] [1, 1 + 1] (1 + 3) (digSt 15 b) [] .r (by kernel_rfl) obNil (by kernel_rfl) rfl [1] [] (by kernel_rfl) obNil

theorem dig16 (B : Nat) (b : List (BitVec 8)) : FnE P0 B 1 17 [.one (.s (.osl 1 16))] (digM 16 b) (1 + 1) (digE 16 b) := by
  refine FnE.tri (cx := cxb true) (sz := 34) (fn := Try.f17) (c := bodyOf Try.f17) T0ok (by kernel_rfl) (by kernel_rfl) (by kernel_rfl) (by kernel_rfl) (by kernel_rfl) (by kernel_rfl) (Nat.le_refl _) ?_
  exact Tri.ret (cx := cxb true) mix T0ok (H0ok B true) 18 noOrc [2] [1, 1 + 1] (1 + 3) (digSt 16 b) [] .r (by kernel_rfl) obNil (by kernel_rfl) rfl [1] [] (by kernel_rfl) obNil

theorem digAll (B : Nat) : ∀ (n : Nat), n ≤ 16 → ∀ b : List (BitVec 8), FnE P0 B 1 17 [.one (.s (.osl 1 n))] (digM n b) (1 + 1) (digE n b)
  | 0, _ => dig0 B
  | 1, _ => dig1 B
  | 2, _ => dig2 B
  | 3, _ => dig3 B
  | 4, _ => dig4 B
  | 5, _ => dig5 B
  | 6, _ => dig6 B
  | 7, _ => dig7 B
  | 8, _ => dig8 B
  | 9, _ => dig9 B
  | 10, _ => dig10 B
  | 11, _ => dig11 B
  | 12, _ => dig12 B
  | 13, _ => dig13 B
  | 14, _ => dig14 B
  | 15, _ => dig15 B
  | 16, _ => dig16 B
  | n + 17, h => by omega

theorem d16_length : ∀ l, (d16 l).length = (l.length + 1) / 2
  | [] => rfl
  | [x] => by simp [d16]
  | x :: y :: r => by simp only [d16, List.length_cons, d16_length r]; omega

theorem lit_getD {α : Type} {z : α} {n : Nat} {l : List α} (i : Nat) : (lit z n l)[i]? = if i < n then some (l.getD i z) else none := by
  unfold lit
  rw [List.getElem?_map]
  split
  · rename_i h; rw [List.getElem?_range h]; rfl
  · rename_i h; rw [List.getElem?_eq_none (by simpa using h)]; rfl

theorem val_zeros : ∀ n, val (List.replicate n 0#64) = 0
  | 0 => rfl
  | n + 1 => by simp [List.replicate_succ, val, val_zeros n]
theorem val_app : ∀ (a b : List (BitVec 64)), val (a ++ b) = val a + 65536 ^ a.length * val b
  | [], b => by simp [val]
  | x :: a, b => by
    simp only [List.cons_append, val, val_app a b, List.length_cons, Nat.pow_succ]
    rw [Nat.mul_add, ← Nat.mul_assoc, Nat.mul_comm 65536 (65536 ^ a.length)]
    omega
theorem lit_pad {n : Nat} {l : List (BitVec 64)} (h : l.length ≤ n) : lit 0 n l = l ++ List.replicate (n - l.length) 0#64 := by
  apply List.ext_getElem?
  intro i
  rw [lit_getD, List.getElem?_append, List.getElem?_replicate]
  rcases Nat.lt_or_ge i l.length with h1 | h1
  · rw [if_pos (show i < n by omega), if_pos h1]; simp [List.getD, h1]
  · rw [if_neg (show ¬ i < l.length by omega)]
    by_cases h2 : i < n
    · rw [if_pos h2, if_pos (show i - l.length < n - l.length by omega)]; simp [List.getD, List.getElem?_eq_none h1]
    · rw [if_neg h2, if_neg (show ¬ i - l.length < n - l.length by omega)]

theorem digL_eq (b : List (BitVec 8)) (h : b.length ≤ 16) : digL b = digs 9 (leN b + 256 ^ b.length) := by
  have hs := d16_spec (b ++ [1#8])
  have hl : (d16 (b ++ [1#8])).length ≤ 9 := by rw [d16_length]; simp; omega
  have hn : leN (b ++ [1#8]) = leN b + 256 ^ b.length := by rw [leN_append]; simp [leN]
  have hp : digL b = d16 (b ++ [1#8]) ++ List.replicate (9 - (d16 (b ++ [1#8])).length) 0#64 := lit_pad hl
  have hv : val (digL b) = leN b + 256 ^ b.length := by rw [hp, val_app, val_zeros, hs.1, hn]; simp
  have hd : ∀ x ∈ digL b, x.toNat < 65536 := by
    intro x hx
    rw [hp, List.mem_append] at hx
    rcases hx with hx | hx
    · exact hs.2 x hx
    · rw [(List.mem_replicate.1 hx).2]; decide
  have := digs_val (digL b) hd
  rw [hv, show (digL b).length = 9 from lit_length _ _ _] at this
  exact this.symm

def digCt : Ct := ⟨[.slc false], [], fun vs ds gs => match vs, ds, gs with
  | [], [.d8 b], [] => some ⟨.one (.ag [.d64 (lit 0 9 (digs 9 (leN b + 256 ^ b.length)))]), [.d8 b], [], [b.length ≤ 16]⟩
  | _, _, _ => none⟩

theorem digits_ok (B : Nat) : digCt.Ok P0 B 1 17 := by
  intro vs ds gs out h hpre hn
  unfold digCt at h
  dsimp only at h
  split at h <;> first | (cases h; done) | skip
  rename_i b
  cases h
  have hl : b.length ≤ 16 := hpre _ (by simp)
  have := digAll B b.length hl b
  unfold digE digM at this
  rw [lit_eq rfl, digL_eq b hl] at this
  rw [lit_eq (digs_length _ _)]
  exact this

noncomputable def HLw (c : Bool) : Hook := hookC 18 (hookOf (cxb c) settledCt) (H0 c)
theorem HLwok (B : Nat) (c : Bool) : HookOk P0 B 1 (HLw c) := .cons (.ct (cx := cxb c) (settled_ok B)) (H0ok B c)
/-- what is settled -/
def loX (p : List (BitVec 64)) : List (BitVec 64) := low5 (pass 0#64 (lit 0 18 p)).1

theorem loX_spec (p : List (BitVec 64)) (hl : p.length = 18) (hb : ∀ y ∈ p, y.toNat < 2 ^ 60) (hv : val p < 2 ^ 274) : val (loX p) % P130 = val p % P130 ∧ ∀ y ∈ loX p, y.toNat < 2 ^ 60 := by
  unfold loX
  rw [lit_eq hl]
  have h1 := (pass_eq p 0#64 (by decide) (fun x hx => by have := hb x hx; omega)).1
  rw [hl, show (0#64).toNat = 0 from rfl, Nat.zero_add] at h1
  obtain ⟨h2, h3, h4⟩ := low5_spec (val p) hv
  rw [h1]
  exact ⟨by rw [h2, settle_mod], fun y hy => by have := h4 y hy; omega⟩

theorem lowered1 (B : Nat) (p : List (BitVec 64)) (hb : ∀ y ∈ loX p, y.toNat < 2 ^ 60) : FnE P0 B 1 19 [.one (.ag [.d64 (lit 0 18 p)])] [] 1 ⟨.one (.ag [.d64 (lit 0 9 (digs 9 (val (loX p) % P130)))]), [], 1, .eff, []⟩ := by
  refine FnE.tri (cx := cxb true) (sz := 67) (fn := Try.f19) (c := bodyOf Try.f19) T0ok (by kernel_rfl) (by kernel_rfl) (by kernel_rfl) (by kernel_rfl) (by kernel_rfl) (by kernel_rfl) (Nat.le_refl _) ?_
  exact Tri.ret (cx := cxb true) mix T0ok (HLwok B true) 20 noOrc [2] [1 + 1] (1 + 3) ⟨[(2, .one (.s (.p (1 + 1) 0)))], [(1 + 1, ⟨9, .d64 (lit 0 9 (digs 9 (val (loX p) % P130))), true, false, false⟩)], 1 + 3⟩ [∀ y ∈ loX p, y.toNat < 2 ^ 60] .r (by kernel_rfl) (obCons hb obNil) (by kernel_rfl) rfl [] [] (by kernel_rfl) obNil

/-- 2^274 -/
def LIM274 : Nat := 2 ^ 274
def loweredCt : Ct := ⟨[.val], [], fun vs ds gs => match vs, ds, gs with
  | [.one (.ag [.d64 p])], [], [] => bif Nat.beq p.length 18 then some ⟨.one (.ag [.d64 (lit 0 9 (digs 9 (val p % P130)))]), [], [], [∀ y ∈ p, y.toNat < 2 ^ 60, val p < LIM274]⟩ else none
  | _, _, _ => none⟩

theorem lowered_ok (B : Nat) : loweredCt.Ok P0 B 1 19 := by
  intro vs ds gs out h hpre hn
  unfold loweredCt at h
  dsimp only at h
  split at h <;> first | (cases h; done) | skip
  rename_i p
  cases hb : Nat.beq p.length 18 with
  | false => rw [hb] at h; cases h
  | true =>
    rw [hb, cond_true] at h
    cases h
    have hl := Nat.eq_of_beq_eq_true hb
    have hlim : val p < LIM274 := hpre _ (List.mem_cons_of_mem _ List.mem_cons_self)
    unfold LIM274 at hlim
    obtain ⟨h1, h2⟩ := loX_spec p hl (hpre _ (by simp)) hlim
    have := lowered1 B p h2
    rw [lit_eq hl, h1] at this
    exact this
end Go.Sx
