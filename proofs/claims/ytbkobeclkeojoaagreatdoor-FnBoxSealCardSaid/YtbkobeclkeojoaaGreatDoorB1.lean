/- x25519ScalarMult at any place. box.Precompute, walked into. Conditions: none. -/
import Derived.Test.YtbkobeclkeojoaaGreatDoorF7c
import Derived.Test.YtbkobeclkeojoaaGreatDoorSx37
import Derived.Test.YtbkobeclkeojoaaGreatDoorG1
set_option maxRecDepth 1000000
set_option linter.unusedVariables false
namespace Go.Sx
open Go.Proofs
def smσ (kd ks kp k : Nat) : Nat := if k = 2 + 1 then ks else if k = 2 + 2 then kp else if k = 2 + 3 then kd else k
def smfx (k : Nat) : Bool := Nat.beq k 1 || Nat.beq k 2
def segF : Seg := ⟨1, .dc [.p 2 0], false, false, false⟩
theorem smfx_iff {k : Nat} : smfx k = true ↔ k = 1 ∨ k = 2 := by
  unfold smfx
  rw [Bool.or_eq_true]
  exact ⟨fun h => h.imp Nat.eq_of_beq_eq_true Nat.eq_of_beq_eq_true, fun h => h.imp (fun e => by rw [e]; rfl) (fun e => by rw [e]; rfl)⟩
theorem smBase_find {s p d : List (BitVec 8)} {k : Nat} {t : Seg} (h : find (smBase s p d) k = some t) : (k = 2 + 1 ∧ t = sg8 (lit 0 32 s) true) ∨ (k = 2 + 2 ∧ t = sg8 (lit 0 32 p) true) ∨ (k = 2 + 3 ∧ t = sg8 (lit 0 32 d) true) ∨ (k = 1 ∧ t = segF) ∨ (k = 2 ∧ t = sgr one5 false) := by
  unfold smBase gM at h
  simp only [List.cons_append, List.nil_append] at h
  rw [find_cons, find_cons, find_cons, find_cons, find_cons] at h
  split at h
  · rename_i e; cases h; exact .inl ⟨e.symm, rfl⟩
  split at h
  · rename_i e; cases h; exact .inr (.inl ⟨e.symm, rfl⟩)
  split at h
  · rename_i e; cases h; exact .inr (.inr (.inl ⟨e.symm, rfl⟩))
  split at h
  · rename_i e; cases h; exact .inr (.inr (.inr (.inl ⟨e.symm, rfl⟩)))
  split at h
  · rename_i e; cases h; exact .inr (.inr (.inr (.inr ⟨e.symm, rfl⟩)))
  · cases h
theorem smσ1 (kd ks kp : Nat) : smσ kd ks kp (2 + 1) = ks := rfl
theorem smσ2 (kd ks kp : Nat) : smσ kd ks kp (2 + 2) = kp := rfl
theorem smσ3 (kd ks kp : Nat) : smσ kd ks kp (2 + 3) = kd := rfl
theorem smσG (kd ks kp : Nat) : smσ kd ks kp 2 = 2 := rfl
theorem smσF (kd ks kp : Nat) : smσ kd ks kp 1 = 1 := rfl
theorem smPlace {M : Mem} {NX kd ks kp : Nat} {s p d r : List (BitVec 8)} (hF : find M 1 = some segF) (hG : find M 2 = some (sgr one5 false)) (hd : find M kd = some (sg8 (lit 0 32 d) true)) (hs : find M ks = some (sg8 (lit 0 32 s) true)) (hp : find M kp = some (sg8 (lit 0 32 p) true))
    (n1 : kd ≠ ks) (n2 : kd ≠ kp) (n3 : ks ≠ kp) (nG : 2 < NX) : Place 2 (smσ kd ks kp) smfx (smBase s p d) (smBase s p r) (2 + 4) M ((kd, sg8 (lit 0 32 r) true) :: delM M kd) NX := by
  have g1 : kd ≠ 1 := fun e => by rw [e, hF] at hd; cases hd
  have g2 : ks ≠ 1 := fun e => by rw [e, hF] at hs; cases hs
  have g3 : kp ≠ 1 := fun e => by rw [e, hF] at hp; cases hp
  have g4 : kd ≠ 2 := fun e => by rw [e, hG] at hd; cases hd
  have g5 : ks ≠ 2 := fun e => by rw [e, hG] at hs; cases hs
  have g6 : kp ≠ 2 := fun e => by rw [e, hG] at hp; cases hp
  refine ⟨fun k hk => ?_, fun k hk => ?_, by omega, fun k t hk => ?_, fun k k' t t' hk hk' hne => ?_, fun k t hk => ?_, fun q t hq => ?_⟩
  · unfold smσ; rw [if_neg (by omega), if_neg (by omega), if_neg (by omega)]
  · rcases smfx_iff.1 hk with rfl | rfl
    · exact ⟨rfl, by omega, by omega⟩
    · exact ⟨rfl, by omega, nG⟩
  · rcases smBase_find hk with ⟨rfl, rfl⟩ | ⟨rfl, rfl⟩ | ⟨rfl, rfl⟩ | ⟨rfl, rfl⟩ | ⟨rfl, rfl⟩
    · exact ⟨by omega, by rw [smσ1]; exact hs, rfl, rfl⟩
    · exact ⟨by omega, by rw [smσ2]; exact hp, rfl, rfl⟩
    · exact ⟨by omega, by rw [smσ3]; exact hd, rfl, rfl⟩
    · exact ⟨by omega, by rw [smσF]; exact hF, rfl, rfl⟩
    · exact ⟨by omega, by rw [smσG]; exact hG, rfl, rfl⟩
  · rcases smBase_find hk with ⟨rfl, rfl⟩ | ⟨rfl, rfl⟩ | ⟨rfl, rfl⟩ | ⟨rfl, rfl⟩ | ⟨rfl, rfl⟩ <;> rcases smBase_find hk' with ⟨rfl, rfl⟩ | ⟨rfl, rfl⟩ | ⟨rfl, rfl⟩ | ⟨rfl, rfl⟩ | ⟨rfl, rfl⟩ <;> simp only [smσ1, smσ2, smσ3, smσG, smσF] <;> omega
  · rcases smBase_find hk with ⟨rfl, rfl⟩ | ⟨rfl, rfl⟩ | ⟨rfl, rfl⟩ | ⟨rfl, rfl⟩ | ⟨rfl, rfl⟩
    · exact ⟨sg8 (lit 0 32 s) true, rfl, ⟨rfl, rfl, rfl, rfl, rfl, rfl, rfl⟩, rfl⟩
    · exact ⟨sg8 (lit 0 32 p) true, rfl, ⟨rfl, rfl, rfl, rfl, rfl, rfl, rfl⟩, rfl⟩
    · exact ⟨sg8 (lit 0 32 d) true, rfl, ⟨rfl, rfl, rfl, rfl, rfl, rfl, rfl⟩, rfl⟩
    · exact ⟨segF, rfl, ⟨rfl, rfl, rfl, rfl, rfl, rfl, rfl⟩, rfl⟩
    · exact ⟨sgr one5 false, rfl, ⟨rfl, rfl, rfl, rfl, rfl, rfl, rfl⟩, rfl⟩
  · rw [find_cons] at hq
    by_cases e : kd = q
    · rw [if_pos e] at hq
      cases hq
      exact .inl ⟨2 + 3, by rw [smσ3, e], rfl⟩
    · rw [if_neg e, find_delM, if_neg (Ne.symm e)] at hq
      by_cases e1 : q = ks
      · subst e1
        rw [hs] at hq; cases hq
        exact .inl ⟨2 + 1, rfl, rfl⟩
      by_cases e2 : q = kp
      · subst e2
        rw [hp] at hq; cases hq
        exact .inl ⟨2 + 2, rfl, rfl⟩
      by_cases e3 : q = 1
      · subst e3
        rw [hF] at hq; cases hq
        exact .inl ⟨1, rfl, rfl⟩
      by_cases e4 : q = 2
      · subst e4
        rw [hG] at hq; cases hq
        exact .inl ⟨2, rfl, rfl⟩
      refine .inr ⟨fun k t hk => ?_, hq⟩
      rcases smBase_find hk with ⟨rfl, rfl⟩ | ⟨rfl, rfl⟩ | ⟨rfl, rfl⟩ | ⟨rfl, rfl⟩ | ⟨rfl, rfl⟩
      · rw [smσ1]; exact e1
      · rw [smσ2]; exact e2
      · rw [smσ3]; exact Ne.symm e
      · rw [smσF]; exact e3
      · rw [smσG]; exact e4
/-- the ladder at any place: what is written, the scalar, the point -/
def hookSm (args : List SV) (M : Mem) (NX : Nat) : Option Ef := match args with
  | [.one (.s (.sl kd od ld cd)), .one (.s (.sl ks os ls cs)), .one (.s (.sl kp op lp cp))] => match find M kd, find M ks, find M kp with
    | some sd, some ss, some sp => match sd.d, ss.d, sp.d with
      | .d8 d, .d8 s, .d8 p => bif (Nat.beq od 0 && (Nat.beq ld 32 && Nat.beq cd 32)) && ((Nat.beq os 0 && (Nat.beq ls 32 && Nat.beq cs 32)) && ((Nat.beq op 0 && (Nat.beq lp 32 && Nat.beq cp 32)) && ((Nat.beq d.length 32 && (Nat.beq s.length 32 && Nat.beq p.length 32)) && ((!Nat.beq kd ks && (!Nat.beq kd kp && !Nat.beq ks kp)) && Nat.blt 2 NX))))
        then some ⟨.tup [], (kd, sg8 (lit 0 32 (smF s p)) true) :: delM M kd, NX, .eff, [find M 1 = some segF, find M 2 = some (sgr one5 false), sd = sg8 d true, ss = sg8 s true, sp = sg8 p true]⟩ else none
      | _, _, _ => none
    | _, _, _ => none
  | _ => none
theorem neb {a b : Nat} (h : (!Nat.beq a b) = true) : a ≠ b := fun e => by subst e; rw [Nat.beq_refl] at h; cases h
theorem smPl_ok (B : Nat) : HkOk P0 B 2 61 hookSm := by
  intro args M NX e he hob ha
  unfold hookSm at he
  split at he <;> first | (cases he; done) | skip
  rename_i kd od ld cd ks os ls cs kp op lp cp
  split at he <;> first | (cases he; done) | skip
  rename_i sd ss sp hd hs hp
  split at he <;> first | (cases he; done) | skip
  rename_i d s p ed es ep
  generalize hb : ((Nat.beq od 0 && (Nat.beq ld 32 && Nat.beq cd 32)) && ((Nat.beq os 0 && (Nat.beq ls 32 && Nat.beq cs 32)) && ((Nat.beq op 0 && (Nat.beq lp 32 && Nat.beq cp 32)) && ((Nat.beq d.length 32 && (Nat.beq s.length 32 && Nat.beq p.length 32)) && ((!Nat.beq kd ks && (!Nat.beq kd kp && !Nat.beq ks kp)) && Nat.blt 2 NX))))) = b at he
  cases b with
  | false => cases he
  | true =>
    rw [cond_true] at he
    cases he
    simp only [Bool.and_eq_true] at hb
    obtain ⟨⟨a1, a2, a3⟩, ⟨b1, b2, b3⟩, ⟨c1, c2, c3⟩, ⟨d1, d2, d3⟩, ⟨n1, n2, n3⟩, nG⟩ := hb
    have hF : find M 1 = some segF := hob _ (by simp)
    have hG : find M 2 = some (sgr one5 false) := hob _ (by simp)
    have o1 : sd = sg8 d true := hob _ (by simp)
    have o2 : ss = sg8 s true := hob _ (by simp)
    have o3 : sp = sg8 p true := hob _ (by simp)
    have ld' := Nat.eq_of_beq_eq_true d1
    have ls' := Nat.eq_of_beq_eq_true d2
    have lp' := Nat.eq_of_beq_eq_true d3
    rw [o1, ← lit_eq (z := 0) ld'] at hd
    rw [o2, ← lit_eq (z := 0) ls'] at hs
    rw [o3, ← lit_eq (z := 0) lp'] at hp
    have pl := smPlace (r := smF s p) (d := d) (NX := NX) hF hG hd hs hp (neb n1) (neb n2) (neb n3) (blt_iff.1 nG)
    have e1 := Nat.eq_of_beq_eq_true a1
    have e2 := Nat.eq_of_beq_eq_true a2
    have e3 := Nat.eq_of_beq_eq_true a3
    have e4 := Nat.eq_of_beq_eq_true b1
    have e5 := Nat.eq_of_beq_eq_true b2
    have e6 := Nat.eq_of_beq_eq_true b3
    have e7 := Nat.eq_of_beq_eq_true c1
    have e8 := Nat.eq_of_beq_eq_true c2
    have e9 := Nat.eq_of_beq_eq_true c3
    subst e1 e2 e3 e4 e5 e6 e7 e8 e9
    exact ⟨⟨rfl, .inl (FnE.place (smRunA B d s p ls' lp') pl rfl fun ρ => rfl)⟩, trivial⟩
end Go.Sx

set_option maxRecDepth 1000000
set_option linter.unusedVariables false
namespace Go.Sx
open Go.Proofs
noncomputable def HbU (c : Bool) : Hook := hookC 61 hookSm (hookC 46 (hookD (cxb c) hkCt [0, 1, 3] [0, 1, 0, 2]) (HE5 c))
theorem HbUok (B : Nat) (c : Bool) : HookOk P0 B 2 (HbU c) := .cons (smPl_ok B) (.cons (.dup (cx := cxb c) (hk_ok B)) (HE5ok B c))
def ozBF : Orc := orcL [(11, false)]
def ozBT : Orc := orcL [(11, true)]
noncomputable def HbYin47 : In := ⟨Tryz.f47, bodyOf Tryz.f47, 0, .eff, noOrc⟩
theorem HbYio47 : InOk P0 47 HbYin47 := ⟨by kernel_rfl, by kernel_rfl, by kernel_rfl⟩
noncomputable def HbY0 (c : Bool) : Hook := hookC 47 (inl (cxb c) (HbU c) HbYin47) (HbU c)
theorem HbY0ok (B : Nat) (c : Bool) : HookOk P0 B 2 (HbY0 c) := HookOk.cons (HkOk.inl (cx := cxb c) mix T0ok (HbUok B c) HbYio47) (HbUok B c)
noncomputable def HbYin63 : In := ⟨Tryz.f63, bodyOf Tryz.f63, 0, .eff, noOrc⟩
theorem HbYio63 : InOk P0 63 HbYin63 := ⟨by kernel_rfl, by kernel_rfl, by kernel_rfl⟩
noncomputable def HbY1 (c : Bool) : Hook := hookC 63 (inl (cxb c) (HbY0 c) HbYin63) (HbY0 c)
theorem HbY1ok (B : Nat) (c : Bool) : HookOk P0 B 2 (HbY1 c) := HookOk.cons (HkOk.inl (cx := cxb c) mix T0ok (HbY0ok B c) HbYio63) (HbY0ok B c)
noncomputable def HbYin62 : In := ⟨Tryz.f62, bodyOf Tryz.f62, 33, .read, noOrc⟩
theorem HbYio62 : InOk P0 62 HbYin62 := ⟨by kernel_rfl, by kernel_rfl, by kernel_rfl⟩
noncomputable def HbY2 (c : Bool) : Hook := hookC 62 (inl (cxb c) (HbY1 c) HbYin62) (HbY1 c)
theorem HbY2ok (B : Nat) (c : Bool) : HookOk P0 B 2 (HbY2 c) := HookOk.cons (HkOk.inl (cx := cxb c) mix T0ok (HbY1ok B c) HbYio62) (HbY1ok B c)
noncomputable def HbYin55 : In := ⟨Tryz.f55, bodyOf Tryz.f55, 0, .new, ozBF⟩
theorem HbYio55 : InOk P0 55 HbYin55 := ⟨by kernel_rfl, by kernel_rfl, by kernel_rfl⟩
noncomputable def HbY3 (c : Bool) : Hook := hookC 55 (inl (cxb c) (HbY2 c) HbYin55) (HbY2 c)
theorem HbY3ok (B : Nat) (c : Bool) : HookOk P0 B 2 (HbY3 c) := HookOk.cons (HkOk.inl (cx := cxb c) mix T0ok (HbY2ok B c) HbYio55) (HbY2ok B c)
noncomputable def HbYin45 : In := ⟨Tryz.f45, bodyOf Tryz.f45, 33, .eff, noOrc⟩
theorem HbYio45 : InOk P0 45 HbYin45 := ⟨by kernel_rfl, by kernel_rfl, by kernel_rfl⟩
noncomputable def HbY4 (c : Bool) : Hook := hookC 45 (inl (cxb c) (HbY3 c) HbYin45) (HbY3 c)
theorem HbY4ok (B : Nat) (c : Bool) : HookOk P0 B 2 (HbY4 c) := HookOk.cons (HkOk.inl (cx := cxb c) mix T0ok (HbY3ok B c) HbYio45) (HbY3ok B c)
noncomputable def HbYin31 : In := ⟨Tryz.f31, bodyOf Tryz.f31, 0, .eff, noOrc⟩
theorem HbYio31 : InOk P0 31 HbYin31 := ⟨by kernel_rfl, by kernel_rfl, by kernel_rfl⟩
noncomputable def HbY (c : Bool) : Hook := hookC 31 (inl (cxb c) (HbY4 c) HbYin31) (HbY4 c)
theorem HbYok (B : Nat) (c : Bool) : HookOk P0 B 2 (HbY c) := HookOk.cons (HkOk.inl (cx := cxb c) mix T0ok (HbY4ok B c) HbYio31) (HbY4ok B c)
noncomputable def HbZin47 : In := ⟨Tryz.f47, bodyOf Tryz.f47, 0, .eff, noOrc⟩
theorem HbZio47 : InOk P0 47 HbZin47 := ⟨by kernel_rfl, by kernel_rfl, by kernel_rfl⟩
noncomputable def HbZ0 (c : Bool) : Hook := hookC 47 (inl (cxb c) (HbU c) HbZin47) (HbU c)
theorem HbZ0ok (B : Nat) (c : Bool) : HookOk P0 B 2 (HbZ0 c) := HookOk.cons (HkOk.inl (cx := cxb c) mix T0ok (HbUok B c) HbZio47) (HbUok B c)
noncomputable def HbZin63 : In := ⟨Tryz.f63, bodyOf Tryz.f63, 0, .eff, noOrc⟩
theorem HbZio63 : InOk P0 63 HbZin63 := ⟨by kernel_rfl, by kernel_rfl, by kernel_rfl⟩
noncomputable def HbZ1 (c : Bool) : Hook := hookC 63 (inl (cxb c) (HbZ0 c) HbZin63) (HbZ0 c)
theorem HbZ1ok (B : Nat) (c : Bool) : HookOk P0 B 2 (HbZ1 c) := HookOk.cons (HkOk.inl (cx := cxb c) mix T0ok (HbZ0ok B c) HbZio63) (HbZ0ok B c)
noncomputable def HbZin62 : In := ⟨Tryz.f62, bodyOf Tryz.f62, 33, .read, noOrc⟩
theorem HbZio62 : InOk P0 62 HbZin62 := ⟨by kernel_rfl, by kernel_rfl, by kernel_rfl⟩
noncomputable def HbZ2 (c : Bool) : Hook := hookC 62 (inl (cxb c) (HbZ1 c) HbZin62) (HbZ1 c)
theorem HbZ2ok (B : Nat) (c : Bool) : HookOk P0 B 2 (HbZ2 c) := HookOk.cons (HkOk.inl (cx := cxb c) mix T0ok (HbZ1ok B c) HbZio62) (HbZ1ok B c)
noncomputable def HbZin55 : In := ⟨Tryz.f55, bodyOf Tryz.f55, 0, .new, ozBT⟩
theorem HbZio55 : InOk P0 55 HbZin55 := ⟨by kernel_rfl, by kernel_rfl, by kernel_rfl⟩
noncomputable def HbZ3 (c : Bool) : Hook := hookC 55 (inl (cxb c) (HbZ2 c) HbZin55) (HbZ2 c)
theorem HbZ3ok (B : Nat) (c : Bool) : HookOk P0 B 2 (HbZ3 c) := HookOk.cons (HkOk.inl (cx := cxb c) mix T0ok (HbZ2ok B c) HbZio55) (HbZ2ok B c)
noncomputable def HbZin45 : In := ⟨Tryz.f45, bodyOf Tryz.f45, 33, .eff, noOrc⟩
theorem HbZio45 : InOk P0 45 HbZin45 := ⟨by kernel_rfl, by kernel_rfl, by kernel_rfl⟩
noncomputable def HbZ4 (c : Bool) : Hook := hookC 45 (inl (cxb c) (HbZ3 c) HbZin45) (HbZ3 c)
theorem HbZ4ok (B : Nat) (c : Bool) : HookOk P0 B 2 (HbZ4 c) := HookOk.cons (HkOk.inl (cx := cxb c) mix T0ok (HbZ3ok B c) HbZio45) (HbZ3ok B c)
noncomputable def HbZin31 : In := ⟨Tryz.f31, bodyOf Tryz.f31, 0, .eff, noOrc⟩
theorem HbZio31 : InOk P0 31 HbZin31 := ⟨by kernel_rfl, by kernel_rfl, by kernel_rfl⟩
noncomputable def HbZ (c : Bool) : Hook := hookC 31 (inl (cxb c) (HbZ4 c) HbZin31) (HbZ4 c)
theorem HbZok (B : Nat) (c : Bool) : HookOk P0 B 2 (HbZ c) := HookOk.cons (HkOk.inl (cx := cxb c) mix T0ok (HbZ4ok B c) HbZio31) (HbZ4ok B c)
end Go.Sx
