/- x25519ScalarMult at any place. box.Precompute, walked into. Conditions: none. -/
import Derived.Test.YtbkobeclkeojoaaDoorF7c
import Derived.Test.YtbkobeclkeojoaaDoorSx37
import Derived.Test.YtbkobeclkeojoaaDoorG1
set_option maxRecDepth 1000000
set_option linter.unusedVariables false
namespace Go.Sx
open Go.Proofs
def smσ (kd ks kp k : Nat) : Nat := if k = 5 + 1 then ks else if k = 5 + 2 then kp else if k = 5 + 3 then kd else k
def smfx (k : Nat) : Bool := Nat.beq k 3 || Nat.beq k 5
def segF : Seg := ⟨1, .dc [.p 5 0], false, false, false⟩
theorem smfx_iff {k : Nat} : smfx k = true ↔ k = 3 ∨ k = 5 := by
  unfold smfx
  rw [Bool.or_eq_true]
  exact ⟨fun h => h.imp Nat.eq_of_beq_eq_true Nat.eq_of_beq_eq_true, fun h => h.imp (fun e => by rw [e]; rfl) (fun e => by rw [e]; rfl)⟩
theorem smBase_find {s p d : List (BitVec 8)} {k : Nat} {t : Seg} (h : find (smBase s p d) k = some t) : (k = 5 + 1 ∧ t = sg8 (lit 0 32 s) true) ∨ (k = 5 + 2 ∧ t = sg8 (lit 0 32 p) true) ∨ (k = 5 + 3 ∧ t = sg8 (lit 0 32 d) true) ∨ (k = 3 ∧ t = segF) ∨ (k = 5 ∧ t = sgr one5 false) := by
  unfold smBase gM at h
  simp only [List.cons_append, List.nil_append] at h
  rw [find_cons, find_cons, find_cons, find_cons, find_cons] at h
  split at h
  · rename_i e; cases h; exact .inl ⟨e.symm, rfl⟩
  split at h
  · rename_i e; cases h; exact .inr (.inl ⟨e.symm, rfl⟩)
  split at h
  · rename_i e; cases h; exact .inr (.inr (.inl ⟨e.symm, rfl⟩))
  split at h
  · rename_i e; cases h; exact .inr (.inr (.inr (.inl ⟨e.symm, rfl⟩)))
  split at h
  · rename_i e; cases h; exact .inr (.inr (.inr (.inr ⟨e.symm, rfl⟩)))
  · cases h
theorem smσ1 (kd ks kp : Nat) : smσ kd ks kp (5 + 1) = ks := rfl
theorem smσ2 (kd ks kp : Nat) : smσ kd ks kp (5 + 2) = kp := rfl
theorem smσ3 (kd ks kp : Nat) : smσ kd ks kp (5 + 3) = kd := rfl
theorem smσG (kd ks kp : Nat) : smσ kd ks kp 5 = 5 := rfl
theorem smσF (kd ks kp : Nat) : smσ kd ks kp 3 = 3 := rfl
theorem smPlace {M : Mem} {NX kd ks kp : Nat} {s p d r : List (BitVec 8)} (hF : find M 3 = some segF) (hG : find M 5 = some (sgr one5 false)) (hd : find M kd = some (sg8 (lit 0 32 d) true)) (hs : find M ks = some (sg8 (lit 0 32 s) true)) (hp : find M kp = some (sg8 (lit 0 32 p) true))
    (n1 : kd ≠ ks) (n2 : kd ≠ kp) (n3 : ks ≠ kp) (nG : 5 < NX) : Place 5 (smσ kd ks kp) smfx (smBase s p d) (smBase s p r) (5 + 4) M ((kd, sg8 (lit 0 32 r) true) :: delM M kd) NX := by
  have g1 : kd ≠ 3 := fun e => by rw [e, hF] at hd; cases hd
  have g2 : ks ≠ 3 := fun e => by rw [e, hF] at hs; cases hs
  have g3 : kp ≠ 3 := fun e => by rw [e, hF] at hp; cases hp
  have g4 : kd ≠ 5 := fun e => by rw [e, hG] at hd; cases hd
  have g5 : ks ≠ 5 := fun e => by rw [e, hG] at hs; cases hs
  have g6 : kp ≠ 5 := fun e => by rw [e, hG] at hp; cases hp
  refine ⟨fun k hk => ?_, fun k hk => ?_, by omega, fun k t hk => ?_, fun k k' t t' hk hk' hne => ?_, fun k t hk => ?_, fun q t hq => ?_⟩
  · unfold smσ; rw [if_neg (by omega), if_neg (by omega), if_neg (by omega)]
  · rcases smfx_iff.1 hk with rfl | rfl
    · exact ⟨rfl, by omega, by omega⟩
    · exact ⟨rfl, by omega, nG⟩
  · rcases smBase_find hk with ⟨rfl, rfl⟩ | ⟨rfl, rfl⟩ | ⟨rfl, rfl⟩ | ⟨rfl, rfl⟩ | ⟨rfl, rfl⟩
    · exact ⟨by omega, by rw [smσ1]; exact hs, rfl, rfl⟩
    · exact ⟨by omega, by rw [smσ2]; exact hp, rfl, rfl⟩
    · exact ⟨by omega, by rw [smσ3]; exact hd, rfl, rfl⟩
    · exact ⟨by omega, by rw [smσF]; exact hF, rfl, rfl⟩
    · exact ⟨by omega, by rw [smσG]; exact hG, rfl, rfl⟩
  · rcases smBase_find hk with ⟨rfl, rfl⟩ | ⟨rfl, rfl⟩ | ⟨rfl, rfl⟩ | ⟨rfl, rfl⟩ | ⟨rfl, rfl⟩ <;> rcases smBase_find hk' with ⟨rfl, rfl⟩ | ⟨rfl, rfl⟩ | ⟨rfl, rfl⟩ | ⟨rfl, rfl⟩ | ⟨rfl, rfl⟩ <;> simp only [smσ1, smσ2, smσ3, smσG, smσF] <;> omega
  · rcases smBase_find hk with ⟨rfl, rfl⟩ | ⟨rfl, rfl⟩ | ⟨rfl, rfl⟩ | ⟨rfl, rfl⟩ | ⟨rfl, rfl⟩
    · exact ⟨sg8 (lit 0 32 s) true, rfl, ⟨rfl, rfl, rfl, rfl, rfl, rfl, rfl⟩, rfl⟩
    · exact ⟨sg8 (lit 0 32 p) true, rfl, ⟨rfl, rfl, rfl, rfl, rfl, rfl, rfl⟩, rfl⟩
    · exact ⟨sg8 (lit 0 32 d) true, rfl, ⟨rfl, rfl, rfl, rfl, rfl, rfl, rfl⟩, rfl⟩
    · exact ⟨segF, rfl, ⟨rfl, rfl, rfl, rfl, rfl, rfl, rfl⟩, rfl⟩
    · exact ⟨sgr one5 false, rfl, ⟨rfl, rfl, rfl, rfl, rfl, rfl, rfl⟩, rfl⟩
  · rw [find_cons] at hq
    by_cases e : kd = q
    · rw [if_pos e] at hq
      cases hq
      exact .inl ⟨5 + 3, by rw [smσ3, e], rfl⟩
    · rw [if_neg e, find_delM, if_neg (Ne.symm e)] at hq
      by_cases e1 : q = ks
      · subst e1
        rw [hs] at hq; cases hq
        exact .inl ⟨5 + 1, rfl, rfl⟩
      by_cases e2 : q = kp
      · subst e2
        rw [hp] at hq; cases hq
        exact .inl ⟨5 + 2, rfl, rfl⟩
      by_cases e3 : q = 3
      · subst e3
        rw [hF] at hq; cases hq
        exact .inl ⟨3, rfl, rfl⟩
      by_cases e4 : q = 5
      · subst e4
        rw [hG] at hq; cases hq
        exact .inl ⟨5, rfl, rfl⟩
      refine .inr ⟨fun k t hk => ?_, hq⟩
      rcases smBase_find hk with ⟨rfl, rfl⟩ | ⟨rfl, rfl⟩ | ⟨rfl, rfl⟩ | ⟨rfl, rfl⟩ | ⟨rfl, rfl⟩
      · rw [smσ1]; exact e1
      · rw [smσ2]; exact e2
      · rw [smσ3]; exact Ne.symm e
      · rw [smσF]; exact e3
      · rw [smσG]; exact e4
/-- the ladder at any place: what is written, the scalar, the point -/
def hookSm (args : List SV) (M : Mem) (NX : Nat) : Option Ef := match args with
  | [.one (.s (.sl kd od ld cd)), .one (.s (.sl ks os ls cs)), .one (.s (.sl kp op lp cp))] => match find M kd, find M ks, find M kp with
    | some sd, some ss, some sp => match sd.d, ss.d, sp.d with
      | .d8 d, .d8 s, .d8 p => bif (Nat.beq od 0 && (Nat.beq ld 32 && Nat.beq cd 32)) && ((Nat.beq os 0 && (Nat.beq ls 32 && Nat.beq cs 32)) && ((Nat.beq op 0 && (Nat.beq lp 32 && Nat.beq cp 32)) && ((Nat.beq d.length 32 && (Nat.beq s.length 32 && Nat.beq p.length 32)) && ((!Nat.beq kd ks && (!Nat.beq kd kp && !Nat.beq ks kp)) && Nat.blt 5 NX))))
        then some ⟨.tup [], (kd, sg8 (lit 0 32 (smF s p)) true) :: delM M kd, NX, .eff, [find M 3 = some segF, find M 5 = some (sgr one5 false), sd = sg8 d true, ss = sg8 s true, sp = sg8 p true]⟩ else none
      | _, _, _ => none
    | _, _, _ => none
  | _ => none
theorem neb {a b : Nat} (h : (!Nat.beq a b) = true) : a ≠ b := fun e => by subst e; rw [Nat.beq_refl] at h; cases h
theorem smPl_ok (B : Nat) : HkOk P0 B 5 34 hookSm := by
  intro args M NX e he hob ha
  unfold hookSm at he
  split at he <;> first | (cases he; done) | skip
  rename_i kd od ld cd ks os ls cs kp op lp cp
  split at he <;> first | (cases he; done) | skip
  rename_i sd ss sp hd hs hp
  split at he <;> first | (cases he; done) | skip
  rename_i d s p ed es ep
  generalize hb : ((Nat.beq od 0 && (Nat.beq ld 32 && Nat.beq cd 32)) && ((Nat.beq os 0 && (Nat.beq ls 32 && Nat.beq cs 32)) && ((Nat.beq op 0 && (Nat.beq lp 32 && Nat.beq cp 32)) && ((Nat.beq d.length 32 && (Nat.beq s.length 32 && Nat.beq p.length 32)) && ((!Nat.beq kd ks && (!Nat.beq kd kp && !Nat.beq ks kp)) && Nat.blt 5 NX))))) = b at he
  cases b with
  | false => cases he
  | true =>
    rw [cond_true] at he
    cases he
    simp only [Bool.and_eq_true] at hb
    obtain ⟨⟨a1, a2, a3⟩, ⟨b1, b2, b3⟩, ⟨c1, c2, c3⟩, ⟨d1, d2, d3⟩, ⟨n1, n2, n3⟩, nG⟩ := hb
    have hF : find M 3 = some segF := hob _ (by simp)
    have hG : find M 5 = some (sgr one5 false) := hob _ (by simp)
    have o1 : sd = sg8 d true := hob _ (by simp)
    have o2 : ss = sg8 s true := hob _ (by simp)
    have o3 : sp = sg8 p true := hob _ (by simp)
    have ld' := Nat.eq_of_beq_eq_true d1
    have ls' := Nat.eq_of_beq_eq_true d2
    have lp' := Nat.eq_of_beq_eq_true d3
    rw [o1, ← lit_eq (z := 0) ld'] at hd
    rw [o2, ← lit_eq (z := 0) ls'] at hs
    rw [o3, ← lit_eq (z := 0) lp'] at hp
    have pl := smPlace (r := smF s p) (d := d) (NX := NX) hF hG hd hs hp (neb n1) (neb n2) (neb n3) (blt_iff.1 nG)
    have e1 := Nat.eq_of_beq_eq_true a1
    have e2 := Nat.eq_of_beq_eq_true a2
    have e3 := Nat.eq_of_beq_eq_true a3
    have e4 := Nat.eq_of_beq_eq_true b1
    have e5 := Nat.eq_of_beq_eq_true b2
    have e6 := Nat.eq_of_beq_eq_true b3
    have e7 := Nat.eq_of_beq_eq_true c1
    have e8 := Nat.eq_of_beq_eq_true c2
    have e9 := Nat.eq_of_beq_eq_true c3
    subst e1 e2 e3 e4 e5 e6 e7 e8 e9
    exact ⟨⟨rfl, .inl (FnE.place (smRunA B d s p ls' lp') pl rfl fun ρ => rfl)⟩, trivial⟩
end Go.Sx

set_option maxRecDepth 1000000
set_option linter.unusedVariables false
namespace Go.Sx
open Go.Proofs
noncomputable def HbU (c : Bool) : Hook := hookC 34 hookSm (hookC 23 (hookD (cxb c) hkCt [0, 1, 3] [0, 1, 0, 2]) (HE5 c))
theorem HbUok (B : Nat) (c : Bool) : HookOk P0 B 5 (HbU c) := .cons (smPl_ok B) (.cons (.dup (cx := cxb c) (hk_ok B)) (HE5ok B c))
def ozBF : Orc := orcL [(11, false)]
def ozBT : Orc := orcL [(11, true)]
noncomputable def HbYin24 : In := ⟨Tryd.f24, bodyOf Tryd.f24, 0, .eff, noOrc⟩
theorem HbYio24 : InOk P0 24 HbYin24 := ⟨by kernel_rfl, by kernel_rfl, by kernel_rfl⟩
noncomputable def HbY0 (c : Bool) : Hook := hookC 24 (inl (cxb c) (HbU c) HbYin24) (HbU c)
theorem HbY0ok (B : Nat) (c : Bool) : HookOk P0 B 5 (HbY0 c) := HookOk.cons (HkOk.inl (cx := cxb c) mix T0ok (HbUok B c) HbYio24) (HbUok B c)
noncomputable def HbYin41 : In := ⟨Tryd.f41, bodyOf Tryd.f41, 0, .eff, noOrc⟩
theorem HbYio41 : InOk P0 41 HbYin41 := ⟨by kernel_rfl, by kernel_rfl, by kernel_rfl⟩
noncomputable def HbY1 (c : Bool) : Hook := hookC 41 (inl (cxb c) (HbY0 c) HbYin41) (HbY0 c)
theorem HbY1ok (B : Nat) (c : Bool) : HookOk P0 B 5 (HbY1 c) := HookOk.cons (HkOk.inl (cx := cxb c) mix T0ok (HbY0ok B c) HbYio41) (HbY0ok B c)
noncomputable def HbYin40 : In := ⟨Tryd.f40, bodyOf Tryd.f40, 33, .read, noOrc⟩
theorem HbYio40 : InOk P0 40 HbYin40 := ⟨by kernel_rfl, by kernel_rfl, by kernel_rfl⟩
noncomputable def HbY2 (c : Bool) : Hook := hookC 40 (inl (cxb c) (HbY1 c) HbYin40) (HbY1 c)
theorem HbY2ok (B : Nat) (c : Bool) : HookOk P0 B 5 (HbY2 c) := HookOk.cons (HkOk.inl (cx := cxb c) mix T0ok (HbY1ok B c) HbYio40) (HbY1ok B c)
noncomputable def HbYin32 : In := ⟨Tryd.f32, bodyOf Tryd.f32, 0, .new, ozBF⟩
theorem HbYio32 : InOk P0 32 HbYin32 := ⟨by kernel_rfl, by kernel_rfl, by kernel_rfl⟩
noncomputable def HbY3 (c : Bool) : Hook := hookC 32 (inl (cxb c) (HbY2 c) HbYin32) (HbY2 c)
theorem HbY3ok (B : Nat) (c : Bool) : HookOk P0 B 5 (HbY3 c) := HookOk.cons (HkOk.inl (cx := cxb c) mix T0ok (HbY2ok B c) HbYio32) (HbY2ok B c)
noncomputable def HbYin22 : In := ⟨Tryd.f22, bodyOf Tryd.f22, 33, .eff, noOrc⟩
theorem HbYio22 : InOk P0 22 HbYin22 := ⟨by kernel_rfl, by kernel_rfl, by kernel_rfl⟩
noncomputable def HbY4 (c : Bool) : Hook := hookC 22 (inl (cxb c) (HbY3 c) HbYin22) (HbY3 c)
theorem HbY4ok (B : Nat) (c : Bool) : HookOk P0 B 5 (HbY4 c) := HookOk.cons (HkOk.inl (cx := cxb c) mix T0ok (HbY3ok B c) HbYio22) (HbY3ok B c)
noncomputable def HbYin17 : In := ⟨Tryd.f17, bodyOf Tryd.f17, 0, .eff, noOrc⟩
theorem HbYio17 : InOk P0 17 HbYin17 := ⟨by kernel_rfl, by kernel_rfl, by kernel_rfl⟩
noncomputable def HbY (c : Bool) : Hook := hookC 17 (inl (cxb c) (HbY4 c) HbYin17) (HbY4 c)
theorem HbYok (B : Nat) (c : Bool) : HookOk P0 B 5 (HbY c) := HookOk.cons (HkOk.inl (cx := cxb c) mix T0ok (HbY4ok B c) HbYio17) (HbY4ok B c)
noncomputable def HbZin24 : In := ⟨Tryd.f24, bodyOf Tryd.f24, 0, .eff, noOrc⟩
theorem HbZio24 : InOk P0 24 HbZin24 := ⟨by kernel_rfl, by kernel_rfl, by kernel_rfl⟩
noncomputable def HbZ0 (c : Bool) : Hook := hookC 24 (inl (cxb c) (HbU c) HbZin24) (HbU c)
theorem HbZ0ok (B : Nat) (c : Bool) : HookOk P0 B 5 (HbZ0 c) := HookOk.cons (HkOk.inl (cx := cxb c) mix T0ok (HbUok B c) HbZio24) (HbUok B c)
noncomputable def HbZin41 : In := ⟨Tryd.f41, bodyOf Tryd.f41, 0, .eff, noOrc⟩
theorem HbZio41 : InOk P0 41 HbZin41 := ⟨by kernel_rfl, by kernel_rfl, by kernel_rfl⟩
noncomputable def HbZ1 (c : Bool) : Hook := hookC 41 (inl (cxb c) (HbZ0 c) HbZin41) (HbZ0 c)
theorem HbZ1ok (B : Nat) (c : Bool) : HookOk P0 B 5 (HbZ1 c) := HookOk.cons (HkOk.inl (cx := cxb c) mix T0ok (HbZ0ok B c) HbZio41) (HbZ0ok B c)
noncomputable def HbZin40 : In := ⟨Tryd.f40, bodyOf Tryd.f40, 33, .read, noOrc⟩
theorem HbZio40 : InOk P0 40 HbZin40 := ⟨by kernel_rfl, by kernel_rfl, by kernel_rfl⟩
noncomputable def HbZ2 (c : Bool) : Hook := hookC 40 (inl (cxb c) (HbZ1 c) HbZin40) (HbZ1 c)
theorem HbZ2ok (B : Nat) (c : Bool) : HookOk P0 B 5 (HbZ2 c) := HookOk.cons (HkOk.inl (cx := cxb c) mix T0ok (HbZ1ok B c) HbZio40) (HbZ1ok B c)
noncomputable def HbZin32 : In := ⟨Tryd.f32, bodyOf Tryd.f32, 0, .new, ozBT⟩
theorem HbZio32 : InOk P0 32 HbZin32 := ⟨by kernel_rfl, by kernel_rfl, by kernel_rfl⟩
noncomputable def HbZ3 (c : Bool) : Hook := hookC 32 (inl (cxb c) (HbZ2 c) HbZin32) (HbZ2 c)
theorem HbZ3ok (B : Nat) (c : Bool) : HookOk P0 B 5 (HbZ3 c) := HookOk.cons (HkOk.inl (cx := cxb c) mix T0ok (HbZ2ok B c) HbZio32) (HbZ2ok B c)
noncomputable def HbZin22 : In := ⟨Tryd.f22, bodyOf Tryd.f22, 33, .eff, noOrc⟩
theorem HbZio22 : InOk P0 22 HbZin22 := ⟨by kernel_rfl, by kernel_rfl, by kernel_rfl⟩
noncomputable def HbZ4 (c : Bool) : Hook := hookC 22 (inl (cxb c) (HbZ3 c) HbZin22) (HbZ3 c)
theorem HbZ4ok (B : Nat) (c : Bool) : HookOk P0 B 5 (HbZ4 c) := HookOk.cons (HkOk.inl (cx := cxb c) mix T0ok (HbZ3ok B c) HbZio22) (HbZ3ok B c)
noncomputable def HbZin17 : In := ⟨Tryd.f17, bodyOf Tryd.f17, 0, .eff, noOrc⟩
theorem HbZio17 : InOk P0 17 HbZin17 := ⟨by kernel_rfl, by kernel_rfl, by kernel_rfl⟩
noncomputable def HbZ (c : Bool) : Hook := hookC 17 (inl (cxb c) (HbZ4 c) HbZin17) (HbZ4 c)
theorem HbZok (B : Nat) (c : Bool) : HookOk P0 B 5 (HbZ c) := HookOk.cons (HkOk.inl (cx := cxb c) mix T0ok (HbZ4ok B c) HbZio17) (HbZ4ok B c)
end Go.Sx
