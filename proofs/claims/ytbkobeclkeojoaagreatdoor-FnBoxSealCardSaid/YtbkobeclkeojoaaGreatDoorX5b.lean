/- spec.bit, spec.power: the states. spec.bit, spec.power, spec.Inv. spec.power, spec.Inv. spec.Step: the states. spec.Step. spec.Inv, spec.Clamped, spec.Bytes, spec.Of. spec.X25519: the states. spec.X25519. spec.X25519: its contract. Conditions: none. -/
import Derived.Test.YtbkobeclkeojoaaGreatDoorR1
set_option maxRecDepth 1000000
set_option linter.unusedVariables false
namespace Go.Sx
open Go.Proofs
def pwSt (a e : List (BitVec 64)) (o : Nat) (i : Int) : St := ⟨[(2, .one (.s (.p 2 0))), (3, .one (.s (.p (2 + 1) 0))), (4, .one (.s (.p (2 + 2) 0))), (5, .one (.s (.p (2 + 3) 0))), (6, .one (.s (.i i)))], [(2, ⟨16, .d64 (lit 0 16 a), true, false, false⟩), (2 + 1, ⟨16, .d64 (lit 0 16 e), true, false, false⟩), (2 + 2, ⟨16, .d64 (List.replicate 16 0), true, false, false⟩), (2 + 3, ⟨16, .d64 (lit 0 16 (dg o)), true, false, false⟩)], 2 + 4⟩
end Go.Sx

set_option maxRecDepth 1000000
set_option linter.unusedVariables false
namespace Go.Sx
open Go.Proofs

theorem bit1 (B : Nat) (a : List (BitVec 64)) (la : a.length = 16) (ha : ∀ x ∈ a, x.toNat < 65536) (i : Nat) (hi : i < 256) : FnE P0 B 2 26 [.one (.ag [.d64 (lit 0 16 a)]), .one (.s (.i (i : Int)))] [] 2 ⟨.one (.s (.u64 (bitN (val a) i))), [], 2, .eff, []⟩ := by
  have e : ((lit 0 16 a).getD (Int.toNat ((i : Int) / 16) + 0) 0 >>> Int.toNat ((i : Int) % 16)) &&& 1#64 = bitN (val a) i := by
    rw [lit_eq la, show Int.toNat ((i : Int) / 16) + 0 = i / 16 by omega, show Int.toNat ((i : Int) % 16) = i % 16 by omega, ← bit_digs (val a) i hi (val_lt16 a la ha), dg_val la ha]
  rw [← e]
  refine FnE.tri (cx := cxb false) (sz := 13) (fn := Tryz.f26) (c := bodyOf Tryz.f26) T0ok (by kernel_rfl) (by kernel_rfl) (by kernel_rfl) (by kernel_rfl) (by kernel_rfl) (by kernel_rfl) (Nat.le_refl _) ?_
  refine Tri.ret (cx := cxb false) mix T0ok (H0ok B false) 0 noOrc [4] [] (2 + 3) ⟨[(4, .one (.s (.u64 (((lit 0 16 a).getD (Int.toNat ((i : Int) / 16) + 0) 0 >>> Int.toNat ((i : Int) % 16)) &&& 1#64))))], [], 2 + 3⟩ ([List.length (lit (0 : BitVec (64 : Nat)) (16 : Nat) a) = List.length (List.replicate (16 : Nat) (0 : BitVec (64 : Nat))) ∧ True, (0 : Int) ≤ (↑i : Int) ∧ (0 : Int) < (16 : Int) ∧ rng (↑i : Int), (0 : Int) ≤ (↑i : Int) / (16 : Int) ∧ (↑i : Int) / (16 : Int) < (↑(16 : Nat) : Int), Int.toNat ((↑i : Int) / (16 : Int)) + (0 : Nat) < List.length (lit (0 : BitVec (64 : Nat)) (16 : Nat) a), (0 : Int) ≤ (↑i : Int) ∧ (0 : Int) < (16 : Int), (0 : Int) ≤ (↑i : Int) % (16 : Int)]) .r (by kernel_rfl) ?_ (by kernel_rfl) rfl [] [] (by kernel_rfl) obNil
  (repeat' (first | exact obNil | refine obCons ?_ ?_))
  all_goals first | omega | (unfold rng; omega) | (rw [lit_length]; omega) | (simp [lit_length]; done)

def bitCt : Ct := ⟨[.val, .val], [], fun vs ds gs => match vs, ds, gs with
  | [.one (.ag [.d64 a]), .one (.s (.i i))], [], [] => bif Nat.beq a.length 16 then some ⟨.one (.s (.u64 (bitN (val a) i.toNat))), [], [], [∀ x ∈ a, x.toNat < 65536, 0 ≤ i ∧ i < 256]⟩ else none
  | _, _, _ => none⟩
theorem bit_ok (B : Nat) : bitCt.Ok P0 B 2 26 := by
  intro vs ds gs out h hpre hn
  unfold bitCt at h
  dsimp only at h
  split at h <;> first | (cases h; done) | skip
  rename_i a i
  cases hb : Nat.beq a.length 16 with
  | false => rw [hb] at h; cases h
  | true =>
    rw [hb, cond_true] at h
    cases h
    have k1 := Nat.eq_of_beq_eq_true hb
    have h2 := hpre _ (List.mem_cons_of_mem _ List.mem_cons_self)
    obtain ⟨k, rfl⟩ : ∃ k : Nat, i = (k : Int) := ⟨i.toNat, by omega⟩
    have := bit1 B a k1 (hpre _ List.mem_cons_self) k (by omega)
    rw [lit_eq k1] at this
    rw [Int.toNat_natCast]
    exact this

noncomputable def HPwb (c : Bool) : Hook := hookC 26 (hookOf (cxb c) bitCt) (HN c)
theorem HPwbok (B : Nat) (c : Bool) : HookOk P0 B 2 (HPwb c) := .cons (.ct (cx := cxb c) (bit_ok B)) (HNok B c)
noncomputable def in25 : In := ⟨Tryz.f25, bodyOf Tryz.f25, 0, .read, noOrc⟩
theorem io25 : InOk P0 25 in25 := ⟨by kernel_rfl, by kernel_rfl, by kernel_rfl⟩
noncomputable def HPw (c : Bool) : Hook := hookC 25 (inl (cxb c) (HPwb c) in25) (HPwb c)
theorem HPwok (B : Nat) (c : Bool) : HookOk P0 B 2 (HPw c) := HookOk.cons (HkOk.inl (cx := cxb c) mix T0ok (HPwbok B c) io25) (HPwbok B c)
end Go.Sx

set_option maxRecDepth 1000000
set_option linter.unusedVariables false
namespace Go.Sx
open Go.Proofs

theorem power_ok (B : Nat) : (binCt fpow).Ok P0 B 2 42 := binCt_ok B fpow _ fun a b la lb ha hb => by
  have hbW := val_lt16 b lb hb
  refine FnE.tri (cx := cxb true) (sz := 23) (fn := Tryz.f42) (c := bodyOf Tryz.f42) T0ok (by kernel_rfl) (by kernel_rfl) (by kernel_rfl) (by kernel_rfl) (by kernel_rfl) (by kernel_rfl) (Nat.le_refl _) ?_
  refine Tri.step (cx := cxb true) mix T0ok (HPwok B true) 3 0 noOrc [2, 3, 4, 5, 6] [2, 2 + 1, 2 + 2, 2 + 3] (2 + 4) (pwSt a b 1 255) [] (by kernel_rfl) obNil (by kernel_rfl) ?_
  refine Tri.loop (id := 0) (ι := { i : Nat // i ≤ 256 }) rfl (fun i => pwSt a b (pw (val a) (val b) i.1) ((i.1 : Int) - 1)) (fun i => i.1) ⟨256, Nat.le_refl _⟩ (by rw [pw_top (val a) (val b) hbW]; rfl) (fun i => by show 2 ≤ 2 + 4; omega)
    (R1 := fun s => s = pwSt a b (fpow (val a) (val b)) (-1)) (fun ⟨i, hi⟩ => ?_) (fun s' hs => ?_)
  · rcases Nat.eq_zero_or_pos i with rfl | hp
    · refine Tri.chg (cx := cxb false) rfl ?_
      refine Tri.fin (cx := cxb false) mix T0ok (HPwok B false) 0 (orcL [(9, false)]) [2, 3, 4, 5, 6] [2, 2 + 1, 2 + 2, 2 + 3] (2 + 4) (.x 0) (pwSt a b (pw (val a) (val b) 0) (((0 : Nat) : Int) - 1)) [decide ((0 : Int) ≤ ((0 : Nat) : Int) - 1) = false] (by kernel_rfl) (obCons (by decide) obNil) (by kernel_rfl) ?_
      show pwSt a b (pw (val a) (val b) 0) _ = pwSt a b (fpow (val a) (val b)) _
      rw [pw_zero]; rfl
    · obtain ⟨j, rfl⟩ : ∃ j, i = j + 1 := ⟨i - 1, by omega⟩
      have ei : (((j + 1 : Nat) : Int) - 1) = (j : Int) := by omega
      have eb := bitN_nat (val b) j
      have hO := pw_lt (val a) (val b) (j + 1)
      have hst := pw_step (val a) (val b) j
      dsimp only
      rw [ei]
      generalize pw (val a) (val b) (j + 1) = o at *
      have vo : val (lit 0 16 (dg o)) = o := by rw [dg_lit, val_dg (Nat.lt_trans hO P25_W)]
      have hq := fmul_lt o o
      have vq : val (lit 0 16 (dg (fmul (val (lit 0 16 (dg o))) (val (lit 0 16 (dg o)))))) = fmul o o := by rw [vo, dg_lit, val_dg (Nat.lt_trans hq P25_W)]
      have ob1 : ∀ y ∈ lit 0 16 (dg o), y.toNat < 65536 := by rw [dg_lit]; exact dg_lt _
      have ob2 : ∀ y ∈ lit 0 16 b, y.toNat < 65536 := by rw [lit_eq lb]; exact hb
      have ob3 : ∀ y ∈ lit 0 16 a, y.toNat < 65536 := by rw [lit_eq la]; exact ha
      have ob4 : ∀ y ∈ lit 0 16 (dg (fmul (val (lit 0 16 (dg o))) (val (lit 0 16 (dg o))))), y.toNat < 65536 := by rw [dg_lit]; exact dg_lt _
      have hj0 : decide ((0 : Int) ≤ (j : Int)) = true := decide_eq_true (by omega)
      have hrj : rng ((j : Int) - 1) := by unfold rng; omega
      refine Tri.chg (cx := cxb true) rfl ?_
      by_cases h1 : val b / 2 ^ j % 2 = 1
      · refine Tri.step (cx := cxb true) mix T0ok (HPwok B true) 3 0 (orcL [(9, true), (18, true)]) [2, 3, 4, 5, 6] [2, 2 + 1, 2 + 2, 2 + 3] (2 + 4) (pwSt a b (fmul (val (lit 0 16 (dg (fmul (val (lit 0 16 (dg o))) (val (lit 0 16 (dg o))))))) (val (lit 0 16 a))) (j : Int)) ([decide ((0 : Int) ≤ (↑j : Int)) = true, ∀ (x : BitVec (64 : Nat)), x ∈ lit (0 : BitVec (64 : Nat)) (16 : Nat) (dg o) → BitVec.toNat x < (65536 : Nat), ∀ (x : BitVec (64 : Nat)), x ∈ lit (0 : BitVec (64 : Nat)) (16 : Nat) (dg o) → BitVec.toNat x < (65536 : Nat), ∀ (x : BitVec (64 : Nat)), x ∈ lit (0 : BitVec (64 : Nat)) (16 : Nat) b → BitVec.toNat x < (65536 : Nat), (0 : Int) ≤ (↑j : Int) ∧ (↑j : Int) < (256 : Int), decide (BitVec.toNat (bitN (val (lit (0 : BitVec (64 : Nat)) (16 : Nat) b)) (Int.toNat (↑j : Int))) = BitVec.toNat (BitVec.ofNat (64 : Nat) (nat_lit 1))) = true, ∀ (x : BitVec (64 : Nat)), x ∈ lit (0 : BitVec (64 : Nat)) (16 : Nat) (dg (fmul (val (lit (0 : BitVec (64 : Nat)) (16 : Nat) (dg o))) (val (lit (0 : BitVec (64 : Nat)) (16 : Nat) (dg o))))) → BitVec.toNat x < (65536 : Nat), ∀ (x : BitVec (64 : Nat)), x ∈ lit (0 : BitVec (64 : Nat)) (16 : Nat) a → BitVec.toNat x < (65536 : Nat)]) (by kernel_rfl) ?_ (by kernel_rfl) ?_
        · refine obCons hj0 (obCons ob1 (obCons ob1 (obCons ob2 (obCons ⟨by omega, by omega⟩ (obCons ?_ (obCons ob4 (obCons ob3 obNil)))))))
          rw [lit_eq lb, Int.toNat_natCast, eb, h1]; rfl
        · refine Tri.chg (cx := cxb false) rfl ?_
          refine Tri.fin (cx := cxb false) mix T0ok (HPwok B false) 0 noOrc [2, 3, 4, 5, 6] [2, 2 + 1, 2 + 2, 2 + 3] (2 + 4) .n (pwSt a b (fmul (val (lit 0 16 (dg (fmul (val (lit 0 16 (dg o))) (val (lit 0 16 (dg o))))))) (val (lit 0 16 a))) ((j : Int) - 1)) ([rng ((↑j : Int) - (1 : Int))]) (by kernel_rfl) (obCons hrj obNil) (by kernel_rfl) ⟨⟨j, by omega⟩, by show j < j + 1; omega, ?_⟩
          rw [hst, if_pos h1, vq, lit_eq la]
      · refine Tri.step (cx := cxb true) mix T0ok (HPwok B true) 3 0 (orcL [(9, true), (18, false)]) [2, 3, 4, 5, 6] [2, 2 + 1, 2 + 2, 2 + 3] (2 + 4) (pwSt a b (fmul (val (lit 0 16 (dg o))) (val (lit 0 16 (dg o)))) (j : Int)) ([decide ((0 : Int) ≤ (↑j : Int)) = true, ∀ (x : BitVec (64 : Nat)), x ∈ lit (0 : BitVec (64 : Nat)) (16 : Nat) (dg o) → BitVec.toNat x < (65536 : Nat), ∀ (x : BitVec (64 : Nat)), x ∈ lit (0 : BitVec (64 : Nat)) (16 : Nat) (dg o) → BitVec.toNat x < (65536 : Nat), ∀ (x : BitVec (64 : Nat)), x ∈ lit (0 : BitVec (64 : Nat)) (16 : Nat) b → BitVec.toNat x < (65536 : Nat), (0 : Int) ≤ (↑j : Int) ∧ (↑j : Int) < (256 : Int), decide (BitVec.toNat (bitN (val (lit (0 : BitVec (64 : Nat)) (16 : Nat) b)) (Int.toNat (↑j : Int))) = BitVec.toNat (BitVec.ofNat (64 : Nat) (nat_lit 1))) = false]) (by kernel_rfl) ?_ (by kernel_rfl) ?_
        · refine obCons hj0 (obCons ob1 (obCons ob1 (obCons ob2 (obCons ⟨by omega, by omega⟩ (obCons ?_ obNil)))))
          rw [lit_eq lb, Int.toNat_natCast, eb]; exact decide_eq_false h1
        · refine Tri.chg (cx := cxb false) rfl ?_
          refine Tri.fin (cx := cxb false) mix T0ok (HPwok B false) 0 noOrc [2, 3, 4, 5, 6] [2, 2 + 1, 2 + 2, 2 + 3] (2 + 4) .n (pwSt a b (fmul (val (lit 0 16 (dg o))) (val (lit 0 16 (dg o)))) ((j : Int) - 1)) ([rng ((↑j : Int) - (1 : Int))]) (by kernel_rfl) (obCons hrj obNil) (by kernel_rfl) ⟨⟨j, by omega⟩, by show j < j + 1; omega, ?_⟩
          rw [hst, if_neg h1, vo]
  · subst hs
    refine Tri.ret (cx := cxb true) mix T0ok (HPwok B true) 0 noOrc [4] [2 + 2] (2 + 4) ⟨[(4, .one (.s (.p (2 + 2) 0)))], [(2 + 2, ⟨16, .d64 (lit 0 16 (dg (fpow (val a) (val b)))), true, false, false⟩)], 2 + 4⟩ [] .r (by kernel_rfl) obNil (by kernel_rfl) rfl [] [] (by kernel_rfl) obNil
end Go.Sx

set_option maxRecDepth 1000000
set_option linter.unusedVariables false
namespace Go.Sx
open Go.Proofs
noncomputable def HSt (c : Bool) : Hook := hookC 25 (inl (cxb c) (HN c) in25) (HN c)
theorem HStok (B : Nat) (c : Bool) : HookOk P0 B 2 (HSt c) := HookOk.cons (HkOk.inl (cx := cxb c) mix T0ok (HNok B c) io25) (HNok B c)
def fiv (a b c d e : List (BitVec 64)) : List (BitVec 64) := lit 0 16 a ++ (lit 0 16 b ++ (lit 0 16 c ++ (lit 0 16 d ++ lit 0 16 e)))
def stpSt (a b c d e : List (BitVec 64)) : St := ⟨[(2, .one (.s (.p 2 0))), (4, .one (.s (.p (2 + 1) 0)))], [(2, ⟨80, .d64 (fiv a b c d e), true, false, false⟩), (2 + 1, ⟨80, .d64 (List.replicate 80 0), true, false, false⟩)], 2 + 2⟩
noncomputable def stpB : List Code := flat (bodyOf Tryz.f27)
end Go.Sx

set_option maxRecDepth 1000000
set_option linter.unusedVariables false
namespace Go.Sx
open Go.Proofs
/-- digits -/
def D (l : List (BitVec 64)) : Prop := ∀ x ∈ l, x.toNat < 65536
def L2 (f : Nat → Nat → Nat) (x y : List (BitVec 64)) : List (BitVec 64) := lit 0 16 (dg (f (val x) (val y)))
theorem D_L2 (f : Nat → Nat → Nat) (x y : List (BitVec 64)) : D (L2 f x y) := by unfold D L2; rw [dg_lit]; exact dg_lt _
def smC : List (BitVec 64) := lit 0 16 (dg 121665)
theorem D_smC : D smC := by unfold D smC; rw [dg_lit]; exact dg_lt _

/-- the five numbers of a ladder -/
structure W5 where
  x1 : Nat
  x2 : Nat
  z2 : Nat
  x3 : Nat
  z3 : Nat
def W5.swap (w : W5) : W5 := ⟨w.x1, w.x3, w.z3, w.x2, w.z2⟩
def W5.step (w : W5) : W5 :=
  let a := fadd w.x2 w.z2
  let c := fsub w.x2 w.z2
  let aa := fmul a a
  let bb := fmul c c
  let e := fsub aa bb
  let da := fmul (fsub w.x3 w.z3) a
  let cb := fmul (fadd w.x3 w.z3) c
  let x := fadd da cb
  let y := fsub da cb
  ⟨w.x1 % P25, fmul aa bb, fmul e (fadd aa (fmul 121665 e)), fmul x x, fmul w.x1 (fmul y y)⟩
def W5.dgs (w : W5) : List (BitVec 64) := dg w.x1 ++ (dg w.x2 ++ (dg w.z2 ++ (dg w.x3 ++ dg w.z3)))
/-- the same over digits -/
def stpL (a b c d e : List (BitVec 64)) : List (BitVec 64) :=
  let A := L2 fadd b c
  let C := L2 fsub b c
  let AA := L2 fmul A A
  let BB := L2 fmul C C
  let E := L2 fsub AA BB
  let DA := L2 fmul (L2 fsub d e) A
  let CB := L2 fmul (L2 fadd d e) C
  let X := L2 fadd DA CB
  let Y := L2 fsub DA CB
  lit 0 16 (dg (val a % P25)) ++ (L2 fmul AA BB ++ (L2 fmul E (L2 fadd AA (L2 fmul smC E)) ++ (L2 fmul X X ++ L2 fmul a (L2 fmul Y Y))))
theorem val_smC : val smC = 121665 := by unfold smC; rw [dg_lit, val_dg (by decide)]
theorem L2_dg {f : Nat → Nat → Nat} (x y : List (BitVec 64)) : L2 f x y = dg (f (val x) (val y)) := by unfold L2; rw [dg_lit]
theorem stpL_dgs (a b c d e : List (BitVec 64)) : stpL a b c d e = (W5.step ⟨val a, val b, val c, val d, val e⟩).dgs := by
  simp only [stpL, W5.step, W5.dgs, val_smC, L2_dg, dg_lit, val_dg (Nat.lt_trans (fadd_lt _ _) P25_W), val_dg (Nat.lt_trans (fsub_lt _ _) P25_W), val_dg (Nat.lt_trans (fmul_lt _ _) P25_W)]

theorem step_tri (B : Nat) (a b c d e : List (BitVec 64)) (ha : D (lit 0 16 a)) (hb : D (lit 0 16 b)) (hc : D (lit 0 16 c)) (hd : D (lit 0 16 d)) (he : D (lit 0 16 e)) :
    Tri P0 B (cxb true) 90 2 (stpB.drop 3) (stpSt a b c d e) (Ret (cxb true) Tryz.f27.results.toList ⟨.one (.ag [.d64 (stpL (lit 0 16 a) (lit 0 16 b) (lit 0 16 c) (lit 0 16 d) (lit 0 16 e))]), [], 2, .eff, []⟩) := by
  refine Tri.ret (cx := cxb true) mix T0ok (HStok B true) 0 noOrc [4] [2 + 1] (2 + 20) ⟨[(4, .one (.s (.p (2 + 1) 0)))], [(2 + 1, ⟨80, .d64 (stpL (lit 0 16 a) (lit 0 16 b) (lit 0 16 c) (lit 0 16 d) (lit 0 16 e)), true, false, false⟩)], 2 + 20⟩ ([D (lit 0 16 b), D (lit 0 16 c), D (lit 0 16 b), D (lit 0 16 c), D (L2 fadd (lit 0 16 b) (lit 0 16 c)), D (L2 fadd (lit 0 16 b) (lit 0 16 c)), D (L2 fsub (lit 0 16 b) (lit 0 16 c)), D (L2 fsub (lit 0 16 b) (lit 0 16 c)), D (L2 fmul (L2 fadd (lit 0 16 b) (lit 0 16 c)) (L2 fadd (lit 0 16 b) (lit 0 16 c))), D (L2 fmul (L2 fsub (lit 0 16 b) (lit 0 16 c)) (L2 fsub (lit 0 16 b) (lit 0 16 c))), D (lit 0 16 d), D (lit 0 16 e), D (L2 fsub (lit 0 16 d) (lit 0 16 e)), D (L2 fadd (lit 0 16 b) (lit 0 16 c)), D (lit 0 16 d), D (lit 0 16 e), D (L2 fadd (lit 0 16 d) (lit 0 16 e)), D (L2 fsub (lit 0 16 b) (lit 0 16 c)), D (L2 fmul (L2 fsub (lit 0 16 d) (lit 0 16 e)) (L2 fadd (lit 0 16 b) (lit 0 16 c))), D (L2 fmul (L2 fadd (lit 0 16 d) (lit 0 16 e)) (L2 fsub (lit 0 16 b) (lit 0 16 c))), D (L2 fmul (L2 fsub (lit 0 16 d) (lit 0 16 e)) (L2 fadd (lit 0 16 b) (lit 0 16 c))), D (L2 fmul (L2 fadd (lit 0 16 d) (lit 0 16 e)) (L2 fsub (lit 0 16 b) (lit 0 16 c))), D (lit 0 16 a), D (L2 fmul (L2 fadd (lit 0 16 b) (lit 0 16 c)) (L2 fadd (lit 0 16 b) (lit 0 16 c))), D (L2 fmul (L2 fsub (lit 0 16 b) (lit 0 16 c)) (L2 fsub (lit 0 16 b) (lit 0 16 c))), D smC, D (L2 fsub (L2 fmul (L2 fadd (lit 0 16 b) (lit 0 16 c)) (L2 fadd (lit 0 16 b) (lit 0 16 c))) (L2 fmul (L2 fsub (lit 0 16 b) (lit 0 16 c)) (L2 fsub (lit 0 16 b) (lit 0 16 c)))), D (L2 fmul (L2 fadd (lit 0 16 b) (lit 0 16 c)) (L2 fadd (lit 0 16 b) (lit 0 16 c))), D (L2 fmul smC (L2 fsub (L2 fmul (L2 fadd (lit 0 16 b) (lit 0 16 c)) (L2 fadd (lit 0 16 b) (lit 0 16 c))) (L2 fmul (L2 fsub (lit 0 16 b) (lit 0 16 c)) (L2 fsub (lit 0 16 b) (lit 0 16 c))))), D (L2 fsub (L2 fmul (L2 fadd (lit 0 16 b) (lit 0 16 c)) (L2 fadd (lit 0 16 b) (lit 0 16 c))) (L2 fmul (L2 fsub (lit 0 16 b) (lit 0 16 c)) (L2 fsub (lit 0 16 b) (lit 0 16 c)))), D (L2 fadd (L2 fmul (L2 fadd (lit 0 16 b) (lit 0 16 c)) (L2 fadd (lit 0 16 b) (lit 0 16 c))) (L2 fmul smC (L2 fsub (L2 fmul (L2 fadd (lit 0 16 b) (lit 0 16 c)) (L2 fadd (lit 0 16 b) (lit 0 16 c))) (L2 fmul (L2 fsub (lit 0 16 b) (lit 0 16 c)) (L2 fsub (lit 0 16 b) (lit 0 16 c)))))), D (L2 fadd (L2 fmul (L2 fsub (lit 0 16 d) (lit 0 16 e)) (L2 fadd (lit 0 16 b) (lit 0 16 c))) (L2 fmul (L2 fadd (lit 0 16 d) (lit 0 16 e)) (L2 fsub (lit 0 16 b) (lit 0 16 c)))), D (L2 fadd (L2 fmul (L2 fsub (lit 0 16 d) (lit 0 16 e)) (L2 fadd (lit 0 16 b) (lit 0 16 c))) (L2 fmul (L2 fadd (lit 0 16 d) (lit 0 16 e)) (L2 fsub (lit 0 16 b) (lit 0 16 c)))), D (L2 fsub (L2 fmul (L2 fsub (lit 0 16 d) (lit 0 16 e)) (L2 fadd (lit 0 16 b) (lit 0 16 c))) (L2 fmul (L2 fadd (lit 0 16 d) (lit 0 16 e)) (L2 fsub (lit 0 16 b) (lit 0 16 c)))), D (L2 fsub (L2 fmul (L2 fsub (lit 0 16 d) (lit 0 16 e)) (L2 fadd (lit 0 16 b) (lit 0 16 c))) (L2 fmul (L2 fadd (lit 0 16 d) (lit 0 16 e)) (L2 fsub (lit 0 16 b) (lit 0 16 c)))), D (lit 0 16 a), D (L2 fmul (L2 fsub (L2 fmul (L2 fsub (lit 0 16 d) (lit 0 16 e)) (L2 fadd (lit 0 16 b) (lit 0 16 c))) (L2 fmul (L2 fadd (lit 0 16 d) (lit 0 16 e)) (L2 fsub (lit 0 16 b) (lit 0 16 c)))) (L2 fsub (L2 fmul (L2 fsub (lit 0 16 d) (lit 0 16 e)) (L2 fadd (lit 0 16 b) (lit 0 16 c))) (L2 fmul (L2 fadd (lit 0 16 d) (lit 0 16 e)) (L2 fsub (lit 0 16 b) (lit 0 16 c)))))]) .r (by kernel_rfl) ?_ (by kernel_rfl) rfl [] [] (by kernel_rfl) obNil
  repeat' (first | exact obNil | refine obCons ?_ ?_)
  all_goals (with_reducible first | exact ha | exact hb | exact hc | exact hd | exact he | exact D_smC | exact D_L2 _ _ _)

theorem step1 (B : Nat) (a b c d e : List (BitVec 64)) (ha : D (lit 0 16 a)) (hb : D (lit 0 16 b)) (hc : D (lit 0 16 c)) (hd : D (lit 0 16 d)) (he : D (lit 0 16 e)) (bt : BitVec 64) :
    FnE P0 B 2 27 [.one (.ag [.d64 (fiv a b c d e)]), .one (.s (.u64 bt))] [] 2 ⟨.one (.ag [.d64 (bif decide (bt.toNat = 1) then stpL (lit 0 16 a) (lit 0 16 d) (lit 0 16 e) (lit 0 16 b) (lit 0 16 c) else stpL (lit 0 16 a) (lit 0 16 b) (lit 0 16 c) (lit 0 16 d) (lit 0 16 e))]), [], 2, .eff, []⟩ := by
  refine FnE.tri (cx := cxb true) (sz := 90) (fn := Tryz.f27) (c := bodyOf Tryz.f27) T0ok (by kernel_rfl) (by kernel_rfl) (by kernel_rfl) (by kernel_rfl) (by kernel_rfl) (by kernel_rfl) (Nat.le_refl _) ?_
  cases hb1 : decide (bt.toNat = 1) with
  | true =>
    refine Tri.step (cx := cxb true) mix T0ok (HStok B true) 3 0 (orcL [(15, true)]) [2, 4] [2, 2 + 1] (2 + 2) (stpSt a d e b c) [decide (bt.toNat = (1#64).toNat) = true] (by kernel_rfl) (obCons hb1 obNil) (by kernel_rfl) ?_
    exact step_tri B a d e b c ha hd he hb hc
  | false =>
    refine Tri.step (cx := cxb true) mix T0ok (HStok B true) 3 0 (orcL [(15, false)]) [2, 4] [2, 2 + 1] (2 + 2) (stpSt a b c d e) [decide (bt.toNat = (1#64).toNat) = false] (by kernel_rfl) (obCons hb1 obNil) (by kernel_rfl) ?_
    exact step_tri B a b c d e ha hb hc hd he

/-- the numbers in 80 digits -/
def toW (w : List (BitVec 64)) : W5 := ⟨val (w.take 16), val ((w.drop 16).take 16), val ((w.drop 32).take 16), val ((w.drop 48).take 16), val ((w.drop 64).take 16)⟩
def stepW (w : List (BitVec 64)) (b : BitVec 64) : List (BitVec 64) := (bif decide (b.toNat = 1) then (toW w).swap else toW w).step.dgs
theorem W5.dgs_length (w : W5) : w.dgs.length = 80 := by unfold W5.dgs; simp only [List.length_append, dg_length]

def stepCt : Ct := ⟨[.val, .val], [], fun vs ds gs => match vs, ds, gs with
  | [.one (.ag [.d64 w]), .one (.s (.u64 b))], [], [] => bif Nat.beq w.length 80 then some ⟨.one (.ag [.d64 (lit 0 80 (stepW w b))]), [], [], [D w]⟩ else none
  | _, _, _ => none⟩
theorem D.take {w : List (BitVec 64)} (h : D w) (n : Nat) : D (w.take n) := fun x hx => h x (List.mem_of_mem_take hx)
theorem D.drop {w : List (BitVec 64)} (h : D w) (n : Nat) : D (w.drop n) := fun x hx => h x (List.mem_of_mem_drop hx)
theorem fiv_of {w : List (BitVec 64)} (h : w.length = 80) : w = fiv (w.take 16) ((w.drop 16).take 16) ((w.drop 32).take 16) ((w.drop 48).take 16) ((w.drop 64).take 16) := by
  have l1 : (w.take 16).length = 16 := by rw [List.length_take, h]; rfl
  have l2 : ((w.drop 16).take 16).length = 16 := by rw [List.length_take, List.length_drop, h]; rfl
  have l3 : ((w.drop 32).take 16).length = 16 := by rw [List.length_take, List.length_drop, h]; rfl
  have l4 : ((w.drop 48).take 16).length = 16 := by rw [List.length_take, List.length_drop, h]; rfl
  have l5 : ((w.drop 64).take 16).length = 16 := by rw [List.length_take, List.length_drop, h]; rfl
  unfold fiv
  rw [lit_eq l1, lit_eq l2, lit_eq l3, lit_eq l4, lit_eq l5]
  have e5 : (w.drop 64).take 16 = w.drop 64 := List.take_of_length_le (by rw [List.length_drop, h]; decide)
  have e4 : (w.drop 48).take 16 ++ w.drop 64 = w.drop 48 := by have := List.take_append_drop 16 (w.drop 48); rwa [List.drop_drop] at this
  have e3 : (w.drop 32).take 16 ++ w.drop 48 = w.drop 32 := by have := List.take_append_drop 16 (w.drop 32); rwa [List.drop_drop] at this
  have e2 : (w.drop 16).take 16 ++ w.drop 32 = w.drop 16 := by have := List.take_append_drop 16 (w.drop 16); rwa [List.drop_drop] at this
  rw [e5, e4, e3, e2, List.take_append_drop]
theorem step_ok (B : Nat) : stepCt.Ok P0 B 2 27 := by
  intro vs ds gs out h hpre hn
  unfold stepCt at h
  dsimp only at h
  split at h <;> first | (cases h; done) | skip
  rename_i w b
  cases hb : Nat.beq w.length 80 with
  | false => rw [hb] at h; cases h
  | true =>
    rw [hb, cond_true] at h
    cases h
    have k1 := Nat.eq_of_beq_eq_true hb
    have hD : D w := hpre _ List.mem_cons_self
    have l1 : (w.take 16).length = 16 := by rw [List.length_take, k1]; rfl
    have l2 : ((w.drop 16).take 16).length = 16 := by rw [List.length_take, List.length_drop, k1]; rfl
    have l3 : ((w.drop 32).take 16).length = 16 := by rw [List.length_take, List.length_drop, k1]; rfl
    have l4 : ((w.drop 48).take 16).length = 16 := by rw [List.length_take, List.length_drop, k1]; rfl
    have l5 : ((w.drop 64).take 16).length = 16 := by rw [List.length_take, List.length_drop, k1]; rfl
    have := step1 B (w.take 16) ((w.drop 16).take 16) ((w.drop 32).take 16) ((w.drop 48).take 16) ((w.drop 64).take 16) (by rw [lit_eq l1]; exact hD.take _) (by rw [lit_eq l2]; exact (hD.drop _).take _) (by rw [lit_eq l3]; exact (hD.drop _).take _) (by rw [lit_eq l4]; exact (hD.drop _).take _) (by rw [lit_eq l5]; exact (hD.drop _).take _) b
    rw [← fiv_of k1, lit_eq l1, lit_eq l2, lit_eq l3, lit_eq l4, lit_eq l5, stpL_dgs, stpL_dgs] at this
    have e : lit 0 80 (stepW w b) = (bif decide (b.toNat = 1) then (W5.step ⟨val (w.take 16), val ((w.drop 48).take 16), val ((w.drop 64).take 16), val ((w.drop 16).take 16), val ((w.drop 32).take 16)⟩).dgs else (W5.step ⟨val (w.take 16), val ((w.drop 16).take 16), val ((w.drop 32).take 16), val ((w.drop 48).take 16), val ((w.drop 64).take 16)⟩).dgs) := by
      unfold stepW
      rw [lit_eq (W5.dgs_length _)]
      cases decide (b.toNat = 1) <;> rfl
    rw [e]
    exact this
end Go.Sx

set_option maxRecDepth 1000000
set_option linter.unusedVariables false
namespace Go.Sx
open Go.Proofs
def finv (v : Nat) : Nat := fpow v (P25 - 2)
theorem finv_lt (v : Nat) : finv v < P25 := fpow_lt _ _
def iE : List (BitVec 64) := lit 0 16 (bpass 0#64 pd25 (lit 0 16 (dg 2)))
theorem val_iE : val iE = P25 - 2 := by
  have h : iE = dg (P25 - 2) := by kernel_rfl
  rw [h, val_dg (by decide)]
theorem D_iE : D iE := by
  have h : iE = dg (P25 - 2) := by kernel_rfl
  rw [h]; exact dg_lt _
noncomputable def HIvb (c : Bool) : Hook := hookC 42 (hookOf (cxb c) (binCt fpow)) (HSt c)
theorem HIvbok (B : Nat) (c : Bool) : HookOk P0 B 2 (HIvb c) := .cons (.ct (cx := cxb c) (power_ok B)) (HStok B c)

theorem inv_ok (B : Nat) : (unCt finv).Ok P0 B 2 30 := unCt_ok B _ _ fun a la ha => by
  have e : dg (fpow (val (lit 0 16 a)) (val iE)) = dg (finv (val a)) := by rw [lit_eq la, val_iE]; rfl
  rw [← e]
  refine FnE.tri (cx := cxb true) (sz := 8) (fn := Tryz.f30) (c := bodyOf Tryz.f30) T0ok (by kernel_rfl) (by kernel_rfl) (by kernel_rfl) (by kernel_rfl) (by kernel_rfl) (by kernel_rfl) (Nat.le_refl _) ?_
  exact Tri.ret (cx := cxb true) mix T0ok (HIvbok B true) 0 noOrc [2] [2 + 1] (2 + 9) ⟨[(2, .one (.s (.p (2 + 1) 0)))], [(2 + 1, ⟨16, .d64 (lit 0 16 (dg (fpow (val (lit 0 16 a)) (val iE)))), true, false, false⟩)], 2 + 9⟩ [D (lit 0 16 a), D iE] .r (by kernel_rfl) (obCons (by rw [lit_eq la]; exact ha) <| obCons D_iE obNil) (by kernel_rfl) rfl [] [] (by kernel_rfl) obNil

def clampCt : Ct := ⟨[.val], [], fun vs ds gs => match vs, ds, gs with
  | [.one (.ag [.d8 k])], [], [] => bif Nat.beq k.length 32 then some ⟨.one (.ag [.d8 (lit 0 32 (clampB k))]), [], [], []⟩ else none
  | _, _, _ => none⟩
theorem clamp_ok (B : Nat) : clampCt.Ok P0 B 2 24 := by
  intro vs ds gs out h hpre hn
  unfold clampCt at h
  dsimp only at h
  split at h <;> first | (cases h; done) | skip
  rename_i k
  cases hb : Nat.beq k.length 32 with
  | false => rw [hb] at h; cases h
  | true =>
    rw [hb, cond_true] at h
    cases h
    have k1 := Nat.eq_of_beq_eq_true hb
    have : FnE P0 B 2 24 [.one (.ag [.d8 (lit 0 32 k)])] [] 2 ⟨.one (.ag [.d8 (lit 0 32 (clampB (lit 0 32 k)))]), [], 2, .eff, []⟩ := by
      refine FnE.tri (cx := cxb true) (sz := 13) (fn := Tryz.f24) (c := bodyOf Tryz.f24) T0ok (by kernel_rfl) (by kernel_rfl) (by kernel_rfl) (by kernel_rfl) (by kernel_rfl) (by kernel_rfl) (Nat.le_refl _) ?_
      exact Tri.ret (cx := cxb true) mix T0ok (H0ok B true) 0 noOrc [2] [2 + 1] (2 + 9) ⟨[(2, .one (.s (.p (2 + 1) 0)))], [(2 + 1, ⟨32, .d8 (lit 0 32 (clampB (lit 0 32 k))), true, false, false⟩)], 2 + 9⟩ [] .r (by kernel_rfl) obNil (by kernel_rfl) rfl [] [] (by kernel_rfl) obNil
    rw [lit_eq k1] at this
    exact this

def bytesCt : Ct := ⟨[.val], [], fun vs ds gs => match vs, ds, gs with
  | [.one (.ag [.d64 a])], [], [] => bif Nat.beq a.length 16 then some ⟨.one (.ag [.d8 (lit 0 32 (bd2 a))]), [], [], []⟩ else none
  | _, _, _ => none⟩
theorem bytes_ok (B : Nat) : bytesCt.Ok P0 B 2 28 := by
  intro vs ds gs out h hpre hn
  unfold bytesCt at h
  dsimp only at h
  split at h <;> first | (cases h; done) | skip
  rename_i k
  cases hb : Nat.beq k.length 16 with
  | false => rw [hb] at h; cases h
  | true =>
    rw [hb, cond_true] at h
    cases h
    have k1 := Nat.eq_of_beq_eq_true hb
    have : FnE P0 B 2 28 [.one (.ag [.d64 (lit 0 16 k)])] [] 2 ⟨.one (.ag [.d8 (lit 0 32 (bd2 (lit 0 16 k)))]), [], 2, .eff, []⟩ := by
      refine FnE.tri (cx := cxb true) (sz := 22) (fn := Tryz.f28) (c := bodyOf Tryz.f28) T0ok (by kernel_rfl) (by kernel_rfl) (by kernel_rfl) (by kernel_rfl) (by kernel_rfl) (by kernel_rfl) (Nat.le_refl _) ?_
      exact Tri.ret (cx := cxb true) mix T0ok (H0ok B true) 33 noOrc [2] [2 + 1] (2 + 9) ⟨[(2, .one (.s (.p (2 + 1) 0)))], [(2 + 1, ⟨32, .d8 (lit 0 32 (bd2 (lit 0 16 k))), true, false, false⟩)], 2 + 9⟩ [] .r (by kernel_rfl) obNil (by kernel_rfl) rfl [] [] (by kernel_rfl) obNil
    rw [lit_eq k1] at this
    exact this

def ofCt : Ct := ⟨[.val], [], fun vs ds gs => match vs, ds, gs with
  | [.one (.ag [.d8 b])], [], [] => bif Nat.beq b.length 32 then some ⟨.one (.ag [.d64 (lit 0 16 (dg (leN b)))]), [], [], []⟩ else none
  | _, _, _ => none⟩
theorem of_ok (B : Nat) : ofCt.Ok P0 B 2 23 := by
  intro vs ds gs out h hpre hn
  unfold ofCt at h
  dsimp only at h
  split at h <;> first | (cases h; done) | skip
  rename_i k
  cases hb : Nat.beq k.length 32 with
  | false => rw [hb] at h; cases h
  | true =>
    rw [hb, cond_true] at h
    cases h
    have k1 := Nat.eq_of_beq_eq_true hb
    have : FnE P0 B 2 23 [.one (.ag [.d8 (lit 0 32 k)])] [] 2 ⟨.one (.ag [.d64 (lit 0 16 (d16 (lit 0 32 k)))]), [], 2, .eff, []⟩ := by
      refine FnE.tri (cx := cxb true) (sz := 28) (fn := Tryz.f23) (c := bodyOf Tryz.f23) T0ok (by kernel_rfl) (by kernel_rfl) (by kernel_rfl) (by kernel_rfl) (by kernel_rfl) (by kernel_rfl) (Nat.le_refl _) ?_
      exact Tri.ret (cx := cxb true) mix T0ok (H0ok B true) 33 noOrc [2] [2 + 1] (2 + 9) ⟨[(2, .one (.s (.p (2 + 1) 0)))], [(2 + 1, ⟨16, .d64 (lit 0 16 (d16 (lit 0 32 k))), true, false, false⟩)], 2 + 9⟩ [] .r (by kernel_rfl) obNil (by kernel_rfl) rfl [] [] (by kernel_rfl) obNil
    rw [lit_eq k1, d16_dg k k1] at this
    exact this
end Go.Sx

set_option maxRecDepth 1000000
set_option linter.unusedVariables false
namespace Go.Sx
open Go.Proofs
noncomputable def HX (c : Bool) : Hook := hookC 26 (hookOf (cxb c) bitCt) (hookC 23 (hookOf (cxb c) ofCt) (hookC 24 (hookOf (cxb c) clampCt) (hookC 28 (hookOf (cxb c) bytesCt) (hookC 27 (hookOf (cxb c) stepCt) (hookC 30 (hookOf (cxb c) (unCt finv)) (HSt c))))))
theorem HXok (B : Nat) (c : Bool) : HookOk P0 B 2 (HX c) := .cons (.ct (cx := cxb c) (bit_ok B)) (.cons (.ct (cx := cxb c) (of_ok B)) (.cons (.ct (cx := cxb c) (clamp_ok B)) (.cons (.ct (cx := cxb c) (bytes_ok B)) (.cons (.ct (cx := cxb c) (step_ok B)) (.cons (.ct (cx := cxb c) (inv_ok B)) (HStok B c))))))
noncomputable def xB : List Code := flat (bodyOf Tryz.f13)
def maskP (p : List (BitVec 8)) : List (BitVec 8) := p.set 31 (p.getD 31 0 &&& 127#8)
def xSt (s p : List (BitVec 8)) (w : List (BitVec 64)) (l : BitVec 64) (i : Int) : St := ⟨[(4, .one (.s (.p (2 + 2) 0))), (5, .one (.s (.p (2 + 3) 0))), (7, .one (.s (.p (2 + 5) 0))), (8, .one (.s (.u64 l))), (9, .one (.s (.i i)))], [(2 + 2, ⟨32, .d8 (List.replicate 32 0), true, false, false⟩), (2 + 3, ⟨16, .d64 (lit 0 16 (dg (leN (lit 0 32 (clampB (lit 0 32 s)))))), true, false, false⟩), (2 + 5, ⟨80, .d64 w, true, false, false⟩)], 2 + 6⟩
end Go.Sx

set_option maxRecDepth 1000000
set_option linter.unusedVariables false
namespace Go.Sx
open Go.Proofs
def W5.ok (w : W5) : Prop := w.x1 < W25 ∧ w.x2 < W25 ∧ w.z2 < W25 ∧ w.x3 < W25 ∧ w.z3 < W25
def W5.stp (w : W5) (b : BitVec 64) : W5 := (bif decide (b.toNat = 1) then w.swap else w).step
theorem W5.step_ok (w : W5) : w.step.ok := ⟨Nat.lt_trans (Nat.mod_lt _ P25_pos) P25_W, Nat.lt_trans (fmul_lt _ _) P25_W, Nat.lt_trans (fmul_lt _ _) P25_W, Nat.lt_trans (fmul_lt _ _) P25_W, Nat.lt_trans (fmul_lt _ _) P25_W⟩
theorem W5.dgs_lit (w : W5) : lit 0 80 w.dgs = w.dgs := lit_eq w.dgs_length
theorem tk16w {a b : List (BitVec 64)} (h : a.length = 16) : (a ++ b).take 16 = a := by rw [List.take_append_of_le_length (by omega), List.take_of_length_le (by omega)]
theorem dr16w {a b : List (BitVec 64)} (h : a.length = 16) : (a ++ b).drop 16 = b := by rw [List.drop_append_of_le_length (by omega), List.drop_of_length_le (by omega), List.nil_append]
theorem toW_dgs {w : W5} (h : w.ok) : toW w.dgs = w := by
  obtain ⟨x1, x2, z2, x3, z3⟩ := w
  obtain ⟨h1, h2, h3, h4, h5⟩ := h
  have d2 : ∀ l : List (BitVec 64), l.drop 32 = (l.drop 16).drop 16 := fun l => by rw [List.drop_drop]
  have d3 : ∀ l : List (BitVec 64), l.drop 48 = ((l.drop 16).drop 16).drop 16 := fun l => by rw [List.drop_drop, List.drop_drop]
  have d4 : ∀ l : List (BitVec 64), l.drop 64 = (((l.drop 16).drop 16).drop 16).drop 16 := fun l => by rw [List.drop_drop, List.drop_drop, List.drop_drop]
  unfold toW W5.dgs
  dsimp only
  rw [d2, d3, d4]
  simp only [tk16w (dg_length _), dr16w (dg_length _)]
  rw [List.take_of_length_le (by rw [dg_length]; decide), val_dg h1, val_dg h2, val_dg h3, val_dg h4, val_dg h5]
theorem stepW_dgs {w : W5} (h : w.ok) (b : BitVec 64) : stepW w.dgs b = (w.stp b).dgs := by unfold stepW; rw [toW_dgs h]; rfl
theorem D_dgs (w : W5) : D w.dgs := by
  intro x hx
  unfold W5.dgs at hx
  rcases List.mem_append.1 hx with h | hx
  · exact dg_lt _ x h
  rcases List.mem_append.1 hx with h | hx
  · exact dg_lt _ x h
  rcases List.mem_append.1 hx with h | hx
  · exact dg_lt _ x h
  rcases List.mem_append.1 hx with h | h
  · exact dg_lt _ x h
  · exact dg_lt _ x h
theorem dgs_fiv (w : W5) : w.dgs = fiv (dg w.x1) (dg w.x2) (dg w.z2) (dg w.x3) (dg w.z3) := by unfold fiv; rw [dg_lit, dg_lit, dg_lit, dg_lit, dg_lit]; rfl

/-- the ladder behind j bits, and the bit that was looked at last -/
def ladJ (K : Nat) (w0 : W5) : Nat → W5 × BitVec 64
  | 0 => (w0, 0#64)
  | j + 1 => ((ladJ K w0 j).1.stp (bitN K (254 - j) ^^^ (ladJ K w0 j).2), bitN K (254 - j))
theorem ladJ_ok (K : Nat) (w0 : W5) (h : w0.ok) : ∀ j, (ladJ K w0 j).1.ok
  | 0 => h
  | j + 1 => W5.step_ok _
theorem ladJ_succ (K : Nat) (w0 : W5) (i : Nat) (hi : i < 255) : ladJ K w0 (255 - i) = ((ladJ K w0 (255 - (i + 1))).1.stp (bitN K i ^^^ (ladJ K w0 (255 - (i + 1))).2), bitN K i) := by
  obtain ⟨j, hj⟩ : ∃ j, 255 - (i + 1) = j := ⟨_, rfl⟩
  rw [hj, show 255 - i = j + 1 by omega]
  rw [show ladJ K w0 (j + 1) = ((ladJ K w0 j).1.stp (bitN K (254 - j) ^^^ (ladJ K w0 j).2), bitN K (254 - j)) from rfl, show 254 - j = i by omega]
/-- the point's number behind the ladder -/
def xlad (K U : Nat) : Nat :=
  let r := ladJ K ⟨U, 1, 0, U, 1⟩ 255
  bif decide (r.2.toNat = 1) then fmul r.1.x3 (finv r.1.z3) else fmul r.1.x2 (finv r.1.z2)
def x25519 (s p : List (BitVec 8)) : List (BitVec 8) := bytesN 32 (xlad (leN (clampB s)) (leN (maskP p)))
theorem maskP_length (p : List (BitVec 8)) : (maskP p).length = p.length := by unfold maskP; rw [List.length_set]
end Go.Sx

set_option maxRecDepth 1000000
set_option linter.unusedVariables false
namespace Go.Sx
open Go.Proofs

def xo (x z : Nat) : List (BitVec 8) := bd2 (lit 0 16 (dg (fmul (val (lit 0 16 (dg x))) (val (lit 0 16 (dg (finv (val (lit 0 16 (dg z))))))))))
def kD (s : List (BitVec 8)) : Nat := leN (lit 0 32 (clampB (lit 0 32 s)))
def wI (s p : List (BitVec 8)) (j : Nat) : W5 × BitVec 64 := ladJ (kD s) ⟨leN (maskP p), 1, 0, leN (maskP p), 1⟩ j
theorem x_fin (B : Nat) (s p : List (BitVec 8)) (w : W5) (hw : w.ok) (l : BitVec 64) (j : Int) :
    Tri P0 B (cxb true) 54 2 (xB.drop 8) (xSt s p (lit 0 80 w.dgs) l j) (Ret (cxb true) Tryz.f13.results.toList ⟨.one (.ag [.d8 (lit 0 32 (bytesN 32 (bif decide (l.toNat = 1) then fmul w.x3 (finv w.z3) else fmul w.x2 (finv w.z2))))]), [], 2, .eff, []⟩) := by
  rw [W5.dgs_lit, dgs_fiv]
  obtain ⟨x1, x2, z2, x3, z3⟩ := w
  obtain ⟨h1, h2, h3, h4, h5⟩ := hw
  dsimp only at *
  have hD : ∀ v, D (lit 0 16 (dg v)) := fun v => by unfold D; rw [dg_lit]; exact dg_lt v
  have eR : ∀ x z : Nat, x < W25 → z < W25 → xo x z = bytesN 32 (fmul x (finv z)) := fun x z hx hz => by
    unfold xo
    rw [dg_lit, dg_lit, dg_lit, dg_lit, val_dg hx, val_dg hz, val_dg (Nat.lt_trans (finv_lt _) P25_W), bd2_dg _ (Nat.lt_trans (fmul_lt _ _) P25_W)]
  cases hl : decide (l.toNat = 1) with
  | true =>
    rw [cond_true, ← eR x3 z3 h4 h5]
    exact Tri.ret (cx := cxb true) mix T0ok (HXok B true) 0 (orcL [(40, true)]) [4] [2 + 2] (2 + 6) ⟨[(4, .one (.s (.p (2 + 2) 0)))], [(2 + 2, ⟨32, .d8 (lit 0 32 (xo x3 z3)), true, false, false⟩)], 2 + 6⟩ [decide (l.toNat = (1#64).toNat) = true, D (lit 0 16 (dg z3)), D (lit 0 16 (dg x3)), D (lit 0 16 (dg (finv (val (lit 0 16 (dg z3))))))] .r (by kernel_rfl) (obCons hl <| obCons (hD _) <| obCons (hD _) <| obCons (hD _) obNil) (by kernel_rfl) rfl [] [] (by kernel_rfl) obNil
  | false =>
    rw [cond_false, ← eR x2 z2 h2 h3]
    exact Tri.ret (cx := cxb true) mix T0ok (HXok B true) 0 (orcL [(40, false)]) [4] [2 + 2] (2 + 6) ⟨[(4, .one (.s (.p (2 + 2) 0)))], [(2 + 2, ⟨32, .d8 (lit 0 32 (xo x2 z2)), true, false, false⟩)], 2 + 6⟩ [decide (l.toNat = (1#64).toNat) = false, D (lit 0 16 (dg z2)), D (lit 0 16 (dg x2)), D (lit 0 16 (dg (finv (val (lit 0 16 (dg z2))))))] .r (by kernel_rfl) (obCons hl <| obCons (hD _) <| obCons (hD _) <| obCons (hD _) obNil) (by kernel_rfl) rfl [] [] (by kernel_rfl) obNil

theorem x25519_1 (B : Nat) (s p : List (BitVec 8)) (ls : s.length = 32) (lp : p.length = 32) : FnE P0 B 2 13 [.one (.ag [.d8 (lit 0 32 s)]), .one (.ag [.d8 (lit 0 32 p)])] [] 2 ⟨.one (.ag [.d8 (lit 0 32 (x25519 s p))]), [], 2, .eff, []⟩ := by
  have hP : (256 : Nat) ^ 32 = W25 := by decide
  have hU : leN (maskP (lit 0 32 p)) < W25 := by have := leN_lt (maskP (lit 0 32 p)); rwa [maskP_length, lit_length, hP] at this
  have hK : leN (lit 0 32 (clampB (lit 0 32 s))) < W25 := by have := leN_lt (lit 0 32 (clampB (lit 0 32 s))); rwa [lit_length, hP] at this
  have hKe : leN (lit 0 32 (clampB (lit 0 32 s))) = leN (clampB s) := by rw [lit_eq ls, lit_eq (by rw [clampB_length, ls])]
  have hUe : leN (maskP (lit 0 32 p)) = leN (maskP p) := by rw [lit_eq lp]
  have eW : lit 0 16 (dg (leN (maskP (lit 0 32 p)))) ++ (lit 0 16 (dg 1) ++ (List.replicate 16 0 ++ (lit 0 16 (dg (leN (maskP (lit 0 32 p)))) ++ lit 0 16 (dg 1)))) = lit 0 80 (W5.dgs ⟨leN (maskP p), 1, 0, leN (maskP p), 1⟩) := by
    rw [W5.dgs_lit, hUe, dg_lit, dg_lit]; unfold W5.dgs; rw [dg_zero]; rfl
  have hx : x25519 s p = bytesN 32 (xlad (leN (lit 0 32 (clampB (lit 0 32 s)))) (leN (maskP p))) := by rw [hKe]; rfl
  have hw0 : (⟨leN (maskP p), 1, 0, leN (maskP p), 1⟩ : W5).ok := by rw [← hUe]; exact ⟨hU, show (1 : Nat) < W25 by decide, show (0 : Nat) < W25 by decide, hU, show (1 : Nat) < W25 by decide⟩
  rw [hx]
  refine FnE.tri (cx := cxb true) (sz := 54) (fn := Tryz.f13) (c := bodyOf Tryz.f13) T0ok (by kernel_rfl) (by kernel_rfl) (by kernel_rfl) (by kernel_rfl) (by kernel_rfl) (by kernel_rfl) (Nat.le_refl _) ?_
  refine Tri.step (cx := cxb true) mix T0ok (HXok B true) 7 0 noOrc [4, 5, 7, 8, 9] [2 + 2, 2 + 3, 2 + 5] (2 + 6) (xSt s p (lit 0 16 (dg (leN (maskP (lit 0 32 p)))) ++ (lit 0 16 (dg 1) ++ (List.replicate 16 0 ++ (lit 0 16 (dg (leN (maskP (lit 0 32 p)))) ++ lit 0 16 (dg 1))))) 0 254) [] (by kernel_rfl) obNil (by kernel_rfl) ?_
  rw [eW]
  have hj : ∀ i, i < 255 → wI s p (255 - i) = ((wI s p (255 - (i + 1))).1.stp (bitN (kD s) i ^^^ (wI s p (255 - (i + 1))).2), bitN (kD s) i) := fun i hi => ladJ_succ _ _ i hi
  have hok : ∀ j, (wI s p j).1.ok := ladJ_ok _ _ hw0
  have hfin : xlad (kD s) (leN (maskP p)) = bif decide ((wI s p 255).2.toNat = 1) then fmul (wI s p 255).1.x3 (finv (wI s p 255).1.z3) else fmul (wI s p 255).1.x2 (finv (wI s p 255).1.z2) := rfl
  rw [show leN (lit 0 32 (clampB (lit 0 32 s))) = kD s from rfl, hfin]
  refine Tri.loop (id := 0) (ι := { i : Nat // i ≤ 255 }) rfl (fun i => xSt s p (lit 0 80 (wI s p (255 - i.1)).1.dgs) (wI s p (255 - i.1)).2 ((i.1 : Int) - 1)) (fun i => i.1) ⟨255, Nat.le_refl _⟩ rfl (fun i => by show 2 ≤ 2 + 6; omega)
    (R1 := fun st => st = xSt s p (lit 0 80 (wI s p 255).1.dgs) (wI s p 255).2 (-1)) (fun ⟨i, hi⟩ => ?_) (fun s' hs => ?_)
  · rcases Nat.eq_zero_or_pos i with rfl | hp
    · refine Tri.chg (cx := cxb false) rfl ?_
      refine Tri.fin (cx := cxb false) mix T0ok (HXok B false) 0 (orcL [(27, false)]) [4, 5, 7, 8, 9] [2 + 2, 2 + 3, 2 + 5] (2 + 6) (.x 0) (xSt s p (lit 0 80 (wI s p 255).1.dgs) (wI s p 255).2 (((0 : Nat) : Int) - 1)) [decide ((0 : Int) ≤ ((0 : Nat) : Int) - 1) = false] (by kernel_rfl) (obCons (by decide) obNil) (by kernel_rfl) ?_
      show xSt s p (lit 0 80 (wI s p 255).1.dgs) (wI s p 255).2 (((0 : Nat) : Int) - 1) = xSt s p (lit 0 80 (wI s p 255).1.dgs) (wI s p 255).2 (-1)
      rfl
    · obtain ⟨j, rfl⟩ : ∃ j, i = j + 1 := ⟨i - 1, by omega⟩
      have ei : (((j + 1 : Nat) : Int) - 1) = (j : Int) := by omega
      have hst := hj j (by omega)
      have how := hok (255 - (j + 1))
      dsimp only
      rw [ei]
      generalize wI s p (255 - (j + 1)) = wl at *
      obtain ⟨w, l⟩ := wl
      dsimp only at *
      have hj0 : decide ((0 : Int) ≤ (j : Int)) = true := decide_eq_true (by omega)
      have hrj : rng ((j : Int) - 1) := by unfold rng; omega
      have hDk : D (lit 0 16 (dg (leN (lit 0 32 (clampB (lit 0 32 s)))))) := by unfold D; rw [dg_lit]; exact dg_lt _
      have hDw : D (lit 0 80 w.dgs) := by rw [W5.dgs_lit]; exact D_dgs w
      refine Tri.step (cx := cxb true) mix T0ok (HXok B true) 3 0 (orcL [(27, true)]) [4, 5, 7, 8, 9] [2 + 2, 2 + 3, 2 + 5] (2 + 6) (xSt s p (lit 0 80 (stepW (lit 0 80 w.dgs) (bitN (val (lit 0 16 (dg (leN (lit 0 32 (clampB (lit 0 32 s))))))) (j : Int).toNat ^^^ l))) (bitN (val (lit 0 16 (dg (leN (lit 0 32 (clampB (lit 0 32 s))))))) (j : Int).toNat) (j : Int)) [decide ((0 : Int) ≤ (j : Int)) = true, D (lit 0 16 (dg (leN (lit 0 32 (clampB (lit 0 32 s)))))), (0 : Int) ≤ (j : Int) ∧ (j : Int) < 256, D (lit 0 80 w.dgs)] (by kernel_rfl) (obCons hj0 <| obCons hDk <| obCons ⟨by omega, by omega⟩ <| obCons hDw obNil) (by kernel_rfl) ?_
      refine Tri.chg (cx := cxb false) rfl ?_
      rw [W5.dgs_lit, stepW_dgs how, dg_lit, val_dg hK, Int.toNat_natCast]
      refine Tri.fin (cx := cxb false) mix T0ok (HXok B false) 0 noOrc [4, 5, 7, 8, 9] [2 + 2, 2 + 3, 2 + 5] (2 + 6) .n (xSt s p (lit 0 80 (w.stp (bitN (leN (lit 0 32 (clampB (lit 0 32 s)))) j ^^^ l)).dgs) (bitN (leN (lit 0 32 (clampB (lit 0 32 s)))) j) ((j : Int) - 1)) [rng ((j : Int) - 1)] (by kernel_rfl) (obCons hrj obNil) (by kernel_rfl) ⟨⟨j, by omega⟩, by show j < j + 1; omega, ?_⟩
      dsimp only
      rw [hst]; rfl
  · subst hs
    exact x_fin B s p _ (hok 255) _ _

def x25519Ct : Ct := ⟨[.val, .val], [], fun vs ds gs => match vs, ds, gs with
  | [.one (.ag [.d8 s]), .one (.ag [.d8 p])], [], [] => bif Nat.beq s.length 32 && Nat.beq p.length 32 then some ⟨.one (.ag [.d8 (lit 0 32 (x25519 s p))]), [], [], []⟩ else none
  | _, _, _ => none⟩
theorem x25519_ok (B : Nat) : x25519Ct.Ok P0 B 2 13 := by
  intro vs ds gs out h hpre hn
  unfold x25519Ct at h
  dsimp only at h
  split at h <;> first | (cases h; done) | skip
  rename_i s p
  cases hb : (Nat.beq s.length 32 && Nat.beq p.length 32) with
  | false => rw [hb] at h; cases h
  | true =>
    rw [hb, cond_true] at h
    cases h
    simp only [Bool.and_eq_true] at hb
    obtain ⟨k1, k2⟩ := hb
    have := x25519_1 B s p (Nat.eq_of_beq_eq_true k1) (Nat.eq_of_beq_eq_true k2)
    rw [lit_eq (Nat.eq_of_beq_eq_true k1), lit_eq (Nat.eq_of_beq_eq_true k2)] at this
    exact this
end Go.Sx
