/- x25519ScalarMult: a step of the ladder. x25519ScalarMult: what it computes. Conditions: none. -/
import Derived.Test.YtbkobeclkeojoaaGreatDoorF1
set_option maxRecDepth 1000000
set_option linter.unusedVariables false
namespace Go.Sx
open Go.Proofs
def addR (a b : List (BitVec 64)) : List (BitVec 64) := lit 0 5 (cpL [a.getD 0 0 + b.getD 0 0, a.getD 1 0 + b.getD 1 0, a.getD 2 0 + b.getD 2 0, a.getD 3 0 + b.getD 3 0, a.getD 4 0 + b.getD 4 0])
def subR (a b : List (BitVec 64)) : List (BitVec 64) := lit 0 5 (cpL [a.getD 0 0 + 4503599627370458#64 - b.getD 0 0, a.getD 1 0 + 4503599627370494#64 - b.getD 1 0, a.getD 2 0 + 4503599627370494#64 - b.getD 2 0, a.getD 3 0 + 4503599627370494#64 - b.getD 3 0, a.getD 4 0 + 4503599627370494#64 - b.getD 4 0])
def m32R (a : List (BitVec 64)) : List (BitVec 64) := lit 0 5 (m32L a 121666#32)
/-- the elements of the ladder -/
structure L6 where
  x2 : List (BitVec 64)
  z2 : List (BitVec 64)
  x3 : List (BitVec 64)
  z3 : List (BitVec 64)
  a : List (BitVec 64)
  b : List (BitVec 64)
def stL (x1 x2 z2 x3 z3 : List (BitVec 64)) : L6 :=
  let t0 := subR x3 z3
  let t1 := subR x2 z2
  let x2a := addR x2 z2
  let z2a := addR x3 z3
  let z3a := m5 t0 x2a
  let z2b := m5 z2a t1
  let t0a := s5 t1
  let t1a := s5 x2a
  let x3a := addR z3a z2b
  let z2c := subR z3a z2b
  let x2b := m5 t1a t0a
  let t1b := subR t1a t0a
  let z2d := s5 z2c
  let z3b := m32R t1b
  let x3b := s5 x3a
  let t0b := addR t0a z3b
  let z3c := m5 x1 z2d
  let z2e := m5 t1b t0b
  ⟨x2b, z2e, x3b, z3c, t0b, t1b⟩
noncomputable def smK : List Code := lpF ((lpF (smB.drop 12)).drop 2)
def smBase (s1 s2 s3 : List (BitVec 8)) : Mem := [(2 + 1, sg8 (lit 0 32 s1) true), (2 + 2, sg8 (lit 0 32 s2) true), (2 + 3, sg8 (lit 0 32 s3) true)] ++ gM
def smS2 (base : Mem) (ds : SV) (e : List (BitVec 8)) (x1 x2 z2 x3 z3 a b : List (BitVec 64)) (sw i : Int) (bt : BitVec 8) : St := ⟨[(0, ds), (6, .one (.s (.p (2 + 4) 0))), (7, .one (.s (.p (2 + 5) 0))), (8, .one (.s (.p (2 + 6) 0))), (9, .one (.s (.p (2 + 7) 0))), (10, .one (.s (.p (2 + 8) 0))), (11, .one (.s (.p (2 + 9) 0))), (12, .one (.s (.p (2 + 10) 0))), (13, .one (.s (.p (2 + 11) 0))), (14, .one (.s (.i sw))), (15, .one (.s (.i i))), (16, .one (.s (.u8 bt)))],
  [(2 + 4, sg8 e true), (2 + 5, sgr x1 true), (2 + 6, sgr x2 true), (2 + 7, sgr z2 true), (2 + 8, sgr x3 true), (2 + 9, sgr z3 true), (2 + 10, sgr a true), (2 + 11, sgr b true)] ++ base, 2 + 12⟩
def dsv (k : Nat) : SV := .one (.s (.sl k 0 32 32))
theorem smTailA (B : Nat) (s1 s2 s3 : List (BitVec 8)) (e : List (BitVec 8)) (x1 x2 z2 x3 z3 a b : List (BitVec 64)) (sw i : Int) (bt : BitVec 8) {R : Ex → St → Prop}
    (h : R .n (smSt (smBase s1 s2 s3) (dsv (2 + 3)) (lit 0 32 e) (lit 0 5 x1) (stL (lit 0 5 x1) (lit 0 5 x2) (lit 0 5 z2) (lit 0 5 x3) (lit 0 5 z3)).x2 (stL (lit 0 5 x1) (lit 0 5 x2) (lit 0 5 z2) (lit 0 5 x3) (lit 0 5 z3)).z2 (stL (lit 0 5 x1) (lit 0 5 x2) (lit 0 5 z2) (lit 0 5 x3) (lit 0 5 z3)).x3 (stL (lit 0 5 x1) (lit 0 5 x2) (lit 0 5 z2) (lit 0 5 x3) (lit 0 5 z3)).z3 (stL (lit 0 5 x1) (lit 0 5 x2) (lit 0 5 z2) (lit 0 5 x3) (lit 0 5 z3)).a (stL (lit 0 5 x1) (lit 0 5 x2) (lit 0 5 z2) (lit 0 5 x3) (lit 0 5 z3)).b (bt.toNat : Int) i)) :
    Tri P0 B (cxb true) 91 (2 + 4) (smK.drop 5) (smS2 (smBase s1 s2 s3) (dsv (2 + 3)) (lit 0 32 e) (lit 0 5 x1) (lit 0 5 x2) (lit 0 5 z2) (lit 0 5 x3) (lit 0 5 z3) (lit 0 5 a) (lit 0 5 b) sw i bt) R := by
  refine Tri.fin (cx := cxb true) mix T0ok (HE5ok B true) 0 noOrc [0, 6, 7, 8, 9, 10, 11, 12, 13, 14, 15] [2 + 4, 2 + 5, 2 + 6, 2 + 7, 2 + 8, 2 + 9, 2 + 10, 2 + 11, 2 + 1, 2 + 2, 2 + 3, 1, 2] (2 + 12) .n (smSt (smBase s1 s2 s3) (dsv (2 + 3)) (lit 0 32 e) (lit 0 5 x1) (stL (lit 0 5 x1) (lit 0 5 x2) (lit 0 5 z2) (lit 0 5 x3) (lit 0 5 z3)).x2 (stL (lit 0 5 x1) (lit 0 5 x2) (lit 0 5 z2) (lit 0 5 x3) (lit 0 5 z3)).z2 (stL (lit 0 5 x1) (lit 0 5 x2) (lit 0 5 z2) (lit 0 5 x3) (lit 0 5 z3)).x3 (stL (lit 0 5 x1) (lit 0 5 x2) (lit 0 5 z2) (lit 0 5 x3) (lit 0 5 z3)).z3 (stL (lit 0 5 x1) (lit 0 5 x2) (lit 0 5 z2) (lit 0 5 x3) (lit 0 5 z3)).a (stL (lit 0 5 x1) (lit 0 5 x2) (lit 0 5 z2) (lit 0 5 x3) (lit 0 5 z3)).b (bt.toNat : Int) i) [] (by kernel_rfl) obNil (by kernel_rfl) h
end Go.Sx

set_option maxRecDepth 1000000
set_option linter.unusedVariables false
namespace Go.Sx
open Go.Proofs
/-- a bit of a scalar, as the ladder takes it -/
def btX (e : List (BitVec 8)) (i : Nat) : BitVec 8 := (e.getD (Int.toNat ((i : Int) / 8) + 0) 0 >>> (BitVec.ofInt 64 (IntKind.wrap .i64 (((BitVec.ofInt 64 (i : Int) &&& BitVec.ofInt 64 7).toNat : Nat) : Int))).toNat) &&& 1#8
def swX (sw : Int) (bt : BitVec 8) : Int := IntKind.wrap .i64 (((BitVec.ofInt 64 sw ^^^ BitVec.ofInt 64 (bt.toNat : Int)).toNat : Nat) : Int)
def stp6 (x1 : List (BitVec 64)) (s : L6) (c : Int) : L6 := stL x1 (lit 0 5 (swV c s.x2 s.x3)) (lit 0 5 (swV c s.z2 s.z3)) (lit 0 5 (swU c s.x2 s.x3)) (lit 0 5 (swU c s.z2 s.z3))
/-- the ladder behind j bits -/
def ljS (e : List (BitVec 8)) (x1 : List (BitVec 64)) (s0 : L6) : Nat → L6 × Int
  | 0 => (s0, 0)
  | j + 1 => (stp6 x1 (ljS e x1 s0 j).1 (swX (ljS e x1 s0 j).2 (btX e (254 - j))), ((btX e (254 - j)).toNat : Int))
structure L6.ok (s : L6) : Prop where
  x2 : s.x2.length = 5
  z2 : s.z2.length = 5
  x3 : s.x3.length = 5
  z3 : s.z3.length = 5
  a : s.a.length = 5
  b : s.b.length = 5
theorem stL_ok (x1 x2 z2 x3 z3 : List (BitVec 64)) : (stL x1 x2 z2 x3 z3).ok := ⟨lit_length _ _ _, lit_length _ _ _, lit_length _ _ _, lit_length _ _ _, lit_length _ _ _, lit_length _ _ _⟩
theorem ljS_ok (e : List (BitVec 8)) (x1 : List (BitVec 64)) (s0 : L6) (h : s0.ok) : ∀ j, (ljS e x1 s0 j).1.ok
  | 0 => h
  | j + 1 => stL_ok _ _ _ _ _
theorem ljS_succ (e : List (BitVec 8)) (x1 : List (BitVec 64)) (s0 : L6) (i : Nat) (hi : i < 255) : ljS e x1 s0 (255 - i) = (stp6 x1 (ljS e x1 s0 (255 - (i + 1))).1 (swX (ljS e x1 s0 (255 - (i + 1))).2 (btX e i)), ((btX e i).toNat : Int)) := by
  obtain ⟨j, hj⟩ : ∃ j, 255 - (i + 1) = j := ⟨_, rfl⟩
  rw [hj, show 255 - i = j + 1 by omega]
  rw [show ljS e x1 s0 (j + 1) = (stp6 x1 (ljS e x1 s0 j).1 (swX (ljS e x1 s0 j).2 (btX e (254 - j))), ((btX e (254 - j)).toNat : Int)) from rfl, show 254 - j = i by omega]
def smFin (s : L6) (sw : Int) : List (BitVec 8) := pkL (rdL (m5 (lit 0 5 (swV sw s.x2 s.x3)) (invL (lit 0 5 (swV sw s.z2 s.z3)))))
def clampE (s : List (BitVec 8)) : List (BitVec 8) := ((s.set 0 (s.getD 0 0 &&& 248#8)).set 31 (s.getD 31 0 &&& 127#8)).set 31 (s.getD 31 0 &&& 127#8 ||| 64#8)
theorem clampE_length (s : List (BitVec 8)) : (clampE s).length = s.length := by unfold clampE; rw [List.length_set, List.length_set, List.length_set]
def l60 (x1 : List (BitVec 64)) : L6 := ⟨one5, List.replicate 5 0, x1, one5, List.replicate 5 0, List.replicate 5 0⟩
theorem l60_ok {x1 : List (BitVec 64)} (h : x1.length = 5) : (l60 x1).ok := ⟨rfl, rfl, h, rfl, rfl, rfl⟩
/-- the function of a scalar and a point -/
def smF (s p : List (BitVec 8)) : List (BitVec 8) :=
  let r := ljS (clampE s) (sbL p) (l60 (sbL p)) 255
  smFin r.1 r.2

theorem smBodyA (B : Nat) (d s p e : List (BitVec 8)) (x1 x2 z2 x3 z3 a b : List (BitVec 64)) (sw : Int) (i : Nat) (hi : i < 255) {R : Ex → St → Prop}
    (h : R .n (smSt (smBase s p d) (dsv (2 + 3)) (lit 0 32 e) (lit 0 5 x1) (stp6 (lit 0 5 x1) ⟨lit 0 5 x2, lit 0 5 z2, lit 0 5 x3, lit 0 5 z3, lit 0 5 a, lit 0 5 b⟩ (swX sw (btX (lit 0 32 e) i))).x2 (stp6 (lit 0 5 x1) ⟨lit 0 5 x2, lit 0 5 z2, lit 0 5 x3, lit 0 5 z3, lit 0 5 a, lit 0 5 b⟩ (swX sw (btX (lit 0 32 e) i))).z2 (stp6 (lit 0 5 x1) ⟨lit 0 5 x2, lit 0 5 z2, lit 0 5 x3, lit 0 5 z3, lit 0 5 a, lit 0 5 b⟩ (swX sw (btX (lit 0 32 e) i))).x3 (stp6 (lit 0 5 x1) ⟨lit 0 5 x2, lit 0 5 z2, lit 0 5 x3, lit 0 5 z3, lit 0 5 a, lit 0 5 b⟩ (swX sw (btX (lit 0 32 e) i))).z3 (stp6 (lit 0 5 x1) ⟨lit 0 5 x2, lit 0 5 z2, lit 0 5 x3, lit 0 5 z3, lit 0 5 a, lit 0 5 b⟩ (swX sw (btX (lit 0 32 e) i))).a (stp6 (lit 0 5 x1) ⟨lit 0 5 x2, lit 0 5 z2, lit 0 5 x3, lit 0 5 z3, lit 0 5 a, lit 0 5 b⟩ (swX sw (btX (lit 0 32 e) i))).b ((btX (lit 0 32 e) i).toNat : Int) (i : Int))) :
    Tri P0 B (cxb true) 91 (2 + 4) smK (smSt (smBase s p d) (dsv (2 + 3)) (lit 0 32 e) (lit 0 5 x1) (lit 0 5 x2) (lit 0 5 z2) (lit 0 5 x3) (lit 0 5 z3) (lit 0 5 a) (lit 0 5 b) sw (i : Int)) R := by
  refine Tri.chg (cx := cxb false) rfl ?_
  refine Tri.step (cx := cxb false) mix T0ok (HE5ok B false) 3 0 noOrc [0, 6, 7, 8, 9, 10, 11, 12, 13, 14, 15, 16] [2 + 4, 2 + 5, 2 + 6, 2 + 7, 2 + 8, 2 + 9, 2 + 10, 2 + 11, 2 + 1, 2 + 2, 2 + 3, 1, 2] (2 + 12) (smS2 (smBase s p d) (dsv (2 + 3)) (lit 0 32 e) (lit 0 5 x1) (lit 0 5 x2) (lit 0 5 z2) (lit 0 5 x3) (lit 0 5 z3) (lit 0 5 a) (lit 0 5 b) (swX sw (btX (lit 0 32 e) i)) (i : Int) (btX (lit 0 32 e) i)) [(0 : Int) ≤ (i : Int) ∧ (0 : Int) < 8 ∧ rng (i : Int), (0 : Int) ≤ (i : Int) / 8 ∧ (i : Int) / 8 < ((32 : Nat) : Int), Int.toNat ((i : Int) / 8) + 0 < (lit (0 : BitVec 8) 32 e).length] (by kernel_rfl) (obCons ⟨by omega, by omega, by unfold rng; omega⟩ <| obCons ⟨by omega, by omega⟩ <| obCons (by rw [lit_length]; omega) obNil) (by kernel_rfl) ?_
  generalize btX (lit 0 32 e) i = bt at *
  generalize swX sw bt = c at *
  refine Tri.chg (cx := cxb true) rfl ?_
  refine Tri.step (cx := cxb true) mix T0ok (HE5ok B true) 2 0 noOrc [0, 6, 7, 8, 9, 10, 11, 12, 13, 14, 15, 16] [2 + 4, 2 + 5, 2 + 6, 2 + 7, 2 + 8, 2 + 9, 2 + 10, 2 + 11, 2 + 1, 2 + 2, 2 + 3, 1, 2] (2 + 12) (smS2 (smBase s p d) (dsv (2 + 3)) (lit 0 32 e) (lit 0 5 x1) (lit 0 5 (swV c (lit 0 5 x2) (lit 0 5 x3))) (lit 0 5 (swV c (lit 0 5 z2) (lit 0 5 z3))) (lit 0 5 (swU c (lit 0 5 x2) (lit 0 5 x3))) (lit 0 5 (swU c (lit 0 5 z2) (lit 0 5 z3))) (lit 0 5 a) (lit 0 5 b) c (i : Int) bt) [] (by kernel_rfl) obNil (by kernel_rfl) ?_
  exact smTailA B _ _ _ _ _ _ _ _ _ _ _ _ _ _ h

theorem smRunA (B : Nat) (d s p : List (BitVec 8)) (ls : s.length = 32) (lp : p.length = 32) : FnE P0 B 2 61 [dsv (2 + 3), dsv (2 + 1), dsv (2 + 2)] (smBase s p d) (2 + 4) ⟨.tup [], [(2 + 1, sg8 (lit 0 32 s) true), (2 + 2, sg8 (lit 0 32 p) true), (2 + 3, sg8 (lit 0 32 (smF s p)) true)] ++ gM, 2 + 4, .eff, []⟩ := by
  refine FnE.tri (cx := cxb true) (sz := 91) (fn := Tryz.f61) (c := bodyOf Tryz.f61) T0ok (by kernel_rfl) (by kernel_rfl) (by kernel_rfl) (by kernel_rfl) (by kernel_rfl) (by kernel_rfl) (Nat.le_refl _) ?_
  refine Tri.step (cx := cxb true) mix T0ok (HE5ok B true) 12 0 (orcL [(8, false)]) [0, 6, 7, 8, 9, 10, 11, 12, 13, 14, 15] [2 + 4, 2 + 5, 2 + 6, 2 + 7, 2 + 8, 2 + 9, 2 + 10, 2 + 11, 2 + 1, 2 + 2, 2 + 3, 1, 2] (2 + 12) (smSt (smBase s p d) (dsv (2 + 3)) (clampE (lit 0 32 s)) (lit 0 5 (sbL (lit 0 32 p))) one5 (List.replicate 5 0) (lit 0 5 (sbL (lit 0 32 p))) one5 (List.replicate 5 0) (List.replicate 5 0) 0 254) [] (by kernel_rfl) obNil (by kernel_rfl) ?_
  have hF : smF s p = smFin (ljS (clampE (lit 0 32 s)) (lit 0 5 (sbL (lit 0 32 p))) (l60 (lit 0 5 (sbL (lit 0 32 p)))) 255).1 (ljS (clampE (lit 0 32 s)) (lit 0 5 (sbL (lit 0 32 p))) (l60 (lit 0 5 (sbL (lit 0 32 p)))) 255).2 := by
    rw [lit_eq ls, lit_eq lp, lit_eq (show (sbL p).length = 5 from rfl)]; rfl
  rw [hF]
  have le : (clampE (lit 0 32 s)).length = 32 := by rw [clampE_length, lit_length]
  have l1 : (lit 0 5 (sbL (lit 0 32 p))).length = 5 := lit_length _ _ _
  show Tri P0 B (cxb true) 91 (2 + 4) (smB.drop 12) (smSt (smBase s p d) (dsv (2 + 3)) (clampE (lit 0 32 s)) (lit 0 5 (sbL (lit 0 32 p))) (l60 (lit 0 5 (sbL (lit 0 32 p)))).x2 (l60 (lit 0 5 (sbL (lit 0 32 p)))).z2 (l60 (lit 0 5 (sbL (lit 0 32 p)))).x3 (l60 (lit 0 5 (sbL (lit 0 32 p)))).z3 (l60 (lit 0 5 (sbL (lit 0 32 p)))).a (l60 (lit 0 5 (sbL (lit 0 32 p)))).b 0 254) _
  clear hF
  generalize hE : clampE (lit 0 32 s) = e at *
  generalize hX : lit 0 5 (sbL (lit 0 32 p)) = x1 at *
  have h0 := l60_ok l1
  have hok := ljS_ok e x1 _ h0
  have hsu : ∀ i, i < 255 → _ := fun i hi => ljS_succ e x1 (l60 x1) i hi
  have hz : ljS e x1 (l60 x1) 0 = (l60 x1, 0) := rfl
  generalize l60 x1 = s0 at *
  refine Tri.loop (id := 0) (ι := { i : Nat // i ≤ 255 }) rfl (fun i => smSt (smBase s p d) (dsv (2 + 3)) e x1 (ljS e x1 s0 (255 - i.1)).1.x2 (ljS e x1 s0 (255 - i.1)).1.z2 (ljS e x1 s0 (255 - i.1)).1.x3 (ljS e x1 s0 (255 - i.1)).1.z3 (ljS e x1 s0 (255 - i.1)).1.a (ljS e x1 s0 (255 - i.1)).1.b (ljS e x1 s0 (255 - i.1)).2 ((i.1 : Int) - 1)) (fun i => i.1) ⟨255, Nat.le_refl _⟩ rfl (fun i => by show 2 + 4 ≤ 2 + 12; omega)
    (R1 := fun st => st = smSt (smBase s p d) (dsv (2 + 3)) e x1 (ljS e x1 s0 255).1.x2 (ljS e x1 s0 255).1.z2 (ljS e x1 s0 255).1.x3 (ljS e x1 s0 255).1.z3 (ljS e x1 s0 255).1.a (ljS e x1 s0 255).1.b (ljS e x1 s0 255).2 (-1)) (fun ⟨i, hi⟩ => ?_) (fun s' hs => ?_)
  · rcases Nat.eq_zero_or_pos i with rfl | hp
    · dsimp only
      have ho := hok (255 - 0)
      rw [show 255 - 0 = 255 from rfl] at ho ⊢
      generalize ljS e x1 s0 255 = P at *
      obtain ⟨⟨x2, z2, x3, z3, a, b⟩, sw⟩ := P
      obtain ⟨g1, g2, g3, g4, g5, g6⟩ := ho
      dsimp only at *
      rw [← lit_eq g1 (z := 0), ← lit_eq g2 (z := 0), ← lit_eq g3 (z := 0), ← lit_eq g4 (z := 0), ← lit_eq g5 (z := 0), ← lit_eq g6 (z := 0), ← lit_eq l1 (z := 0), ← lit_eq le (z := 0)]
      refine Tri.chg (cx := cxb false) rfl ?_
      refine Tri.fin (cx := cxb false) mix T0ok (HE5ok B false) 0 (orcL [(40, false)]) [0, 6, 7, 8, 9, 10, 11, 12, 13, 14, 15] [2 + 4, 2 + 5, 2 + 6, 2 + 7, 2 + 8, 2 + 9, 2 + 10, 2 + 11, 2 + 1, 2 + 2, 2 + 3, 1, 2] (2 + 12) (.x 0) (smSt (smBase s p d) (dsv (2 + 3)) (lit 0 32 e) (lit 0 5 x1) (lit 0 5 x2) (lit 0 5 z2) (lit 0 5 x3) (lit 0 5 z3) (lit 0 5 a) (lit 0 5 b) sw (((0 : Nat) : Int) - 1)) [decide ((0 : Int) ≤ ((0 : Nat) : Int) - 1) = false] (by kernel_rfl) (obCons (by decide) obNil) (by kernel_rfl) ?_
      show smSt (smBase s p d) (dsv (2 + 3)) (lit 0 32 e) (lit 0 5 x1) (lit 0 5 x2) (lit 0 5 z2) (lit 0 5 x3) (lit 0 5 z3) (lit 0 5 a) (lit 0 5 b) sw (((0 : Nat) : Int) - 1) = smSt (smBase s p d) (dsv (2 + 3)) (lit 0 32 e) (lit 0 5 x1) (lit 0 5 x2) (lit 0 5 z2) (lit 0 5 x3) (lit 0 5 z3) (lit 0 5 a) (lit 0 5 b) sw (-1)
      rfl
    · obtain ⟨j, rfl⟩ : ∃ j, i = j + 1 := ⟨i - 1, by omega⟩
      have ei : (((j + 1 : Nat) : Int) - 1) = (j : Int) := by omega
      have hst := hsu j (by omega)
      have ho := hok (255 - (j + 1))
      dsimp only
      rw [ei]
      generalize ljS e x1 s0 (255 - (j + 1)) = P at *
      obtain ⟨⟨x2, z2, x3, z3, a, b⟩, sw⟩ := P
      obtain ⟨g1, g2, g3, g4, g5, g6⟩ := ho
      dsimp only at *
      have hj0 : decide ((0 : Int) ≤ (j : Int)) = true := decide_eq_true (by omega)
      have hrj : rng ((j : Int) - 1) := by unfold rng; omega
      rw [← lit_eq g1 (z := 0), ← lit_eq g2 (z := 0), ← lit_eq g3 (z := 0), ← lit_eq g4 (z := 0), ← lit_eq g5 (z := 0), ← lit_eq g6 (z := 0), ← lit_eq l1 (z := 0), ← lit_eq le (z := 0)]
      rw [← lit_eq g1 (z := 0), ← lit_eq g2 (z := 0), ← lit_eq g3 (z := 0), ← lit_eq g4 (z := 0), ← lit_eq g5 (z := 0), ← lit_eq g6 (z := 0), ← lit_eq l1 (z := 0), ← lit_eq le (z := 0)] at hst
      refine Tri.step (cx := cxb true) mix T0ok (HE5ok B true) 2 0 (orcL [(40, true)]) [0, 6, 7, 8, 9, 10, 11, 12, 13, 14, 15] [2 + 4, 2 + 5, 2 + 6, 2 + 7, 2 + 8, 2 + 9, 2 + 10, 2 + 11, 2 + 1, 2 + 2, 2 + 3, 1, 2] (2 + 12) (smSt (smBase s p d) (dsv (2 + 3)) (lit 0 32 e) (lit 0 5 x1) (lit 0 5 x2) (lit 0 5 z2) (lit 0 5 x3) (lit 0 5 z3) (lit 0 5 a) (lit 0 5 b) sw (j : Int)) [decide ((0 : Int) ≤ (j : Int)) = true] (by kernel_rfl) (obCons hj0 obNil) (by kernel_rfl) ?_
      refine Tri.block (id := 1) rfl (R1 := fun s' => s' = smSt (smBase s p d) (dsv (2 + 3)) (lit 0 32 e) (lit 0 5 x1) (stp6 (lit 0 5 x1) ⟨lit 0 5 x2, lit 0 5 z2, lit 0 5 x3, lit 0 5 z3, lit 0 5 a, lit 0 5 b⟩ (swX sw (btX (lit 0 32 e) j))).x2 (stp6 (lit 0 5 x1) ⟨lit 0 5 x2, lit 0 5 z2, lit 0 5 x3, lit 0 5 z3, lit 0 5 a, lit 0 5 b⟩ (swX sw (btX (lit 0 32 e) j))).z2 (stp6 (lit 0 5 x1) ⟨lit 0 5 x2, lit 0 5 z2, lit 0 5 x3, lit 0 5 z3, lit 0 5 a, lit 0 5 b⟩ (swX sw (btX (lit 0 32 e) j))).x3 (stp6 (lit 0 5 x1) ⟨lit 0 5 x2, lit 0 5 z2, lit 0 5 x3, lit 0 5 z3, lit 0 5 a, lit 0 5 b⟩ (swX sw (btX (lit 0 32 e) j))).z3 (stp6 (lit 0 5 x1) ⟨lit 0 5 x2, lit 0 5 z2, lit 0 5 x3, lit 0 5 z3, lit 0 5 a, lit 0 5 b⟩ (swX sw (btX (lit 0 32 e) j))).a (stp6 (lit 0 5 x1) ⟨lit 0 5 x2, lit 0 5 z2, lit 0 5 x3, lit 0 5 z3, lit 0 5 a, lit 0 5 b⟩ (swX sw (btX (lit 0 32 e) j))).b ((btX (lit 0 32 e) j).toNat : Int) (j : Int)) (smBodyA B d s p e x1 x2 z2 x3 z3 a b sw j (by omega) rfl) (fun s' hs => ?_)
      subst hs
      refine Tri.chg (cx := cxb false) rfl ?_
      refine Tri.fin (cx := cxb false) mix T0ok (HE5ok B false) 0 noOrc [0, 6, 7, 8, 9, 10, 11, 12, 13, 14, 15] [2 + 4, 2 + 5, 2 + 6, 2 + 7, 2 + 8, 2 + 9, 2 + 10, 2 + 11, 2 + 1, 2 + 2, 2 + 3, 1, 2] (2 + 12) .n (smSt (smBase s p d) (dsv (2 + 3)) (lit 0 32 e) (lit 0 5 x1) (stp6 (lit 0 5 x1) ⟨lit 0 5 x2, lit 0 5 z2, lit 0 5 x3, lit 0 5 z3, lit 0 5 a, lit 0 5 b⟩ (swX sw (btX (lit 0 32 e) j))).x2 (stp6 (lit 0 5 x1) ⟨lit 0 5 x2, lit 0 5 z2, lit 0 5 x3, lit 0 5 z3, lit 0 5 a, lit 0 5 b⟩ (swX sw (btX (lit 0 32 e) j))).z2 (stp6 (lit 0 5 x1) ⟨lit 0 5 x2, lit 0 5 z2, lit 0 5 x3, lit 0 5 z3, lit 0 5 a, lit 0 5 b⟩ (swX sw (btX (lit 0 32 e) j))).x3 (stp6 (lit 0 5 x1) ⟨lit 0 5 x2, lit 0 5 z2, lit 0 5 x3, lit 0 5 z3, lit 0 5 a, lit 0 5 b⟩ (swX sw (btX (lit 0 32 e) j))).z3 (stp6 (lit 0 5 x1) ⟨lit 0 5 x2, lit 0 5 z2, lit 0 5 x3, lit 0 5 z3, lit 0 5 a, lit 0 5 b⟩ (swX sw (btX (lit 0 32 e) j))).a (stp6 (lit 0 5 x1) ⟨lit 0 5 x2, lit 0 5 z2, lit 0 5 x3, lit 0 5 z3, lit 0 5 a, lit 0 5 b⟩ (swX sw (btX (lit 0 32 e) j))).b ((btX (lit 0 32 e) j).toNat : Int) ((j : Int) - 1)) [rng ((j : Int) - 1)] (by kernel_rfl) (obCons hrj obNil) (by kernel_rfl) ⟨⟨j, by omega⟩, by show j < j + 1; omega, ?_⟩
      dsimp only
      rw [hst]
  · subst hs
    have ho := hok 255
    generalize ljS e x1 s0 255 = P at *
    obtain ⟨⟨x2, z2, x3, z3, a, b⟩, sw⟩ := P
    obtain ⟨g1, g2, g3, g4, g5, g6⟩ := ho
    dsimp only at *
    rw [← lit_eq g1 (z := 0), ← lit_eq g2 (z := 0), ← lit_eq g3 (z := 0), ← lit_eq g4 (z := 0), ← lit_eq g5 (z := 0), ← lit_eq g6 (z := 0), ← lit_eq l1 (z := 0), ← lit_eq le (z := 0)]
    exact Tri.ret (cx := cxb true) mix T0ok (HE5ok B true) 0 noOrc [] [2 + 1, 2 + 2, 2 + 3, 1, 2] (2 + 12) ⟨[], [(2 + 1, sg8 (lit 0 32 s) true), (2 + 2, sg8 (lit 0 32 p) true), (2 + 3, sg8 (lit 0 32 (smFin ⟨lit 0 5 x2, lit 0 5 z2, lit 0 5 x3, lit 0 5 z3, lit 0 5 a, lit 0 5 b⟩ sw)) true)] ++ gM, 2 + 12⟩ [] .n (by kernel_rfl) obNil (by kernel_rfl) rfl [2 + 1, 2 + 2, 2 + 3, 1, 2] [] (by kernel_rfl) obNil

end Go.Sx
