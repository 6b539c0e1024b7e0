/- salsa.HSalsa20 whose result lies where its key lay. x25519ScalarMult where the shared key is computed. The shared key: hooks. impl.Precompute: what it computes. Conditions: none. -/
import Derived.Test.YtbkobeclkeojoaaDoorS1
import Derived.Test.YtbkobeclkeojoaaDoorSx37
import Derived.Test.YtbkobeclkeojoaaDoorF7c
set_option maxRecDepth 1000000
set_option linter.unusedVariables false
namespace Go.Sx
open Go.Proofs
def hkM (key inp c : List (BitVec 8)) : Mem := [(5, ⟨32, .d8 (lit 0 32 key), true, false, false⟩), (5 + 1, ⟨16, .d8 (lit 0 16 inp), false, false, false⟩), (5 + 2, ⟨16, .d8 (lit 0 16 c), false, false, false⟩)]
def hkSt (inp key c : List (BitVec 8)) (j : Nat) : St := ⟨wT 8 (drs (mxW inp key c) j) ++ [(24, .one (.s (.i (2 * j : Nat)))), (0, .one (.s (.p 5 0)))], hkM key inp c, 5 + 3⟩
theorem hk1 (B : Nat) (inp key c : List (BitVec 8)) : FnE P0 B 5 23 [.one (.s (.p 5 0)), .one (.s (.p (5 + 1) 0)), .one (.s (.p 5 0)), .one (.s (.p (5 + 2) 0))] (hkM key inp c) (5 + 3) ⟨.tup [], hkM (hs inp key c) inp c, 5 + 3, .eff, []⟩ := by
  refine FnE.tri (cx := cxb true) (sz := 854) (fn := Tryd.f23) (c := bodyOf Tryd.f23) T0ok (by kernel_rfl) (by kernel_rfl) (by kernel_rfl) (by kernel_rfl) (by kernel_rfl) (by kernel_rfl) (Nat.le_refl _) ?_
  refine Tri.step mix T0ok (HQok B true) 17 0 noOrc [8, 9, 10, 11, 12, 13, 14, 15, 16, 17, 18, 19, 20, 21, 22, 23, 24, 0] [5, 5 + 1, 5 + 2] (5 + 3) (hkSt inp key c 0) [] (by kernel_rfl) obNil (by kernel_rfl) ?_
  refine Tri.loop (id := 0) (ι := { j : Nat // j ≤ 10 }) rfl (fun j => hkSt inp key c j.1) (fun j => 10 - j.1) ⟨0, Nat.zero_le _⟩ rfl (fun j => Nat.le_refl _) (R1 := fun s => s = hkSt inp key c 10) (fun ⟨j, hj⟩ => ?_) (fun s' hs => ?_)
  · by_cases hlt : j < 10
    · refine Tri.chg (cx := cxb false) rfl ?_
      exact Tri.fin (cx := cxb false) mix T0ok (HQok B false) 0 (orcL [(443, true)]) [8, 9, 10, 11, 12, 13, 14, 15, 16, 17, 18, 19, 20, 21, 22, 23, 24, 0] [5, 5 + 1, 5 + 2] (5 + 3) .n (hkSt inp key c (j + 1)) [decide (((2 * j : Nat) : Int) < 20) = true, rng (((2 * j : Nat) : Int) + 2)] (by kernel_rfl) (obCons (by simp; omega) <| obCons (by unfold rng; omega) obNil) (by kernel_rfl) ⟨⟨j + 1, hlt⟩, by show 10 - (j + 1) < 10 - j; omega, rfl⟩
    · obtain rfl : j = 10 := by omega
      exact Tri.fin (cx := cxb true) mix T0ok (HQok B true) 0 noOrc [8, 9, 10, 11, 12, 13, 14, 15, 16, 17, 18, 19, 20, 21, 22, 23, 24, 0] [5, 5 + 1, 5 + 2] (5 + 3) (.x 0) (hkSt inp key c 10) [] (by kernel_rfl) obNil (by kernel_rfl) (by simp)
  · subst hs
    exact Tri.ret (cx := cxb true) mix T0ok (HQok B true) 0 noOrc [] [5, 5 + 1, 5 + 2] (5 + 3) ⟨[], hkM (Go.Sx.hs inp key c) inp c, 5 + 3⟩ [] .n (by kernel_rfl) obNil (by kernel_rfl) rfl [5, 5 + 1, 5 + 2] [] (by kernel_rfl) obNil
def hkCt : Ct := ⟨[.ptr 32 true, .ptr 16 false, .ptr 16 false], [], fun vs ds gs => match vs, ds, gs with
  | [], [.d8 key, .d8 inp, .d8 c], [] => bif Nat.beq key.length 32 && (Nat.beq inp.length 16 && Nat.beq c.length 16) then some ⟨.tup [], [.d8 (lit 0 32 (hs inp key c)), .d8 inp, .d8 c], [], []⟩ else none
  | _, _, _ => none⟩
theorem hk_ok (B : Nat) : hkCt.OkD P0 B 5 23 [0, 1, 0, 2] := by
  intro vs ds gs out h hpre hn
  unfold hkCt at h
  dsimp only at h
  split at h <;> first | (cases h; done) | skip
  rename_i key inp c
  cases hb : (Nat.beq key.length 32 && (Nat.beq inp.length 16 && Nat.beq c.length 16)) with
  | false => rw [hb] at h; cases h
  | true =>
    rw [hb, cond_true] at h
    cases h
    simp only [Bool.and_eq_true] at hb
    obtain ⟨h1, h2, h3⟩ := hb
    have h1 := Nat.eq_of_beq_eq_true h1
    have h2 := Nat.eq_of_beq_eq_true h2
    have h3 := Nat.eq_of_beq_eq_true h3
    have := hk1 B inp key c
    unfold hkM at this
    rw [lit_eq h1, lit_eq h2, lit_eq h3] at this
    simp only [hkCt, canArgs, segsOf, globs, addM, SegD.len, h1, h2, h3, lit_length]
    exact this
end Go.Sx

set_option maxRecDepth 1000000
set_option linter.unusedVariables false
namespace Go.Sx
open Go.Proofs
def smBaseC (s p d : List (BitVec 8)) : Mem := [(5 + 7, sg8 (lit 0 32 d) true), (5 + 6, sg8 (lit 0 32 p) true), (5 + 5, sg8 (lit 0 32 s) true), (5 + 4, sg8 (List.replicate 32 0) false), (5 + 3, sg8 (List.replicate 32 0) false), (5 + 2, sg8 (lit 0 32 s) false), (5 + 1, sg8 (lit 0 32 p) false)] ++ gM
def smStC (base : Mem) (ds : SV) (e : List (BitVec 8)) (x1 x2 z2 x3 z3 a b : List (BitVec 64)) (sw i : Int) : St := ⟨[(0, ds), (6, .one (.s (.p (5 + 8) 0))), (7, .one (.s (.p (5 + 9) 0))), (8, .one (.s (.p (5 + 10) 0))), (9, .one (.s (.p (5 + 11) 0))), (10, .one (.s (.p (5 + 12) 0))), (11, .one (.s (.p (5 + 13) 0))), (12, .one (.s (.p (5 + 14) 0))), (13, .one (.s (.p (5 + 15) 0))), (14, .one (.s (.i sw))), (15, .one (.s (.i i)))],
  [(5 + 8, sg8 e true), (5 + 9, sgr x1 true), (5 + 10, sgr x2 true), (5 + 11, sgr z2 true), (5 + 12, sgr x3 true), (5 + 13, sgr z3 true), (5 + 14, sgr a true), (5 + 15, sgr b true)] ++ base, 5 + 16⟩
def smS2C (base : Mem) (ds : SV) (e : List (BitVec 8)) (x1 x2 z2 x3 z3 a b : List (BitVec 64)) (sw i : Int) (bt : BitVec 8) : St := ⟨[(0, ds), (6, .one (.s (.p (5 + 8) 0))), (7, .one (.s (.p (5 + 9) 0))), (8, .one (.s (.p (5 + 10) 0))), (9, .one (.s (.p (5 + 11) 0))), (10, .one (.s (.p (5 + 12) 0))), (11, .one (.s (.p (5 + 13) 0))), (12, .one (.s (.p (5 + 14) 0))), (13, .one (.s (.p (5 + 15) 0))), (14, .one (.s (.i sw))), (15, .one (.s (.i i))), (16, .one (.s (.u8 bt)))],
  [(5 + 8, sg8 e true), (5 + 9, sgr x1 true), (5 + 10, sgr x2 true), (5 + 11, sgr z2 true), (5 + 12, sgr x3 true), (5 + 13, sgr z3 true), (5 + 14, sgr a true), (5 + 15, sgr b true)] ++ base, 5 + 16⟩
theorem smTailC (B : Nat) (s1 s2 s3 : List (BitVec 8)) (e : List (BitVec 8)) (x1 x2 z2 x3 z3 a b : List (BitVec 64)) (sw i : Int) (bt : BitVec 8) {R : Ex → St → Prop}
    (h : R .n (smStC (smBaseC s1 s2 s3) (dsv (5 + 7)) (lit 0 32 e) (lit 0 5 x1) (stL (lit 0 5 x1) (lit 0 5 x2) (lit 0 5 z2) (lit 0 5 x3) (lit 0 5 z3)).x2 (stL (lit 0 5 x1) (lit 0 5 x2) (lit 0 5 z2) (lit 0 5 x3) (lit 0 5 z3)).z2 (stL (lit 0 5 x1) (lit 0 5 x2) (lit 0 5 z2) (lit 0 5 x3) (lit 0 5 z3)).x3 (stL (lit 0 5 x1) (lit 0 5 x2) (lit 0 5 z2) (lit 0 5 x3) (lit 0 5 z3)).z3 (stL (lit 0 5 x1) (lit 0 5 x2) (lit 0 5 z2) (lit 0 5 x3) (lit 0 5 z3)).a (stL (lit 0 5 x1) (lit 0 5 x2) (lit 0 5 z2) (lit 0 5 x3) (lit 0 5 z3)).b (bt.toNat : Int) i)) :
    Tri P0 B (cxb true) 91 (5 + 8) (smK.drop 5) (smS2C (smBaseC s1 s2 s3) (dsv (5 + 7)) (lit 0 32 e) (lit 0 5 x1) (lit 0 5 x2) (lit 0 5 z2) (lit 0 5 x3) (lit 0 5 z3) (lit 0 5 a) (lit 0 5 b) sw i bt) R := by
  refine Tri.fin (cx := cxb true) mix T0ok (HE5ok B true) 0 noOrc [0, 6, 7, 8, 9, 10, 11, 12, 13, 14, 15] [5 + 8, 5 + 9, 5 + 10, 5 + 11, 5 + 12, 5 + 13, 5 + 14, 5 + 15, 5 + 7, 5 + 6, 5 + 5, 5 + 4, 5 + 3, 5 + 2, 5 + 1, 3, 5] (5 + 16) .n (smStC (smBaseC s1 s2 s3) (dsv (5 + 7)) (lit 0 32 e) (lit 0 5 x1) (stL (lit 0 5 x1) (lit 0 5 x2) (lit 0 5 z2) (lit 0 5 x3) (lit 0 5 z3)).x2 (stL (lit 0 5 x1) (lit 0 5 x2) (lit 0 5 z2) (lit 0 5 x3) (lit 0 5 z3)).z2 (stL (lit 0 5 x1) (lit 0 5 x2) (lit 0 5 z2) (lit 0 5 x3) (lit 0 5 z3)).x3 (stL (lit 0 5 x1) (lit 0 5 x2) (lit 0 5 z2) (lit 0 5 x3) (lit 0 5 z3)).z3 (stL (lit 0 5 x1) (lit 0 5 x2) (lit 0 5 z2) (lit 0 5 x3) (lit 0 5 z3)).a (stL (lit 0 5 x1) (lit 0 5 x2) (lit 0 5 z2) (lit 0 5 x3) (lit 0 5 z3)).b (bt.toNat : Int) i) [] (by kernel_rfl) obNil (by kernel_rfl) h
theorem smBodyC (B : Nat) (d s p e : List (BitVec 8)) (x1 x2 z2 x3 z3 a b : List (BitVec 64)) (sw : Int) (i : Nat) (hi : i < 255) {R : Ex → St → Prop}
    (h : R .n (smStC (smBaseC s p d) (dsv (5 + 7)) (lit 0 32 e) (lit 0 5 x1) (stp6 (lit 0 5 x1) ⟨lit 0 5 x2, lit 0 5 z2, lit 0 5 x3, lit 0 5 z3, lit 0 5 a, lit 0 5 b⟩ (swX sw (btX (lit 0 32 e) i))).x2 (stp6 (lit 0 5 x1) ⟨lit 0 5 x2, lit 0 5 z2, lit 0 5 x3, lit 0 5 z3, lit 0 5 a, lit 0 5 b⟩ (swX sw (btX (lit 0 32 e) i))).z2 (stp6 (lit 0 5 x1) ⟨lit 0 5 x2, lit 0 5 z2, lit 0 5 x3, lit 0 5 z3, lit 0 5 a, lit 0 5 b⟩ (swX sw (btX (lit 0 32 e) i))).x3 (stp6 (lit 0 5 x1) ⟨lit 0 5 x2, lit 0 5 z2, lit 0 5 x3, lit 0 5 z3, lit 0 5 a, lit 0 5 b⟩ (swX sw (btX (lit 0 32 e) i))).z3 (stp6 (lit 0 5 x1) ⟨lit 0 5 x2, lit 0 5 z2, lit 0 5 x3, lit 0 5 z3, lit 0 5 a, lit 0 5 b⟩ (swX sw (btX (lit 0 32 e) i))).a (stp6 (lit 0 5 x1) ⟨lit 0 5 x2, lit 0 5 z2, lit 0 5 x3, lit 0 5 z3, lit 0 5 a, lit 0 5 b⟩ (swX sw (btX (lit 0 32 e) i))).b ((btX (lit 0 32 e) i).toNat : Int) (i : Int))) :
    Tri P0 B (cxb true) 91 (5 + 8) smK (smStC (smBaseC s p d) (dsv (5 + 7)) (lit 0 32 e) (lit 0 5 x1) (lit 0 5 x2) (lit 0 5 z2) (lit 0 5 x3) (lit 0 5 z3) (lit 0 5 a) (lit 0 5 b) sw (i : Int)) R := by
  refine Tri.chg (cx := cxb false) rfl ?_
  refine Tri.step (cx := cxb false) mix T0ok (HE5ok B false) 3 0 noOrc [0, 6, 7, 8, 9, 10, 11, 12, 13, 14, 15, 16] [5 + 8, 5 + 9, 5 + 10, 5 + 11, 5 + 12, 5 + 13, 5 + 14, 5 + 15, 5 + 7, 5 + 6, 5 + 5, 5 + 4, 5 + 3, 5 + 2, 5 + 1, 3, 5] (5 + 16) (smS2C (smBaseC s p d) (dsv (5 + 7)) (lit 0 32 e) (lit 0 5 x1) (lit 0 5 x2) (lit 0 5 z2) (lit 0 5 x3) (lit 0 5 z3) (lit 0 5 a) (lit 0 5 b) (swX sw (btX (lit 0 32 e) i)) (i : Int) (btX (lit 0 32 e) i)) [(0 : Int) ≤ (i : Int) ∧ (0 : Int) < 8 ∧ rng (i : Int), (0 : Int) ≤ (i : Int) / 8 ∧ (i : Int) / 8 < ((32 : Nat) : Int), Int.toNat ((i : Int) / 8) + 0 < (lit (0 : BitVec 8) 32 e).length] (by kernel_rfl) (obCons ⟨by omega, by omega, by unfold rng; omega⟩ <| obCons ⟨by omega, by omega⟩ <| obCons (by rw [lit_length]; omega) obNil) (by kernel_rfl) ?_
  generalize btX (lit 0 32 e) i = bt at *
  generalize swX sw bt = c at *
  refine Tri.chg (cx := cxb true) rfl ?_
  refine Tri.step (cx := cxb true) mix T0ok (HE5ok B true) 2 0 noOrc [0, 6, 7, 8, 9, 10, 11, 12, 13, 14, 15, 16] [5 + 8, 5 + 9, 5 + 10, 5 + 11, 5 + 12, 5 + 13, 5 + 14, 5 + 15, 5 + 7, 5 + 6, 5 + 5, 5 + 4, 5 + 3, 5 + 2, 5 + 1, 3, 5] (5 + 16) (smS2C (smBaseC s p d) (dsv (5 + 7)) (lit 0 32 e) (lit 0 5 x1) (lit 0 5 (swV c (lit 0 5 x2) (lit 0 5 x3))) (lit 0 5 (swV c (lit 0 5 z2) (lit 0 5 z3))) (lit 0 5 (swU c (lit 0 5 x2) (lit 0 5 x3))) (lit 0 5 (swU c (lit 0 5 z2) (lit 0 5 z3))) (lit 0 5 a) (lit 0 5 b) c (i : Int) bt) [] (by kernel_rfl) obNil (by kernel_rfl) ?_
  exact smTailC B _ _ _ _ _ _ _ _ _ _ _ _ _ _ h

theorem smRunC (B : Nat) (d s p : List (BitVec 8)) (ls : s.length = 32) (lp : p.length = 32) : FnE P0 B 5 34 [dsv (5 + 7), dsv (5 + 5), dsv (5 + 6)] (smBaseC s p d) (5 + 8) ⟨.tup [], smBaseC s p (smF s p), 5 + 8, .eff, []⟩ := by
  refine FnE.tri (cx := cxb true) (sz := 91) (fn := Tryd.f34) (c := bodyOf Tryd.f34) T0ok (by kernel_rfl) (by kernel_rfl) (by kernel_rfl) (by kernel_rfl) (by kernel_rfl) (by kernel_rfl) (Nat.le_refl _) ?_
  refine Tri.step (cx := cxb true) mix T0ok (HE5ok B true) 12 0 (orcL [(8, false)]) [0, 6, 7, 8, 9, 10, 11, 12, 13, 14, 15] [5 + 8, 5 + 9, 5 + 10, 5 + 11, 5 + 12, 5 + 13, 5 + 14, 5 + 15, 5 + 7, 5 + 6, 5 + 5, 5 + 4, 5 + 3, 5 + 2, 5 + 1, 3, 5] (5 + 16) (smStC (smBaseC s p d) (dsv (5 + 7)) (clampE (lit 0 32 s)) (lit 0 5 (sbL (lit 0 32 p))) one5 (List.replicate 5 0) (lit 0 5 (sbL (lit 0 32 p))) one5 (List.replicate 5 0) (List.replicate 5 0) 0 254) [] (by kernel_rfl) obNil (by kernel_rfl) ?_
  have hF : smF s p = smFin (ljS (clampE (lit 0 32 s)) (lit 0 5 (sbL (lit 0 32 p))) (l60 (lit 0 5 (sbL (lit 0 32 p)))) 255).1 (ljS (clampE (lit 0 32 s)) (lit 0 5 (sbL (lit 0 32 p))) (l60 (lit 0 5 (sbL (lit 0 32 p)))) 255).2 := by
    rw [lit_eq ls, lit_eq lp, lit_eq (show (sbL p).length = 5 from rfl)]; rfl
  rw [hF]
  have le : (clampE (lit 0 32 s)).length = 32 := by rw [clampE_length, lit_length]
  have l1 : (lit 0 5 (sbL (lit 0 32 p))).length = 5 := lit_length _ _ _
  show Tri P0 B (cxb true) 91 (5 + 8) (smB.drop 12) (smStC (smBaseC s p d) (dsv (5 + 7)) (clampE (lit 0 32 s)) (lit 0 5 (sbL (lit 0 32 p))) (l60 (lit 0 5 (sbL (lit 0 32 p)))).x2 (l60 (lit 0 5 (sbL (lit 0 32 p)))).z2 (l60 (lit 0 5 (sbL (lit 0 32 p)))).x3 (l60 (lit 0 5 (sbL (lit 0 32 p)))).z3 (l60 (lit 0 5 (sbL (lit 0 32 p)))).a (l60 (lit 0 5 (sbL (lit 0 32 p)))).b 0 254) _
  clear hF
  generalize hE : clampE (lit 0 32 s) = e at *
  generalize hX : lit 0 5 (sbL (lit 0 32 p)) = x1 at *
  have h0 := l60_ok l1
  have hok := ljS_ok e x1 _ h0
  have hsu : ∀ i, i < 255 → _ := fun i hi => ljS_succ e x1 (l60 x1) i hi
  have hz : ljS e x1 (l60 x1) 0 = (l60 x1, 0) := rfl
  generalize l60 x1 = s0 at *
  refine Tri.loop (id := 0) (ι := { i : Nat // i ≤ 255 }) rfl (fun i => smStC (smBaseC s p d) (dsv (5 + 7)) e x1 (ljS e x1 s0 (255 - i.1)).1.x2 (ljS e x1 s0 (255 - i.1)).1.z2 (ljS e x1 s0 (255 - i.1)).1.x3 (ljS e x1 s0 (255 - i.1)).1.z3 (ljS e x1 s0 (255 - i.1)).1.a (ljS e x1 s0 (255 - i.1)).1.b (ljS e x1 s0 (255 - i.1)).2 ((i.1 : Int) - 1)) (fun i => i.1) ⟨255, Nat.le_refl _⟩ rfl (fun i => by show 5 + 8 ≤ 5 + 16; omega)
    (R1 := fun st => st = smStC (smBaseC s p d) (dsv (5 + 7)) e x1 (ljS e x1 s0 255).1.x2 (ljS e x1 s0 255).1.z2 (ljS e x1 s0 255).1.x3 (ljS e x1 s0 255).1.z3 (ljS e x1 s0 255).1.a (ljS e x1 s0 255).1.b (ljS e x1 s0 255).2 (-1)) (fun ⟨i, hi⟩ => ?_) (fun s' hs => ?_)
  · rcases Nat.eq_zero_or_pos i with rfl | hp
    · dsimp only
      have ho := hok (255 - 0)
      rw [show 255 - 0 = 255 from rfl] at ho ⊢
      generalize ljS e x1 s0 255 = P at *
      obtain ⟨⟨x2, z2, x3, z3, a, b⟩, sw⟩ := P
      obtain ⟨g1, g2, g3, g4, g5, g6⟩ := ho
      dsimp only at *
      rw [← lit_eq g1 (z := 0), ← lit_eq g2 (z := 0), ← lit_eq g3 (z := 0), ← lit_eq g4 (z := 0), ← lit_eq g5 (z := 0), ← lit_eq g6 (z := 0), ← lit_eq l1 (z := 0), ← lit_eq le (z := 0)]
      refine Tri.chg (cx := cxb false) rfl ?_
      refine Tri.fin (cx := cxb false) mix T0ok (HE5ok B false) 0 (orcL [(40, false)]) [0, 6, 7, 8, 9, 10, 11, 12, 13, 14, 15] [5 + 8, 5 + 9, 5 + 10, 5 + 11, 5 + 12, 5 + 13, 5 + 14, 5 + 15, 5 + 7, 5 + 6, 5 + 5, 5 + 4, 5 + 3, 5 + 2, 5 + 1, 3, 5] (5 + 16) (.x 0) (smStC (smBaseC s p d) (dsv (5 + 7)) (lit 0 32 e) (lit 0 5 x1) (lit 0 5 x2) (lit 0 5 z2) (lit 0 5 x3) (lit 0 5 z3) (lit 0 5 a) (lit 0 5 b) sw (((0 : Nat) : Int) - 1)) [decide ((0 : Int) ≤ ((0 : Nat) : Int) - 1) = false] (by kernel_rfl) (obCons (by decide) obNil) (by kernel_rfl) ?_
      show smStC (smBaseC s p d) (dsv (5 + 7)) (lit 0 32 e) (lit 0 5 x1) (lit 0 5 x2) (lit 0 5 z2) (lit 0 5 x3) (lit 0 5 z3) (lit 0 5 a) (lit 0 5 b) sw (((0 : Nat) : Int) - 1) = smStC (smBaseC s p d) (dsv (5 + 7)) (lit 0 32 e) (lit 0 5 x1) (lit 0 5 x2) (lit 0 5 z2) (lit 0 5 x3) (lit 0 5 z3) (lit 0 5 a) (lit 0 5 b) sw (-1)
      rfl
    · obtain ⟨j, rfl⟩ : ∃ j, i = j + 1 := ⟨i - 1, by omega⟩
      have ei : (((j + 1 : Nat) : Int) - 1) = (j : Int) := by omega
      have hst := hsu j (by omega)
      have ho := hok (255 - (j + 1))
      dsimp only
      rw [ei]
      generalize ljS e x1 s0 (255 - (j + 1)) = P at *
      obtain ⟨⟨x2, z2, x3, z3, a, b⟩, sw⟩ := P
      obtain ⟨g1, g2, g3, g4, g5, g6⟩ := ho
      dsimp only at *
      have hj0 : decide ((0 : Int) ≤ (j : Int)) = true := decide_eq_true (by omega)
      have hrj : rng ((j : Int) - 1) := by unfold rng; omega
      rw [← lit_eq g1 (z := 0), ← lit_eq g2 (z := 0), ← lit_eq g3 (z := 0), ← lit_eq g4 (z := 0), ← lit_eq g5 (z := 0), ← lit_eq g6 (z := 0), ← lit_eq l1 (z := 0), ← lit_eq le (z := 0)]
      rw [← lit_eq g1 (z := 0), ← lit_eq g2 (z := 0), ← lit_eq g3 (z := 0), ← lit_eq g4 (z := 0), ← lit_eq g5 (z := 0), ← lit_eq g6 (z := 0), ← lit_eq l1 (z := 0), ← lit_eq le (z := 0)] at hst
      refine Tri.step (cx := cxb true) mix T0ok (HE5ok B true) 2 0 (orcL [(40, true)]) [0, 6, 7, 8, 9, 10, 11, 12, 13, 14, 15] [5 + 8, 5 + 9, 5 + 10, 5 + 11, 5 + 12, 5 + 13, 5 + 14, 5 + 15, 5 + 7, 5 + 6, 5 + 5, 5 + 4, 5 + 3, 5 + 2, 5 + 1, 3, 5] (5 + 16) (smStC (smBaseC s p d) (dsv (5 + 7)) (lit 0 32 e) (lit 0 5 x1) (lit 0 5 x2) (lit 0 5 z2) (lit 0 5 x3) (lit 0 5 z3) (lit 0 5 a) (lit 0 5 b) sw (j : Int)) [decide ((0 : Int) ≤ (j : Int)) = true] (by kernel_rfl) (obCons hj0 obNil) (by kernel_rfl) ?_
      refine Tri.block (id := 1) rfl (R1 := fun s' => s' = smStC (smBaseC s p d) (dsv (5 + 7)) (lit 0 32 e) (lit 0 5 x1) (stp6 (lit 0 5 x1) ⟨lit 0 5 x2, lit 0 5 z2, lit 0 5 x3, lit 0 5 z3, lit 0 5 a, lit 0 5 b⟩ (swX sw (btX (lit 0 32 e) j))).x2 (stp6 (lit 0 5 x1) ⟨lit 0 5 x2, lit 0 5 z2, lit 0 5 x3, lit 0 5 z3, lit 0 5 a, lit 0 5 b⟩ (swX sw (btX (lit 0 32 e) j))).z2 (stp6 (lit 0 5 x1) ⟨lit 0 5 x2, lit 0 5 z2, lit 0 5 x3, lit 0 5 z3, lit 0 5 a, lit 0 5 b⟩ (swX sw (btX (lit 0 32 e) j))).x3 (stp6 (lit 0 5 x1) ⟨lit 0 5 x2, lit 0 5 z2, lit 0 5 x3, lit 0 5 z3, lit 0 5 a, lit 0 5 b⟩ (swX sw (btX (lit 0 32 e) j))).z3 (stp6 (lit 0 5 x1) ⟨lit 0 5 x2, lit 0 5 z2, lit 0 5 x3, lit 0 5 z3, lit 0 5 a, lit 0 5 b⟩ (swX sw (btX (lit 0 32 e) j))).a (stp6 (lit 0 5 x1) ⟨lit 0 5 x2, lit 0 5 z2, lit 0 5 x3, lit 0 5 z3, lit 0 5 a, lit 0 5 b⟩ (swX sw (btX (lit 0 32 e) j))).b ((btX (lit 0 32 e) j).toNat : Int) (j : Int)) (smBodyC B d s p e x1 x2 z2 x3 z3 a b sw j (by omega) rfl) (fun s' hs => ?_)
      subst hs
      refine Tri.chg (cx := cxb false) rfl ?_
      refine Tri.fin (cx := cxb false) mix T0ok (HE5ok B false) 0 noOrc [0, 6, 7, 8, 9, 10, 11, 12, 13, 14, 15] [5 + 8, 5 + 9, 5 + 10, 5 + 11, 5 + 12, 5 + 13, 5 + 14, 5 + 15, 5 + 7, 5 + 6, 5 + 5, 5 + 4, 5 + 3, 5 + 2, 5 + 1, 3, 5] (5 + 16) .n (smStC (smBaseC s p d) (dsv (5 + 7)) (lit 0 32 e) (lit 0 5 x1) (stp6 (lit 0 5 x1) ⟨lit 0 5 x2, lit 0 5 z2, lit 0 5 x3, lit 0 5 z3, lit 0 5 a, lit 0 5 b⟩ (swX sw (btX (lit 0 32 e) j))).x2 (stp6 (lit 0 5 x1) ⟨lit 0 5 x2, lit 0 5 z2, lit 0 5 x3, lit 0 5 z3, lit 0 5 a, lit 0 5 b⟩ (swX sw (btX (lit 0 32 e) j))).z2 (stp6 (lit 0 5 x1) ⟨lit 0 5 x2, lit 0 5 z2, lit 0 5 x3, lit 0 5 z3, lit 0 5 a, lit 0 5 b⟩ (swX sw (btX (lit 0 32 e) j))).x3 (stp6 (lit 0 5 x1) ⟨lit 0 5 x2, lit 0 5 z2, lit 0 5 x3, lit 0 5 z3, lit 0 5 a, lit 0 5 b⟩ (swX sw (btX (lit 0 32 e) j))).z3 (stp6 (lit 0 5 x1) ⟨lit 0 5 x2, lit 0 5 z2, lit 0 5 x3, lit 0 5 z3, lit 0 5 a, lit 0 5 b⟩ (swX sw (btX (lit 0 32 e) j))).a (stp6 (lit 0 5 x1) ⟨lit 0 5 x2, lit 0 5 z2, lit 0 5 x3, lit 0 5 z3, lit 0 5 a, lit 0 5 b⟩ (swX sw (btX (lit 0 32 e) j))).b ((btX (lit 0 32 e) j).toNat : Int) ((j : Int) - 1)) [rng ((j : Int) - 1)] (by kernel_rfl) (obCons hrj obNil) (by kernel_rfl) ⟨⟨j, by omega⟩, by show j < j + 1; omega, ?_⟩
      dsimp only
      rw [hst]
  · subst hs
    have ho := hok 255
    generalize ljS e x1 s0 255 = P at *
    obtain ⟨⟨x2, z2, x3, z3, a, b⟩, sw⟩ := P
    obtain ⟨g1, g2, g3, g4, g5, g6⟩ := ho
    dsimp only at *
    rw [← lit_eq g1 (z := 0), ← lit_eq g2 (z := 0), ← lit_eq g3 (z := 0), ← lit_eq g4 (z := 0), ← lit_eq g5 (z := 0), ← lit_eq g6 (z := 0), ← lit_eq l1 (z := 0), ← lit_eq le (z := 0)]
    exact Tri.ret (cx := cxb true) mix T0ok (HE5ok B true) 0 noOrc [] [5 + 7, 5 + 6, 5 + 5, 5 + 4, 5 + 3, 5 + 2, 5 + 1, 3, 5] (5 + 16) ⟨[], smBaseC s p (smFin ⟨lit 0 5 x2, lit 0 5 z2, lit 0 5 x3, lit 0 5 z3, lit 0 5 a, lit 0 5 b⟩ sw), 5 + 16⟩ [] .n (by kernel_rfl) obNil (by kernel_rfl) rfl [5 + 7, 5 + 6, 5 + 5, 5 + 4, 5 + 3, 5 + 2, 5 + 1, 3, 5] [] (by kernel_rfl) obNil

end Go.Sx

set_option maxRecDepth 1000000
set_option linter.unusedVariables false
namespace Go.Sx
open Go.Proofs
def z32 : List (BitVec 8) := List.replicate 32 0
noncomputable def HU (s p : List (BitVec 8)) (c : Bool) : Hook := hookC 34 (hookAt [dsv (5 + 7), dsv (5 + 5), dsv (5 + 6)] (smBaseC s p z32) (5 + 8) (.tup []) (smBaseC s p (smF s p)) (5 + 8)) (hookC 23 (hookD (cxb c) hkCt [0, 1, 3] [0, 1, 0, 2]) (HE5 c))
theorem HUok (B : Nat) {s p : List (BitVec 8)} (ls : s.length = 32) (lp : p.length = 32) (c : Bool) : HookOk P0 B 5 (HU s p c) :=
  .cons (.at_ (smRunC B z32 s p ls lp)) (.cons (.dup (cx := cxb c) (hk_ok B)) (HE5ok B c))
def ozF : Orc := orcL [(11, false)]
def ozT : Orc := orcL [(11, true)]
noncomputable def HYin24 : In := ⟨Tryd.f24, bodyOf Tryd.f24, 0, .eff, noOrc⟩
theorem HYio24 : InOk P0 24 HYin24 := ⟨by kernel_rfl, by kernel_rfl, by kernel_rfl⟩
noncomputable def HY0 (s p : List (BitVec 8)) (c : Bool) : Hook := hookC 24 (inl (cxb c) (HU s p c) HYin24) (HU s p c)
theorem HY0ok (B : Nat) {s p : List (BitVec 8)} (ls : s.length = 32) (lp : p.length = 32) (c : Bool) : HookOk P0 B 5 (HY0 s p c) := HookOk.cons (HkOk.inl (cx := cxb c) mix T0ok (HUok B ls lp c) HYio24) (HUok B ls lp c)
noncomputable def HYin41 : In := ⟨Tryd.f41, bodyOf Tryd.f41, 0, .eff, noOrc⟩
theorem HYio41 : InOk P0 41 HYin41 := ⟨by kernel_rfl, by kernel_rfl, by kernel_rfl⟩
noncomputable def HY1 (s p : List (BitVec 8)) (c : Bool) : Hook := hookC 41 (inl (cxb c) (HY0 s p c) HYin41) (HY0 s p c)
theorem HY1ok (B : Nat) {s p : List (BitVec 8)} (ls : s.length = 32) (lp : p.length = 32) (c : Bool) : HookOk P0 B 5 (HY1 s p c) := HookOk.cons (HkOk.inl (cx := cxb c) mix T0ok (HY0ok B ls lp c) HYio41) (HY0ok B ls lp c)
noncomputable def HYin40 : In := ⟨Tryd.f40, bodyOf Tryd.f40, 33, .read, noOrc⟩
theorem HYio40 : InOk P0 40 HYin40 := ⟨by kernel_rfl, by kernel_rfl, by kernel_rfl⟩
noncomputable def HY2 (s p : List (BitVec 8)) (c : Bool) : Hook := hookC 40 (inl (cxb c) (HY1 s p c) HYin40) (HY1 s p c)
theorem HY2ok (B : Nat) {s p : List (BitVec 8)} (ls : s.length = 32) (lp : p.length = 32) (c : Bool) : HookOk P0 B 5 (HY2 s p c) := HookOk.cons (HkOk.inl (cx := cxb c) mix T0ok (HY1ok B ls lp c) HYio40) (HY1ok B ls lp c)
noncomputable def HYin32 : In := ⟨Tryd.f32, bodyOf Tryd.f32, 0, .new, ozF⟩
theorem HYio32 : InOk P0 32 HYin32 := ⟨by kernel_rfl, by kernel_rfl, by kernel_rfl⟩
noncomputable def HY3 (s p : List (BitVec 8)) (c : Bool) : Hook := hookC 32 (inl (cxb c) (HY2 s p c) HYin32) (HY2 s p c)
theorem HY3ok (B : Nat) {s p : List (BitVec 8)} (ls : s.length = 32) (lp : p.length = 32) (c : Bool) : HookOk P0 B 5 (HY3 s p c) := HookOk.cons (HkOk.inl (cx := cxb c) mix T0ok (HY2ok B ls lp c) HYio32) (HY2ok B ls lp c)
noncomputable def HYin22 : In := ⟨Tryd.f22, bodyOf Tryd.f22, 33, .eff, noOrc⟩
theorem HYio22 : InOk P0 22 HYin22 := ⟨by kernel_rfl, by kernel_rfl, by kernel_rfl⟩
noncomputable def HY4 (s p : List (BitVec 8)) (c : Bool) : Hook := hookC 22 (inl (cxb c) (HY3 s p c) HYin22) (HY3 s p c)
theorem HY4ok (B : Nat) {s p : List (BitVec 8)} (ls : s.length = 32) (lp : p.length = 32) (c : Bool) : HookOk P0 B 5 (HY4 s p c) := HookOk.cons (HkOk.inl (cx := cxb c) mix T0ok (HY3ok B ls lp c) HYio22) (HY3ok B ls lp c)
noncomputable def HYin17 : In := ⟨Tryd.f17, bodyOf Tryd.f17, 0, .eff, noOrc⟩
theorem HYio17 : InOk P0 17 HYin17 := ⟨by kernel_rfl, by kernel_rfl, by kernel_rfl⟩
noncomputable def HY (s p : List (BitVec 8)) (c : Bool) : Hook := hookC 17 (inl (cxb c) (HY4 s p c) HYin17) (HY4 s p c)
theorem HYok (B : Nat) {s p : List (BitVec 8)} (ls : s.length = 32) (lp : p.length = 32) (c : Bool) : HookOk P0 B 5 (HY s p c) := HookOk.cons (HkOk.inl (cx := cxb c) mix T0ok (HY4ok B ls lp c) HYio17) (HY4ok B ls lp c)
noncomputable def HZin24 : In := ⟨Tryd.f24, bodyOf Tryd.f24, 0, .eff, noOrc⟩
theorem HZio24 : InOk P0 24 HZin24 := ⟨by kernel_rfl, by kernel_rfl, by kernel_rfl⟩
noncomputable def HZ0 (s p : List (BitVec 8)) (c : Bool) : Hook := hookC 24 (inl (cxb c) (HU s p c) HZin24) (HU s p c)
theorem HZ0ok (B : Nat) {s p : List (BitVec 8)} (ls : s.length = 32) (lp : p.length = 32) (c : Bool) : HookOk P0 B 5 (HZ0 s p c) := HookOk.cons (HkOk.inl (cx := cxb c) mix T0ok (HUok B ls lp c) HZio24) (HUok B ls lp c)
noncomputable def HZin41 : In := ⟨Tryd.f41, bodyOf Tryd.f41, 0, .eff, noOrc⟩
theorem HZio41 : InOk P0 41 HZin41 := ⟨by kernel_rfl, by kernel_rfl, by kernel_rfl⟩
noncomputable def HZ1 (s p : List (BitVec 8)) (c : Bool) : Hook := hookC 41 (inl (cxb c) (HZ0 s p c) HZin41) (HZ0 s p c)
theorem HZ1ok (B : Nat) {s p : List (BitVec 8)} (ls : s.length = 32) (lp : p.length = 32) (c : Bool) : HookOk P0 B 5 (HZ1 s p c) := HookOk.cons (HkOk.inl (cx := cxb c) mix T0ok (HZ0ok B ls lp c) HZio41) (HZ0ok B ls lp c)
noncomputable def HZin40 : In := ⟨Tryd.f40, bodyOf Tryd.f40, 33, .read, noOrc⟩
theorem HZio40 : InOk P0 40 HZin40 := ⟨by kernel_rfl, by kernel_rfl, by kernel_rfl⟩
noncomputable def HZ2 (s p : List (BitVec 8)) (c : Bool) : Hook := hookC 40 (inl (cxb c) (HZ1 s p c) HZin40) (HZ1 s p c)
theorem HZ2ok (B : Nat) {s p : List (BitVec 8)} (ls : s.length = 32) (lp : p.length = 32) (c : Bool) : HookOk P0 B 5 (HZ2 s p c) := HookOk.cons (HkOk.inl (cx := cxb c) mix T0ok (HZ1ok B ls lp c) HZio40) (HZ1ok B ls lp c)
noncomputable def HZin32 : In := ⟨Tryd.f32, bodyOf Tryd.f32, 0, .new, ozT⟩
theorem HZio32 : InOk P0 32 HZin32 := ⟨by kernel_rfl, by kernel_rfl, by kernel_rfl⟩
noncomputable def HZ3 (s p : List (BitVec 8)) (c : Bool) : Hook := hookC 32 (inl (cxb c) (HZ2 s p c) HZin32) (HZ2 s p c)
theorem HZ3ok (B : Nat) {s p : List (BitVec 8)} (ls : s.length = 32) (lp : p.length = 32) (c : Bool) : HookOk P0 B 5 (HZ3 s p c) := HookOk.cons (HkOk.inl (cx := cxb c) mix T0ok (HZ2ok B ls lp c) HZio32) (HZ2ok B ls lp c)
noncomputable def HZin22 : In := ⟨Tryd.f22, bodyOf Tryd.f22, 33, .eff, noOrc⟩
theorem HZio22 : InOk P0 22 HZin22 := ⟨by kernel_rfl, by kernel_rfl, by kernel_rfl⟩
noncomputable def HZ4 (s p : List (BitVec 8)) (c : Bool) : Hook := hookC 22 (inl (cxb c) (HZ3 s p c) HZin22) (HZ3 s p c)
theorem HZ4ok (B : Nat) {s p : List (BitVec 8)} (ls : s.length = 32) (lp : p.length = 32) (c : Bool) : HookOk P0 B 5 (HZ4 s p c) := HookOk.cons (HkOk.inl (cx := cxb c) mix T0ok (HZ3ok B ls lp c) HZio22) (HZ3ok B ls lp c)
noncomputable def HZin17 : In := ⟨Tryd.f17, bodyOf Tryd.f17, 0, .eff, noOrc⟩
theorem HZio17 : InOk P0 17 HZin17 := ⟨by kernel_rfl, by kernel_rfl, by kernel_rfl⟩
noncomputable def HZ (s p : List (BitVec 8)) (c : Bool) : Hook := hookC 17 (inl (cxb c) (HZ4 s p c) HZin17) (HZ4 s p c)
theorem HZok (B : Nat) {s p : List (BitVec 8)} (ls : s.length = 32) (lp : p.length = 32) (c : Bool) : HookOk P0 B 5 (HZ s p c) := HookOk.cons (HkOk.inl (cx := cxb c) mix T0ok (HZ4ok B ls lp c) HZio17) (HZ4ok B ls lp c)
end Go.Sx

set_option maxRecDepth 1000000
set_option linter.unusedVariables false
namespace Go.Sx
open Go.Proofs
def orA (o : List (BitVec 8)) : BitVec 8 := (List.range 32).foldl (fun x j => x ||| o.getD j 0) 0#8
def sigB : List (BitVec 8) := [101#8, 120#8, 112#8, 97#8, 110#8, 100#8, 32#8, 51#8, 50#8, 45#8, 98#8, 121#8, 116#8, 101#8, 32#8, 107#8]
def z16 : List (BitVec 8) := List.replicate 16 0
theorem or_zero {x y : BitVec 8} (h : x ||| y = 0#8) : x = 0#8 ∧ y = 0#8 := by
  constructor
  · apply BitVec.eq_of_getLsbD_eq
    intro i hi
    have := congrArg (fun v => v.getLsbD i) h
    simp only [BitVec.getLsbD_or, BitVec.getLsbD_zero, Bool.or_eq_false_iff] at this ⊢
    exact this.1
  · apply BitVec.eq_of_getLsbD_eq
    intro i hi
    have := congrArg (fun v => v.getLsbD i) h
    simp only [BitVec.getLsbD_or, BitVec.getLsbD_zero, Bool.or_eq_false_iff] at this ⊢
    exact this.2
theorem fold_or_zero (o : List (BitVec 8)) : ∀ (l : List Nat) (x : BitVec 8), l.foldl (fun x j => x ||| o.getD j 0) x = 0#8 → x = 0#8 ∧ ∀ j ∈ l, o.getD j 0 = 0#8
  | [], x, h => ⟨h, fun j hj => by cases hj⟩
  | i :: r, x, h => by
    obtain ⟨h1, h2⟩ := fold_or_zero o r _ h
    obtain ⟨h3, h4⟩ := or_zero h1
    exact ⟨h3, fun j hj => by
      rcases List.mem_cons.1 hj with rfl | hj
      · exact h4
      · exact h2 j hj⟩
theorem orA_zero {o : List (BitVec 8)} (hl : o.length = 32) (h : (orA o).toNat = 0) : o = z32 := by
  have h0 : orA o = 0#8 := BitVec.eq_of_toNat_eq h
  have := (fold_or_zero o _ _ h0).2
  apply List.ext_getElem?
  intro j
  rcases Nat.lt_or_ge j 32 with hj | hj
  · have hz := this j (List.mem_range.2 hj)
    rw [List.getD_eq_getElem?_getD, List.getElem?_eq_getElem (by omega), Option.getD_some] at hz
    rw [List.getElem?_eq_getElem (by omega), hz]
    unfold z32
    rw [List.getElem?_replicate, if_pos hj]
    rfl
  · rw [List.getElem?_eq_none (by omega), List.getElem?_eq_none (by unfold z32; rw [List.length_replicate]; exact hj)]
theorem smF_length (s p : List (BitVec 8)) : (smF s p).length = 32 := rfl
/-- the key that two sides share, as the program computes it -/
def preI (a b : List (BitVec 8)) : List (BitVec 8) := hs z16 (smF b a) sigB

theorem pre1 (B : Nat) (a b : List (BitVec 8)) (la : a.length = 32) (lb : b.length = 32) : FnE P0 B 5 9 [.one (.ag [.d8 (lit 0 32 a)]), .one (.ag [.d8 (lit 0 32 b)])] gM (5 + 1) ⟨.one (.ag [.d8 (lit 0 32 (preI a b))]), gM, 5 + 1, .eff, []⟩ := by
  refine FnE.tri (cx := cxb true) (sz := 8) (fn := Tryd.f9) (c := bodyOf Tryd.f9) T0ok (by kernel_rfl) (by kernel_rfl) (by kernel_rfl) (by kernel_rfl) (by kernel_rfl) (by kernel_rfl) (Nat.le_refl _) ?_
  have hP : preI a b = hs z16 (lit 0 32 (smF b a)) sigB := by rw [lit_eq (smF_length b a)]; rfl
  cases hz : decide ((orA (smF b a)).toNat = 0) with
  | false =>
    rw [hP]
    exact Tri.ret (cx := cxb true) mix T0ok (HYok B lb la true) 0 noOrc [4] [5 + 3, 3, 5] (5 + 90) ⟨[(4, .one (.s (.p (5 + 3) 0)))], [(5 + 3, sg8 (lit 0 32 (hs z16 (lit 0 32 (smF b a)) sigB)) true)] ++ gM, 5 + 90⟩ [[dsv (5 + 7), dsv (5 + 5), dsv (5 + 6)] = [dsv (5 + 7), dsv (5 + 5), dsv (5 + 6)], smBaseC b a z32 = smBaseC b a z32, 5 + 8 = 5 + 8, decide ((orA (smF b a)).toNat = (0#8).toNat) = false] .r (by kernel_rfl) (obCons rfl <| obCons rfl <| obCons rfl <| obCons hz obNil) (by kernel_rfl) rfl [3, 5] [] (by kernel_rfl) obNil
  | true =>
    have h0 := orA_zero (smF_length b a) (of_decide_eq_true hz)
    have hP2 : preI a b = hs z16 z32 sigB := by unfold preI; rw [h0]
    rw [hP2]
    exact Tri.ret (cx := cxb true) mix T0ok (HZok B lb la true) 0 noOrc [4] [5 + 3, 3, 5] (5 + 90) ⟨[(4, .one (.s (.p (5 + 3) 0)))], [(5 + 3, sg8 (lit 0 32 (hs z16 z32 sigB)) true)] ++ gM, 5 + 90⟩ [[dsv (5 + 7), dsv (5 + 5), dsv (5 + 6)] = [dsv (5 + 7), dsv (5 + 5), dsv (5 + 6)], smBaseC b a z32 = smBaseC b a z32, 5 + 8 = 5 + 8, decide ((orA (smF b a)).toNat = (0#8).toNat) = true] .r (by kernel_rfl) (obCons rfl <| obCons rfl <| obCons rfl <| obCons hz obNil) (by kernel_rfl) rfl [3, 5] [] (by kernel_rfl) obNil
end Go.Sx
