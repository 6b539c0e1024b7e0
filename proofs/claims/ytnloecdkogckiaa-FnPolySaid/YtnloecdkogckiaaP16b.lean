/- impl.Poly: what is called; the states. impl.Poly. impl.Poly as a contract; FnPoly: what is called. FnPoly: the walk. Conditions: none. -/
import Derived.Test.YtnloecdkogckiaaP12b
import Derived.Test.YtnloecdkogckiaaSx36
set_option maxRecDepth 1000000
set_option linter.unusedVariables false
namespace Go.Sx
open Go.Proofs
noncomputable def HIb (c : Bool) : Hook := hookC 21 (hookOf (cxb c) cloneCt) (HG c)
theorem HIbok (B : Nat) (c : Bool) : HookOk P0 B 1 (HIb c) := .cons (.ct (cx := cxb c) (clone_ok B)) (HGok B c)
def ipM (m : List (BitVec 8)) (ps : List Int) : Mem := [(1, ⟨m.length, .d8 m, false, false, false⟩), (1 + 1, ⟨ps.length, .di ps, false, false, false⟩)]
def ipS0 (m key : List (BitVec 8)) (ps : List Int) : St := ⟨enum 0 [.one (.s (.osl 1 m.length)), .one (.ag [.d8 (lit 0 32 key)]), .one (.s (.osl (1 + 1) ps.length))], ipM m ps, 1 + 2⟩
def ipS (m : List (BitVec 8)) (ps : List Int) (st : List (BitVec 64)) (buf : List (BitVec 8)) (k : Int) (L : Nat) (rest : List (BitVec 8)) (i : Int) : St := ⟨[(6, .one (.s (.p (1 + 2) 0))), (7, .one (.s (.p (1 + 3) 0))), (8, .one (.s (.osl (1 + 7) L))), (14, .one (.s (.osl (1 + 1) ps.length))), (15, .one (.s (.i (ps.length : Int)))), (16, .one (.s (.i i)))],
  ipM m ps ++ (1 + 2, ⟨16, .d8 (List.replicate 16 0), true, false, false⟩) :: macM (1 + 3) st buf k false ++ [(1 + 7, ⟨L, .d8 rest, false, false, false⟩)], 1 + 8⟩
def ipT (m : List (BitVec 8)) (ps : List Int) (st : List (BitVec 64)) (buf : List (BitVec 8)) (k : Int) (rest : List (BitVec 8)) (i n : Int) : St := ⟨(10, .one (.s (.i n))) :: (ipS m ps st buf k rest.length rest i).t, (ipS m ps st buf k rest.length rest i).m, 1 + 8⟩
noncomputable def ipB : List Code := flat (bodyOf Try.f11)
noncomputable def ipIn : List Code := lpB ((lpB (ipB.drop 4)).drop 2)
end Go.Sx

set_option maxRecDepth 1000000
set_option linter.unusedVariables false
namespace Go.Sx
open Go.Proofs

structure PI (key m : List (BitVec 8)) (ps : List Int) where
  i : Nat
  st : List (BitVec 64)
  buf : List (BitVec 8)
  t : List (BitVec 8)
  rest : List (BitVec 8)
  hi : i ≤ ps.length
  inv : MInv key t st buf (t.length % 16)
  hm : t ++ rest = m
def PI.sta {key m : List (BitVec 8)} {ps : List Int} (j : PI key m ps) : St := ipS m ps j.st j.buf ((j.t.length % 16 : Nat) : Int) j.rest.length j.rest (j.i : Int)
def ipE (key m : List (BitVec 8)) (ps : List Int) : Ef := ⟨.one (.ag [.d8 (lit 0 16 (poly key m))]), ipM m ps, 1 + 2, .eff, []⟩

section
variable (B : Nat) (key m : List (BitVec 8)) (ps : List Int)

/-- a piece is written -/
theorem ipW (hl : m.length ≤ 4294967295) (j : PI key m ps) (n : Nat) (hn : n ≤ j.rest.length) {R : Ex → St → Prop} (hR : ∀ j' : PI key m ps, j'.i = j.i → R .n j'.sta) :
    Tri P0 B (cxb false) 41 (1 + 2) (ipIn.drop 2) (ipT m ps j.st j.buf ((j.t.length % 16 : Nat) : Int) j.rest (j.i : Int) (n : Int)) R := by
  obtain ⟨i, st, buf, t, rest, hi, inv, hm⟩ := j
  have hrl : rest.length ≤ m.length := by rw [← hm, List.length_append]; omega
  have hk : t.length % 16 < 16 := Nat.mod_lt _ (by decide)
  dsimp only at hn ⊢
  have W := inv.write (rest.take n)
  refine Tri.finR (cx := cxb false) mix T0ok (HIbok B false) 0 noOrc [6, 7, 8, 14, 15, 16] [(1, 1), (1 + 1, 1 + 1), (1 + 2, 1 + 2), (1 + 3, 1 + 3), (1 + 4, 1 + 4), (1 + 5, 1 + 5), (1 + 6, 1 + 6), (1 + 8, 1 + 7)] (1 + 8) .n
    (ipS m ps (mwS (lit 0 7 st) (lit 0 16 buf) (t.length % 16) (List.take n (List.drop 0 rest))) (mwB (lit 0 16 buf) (t.length % 16) (List.take n (List.drop 0 rest))) (((t.length % 16 + (List.take n (List.drop 0 rest)).length) % 16 : Nat) : Int) (rest.length - n) (List.take (rest.length - n) (List.drop n rest)) (i : Int)) (let k := t.length % 16; [(0 : Int) ≤ (↑n : Int) ∧ (↑n : Int) ≤ (↑(List.length rest) : Int) ∧ (↑n : Int) ≤ (↑(List.length rest) : Int), (0 : Nat) + (24 : Nat) - (7 : Nat) - (16 : Nat) - (1 : Nat) < List.length [Sc.b false], Int.toNat (↑n : Int) ≤ List.length rest, List.length (lit (0 : BitVec (64 : Nat)) (7 : Nat) (mwS (lit (0 : BitVec (64 : Nat)) (7 : Nat) st) (lit (0 : BitVec (8 : Nat)) (16 : Nat) buf) (Int.toNat (↑k : Int)) (List.take (Int.toNat (↑n : Int)) (List.drop (0 : Nat) rest)))) = List.length (lit (0 : BitVec (64 : Nat)) (7 : Nat) st) ∧ List.length (lit (0 : BitVec (8 : Nat)) (16 : Nat) (mwB (lit (0 : BitVec (8 : Nat)) (16 : Nat) buf) (Int.toNat (↑k : Int)) (List.take (Int.toNat (↑n : Int)) (List.drop (0 : Nat) rest)))) = List.length (lit (0 : BitVec (8 : Nat)) (16 : Nat) buf) ∧ List.length [(↑((Int.toNat (↑k : Int) + List.length (List.take (Int.toNat (↑n : Int)) (List.drop (0 : Nat) rest))) % (16 : Nat)) : Int)] = List.length [(↑k : Int)] ∧ List.length (List.take (Int.toNat (↑n : Int)) (List.drop (0 : Nat) rest)) = List.length (List.take (Int.toNat (↑n : Int)) (List.drop (0 : Nat) rest)) ∧ True, BitVec.toNat (List.getD (lit (0 : BitVec (64 : Nat)) (7 : Nat) st) (2 : Nat) (0 : BitVec (64 : Nat))) ≤ (5 : Nat), BitVec.toNat (List.getD (lit (0 : BitVec (64 : Nat)) (7 : Nat) st) (3 : Nat) (0 : BitVec (64 : Nat))) < (2 : Nat) ^ (60 : Nat), BitVec.toNat (List.getD (lit (0 : BitVec (64 : Nat)) (7 : Nat) st) (4 : Nat) (0 : BitVec (64 : Nat))) < (2 : Nat) ^ (60 : Nat), (0 : Int) ≤ (↑k : Int) ∧ (↑k : Int) < (16 : Int), List.length (List.take (Int.toNat (↑n : Int)) (List.drop (0 : Nat) rest)) ≤ (4294967295 : Nat), (0 : Int) ≤ (↑n : Int) ∧ (↑n : Int) ≤ (↑(List.length rest) : Int) ∧ (↑(List.length rest) : Int) ≤ (↑(List.length rest) : Int) ∧ (↑(List.length rest) : Int) ≤ (↑(List.length rest) : Int)]) (by kernel_rfl) ?_ ?_
  · dsimp only
    rw [lit_eq inv.hl, lit_eq inv.hb]
    (repeat' (first | exact obNil | refine obCons ?_ ?_))
    all_goals first | omega | exact inv.hz | exact inv.hr0 | exact inv.hr1 | exact Nat.zero_lt_one | (refine ⟨?_, ?_, ?_, ?_, trivial⟩ <;> simp [lit_length, inv.hl, inv.hb]) | (simp; omega)
  · have e1 : List.take (rest.length - n) (List.drop n rest) = rest.drop n := List.take_of_length_le (by rw [List.length_drop]; omega)
    have e2 : rest.length - n = (rest.drop n).length := by rw [List.length_drop]
    rw [lit_eq inv.hl, lit_eq inv.hb, List.drop_zero, e1, e2]
    have hkn : (t ++ rest.take n).length % 16 = (t.length % 16 + (rest.take n).length) % 16 := by rw [List.length_append, Nat.mod_add_mod]
    have := hR ⟨i, mwS st buf (t.length % 16) (rest.take n), mwB buf (t.length % 16) (rest.take n), t ++ rest.take n, rest.drop n, hi, by rw [hkn]; exact W, by rw [List.append_assoc, List.take_append_drop]; exact hm⟩ rfl
    unfold PI.sta at this
    dsimp only at this
    rw [hkn] at this
    exact this

theorem minX_nat (a : Int) (b : Nat) : ∃ n : Nat, n ≤ b ∧ minX (maxX a 0) (b : Int) = (n : Int) := by
  refine ⟨(minX (maxX a 0) (b : Int)).toNat, ?_, ?_⟩ <;> unfold minX maxX <;> (repeat' split) <;> omega

theorem ip1 (hkey : key.length = 32) (hl : m.length ≤ 4294967295) (hp : ps.length ≤ 4294967295) : FnE P0 B 1 11 [.one (.s (.osl 1 m.length)), .one (.ag [.d8 (lit 0 32 key)]), .one (.s (.osl (1 + 1) ps.length))] (ipM m ps) (1 + 2) (ipE key m ps) := by
  refine FnE.tri (cx := cxb true) (sz := 41) (fn := Try.f11) (c := bodyOf Try.f11) T0ok (by kernel_rfl) (by kernel_rfl) (by kernel_rfl) (by kernel_rfl) (by kernel_rfl) (by kernel_rfl) (Nat.le_refl _) ?_
  refine Tri.chg (cx := cxb false) rfl ?_
  have mt : List.take m.length (List.drop 0 m) = m := by simp
  refine Tri.step (cx := cxb false) mix T0ok (HIbok B false) 4 0 noOrc [6, 7, 8, 14, 15, 16] [1, 1 + 1, 1 + 3, 1 + 4, 1 + 5, 1 + 6, 1 + 7, 1 + 8] (1 + 9) ⟨[(6, .one (.s (.p (1 + 3) 0))), (7, .one (.s (.p (1 + 4) 0))), (8, .one (.s (.osl (1 + 8) (List.length (List.take m.length (List.drop 0 m)))))), (14, .one (.s (.osl (1 + 1) ps.length))), (15, .one (.s (.i (ps.length : Int)))), (16, .one (.s (.i 0)))],
    ipM m ps ++ (1 + 3, ⟨16, .d8 (List.replicate 16 0), true, false, false⟩) :: macM (1 + 4) (st0 (lit 0 32 key)) bf0 0 false ++ [(1 + 8, ⟨0, .d8 (List.take m.length (List.drop 0 m)), true, true, false⟩)], 1 + 9⟩ ([List.length (lit (0 : BitVec (8 : Nat)) (32 : Nat) key) = List.length (List.replicate (32 : Nat) (0 : BitVec (8 : Nat))) ∧ True, List.length (List.replicate (7 : Nat) (0 : BitVec (64 : Nat))) = List.length (List.replicate (7 : Nat) (0 : BitVec (64 : Nat))) ∧ List.length (List.replicate (16 : Nat) (0 : BitVec (8 : Nat))) = List.length (List.replicate (16 : Nat) (0 : BitVec (8 : Nat))) ∧ List.length [(0 : Int)] = List.length [(0 : Int)] ∧ List.length [Sc.b false] = List.length [Sc.b false] ∧ True, (0 : Nat) + (32 : Nat) ≤ List.length (lit (0 : BitVec (8 : Nat)) (32 : Nat) key), (0 : Nat) + (0 : Nat) + (0 : Nat) + (0 : Nat) + (7 : Nat) ≤ List.length (List.replicate (7 : Nat) (0 : BitVec (64 : Nat))), List.length (List.take (32 : Nat) (List.drop (0 : Nat) (lit (0 : BitVec (8 : Nat)) (32 : Nat) key))) = List.length (List.take (32 : Nat) (List.drop (0 : Nat) (lit (0 : BitVec (8 : Nat)) (32 : Nat) key))) ∧ List.length (lit (0 : BitVec (64 : Nat)) (3 : Nat) (List.take (7 : Nat) (List.drop ((0 : Nat) + (0 : Nat) + (0 : Nat) + (0 : Nat)) (List.replicate (7 : Nat) (0 : BitVec (64 : Nat))))) ++ initW (List.take (32 : Nat) (List.drop (0 : Nat) (lit (0 : BitVec (8 : Nat)) (32 : Nat) key)))) = List.length (List.take (7 : Nat) (List.drop ((0 : Nat) + (0 : Nat) + (0 : Nat) + (0 : Nat)) (List.replicate (7 : Nat) (0 : BitVec (64 : Nat))))) ∧ True, List.length m ≤ List.length m, List.length (List.take (List.length m) (List.drop (0 : Nat) m)) = List.length (List.take (List.length m) (List.drop (0 : Nat) m)) ∧ True, List.length (List.take (List.length m) (List.drop (0 : Nat) m)) ≤ (4294967295 : Nat)]) (by kernel_rfl) ?_ (by kernel_rfl) ?_
  · (repeat' (first | exact obNil | refine obCons ?_ ?_))
    all_goals first | decide | omega | (simp only [lit_length]; decide) | exact ⟨rfl, rfl, trivial⟩ | (simp; done) | (simp; omega)
  · rw [mt]
    refine Tri.view (k := 1 + 8) (d := 8) (n := m.length) (g := ⟨0, .d8 m, true, true, false⟩) (by kernel_rfl) (by kernel_rfl) (Nat.le_refl _) ?_
    refine Tri.ren (ts := [6, 7, 8, 14, 15, 16]) (ks := [(1, 1), (1 + 1, 1 + 1), (1 + 3, 1 + 2), (1 + 4, 1 + 3), (1 + 5, 1 + 4), (1 + 6, 1 + 5), (1 + 7, 1 + 6), (1 + 9, 1 + 7)]) (nx := 1 + 8) (s' := ipS m ps (st0 (lit 0 32 key)) bf0 0 m.length ((m.drop 0).take m.length) 0) (by kernel_rfl) ?_
    rw [mt, lit_eq hkey]
    refine Tri.loop (id := 0) (ι := PI key m ps) rfl (fun j => j.sta) (fun j => ps.length - j.i) ⟨0, st0 key, bf0, [], m, Nat.zero_le _, MInv.init key, rfl⟩ rfl (fun j => by show 1 + 2 ≤ 1 + 8; omega) (R1 := fun s => ∃ j : PI key m ps, s = j.sta) (fun j => ?_) (fun s' hs => ?_)
    · by_cases hlt : j.i < ps.length
      · refine Tri.step (cx := cxb false) mix T0ok (HIbok B false) 2 0 (orcL [(17, true)]) [6, 7, 8, 14, 15, 16] [1, 1 + 1, 1 + 2, 1 + 3, 1 + 4, 1 + 5, 1 + 6, 1 + 7] (1 + 8) j.sta [decide ((j.i : Int) < (ps.length : Int)) = true] (by kernel_rfl) (obCons (decide_eq_true (by omega)) obNil) (by kernel_rfl) ?_
        refine Tri.block (id := 1) rfl (R1 := fun s => ∃ j' : PI key m ps, j'.i = j.i ∧ s = j'.sta) ?_ (fun s' hs => ?_)
        · obtain ⟨n, hn, en⟩ := minX_nat (ps.getD (Int.toNat (j.i : Int) + 0) 0) j.rest.length
          refine Tri.step (cx := cxb false) mix T0ok (HIbok B false) 2 0 noOrc [10, 6, 7, 8, 14, 15, 16] [1, 1 + 1, 1 + 2, 1 + 3, 1 + 4, 1 + 5, 1 + 6, 1 + 7] (1 + 8) (ipT m ps j.st j.buf ((j.t.length % 16 : Nat) : Int) j.rest (j.i : Int) (minX (maxX (ps.getD (Int.toNat (j.i : Int) + 0) 0) 0) (j.rest.length : Int))) [(0 : Int) ≤ (j.i : Int) ∧ (j.i : Int) < (ps.length : Int) ∧ (j.i : Int) < (ps.length : Int), Int.toNat (j.i : Int) + 0 < ps.length] (by kernel_rfl) (obCons (by omega) <| obCons (by omega) obNil) (by kernel_rfl) ?_
          rw [en]
          exact ipW B key m ps hl j n hn fun j' hj' => ⟨j', hj', rfl⟩
        · obtain ⟨j', hj', rfl⟩ := hs
          refine Tri.fin (cx := cxb false) mix T0ok (HIbok B false) 0 noOrc [6, 7, 8, 14, 15, 16] [1, 1 + 1, 1 + 2, 1 + 3, 1 + 4, 1 + 5, 1 + 6, 1 + 7] (1 + 8) .n (ipS m ps j'.st j'.buf ((j'.t.length % 16 : Nat) : Int) j'.rest.length j'.rest ((j'.i : Int) + 1)) [rng ((j'.i : Int) + 1)] (by kernel_rfl) (obCons (by unfold rng; omega) obNil) (by kernel_rfl) ?_
          obtain ⟨i', st', buf', t', rest', hi', inv', hm'⟩ := j'
          exact ⟨⟨i' + 1, st', buf', t', rest', by dsimp only at hj'; omega, inv', hm'⟩, by dsimp only at hj' ⊢; omega, rfl⟩
      · exact Tri.fin (cx := cxb false) mix T0ok (HIbok B false) 0 (orcL [(17, false)]) [6, 7, 8, 14, 15, 16] [1, 1 + 1, 1 + 2, 1 + 3, 1 + 4, 1 + 5, 1 + 6, 1 + 7] (1 + 8) (.x 0) j.sta [decide ((j.i : Int) < (ps.length : Int)) = false] (by kernel_rfl) (obCons (decide_eq_false (by omega)) obNil) (by kernel_rfl) ⟨j, rfl⟩
    · obtain ⟨j, rfl⟩ := hs
      obtain ⟨i, st, buf, t, rest, hi, inv, hm⟩ := j
      have hrl : rest.length ≤ m.length := by rw [← hm, List.length_append]; omega
      have hk : t.length % 16 < 16 := Nat.mod_lt _ (by decide)
      show Tri _ _ _ _ _ _ (ipS m ps st buf ((t.length % 16 : Nat) : Int) rest.length rest (i : Int)) _
      have W := inv.write rest
      rw [hm] at W
      generalize hkk : t.length % 16 = k at *
      have rt : List.take rest.length (List.drop 0 rest) = rest := by simp
      refine Tri.step (cx := cxb false) mix T0ok (HIbok B false) 1 0 noOrc [6, 7] [1, 1 + 1, 1 + 2, 1 + 3, 1 + 4, 1 + 5, 1 + 6] (1 + 8) ⟨[(6, .one (.s (.p (1 + 2) 0))), (7, .one (.s (.p (1 + 3) 0)))], ipM m ps ++ (1 + 2, ⟨16, .d8 (List.replicate 16 0), true, false, false⟩) :: macM (1 + 3) (mwS (lit 0 7 st) (lit 0 16 buf) k (List.take rest.length (List.drop 0 rest))) (mwB (lit 0 16 buf) k (List.take rest.length (List.drop 0 rest))) (((k + (List.take rest.length (List.drop 0 rest)).length) % 16 : Nat) : Int) false, 1 + 8⟩ ([(0 : Nat) + (24 : Nat) - (7 : Nat) - (16 : Nat) - (1 : Nat) < List.length [Sc.b false], List.length rest ≤ List.length rest, List.length (lit (0 : BitVec (64 : Nat)) (7 : Nat) (mwS (lit (0 : BitVec (64 : Nat)) (7 : Nat) st) (lit (0 : BitVec (8 : Nat)) (16 : Nat) buf) (Int.toNat (↑k : Int)) (List.take (List.length rest) (List.drop (0 : Nat) rest)))) = List.length (lit (0 : BitVec (64 : Nat)) (7 : Nat) st) ∧ List.length (lit (0 : BitVec (8 : Nat)) (16 : Nat) (mwB (lit (0 : BitVec (8 : Nat)) (16 : Nat) buf) (Int.toNat (↑k : Int)) (List.take (List.length rest) (List.drop (0 : Nat) rest)))) = List.length (lit (0 : BitVec (8 : Nat)) (16 : Nat) buf) ∧ List.length [(↑((Int.toNat (↑k : Int) + List.length (List.take (List.length rest) (List.drop (0 : Nat) rest))) % (16 : Nat)) : Int)] = List.length [(↑k : Int)] ∧ List.length (List.take (List.length rest) (List.drop (0 : Nat) rest)) = List.length (List.take (List.length rest) (List.drop (0 : Nat) rest)) ∧ True, BitVec.toNat (List.getD (lit (0 : BitVec (64 : Nat)) (7 : Nat) st) (2 : Nat) (0 : BitVec (64 : Nat))) ≤ (5 : Nat), BitVec.toNat (List.getD (lit (0 : BitVec (64 : Nat)) (7 : Nat) st) (3 : Nat) (0 : BitVec (64 : Nat))) < (2 : Nat) ^ (60 : Nat), BitVec.toNat (List.getD (lit (0 : BitVec (64 : Nat)) (7 : Nat) st) (4 : Nat) (0 : BitVec (64 : Nat))) < (2 : Nat) ^ (60 : Nat), (0 : Int) ≤ (↑k : Int) ∧ (↑k : Int) < (16 : Int), List.length (List.take (List.length rest) (List.drop (0 : Nat) rest)) ≤ (4294967295 : Nat)]) (by kernel_rfl) ?_ (by kernel_rfl) ?_
      · rw [lit_eq inv.hl, lit_eq inv.hb]
        (repeat' (first | exact obNil | refine obCons ?_ ?_))
        all_goals first | omega | exact inv.hz | exact inv.hr0 | exact inv.hr1 | exact Nat.zero_lt_one | (refine ⟨?_, ?_, ?_, ?_, trivial⟩ <;> simp [lit_length, inv.hl, inv.hb]) | (simp; omega)
      · rw [lit_eq inv.hl, lit_eq inv.hb, rt]
        have hk2 : (k + rest.length) % 16 < 16 := Nat.mod_lt _ (by decide)
        have hO := W.out hkey
        generalize mwS st buf k rest = st2 at *
        generalize mwB buf k rest = buf2 at *
        generalize (k + rest.length) % 16 = k2 at *
        refine Tri.chg (cx := cxb true) rfl ?_
        refine Tri.stepR (cx := cxb true) mix T0ok (HIbok B true) 1 0 noOrc [6] [(1, 1), (1 + 1, 1 + 1), (1 + 2, 1 + 2)] (1 + 3) ⟨[(6, .one (.s (.p (1 + 2) 0)))], ipM m ps ++ [(1 + 2, ⟨16, .d8 (lit 0 16 (msO (msL (lit 0 7 st2) (lit 0 16 buf2) k2))), true, false, false⟩)], 1 + 3⟩ (let st := st2; let k := k2; [BitVec.toNat (List.getD (lit (0 : BitVec (64 : Nat)) (7 : Nat) st) (2 : Nat) (0 : BitVec (64 : Nat))) ≤ (5 : Nat), BitVec.toNat (List.getD (lit (0 : BitVec (64 : Nat)) (7 : Nat) st) (3 : Nat) (0 : BitVec (64 : Nat))) < (2 : Nat) ^ (60 : Nat), BitVec.toNat (List.getD (lit (0 : BitVec (64 : Nat)) (7 : Nat) st) (4 : Nat) (0 : BitVec (64 : Nat))) < (2 : Nat) ^ (60 : Nat), (0 : Int) ≤ (↑k : Int) ∧ (↑k : Int) < (16 : Int)]) (by kernel_rfl) ?_ ?_
        · dsimp only
          rw [lit_eq W.hl]
          exact obCons W.hz <| obCons W.hr0 <| obCons W.hr1 <| obCons (by omega) obNil
        · rw [lit_eq W.hl, lit_eq W.hb, hO]
          exact Tri.ret (cx := cxb true) mix T0ok (HIbok B true) 0 noOrc [6] [1, 1 + 1, 1 + 2] (1 + 3) ⟨[(6, .one (.s (.p (1 + 2) 0)))], ipM m ps ++ [(1 + 2, ⟨16, .d8 (lit 0 16 (poly key m)), true, false, false⟩)], 1 + 3⟩ [] .r (by kernel_rfl) obNil (by kernel_rfl) rfl [1, 1 + 1] [] (by kernel_rfl) obNil
end
end Go.Sx

set_option maxRecDepth 1000000
set_option linter.unusedVariables false
namespace Go.Sx
open Go.Proofs

def ipCt : Ct := ⟨[.slc false, .val, .slc false], [], fun vs ds gs => match vs, ds, gs with
  | [.one (.ag [.d8 key])], [.d8 m, .di ps], [] => bif Nat.beq key.length 32 then some ⟨.one (.ag [.d8 (lit 0 16 (poly key m))]), [.d8 m, .di ps], [], [m.length ≤ 4294967295, ps.length ≤ 4294967295]⟩ else none
  | _, _, _ => none⟩
theorem ip_ok (B : Nat) : ipCt.Ok P0 B 1 11 := by
  intro vs ds gs out h hpre hn
  unfold ipCt at h
  dsimp only at h
  split at h <;> first | (cases h; done) | skip
  rename_i key m ps
  cases hb : Nat.beq key.length 32 with
  | false => rw [hb] at h; cases h
  | true =>
    rw [hb, cond_true] at h
    cases h
    have k1 := Nat.eq_of_beq_eq_true hb
    have := ip1 B key m ps k1 (hpre _ List.mem_cons_self) (hpre _ (List.mem_cons_of_mem _ List.mem_cons_self))
    unfold ipE at this
    rw [lit_eq k1] at this
    exact this

noncomputable def HPo (b : Bool) (c : Bool) : Hook := hookC 8 (inl (cxb c) (H0 c) (inFew1 b)) (hookC 10 (hookOf (cxb c) pvCt) (hookC 9 (hookOf (cxb c) plCt) (hookC 11 (hookOf (cxb c) ipCt) (hookC 12 (hookOf (cxb c) sameCt) (H0 c)))))
theorem HPook (B : Nat) (b c : Bool) : HookOk P0 B 1 (HPo b c) := .cons (HkOk.inl (cx := cxb c) mix T0ok (H0ok B c) (ioFew1 b)) (.cons (.ct (cx := cxb c) (pv_ok B)) (.cons (.ct (cx := cxb c) (poly_ok B)) (.cons (.ct (cx := cxb c) (ip_ok B)) (.cons (.ct (cx := cxb c) (same_ok B)) (H0ok B c)))))
end Go.Sx

set_option maxRecDepth 1000000
set_option linter.unusedVariables false
namespace Go.Sx
open Go.Proofs

def foE (m : List (BitVec 8)) (ps : List Int) : Ef := ⟨.one (.s (.b true)), ipM m ps, 1 + 2, .eff, []⟩
def foS (m key : List (BitVec 8)) (ps : List Int) (tg : List (BitVec 8)) : St := ⟨[(0, .one (.s (.osl 1 m.length))), (2, .one (.s (.osl (1 + 1) ps.length))), (4, .one (.s (.p (1 + 2) 0))), (6, .one (.s (.b false))), (7, .one (.s (.p (1 + 3) 0)))], ipM m ps ++ [(1 + 2, ⟨32, .d8 (lit 0 32 key), true, false, false⟩), (1 + 3, ⟨16, .d8 (lit 0 16 tg), true, false, false⟩)], 1 + 4⟩

section
variable (B : Nat) (m key : List (BitVec 8)) (ps : List Int)

theorem fo1 (hl : 2147483647 < m.length) : Tri P0 B (cxb false) 40 (1 + 2) (flat (bodyOf Try.f5)) (ipS0 m key ps) (Ret (cxb false) Try.f5.results.toList (foE m ps)) :=
  Tri.ret (cx := cxb false) mix T0ok (HPook B true false) 0 (orcL [(11, true), (15, true)]) [6] [1, 1 + 1] (1 + 20) ⟨[(6, .one (.s (.b true)))], ipM m ps, 1 + 20⟩ ([List.length (lit (0 : BitVec (8 : Nat)) (32 : Nat) key) = List.length (List.replicate (32 : Nat) (0 : BitVec (8 : Nat))) ∧ True, decide ((2147483647 : Int) < (↑(List.length m) : Int)) = true, decide ((2147483647 : Int) < (↑(List.length m) : Int)) = true, decide ((2147483647 : Int) < (↑(List.length m) : Int)) = true, decide ((2147483647 : Int) < (↑(List.length m) : Int)) = true, true = true]) .r (by kernel_rfl) (by (repeat' (first | exact obNil | refine obCons ?_ ?_)); all_goals (first | trivial | omega | (simp <;> omega))) (by kernel_rfl) rfl [1, 1 + 1] [] (by kernel_rfl) obNil
theorem fo2 (hl : ¬ 2147483647 < m.length) (hp : 2147483647 < ps.length) : Tri P0 B (cxb false) 40 (1 + 2) (flat (bodyOf Try.f5)) (ipS0 m key ps) (Ret (cxb false) Try.f5.results.toList (foE m ps)) :=
  Tri.ret (cx := cxb false) mix T0ok (HPook B true false) 0 (orcL [(11, false), (15, true)]) [6] [1, 1 + 1] (1 + 20) ⟨[(6, .one (.s (.b true)))], ipM m ps, 1 + 20⟩ ([List.length (lit (0 : BitVec (8 : Nat)) (32 : Nat) key) = List.length (List.replicate (32 : Nat) (0 : BitVec (8 : Nat))) ∧ True, decide ((2147483647 : Int) < (↑(List.length m) : Int)) = false, decide ((2147483647 : Int) < (↑(List.length m) : Int)) = false, decide ((2147483647 : Int) < (↑(List.length m) : Int)) = false, (bif decide ((2147483647 : Int) < (↑(List.length m) : Int)) then true else decide ((2147483647 : Int) < (↑(List.length ps) : Int))) = true]) .r (by kernel_rfl) (by (repeat' (first | exact obNil | refine obCons ?_ ?_)); all_goals (first | trivial | omega | (simp <;> omega))) (by kernel_rfl) rfl [1, 1 + 1] [] (by kernel_rfl) obNil
theorem fo3 (hl : ¬ 2147483647 < m.length) (hp : ¬ 2147483647 < ps.length) (hf : 4096 < m.length) : Tri P0 B (cxb false) 40 (1 + 2) (flat (bodyOf Try.f5)) (ipS0 m key ps) (Ret (cxb false) Try.f5.results.toList (foE m ps)) :=
  Tri.ret (cx := cxb false) mix T0ok (HPook B false false) 0 (orcL [(11, false), (15, false), (20, true), (24, true)]) [6] [1, 1 + 1] (1 + 20) ⟨[(6, .one (.s (.b true)))], ipM m ps, 1 + 20⟩ ([List.length (lit (0 : BitVec (8 : Nat)) (32 : Nat) key) = List.length (List.replicate (32 : Nat) (0 : BitVec (8 : Nat))) ∧ True, decide ((2147483647 : Int) < (↑(List.length m) : Int)) = false, decide ((2147483647 : Int) < (↑(List.length m) : Int)) = false, decide ((2147483647 : Int) < (↑(List.length m) : Int)) = false, (bif decide ((2147483647 : Int) < (↑(List.length m) : Int)) then true else decide ((2147483647 : Int) < (↑(List.length ps) : Int))) = false, (0 : Int) ≤ (0 : Int) ∧ (0 : Int) < (↑(1 : Nat) : Int), Int.toNat (0 : Int) + (0 : Nat) < List.length (List.set (List.replicate (1 : Nat) Sc.sl0) ((0 : Nat) * (1 : Nat)) (Sc.osl (1 : Nat) (List.length m))), rng ((4096 : Int) - (0 : Int)), decide ((4096 : Int) - (0 : Int) < (↑(List.length m) : Int)) = !false, (!false) = true, (!false) = true, (!false) = true, (!false) = true, true = true]) .r (by kernel_rfl) (by (repeat' (first | exact obNil | refine obCons ?_ ?_)); all_goals (first | trivial | omega | (simp <;> omega))) (by kernel_rfl) rfl [1, 1 + 1] [] (by kernel_rfl) obNil
theorem fo4 (hl : ¬ 2147483647 < m.length) (hp : ¬ 2147483647 < ps.length) (hf : ¬ 4096 < m.length) (hq : 100 < ps.length) : Tri P0 B (cxb false) 40 (1 + 2) (flat (bodyOf Try.f5)) (ipS0 m key ps) (Ret (cxb false) Try.f5.results.toList (foE m ps)) :=
  Tri.ret (cx := cxb false) mix T0ok (HPook B true false) 0 (orcL [(11, false), (15, false), (20, false), (24, true)]) [6] [1, 1 + 1] (1 + 20) ⟨[(6, .one (.s (.b true)))], ipM m ps, 1 + 20⟩ ([List.length (lit (0 : BitVec (8 : Nat)) (32 : Nat) key) = List.length (List.replicate (32 : Nat) (0 : BitVec (8 : Nat))) ∧ True, decide ((2147483647 : Int) < (↑(List.length m) : Int)) = false, decide ((2147483647 : Int) < (↑(List.length m) : Int)) = false, decide ((2147483647 : Int) < (↑(List.length m) : Int)) = false, (bif decide ((2147483647 : Int) < (↑(List.length m) : Int)) then true else decide ((2147483647 : Int) < (↑(List.length ps) : Int))) = false, (0 : Int) ≤ (0 : Int) ∧ (0 : Int) < (↑(1 : Nat) : Int), Int.toNat (0 : Int) + (0 : Nat) < List.length (List.set (List.replicate (1 : Nat) Sc.sl0) ((0 : Nat) * (1 : Nat)) (Sc.osl (1 : Nat) (List.length m))), rng ((4096 : Int) - (0 : Int)), decide ((4096 : Int) - (0 : Int) < (↑(List.length m) : Int)) = !true, rng ((0 : Int) + (↑(List.length m) : Int)), rng ((0 : Int) + (1 : Int)), (!true) = false, (!true) = false, (!true) = false, decide ((100 : Int) < (↑(List.length ps) : Int)) = true]) .r (by kernel_rfl) (by (repeat' (first | exact obNil | refine obCons ?_ ?_)); all_goals (first | trivial | omega | (simp [rng] <;> omega))) (by kernel_rfl) rfl [1, 1 + 1] [] (by kernel_rfl) obNil
theorem fo5 (hkey : key.length = 32) (hl : ¬ 2147483647 < m.length) (hp : ¬ 2147483647 < ps.length) (hf : ¬ 4096 < m.length) (hq : ¬ 100 < ps.length) : Tri P0 B (cxb false) 40 (1 + 2) (flat (bodyOf Try.f5)) (ipS0 m key ps) (Ret (cxb false) Try.f5.results.toList (foE m ps)) := by
  have e32 : List.take 32 key = key := List.take_of_length_le (by omega)
  have e16 : List.take 16 (poly key m) = poly key m := List.take_of_length_le (by rw [poly_length]; omega)
  have mt : List.take m.length (List.drop 0 m) = m := by simp
  refine Tri.stepR (cx := cxb false) mix T0ok (HPook B true false) 6 0 (orcL [(11, false), (15, false), (20, false), (24, false)]) [0, 2, 4, 6, 7] [(1, 1), (1 + 1, 1 + 1), (1 + 2, 1 + 2), (1 + 4, 1 + 3)] (1 + 4) (foS m key ps (poly (lit 0 32 key) (List.take m.length (List.drop 0 m)))) ([List.length (lit (0 : BitVec (8 : Nat)) (32 : Nat) key) = List.length (List.replicate (32 : Nat) (0 : BitVec (8 : Nat))) ∧ True, decide ((2147483647 : Int) < (↑(List.length m) : Int)) = false, decide ((2147483647 : Int) < (↑(List.length m) : Int)) = false, decide ((2147483647 : Int) < (↑(List.length m) : Int)) = false, (bif decide ((2147483647 : Int) < (↑(List.length m) : Int)) then true else decide ((2147483647 : Int) < (↑(List.length ps) : Int))) = false, (0 : Int) ≤ (0 : Int) ∧ (0 : Int) < (↑(1 : Nat) : Int), Int.toNat (0 : Int) + (0 : Nat) < List.length (List.set (List.replicate (1 : Nat) Sc.sl0) ((0 : Nat) * (1 : Nat)) (Sc.osl (1 : Nat) (List.length m))), rng ((4096 : Int) - (0 : Int)), decide ((4096 : Int) - (0 : Int) < (↑(List.length m) : Int)) = !true, rng ((0 : Int) + (↑(List.length m) : Int)), rng ((0 : Int) + (1 : Int)), (!true) = false, (!true) = false, (!true) = false, decide ((100 : Int) < (↑(List.length ps) : Int)) = false, List.length m ≤ List.length m, List.length ps ≤ List.length ps, List.length (List.take (List.length m) (List.drop (0 : Nat) m)) = List.length (List.take (List.length m) (List.drop (0 : Nat) m)) ∧ List.length (List.take (List.length ps) (List.drop (0 : Nat) ps)) = List.length (List.take (List.length ps) (List.drop (0 : Nat) ps)) ∧ True, List.length (List.take (List.length m) (List.drop (0 : Nat) m)) ≤ (4294967295 : Nat), List.length (List.take (List.length ps) (List.drop (0 : Nat) ps)) ≤ (4294967295 : Nat)]) (by kernel_rfl) (by (repeat' (first | exact obNil | refine obCons ?_ ?_)); all_goals (first | trivial | omega | (simp [rng] <;> omega))) ?_
  rw [mt, lit_eq hkey]
  refine Tri.step (cx := cxb false) mix T0ok (HPook B true false) 1 0 (orcL [(34, true)]) [6] [1, 1 + 1] (1 + 20) ⟨[(6, .one (.s (.b (bif decide (List.take 16 (List.drop 0 (lit 0 16 (poly key m))) = List.take 16 (List.drop 0 (lit 0 16 (poly (List.take 32 (List.drop 0 (lit 0 32 key))) (List.take m.length (List.drop 0 m)))))) then decide (poly (lit 0 32 key) (List.take m.length (List.drop 0 m)) = lit 0 16 (poly key m)) else false))))], ipM m ps, 1 + 20⟩ ([(0 : Int) ≤ (0 : Int) ∧ (0 : Int) ≤ (↑(16 : Nat) : Int) ∧ (↑(16 : Nat) : Int) ≤ (↑(16 : Nat) : Int), (0 : Int) ≤ (0 : Int) ∧ (0 : Int) ≤ (↑(32 : Nat) : Int) ∧ (↑(32 : Nat) : Int) ≤ (↑(32 : Nat) : Int), Int.toNat (0 : Int) + (0 : Nat) + (Int.toNat (↑(32 : Nat) : Int) - Int.toNat (0 : Int)) ≤ List.length (lit (0 : BitVec (8 : Nat)) (32 : Nat) key) ∧ Int.toNat (↑(32 : Nat) : Int) - Int.toNat (0 : Int) ≤ (32 : Nat) - Int.toNat (0 : Int), List.length m ≤ List.length m, List.length (List.take (Int.toNat (↑(32 : Nat) : Int) - Int.toNat (0 : Int)) (List.drop (Int.toNat (0 : Int) + (0 : Nat)) (lit (0 : BitVec (8 : Nat)) (32 : Nat) key))) = List.length (List.take (Int.toNat (↑(32 : Nat) : Int) - Int.toNat (0 : Int)) (List.drop (Int.toNat (0 : Int) + (0 : Nat)) (lit (0 : BitVec (8 : Nat)) (32 : Nat) key))) ∧ List.length (List.take (List.length m) (List.drop (0 : Nat) m)) = List.length (List.take (List.length m) (List.drop (0 : Nat) m)) ∧ True, List.length (List.take (List.length m) (List.drop (0 : Nat) m)) ≤ (4294967295 : Nat), Int.toNat (0 : Int) + (0 : Nat) + (Int.toNat (↑(16 : Nat) : Int) - Int.toNat (0 : Int)) ≤ List.length (lit (0 : BitVec (8 : Nat)) (16 : Nat) (poly key m)) ∧ Int.toNat (↑(16 : Nat) : Int) - Int.toNat (0 : Int) ≤ (16 : Nat) - Int.toNat (0 : Int), (16 : Nat) ≤ List.length (lit (0 : BitVec (8 : Nat)) (16 : Nat) (poly (List.take (Int.toNat (↑(32 : Nat) : Int) - Int.toNat (0 : Int)) (List.drop (Int.toNat (0 : Int) + (0 : Nat)) (lit (0 : BitVec (8 : Nat)) (32 : Nat) key))) (List.take (List.length m) (List.drop (0 : Nat) m)))), List.length (List.take (Int.toNat (↑(16 : Nat) : Int) - Int.toNat (0 : Int)) (List.drop (Int.toNat (0 : Int) + (0 : Nat)) (lit (0 : BitVec (8 : Nat)) (16 : Nat) (poly key m)))) = List.length (List.take (Int.toNat (↑(16 : Nat) : Int) - Int.toNat (0 : Int)) (List.drop (Int.toNat (0 : Int) + (0 : Nat)) (lit (0 : BitVec (8 : Nat)) (16 : Nat) (poly key m)))) ∧ List.length (List.take (16 : Nat) (List.drop (0 : Nat) (lit (0 : BitVec (8 : Nat)) (16 : Nat) (poly (List.take (Int.toNat (↑(32 : Nat) : Int) - Int.toNat (0 : Int)) (List.drop (Int.toNat (0 : Int) + (0 : Nat)) (lit (0 : BitVec (8 : Nat)) (32 : Nat) key))) (List.take (List.length m) (List.drop (0 : Nat) m)))))) = List.length (List.take (16 : Nat) (List.drop (0 : Nat) (lit (0 : BitVec (8 : Nat)) (16 : Nat) (poly (List.take (Int.toNat (↑(32 : Nat) : Int) - Int.toNat (0 : Int)) (List.drop (Int.toNat (0 : Int) + (0 : Nat)) (lit (0 : BitVec (8 : Nat)) (32 : Nat) key))) (List.take (List.length m) (List.drop (0 : Nat) m)))))) ∧ True, decide (List.take (Int.toNat (↑(16 : Nat) : Int) - Int.toNat (0 : Int)) (List.drop (Int.toNat (0 : Int) + (0 : Nat)) (lit (0 : BitVec (8 : Nat)) (16 : Nat) (poly key m))) = List.take (16 : Nat) (List.drop (0 : Nat) (lit (0 : BitVec (8 : Nat)) (16 : Nat) (poly (List.take (Int.toNat (↑(32 : Nat) : Int) - Int.toNat (0 : Int)) (List.drop (Int.toNat (0 : Int) + (0 : Nat)) (lit (0 : BitVec (8 : Nat)) (32 : Nat) key))) (List.take (List.length m) (List.drop (0 : Nat) m)))))) = true, decide (List.take (Int.toNat (↑(16 : Nat) : Int) - Int.toNat (0 : Int)) (List.drop (Int.toNat (0 : Int) + (0 : Nat)) (lit (0 : BitVec (8 : Nat)) (16 : Nat) (poly key m))) = List.take (16 : Nat) (List.drop (0 : Nat) (lit (0 : BitVec (8 : Nat)) (16 : Nat) (poly (List.take (Int.toNat (↑(32 : Nat) : Int) - Int.toNat (0 : Int)) (List.drop (Int.toNat (0 : Int) + (0 : Nat)) (lit (0 : BitVec (8 : Nat)) (32 : Nat) key))) (List.take (List.length m) (List.drop (0 : Nat) m)))))) = true, decide (List.take (Int.toNat (↑(16 : Nat) : Int) - Int.toNat (0 : Int)) (List.drop (Int.toNat (0 : Int) + (0 : Nat)) (lit (0 : BitVec (8 : Nat)) (16 : Nat) (poly key m))) = List.take (16 : Nat) (List.drop (0 : Nat) (lit (0 : BitVec (8 : Nat)) (16 : Nat) (poly (List.take (Int.toNat (↑(32 : Nat) : Int) - Int.toNat (0 : Int)) (List.drop (Int.toNat (0 : Int) + (0 : Nat)) (lit (0 : BitVec (8 : Nat)) (32 : Nat) key))) (List.take (List.length m) (List.drop (0 : Nat) m)))))) = true, decide (List.take (Int.toNat (↑(16 : Nat) : Int) - Int.toNat (0 : Int)) (List.drop (Int.toNat (0 : Int) + (0 : Nat)) (lit (0 : BitVec (8 : Nat)) (16 : Nat) (poly key m))) = List.take (16 : Nat) (List.drop (0 : Nat) (lit (0 : BitVec (8 : Nat)) (16 : Nat) (poly (List.take (Int.toNat (↑(32 : Nat) : Int) - Int.toNat (0 : Int)) (List.drop (Int.toNat (0 : Int) + (0 : Nat)) (lit (0 : BitVec (8 : Nat)) (32 : Nat) key))) (List.take (List.length m) (List.drop (0 : Nat) m)))))) = true, List.length m ≤ List.length m, List.length (List.take (List.length m) (List.drop (0 : Nat) m)) = List.length (List.take (List.length m) (List.drop (0 : Nat) m)) ∧ True, List.length (List.take (List.length m) (List.drop (0 : Nat) m)) ≤ (4294967295 : Nat)]) (by kernel_rfl) ?_ (by kernel_rfl) ?_
  · (repeat' (first | exact obNil | refine obCons ?_ ?_))
    all_goals first | omega | (simp; done) | (have hpl := poly_length key m; simp [lit_eq hkey, lit_eq (poly_length key m), hkey, e32] <;> omega)
  · have ev : (bif decide (List.take 16 (List.drop 0 (lit 0 16 (poly key m))) = List.take 16 (List.drop 0 (lit 0 16 (poly (List.take 32 (List.drop 0 (lit 0 32 key))) (List.take m.length (List.drop 0 m)))))) then decide (poly (lit 0 32 key) (List.take m.length (List.drop 0 m)) = lit 0 16 (poly key m)) else false) = true := by
      simp [lit_eq hkey, lit_eq (poly_length key m), e32]
    rw [ev]
    exact Tri.ret (cx := cxb false) mix T0ok (HPook B true false) 0 noOrc [6] [1, 1 + 1] (1 + 20) ⟨[(6, .one (.s (.b true)))], ipM m ps, 1 + 20⟩ [] .r (by kernel_rfl) obNil (by kernel_rfl) rfl [1, 1 + 1] [] (by kernel_rfl) obNil
end

theorem lawPo (B : Nat) {l0 l1 : List (BitVec 8)} {l2 : List Int} (h0 : l0.length ≤ maxLen) (h1 : l1.length = 32) (h2 : l2.length ≤ maxLen) : FnE P0 B 1 5 [.one (.s (.osl 1 l0.length)), .one (.ag [.d8 l1]), .one (.s (.osl (1 + 1) l2.length))] (ipM l0 l2) (1 + 2) (foE l0 l2) := by
  rw [← lit_eq h1]
  refine FnE.tri (cx := cxb false) (sz := 40) (fn := Try.f5) (c := bodyOf Try.f5) T0ok (by kernel_rfl) (by kernel_rfl) (by kernel_rfl) (by kernel_rfl) (by kernel_rfl) (by kernel_rfl) (Nat.le_refl _) ?_
  by_cases hl : 2147483647 < l0.length
  · exact fo1 B l0 l1 l2 hl
  · by_cases hp : 2147483647 < l2.length
    · exact fo2 B l0 l1 l2 hl hp
    · by_cases hf : 4096 < l0.length
      · exact fo3 B l0 l1 l2 hl hp hf
      · by_cases hq : 100 < l2.length
        · exact fo4 B l0 l1 l2 hl hp hf hq
        · exact fo5 B l0 l1 l2 h1 hl hp hf hq
end Go.Sx
