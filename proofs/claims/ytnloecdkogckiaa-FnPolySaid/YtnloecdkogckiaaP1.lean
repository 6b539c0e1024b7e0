/- spec.settled. Conditions: none. -/
import Derived.Test.YtnloecdkogckiaaU1
import Derived.Test.YtnloecdkogckiaaQ2
set_option maxRecDepth 1000000
set_option linter.unusedVariables false
namespace Go.Sx
open Go.Proofs

noncomputable def in27 : In := ⟨Try.f27, bodyOf Try.f27, 0, .read, noOrc⟩
theorem io27 : InOk P0 27 in27 := ⟨by kernel_rfl, by kernel_rfl, by kernel_rfl⟩
noncomputable def HFv (c : Bool) : Hook := hookC 27 (inl (cxb c) (H0 c) in27) (H0 c)
theorem HFvok (B : Nat) (c : Bool) : HookOk P0 B 1 (HFv c) := HookOk.cons (HkOk.inl (cx := cxb c) mix T0ok (H0ok B c) io27) (H0ok B c)
structure SetI (v : Nat) where
  x : List (BitVec 64)
  c : BitVec 64
  hl : x.length = 9
  hb : ∀ y ∈ x, y.toNat < 2 ^ 62
  hv : val x < 2 ^ 189
  hm : val x % P130 = v % P130
  hc : c = 0#64 → x = digs 9 (val x) ∧ val x < 2 ^ 130

def setSt (x : List (BitVec 64)) (c : BitVec 64) : St := ⟨[(1, .one (.s (.p 1 0))), (2, .one (.s (.p (1 + 1) 0))), (3, .one (.s (.u64 c)))], [(1, ⟨9, .d64 (lit 0 9 x), true, false, false⟩), (1 + 1, ⟨9, .d64 (List.replicate 9 0), true, false, false⟩)], 1 + 2⟩
def setSt2 (x : List (BitVec 64)) : St := ⟨[(1, .one (.s (.p 1 0))), (2, .one (.s (.p (1 + 1) 0)))], [(1, ⟨9, .d64 (lit 0 9 x), true, false, false⟩), (1 + 1, ⟨9, .d64 (List.replicate 9 0), true, false, false⟩)], 1 + 2⟩
def cmpSt (x : List (BitVec 64)) (i : Nat) : St := ⟨[(1, .one (.s (.p 1 0))), (2, .one (.s (.p (1 + 1) 0))), (5, .one (.s (.p (1 + 2) 0))), (6, .one (.s (.i ((i : Int) - 1))))], [(1, ⟨9, .d64 (lit 0 9 x), true, false, false⟩), (1 + 1, ⟨9, .d64 (List.replicate 9 0), true, false, false⟩), (1 + 2, ⟨9, .d64 pd, true, false, false⟩)], 1 + 3⟩
def cmpSt' (x : List (BitVec 64)) (i : Nat) : St := ⟨[(1, .one (.s (.p 1 0))), (2, .one (.s (.p (1 + 1) 0))), (5, .one (.s (.p (1 + 2) 0))), (6, .one (.s (.i ((i : Int) - 1 - 1))))], [(1, ⟨9, .d64 (lit 0 9 x), true, false, false⟩), (1 + 1, ⟨9, .d64 (List.replicate 9 0), true, false, false⟩), (1 + 2, ⟨9, .d64 pd, true, false, false⟩)], 1 + 3⟩
def borSt (x : List (BitVec 64)) : St := ⟨[(1, .one (.s (.p 1 0))), (2, .one (.s (.p (1 + 1) 0))), (5, .one (.s (.p (1 + 2) 0)))], [(1, ⟨9, .d64 (lit 0 9 x), true, false, false⟩), (1 + 1, ⟨9, .d64 (List.replicate 9 0), true, false, false⟩), (1 + 2, ⟨9, .d64 pd, true, false, false⟩)], 1 + 3⟩
def retSt (x : List (BitVec 64)) : St := ⟨[(2, .one (.s (.p (1 + 1) 0)))], [(1 + 1, ⟨9, .d64 x, true, false, false⟩)], 1 + 3⟩

theorem getD_ext {a b : List (BitVec 64)} (h : a.length = b.length) (he : ∀ k, a.getD k 0 = b.getD k 0) : a = b := by
  apply List.ext_getElem?
  intro i
  have := he i
  rcases Nat.lt_or_ge i a.length with hi | hi
  · have h1 : i < b.length := by omega
    simp only [List.getD, List.getElem?_eq_getElem hi, List.getElem?_eq_getElem h1, Option.getD_some] at this ⊢
    rw [this]
  · rw [List.getElem?_eq_none hi, List.getElem?_eq_none (by omega)]

theorem ret_eq (B : Nat) (c : Bool) (z : List (BitVec 64)) : endsAs (cxb c) Try.f18.results.toList [] 1 (retSt (lit 0 9 z)) = some (.one (.ag [.d64 (lit 0 9 z)]), [], []) := by cases c <;> kernel_rfl

theorem settled1 (B : Nat) (x : List (BitVec 64)) (hl : x.length = 9) (hb : ∀ y ∈ x, y.toNat < 2 ^ 60) : FnE P0 B 1 18 [.one (.ag [.d64 (lit 0 9 x)])] [] 1 ⟨.one (.ag [.d64 (lit 0 9 (digs 9 (val x % P130)))]), [], 1, .eff, []⟩ := by
  refine FnE.tri (cx := cxb true) (sz := 83) (fn := Try.f18) (c := bodyOf Try.f18) T0ok (by kernel_rfl) (by kernel_rfl) (by kernel_rfl) (by kernel_rfl) (by kernel_rfl) (by kernel_rfl) (Nat.le_refl _) ?_
  have hv0 : val x < 2 ^ 189 := by
    have := val_le (b := 2 ^ 60 - 1) x (fun y hy => by have := hb y hy; omega)
    rw [hl] at this; omega
  refine Tri.step mix T0ok (HFvok B true) 2 0 noOrc [1, 2, 3] [1, 1 + 1] (1 + 2) (setSt x 1#64) [] (by kernel_rfl) obNil (by kernel_rfl) ?_
  refine Tri.loop (id := 0) (ι := SetI (val x)) rfl (fun j => setSt j.x j.c) (fun j => 2 * val j.x + (if j.c = 0#64 then 0 else 1)) ⟨x, 1#64, hl, fun y hy => by have := hb y hy; omega, hv0, rfl, fun h => absurd h (by decide)⟩ rfl (fun j => Nat.le_add_right _ _)
    (R1 := fun s => ∃ y : List (BitVec 64), s = setSt2 y ∧ y = digs 9 (val y) ∧ val y < 2 ^ 130 ∧ val y % P130 = val x % P130) (fun j => ?_) (fun s' hs => ?_)
  · obtain ⟨z, c, zl, zb, zv, zm, zc⟩ := j
    by_cases hc : c = 0#64
    · exact Tri.fin (cx := cxb true) mix T0ok (HFvok B true) 10 (orcL [(11, false)]) [1, 2] [1, 1 + 1] (1 + 2) (.x 0) (setSt2 z) [decide ((0#64).toNat < c.toNat) = false] (by kernel_rfl) (obCons (by rw [hc]; decide) obNil) (by kernel_rfl) ⟨z, rfl, (zc hc).1, (zc hc).2, zm⟩
    · have hc0 : 0 < c.toNat := by
        rcases Nat.eq_zero_or_pos c.toNat with h | h
        · exact absurd (BitVec.eq_of_toNat_eq h) hc
        · exact h
      obtain ⟨s1, s2, s3, s4⟩ := spx_spec z zl zb zv
      have s5 := (sp_spec z zl zb zv).2
      refine Tri.fin (cx := cxb true) mix T0ok (HFvok B true) 10 (orcL [(11, true)]) [1, 2, 3] [1, 1 + 1] (1 + 2) .n (setSt (spx z) (spc z)) [decide ((0#64).toNat < c.toNat) = true] (by kernel_rfl) (obCons (decide_eq_true hc0) obNil) (by kernel_rfl) ⟨⟨spx z, spc z, s1, s2, by rw [s3]; omega, by rw [s3, settle_mod, zm], s4⟩, ?_, rfl⟩
      simp only [if_neg hc]
      by_cases h0 : spc z = 0#64
      · rw [if_pos h0, s3]
        have : val z / 2 ^ 130 = 0 := by rw [← s5, h0]; rfl
        omega
      · rw [if_neg h0, s3]
        have : val z / 2 ^ 130 ≠ 0 := by
          rw [← s5]
          intro e
          exact h0 (BitVec.eq_of_toNat_eq e)
        omega
  · obtain ⟨y, rfl, hy, hlt, hm⟩ := hs
    have yl : y.length = 9 := by rw [hy, digs_length]
    have yd : ∀ z ∈ y, z.toNat < 65536 := by rw [hy]; exact digs_lt 9 _
    refine Tri.step (cx := cxb true) mix T0ok (HFvok B true) 2 0 noOrc [1, 2, 5, 6] [1, 1 + 1, 1 + 2] (1 + 3) (cmpSt y 9) [] (by kernel_rfl) obNil (by kernel_rfl) ?_
    refine Tri.loop (id := 4) (ι := { i : Nat // i ≤ 9 ∧ ∀ k, i ≤ k → y.getD k 0 = pd.getD k 0 }) rfl (fun i => cmpSt y i.1) (fun i => i.1) ⟨9, Nat.le_refl _, fun k hk => by rw [List.getD_eq_getElem?_getD, List.getD_eq_getElem?_getD, List.getElem?_eq_none (by omega), List.getElem?_eq_none (by simpa [pd] using hk)]⟩ rfl (fun i => Nat.le_add_right _ _)
      (R1 := fun s => s = borSt y ∧ P130 ≤ val y) (fun ⟨i, hi, ha⟩ => ?_) (fun s' hs => ?_)
    · rcases Nat.eq_zero_or_pos i with rfl | hp
      · refine Tri.chg (cx := cxb false) rfl ?_
        refine Tri.fin (cx := cxb false) mix T0ok (HFvok B false) 0 (orcL [(43, false)]) [1, 2, 5] [1, 1 + 1, 1 + 2] (1 + 3) (.x 4) (borSt y) [decide ((0 : Int) ≤ ((0 : Nat) : Int) - 1) = false] (by kernel_rfl) (obCons (by decide) obNil) (by kernel_rfl) ⟨rfl, ?_⟩
        have : y = pd := getD_ext (by rw [yl]; rfl) (fun k => ha k (Nat.zero_le _))
        rw [this, val_pd]; exact Nat.le_refl _
      · have ek : Int.toNat ((i : Int) - 1) + 0 = i - 1 := by omega
        by_cases h1 : (y.getD (i - 1) 0).toNat < (pd.getD (i - 1) 0).toNat
        · refine Tri.chg (cx := cxb false) rfl ?_
          refine Tri.fin (cx := cxb false) mix T0ok (HFvok B false) 0 (orcL [(43, true), (52, true)]) [2] [1 + 1] (1 + 3) .r (retSt (lit 0 9 y)) ([decide ((0 : Int) ≤ (↑i : Int) - (1 : Int)) = true, (0 : Int) ≤ (↑i : Int) - (1 : Int) ∧ (↑i : Int) - (1 : Int) < (↑(9 : Nat) : Int), Int.toNat ((↑i : Int) - (1 : Int)) + (0 : Nat) < List.length (lit (0 : BitVec (64 : Nat)) (9 : Nat) y), (0 : Int) ≤ (↑i : Int) - (1 : Int) ∧ (↑i : Int) - (1 : Int) < (↑(9 : Nat) : Int), Int.toNat ((↑i : Int) - (1 : Int)) + (0 : Nat) < List.length pd, decide (BitVec.toNat (List.getD (lit (0 : BitVec (64 : Nat)) (9 : Nat) y) (Int.toNat ((↑i : Int) - (1 : Int)) + (0 : Nat)) (0 : BitVec (64 : Nat))) < BitVec.toNat (List.getD pd (Int.toNat ((↑i : Int) - (1 : Int)) + (0 : Nat)) (0 : BitVec (64 : Nat)))) = true]) (by kernel_rfl) (by
            (repeat' (first | exact obNil | refine obCons ?_ ?_))
            all_goals first | omega | (rw [ek, lit_eq yl]; exact decide_eq_true h1) | (simp [pd, lit_length]; omega)) (by kernel_rfl) ⟨trivial, [], [], ?_, obNil⟩
          have hv : val y < P130 := by
            rw [← val_pd]
            exact val_cmp (i - 1) y pd (by rw [yl]; rfl) yd (by omega) (fun k hk => ha k (by omega)) h1
          have : lit 0 9 y = lit 0 9 (digs 9 (val x % P130)) := by rw [← hm, Nat.mod_eq_of_lt hv, ← hy]
          rw [this]
          exact ret_eq B _ _
        · by_cases h2 : (pd.getD (i - 1) 0).toNat < (y.getD (i - 1) 0).toNat
          · refine Tri.chg (cx := cxb false) rfl ?_
            refine Tri.fin (cx := cxb false) mix T0ok (HFvok B false) 0 (orcL [(43, true), (52, false), (60, true)]) [1, 2, 5] [1, 1 + 1, 1 + 2] (1 + 3) (.x 4) (borSt y) ([decide ((0 : Int) ≤ (↑i : Int) - (1 : Int)) = true, (0 : Int) ≤ (↑i : Int) - (1 : Int) ∧ (↑i : Int) - (1 : Int) < (↑(9 : Nat) : Int), Int.toNat ((↑i : Int) - (1 : Int)) + (0 : Nat) < List.length (lit (0 : BitVec (64 : Nat)) (9 : Nat) y), (0 : Int) ≤ (↑i : Int) - (1 : Int) ∧ (↑i : Int) - (1 : Int) < (↑(9 : Nat) : Int), Int.toNat ((↑i : Int) - (1 : Int)) + (0 : Nat) < List.length pd, decide (BitVec.toNat (List.getD (lit (0 : BitVec (64 : Nat)) (9 : Nat) y) (Int.toNat ((↑i : Int) - (1 : Int)) + (0 : Nat)) (0 : BitVec (64 : Nat))) < BitVec.toNat (List.getD pd (Int.toNat ((↑i : Int) - (1 : Int)) + (0 : Nat)) (0 : BitVec (64 : Nat)))) = false, (0 : Int) ≤ (↑i : Int) - (1 : Int) ∧ (↑i : Int) - (1 : Int) < (↑(9 : Nat) : Int), Int.toNat ((↑i : Int) - (1 : Int)) + (0 : Nat) < List.length (lit (0 : BitVec (64 : Nat)) (9 : Nat) y), (0 : Int) ≤ (↑i : Int) - (1 : Int) ∧ (↑i : Int) - (1 : Int) < (↑(9 : Nat) : Int), Int.toNat ((↑i : Int) - (1 : Int)) + (0 : Nat) < List.length pd, decide (BitVec.toNat (List.getD pd (Int.toNat ((↑i : Int) - (1 : Int)) + (0 : Nat)) (0 : BitVec (64 : Nat))) < BitVec.toNat (List.getD (lit (0 : BitVec (64 : Nat)) (9 : Nat) y) (Int.toNat ((↑i : Int) - (1 : Int)) + (0 : Nat)) (0 : BitVec (64 : Nat)))) = true]) (by kernel_rfl) (by
              (repeat' (first | exact obNil | refine obCons ?_ ?_))
              all_goals first | omega | (rw [ek, lit_eq yl]; exact decide_eq_false h1) | (rw [ek, lit_eq yl]; exact decide_eq_true h2) | (simp [pd, lit_length]; omega)) (by kernel_rfl) ⟨rfl, ?_⟩
            rw [← val_pd]
            exact Nat.le_of_lt (val_cmp (i - 1) pd y (by rw [yl]; rfl) pd_lt (by show i - 1 < 9; omega) (fun k hk => (ha k (by omega)).symm) h2)
          · refine Tri.chg (cx := cxb false) rfl ?_
            refine Tri.fin (cx := cxb false) mix T0ok (HFvok B false) 0 (orcL [(43, true), (52, false), (60, false)]) [1, 2, 5, 6] [1, 1 + 1, 1 + 2] (1 + 3) .n (cmpSt' y i) ([decide ((0 : Int) ≤ (↑i : Int) - (1 : Int)) = true, (0 : Int) ≤ (↑i : Int) - (1 : Int) ∧ (↑i : Int) - (1 : Int) < (↑(9 : Nat) : Int), Int.toNat ((↑i : Int) - (1 : Int)) + (0 : Nat) < List.length (lit (0 : BitVec (64 : Nat)) (9 : Nat) y), (0 : Int) ≤ (↑i : Int) - (1 : Int) ∧ (↑i : Int) - (1 : Int) < (↑(9 : Nat) : Int), Int.toNat ((↑i : Int) - (1 : Int)) + (0 : Nat) < List.length pd, decide (BitVec.toNat (List.getD (lit (0 : BitVec (64 : Nat)) (9 : Nat) y) (Int.toNat ((↑i : Int) - (1 : Int)) + (0 : Nat)) (0 : BitVec (64 : Nat))) < BitVec.toNat (List.getD pd (Int.toNat ((↑i : Int) - (1 : Int)) + (0 : Nat)) (0 : BitVec (64 : Nat)))) = false, (0 : Int) ≤ (↑i : Int) - (1 : Int) ∧ (↑i : Int) - (1 : Int) < (↑(9 : Nat) : Int), Int.toNat ((↑i : Int) - (1 : Int)) + (0 : Nat) < List.length (lit (0 : BitVec (64 : Nat)) (9 : Nat) y), (0 : Int) ≤ (↑i : Int) - (1 : Int) ∧ (↑i : Int) - (1 : Int) < (↑(9 : Nat) : Int), Int.toNat ((↑i : Int) - (1 : Int)) + (0 : Nat) < List.length pd, decide (BitVec.toNat (List.getD pd (Int.toNat ((↑i : Int) - (1 : Int)) + (0 : Nat)) (0 : BitVec (64 : Nat))) < BitVec.toNat (List.getD (lit (0 : BitVec (64 : Nat)) (9 : Nat) y) (Int.toNat ((↑i : Int) - (1 : Int)) + (0 : Nat)) (0 : BitVec (64 : Nat)))) = false, rng ((↑i : Int) - (1 : Int) - (1 : Int))]) (by kernel_rfl) (by
              (repeat' (first | exact obNil | refine obCons ?_ ?_))
              all_goals first | omega | (rw [ek, lit_eq yl]; exact decide_eq_false h1) | (rw [ek, lit_eq yl]; exact decide_eq_false h2) | (simp [pd, lit_length]; omega) | (unfold rng; omega)) (by kernel_rfl) ⟨⟨i - 1, by omega, fun k hk => ?_⟩, by show i - 1 < i; omega, ?_⟩
            · rcases Nat.eq_or_lt_of_le hk with rfl | h
              · exact BitVec.eq_of_toNat_eq (by omega)
              · exact ha k (by omega)
            · have : (((i - 1 : Nat) : Int) - 1) = (i : Int) - 1 - 1 := by omega
              unfold cmpSt cmpSt'
              rw [this]
    · obtain ⟨rfl, hp⟩ := hs
      have hs := bpass_spec (lit 0 9 y) pd 0#64 (by decide) (by rw [lit_eq yl]; exact yd) pd_lt (by rw [lit_length]; rfl)
      have e : bpass 0#64 (lit 0 9 y) pd = lit 0 9 (digs 9 (val x % P130)) := by
        rw [hs, lit_length, lit_eq yl, lit_eq (digs_length 9 _), ← hm, val_pd, ← digs_mod, ← digs_mod 9 (val y % P130)]
        refine congrArg (digs 9) ?_
        have h1 : val y % P130 = val y - P130 := by rw [P130_eq] at hp ⊢; omega
        rw [h1]
        rw [show (0#64).toNat = 0 from rfl, Nat.sub_zero]
        clear hs
        generalize P130 = Q at *
        generalize val y = V at *
        omega
      refine Tri.ret (cx := cxb true) mix T0ok (HFvok B true) 10 noOrc [2] [1 + 1] (1 + 3) (retSt (bpass 0#64 (lit 0 9 y) pd)) [] .r (by kernel_rfl) obNil (by kernel_rfl) rfl [] [] ?_ obNil
      rw [e]
      exact ret_eq B _ _

def settledCt : Ct := ⟨[.val], [], fun vs ds gs => match vs, ds, gs with
  | [.one (.ag [.d64 x])], [], [] => bif Nat.beq x.length 9 then some ⟨.one (.ag [.d64 (lit 0 9 (digs 9 (val x % P130)))]), [], [], [∀ y ∈ x, y.toNat < 2 ^ 60]⟩ else none
  | _, _, _ => none⟩

theorem settled_ok (B : Nat) : settledCt.Ok P0 B 1 18 := by
  intro vs ds gs out h hpre hn
  unfold settledCt at h
  dsimp only at h
  split at h <;> first | (cases h; done) | skip
  rename_i x
  cases hb : Nat.beq x.length 9 with
  | false => rw [hb] at h; cases h
  | true =>
    rw [hb, cond_true] at h
    cases h
    have hl := Nat.eq_of_beq_eq_true hb
    have := settled1 B x hl (hpre _ (by simp))
    rw [lit_eq hl] at this
    exact this
end Go.Sx
