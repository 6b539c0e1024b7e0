/- spec.settled. spec.digits, spec.lowered. spec.Poly1305. Bytes behind others; spec.Seal: the stream. spec.Seal. What is sealed, by bytes: the spec's box is the code's. Conditions: none; plain definitions and theorems. spec.Seal as a contract; few of two slices; what the laws call. The laws: states behind the tests of sizes. Conditions: none. -/
import Derived.Test.YtbkobeclkeojoaaGreatDoorVQ1
import Derived.Test.YtbkobeclkeojoaaGreatDoorQ2
import Derived.Test.YtbkobeclkeojoaaGreatDoorW9
set_option maxRecDepth 1000000
set_option linter.unusedVariables false
namespace Go.Sx
open Go.Proofs

noncomputable def in35 : In := ⟨Tryz.f35, bodyOf Tryz.f35, 0, .read, noOrc⟩
theorem io35 : InOk P0 35 in35 := ⟨by kernel_rfl, by kernel_rfl, by kernel_rfl⟩
noncomputable def HFv (c : Bool) : Hook := hookC 35 (inl (cxb c) (H0 c) in35) (H0 c)
theorem HFvok (B : Nat) (c : Bool) : HookOk P0 B 2 (HFv c) := HookOk.cons (HkOk.inl (cx := cxb c) mix T0ok (H0ok B c) io35) (H0ok B c)
structure SetI (v : Nat) where
  x : List (BitVec 64)
  c : BitVec 64
  hl : x.length = 9
  hb : ∀ y ∈ x, y.toNat < 2 ^ 62
  hv : val x < 2 ^ 189
  hm : val x % P130 = v % P130
  hc : c = 0#64 → x = digs 9 (val x) ∧ val x < 2 ^ 130

def setSt (x : List (BitVec 64)) (c : BitVec 64) : St := ⟨[(1, .one (.s (.p 2 0))), (2, .one (.s (.p (2 + 1) 0))), (3, .one (.s (.u64 c)))], [(2, ⟨9, .d64 (lit 0 9 x), true, false, false⟩), (2 + 1, ⟨9, .d64 (List.replicate 9 0), true, false, false⟩)], 2 + 2⟩
def setSt2 (x : List (BitVec 64)) : St := ⟨[(1, .one (.s (.p 2 0))), (2, .one (.s (.p (2 + 1) 0)))], [(2, ⟨9, .d64 (lit 0 9 x), true, false, false⟩), (2 + 1, ⟨9, .d64 (List.replicate 9 0), true, false, false⟩)], 2 + 2⟩
def cmpSt (x : List (BitVec 64)) (i : Nat) : St := ⟨[(1, .one (.s (.p 2 0))), (2, .one (.s (.p (2 + 1) 0))), (5, .one (.s (.p (2 + 2) 0))), (6, .one (.s (.i ((i : Int) - 1))))], [(2, ⟨9, .d64 (lit 0 9 x), true, false, false⟩), (2 + 1, ⟨9, .d64 (List.replicate 9 0), true, false, false⟩), (2 + 2, ⟨9, .d64 pd, true, false, false⟩)], 2 + 3⟩
def cmpSt' (x : List (BitVec 64)) (i : Nat) : St := ⟨[(1, .one (.s (.p 2 0))), (2, .one (.s (.p (2 + 1) 0))), (5, .one (.s (.p (2 + 2) 0))), (6, .one (.s (.i ((i : Int) - 1 - 1))))], [(2, ⟨9, .d64 (lit 0 9 x), true, false, false⟩), (2 + 1, ⟨9, .d64 (List.replicate 9 0), true, false, false⟩), (2 + 2, ⟨9, .d64 pd, true, false, false⟩)], 2 + 3⟩
def borSt (x : List (BitVec 64)) : St := ⟨[(1, .one (.s (.p 2 0))), (2, .one (.s (.p (2 + 1) 0))), (5, .one (.s (.p (2 + 2) 0)))], [(2, ⟨9, .d64 (lit 0 9 x), true, false, false⟩), (2 + 1, ⟨9, .d64 (List.replicate 9 0), true, false, false⟩), (2 + 2, ⟨9, .d64 pd, true, false, false⟩)], 2 + 3⟩
def retSt (x : List (BitVec 64)) : St := ⟨[(2, .one (.s (.p (2 + 1) 0)))], [(2 + 1, ⟨9, .d64 x, true, false, false⟩)], 2 + 3⟩

theorem getD_ext {a b : List (BitVec 64)} (h : a.length = b.length) (he : ∀ k, a.getD k 0 = b.getD k 0) : a = b := by
  apply List.ext_getElem?
  intro i
  have := he i
  rcases Nat.lt_or_ge i a.length with hi | hi
  · have h1 : i < b.length := by omega
    simp only [List.getD, List.getElem?_eq_getElem hi, List.getElem?_eq_getElem h1, Option.getD_some] at this ⊢
    rw [this]
  · rw [List.getElem?_eq_none hi, List.getElem?_eq_none (by omega)]

theorem ret_eq (B : Nat) (c : Bool) (z : List (BitVec 64)) : endsAs (cxb c) Tryz.f18.results.toList [] 2 (retSt (lit 0 9 z)) = some (.one (.ag [.d64 (lit 0 9 z)]), [], []) := by cases c <;> kernel_rfl

theorem settled1 (B : Nat) (x : List (BitVec 64)) (hl : x.length = 9) (hb : ∀ y ∈ x, y.toNat < 2 ^ 60) : FnE P0 B 2 18 [.one (.ag [.d64 (lit 0 9 x)])] [] 2 ⟨.one (.ag [.d64 (lit 0 9 (digs 9 (val x % P130)))]), [], 2, .eff, []⟩ := by
  refine FnE.tri (cx := cxb true) (sz := 83) (fn := Tryz.f18) (c := bodyOf Tryz.f18) T0ok (by kernel_rfl) (by kernel_rfl) (by kernel_rfl) (by kernel_rfl) (by kernel_rfl) (by kernel_rfl) (Nat.le_refl _) ?_
  have hv0 : val x < 2 ^ 189 := by
    have := val_le (b := 2 ^ 60 - 1) x (fun y hy => by have := hb y hy; omega)
    rw [hl] at this; omega
  refine Tri.step mix T0ok (HFvok B true) 2 0 noOrc [1, 2, 3] [2, 2 + 1] (2 + 2) (setSt x 1#64) [] (by kernel_rfl) obNil (by kernel_rfl) ?_
  refine Tri.loop (id := 0) (ι := SetI (val x)) rfl (fun j => setSt j.x j.c) (fun j => 2 * val j.x + (if j.c = 0#64 then 0 else 1)) ⟨x, 1#64, hl, fun y hy => by have := hb y hy; omega, hv0, rfl, fun h => absurd h (by decide)⟩ rfl (fun j => Nat.le_add_right _ _)
    (R1 := fun s => ∃ y : List (BitVec 64), s = setSt2 y ∧ y = digs 9 (val y) ∧ val y < 2 ^ 130 ∧ val y % P130 = val x % P130) (fun j => ?_) (fun s' hs => ?_)
  · obtain ⟨z, c, zl, zb, zv, zm, zc⟩ := j
    by_cases hc : c = 0#64
    · exact Tri.fin (cx := cxb true) mix T0ok (HFvok B true) 10 (orcL [(11, false)]) [1, 2] [2, 2 + 1] (2 + 2) (.x 0) (setSt2 z) [decide ((0#64).toNat < c.toNat) = false] (by kernel_rfl) (obCons (by rw [hc]; decide) obNil) (by kernel_rfl) ⟨z, rfl, (zc hc).1, (zc hc).2, zm⟩
    · have hc0 : 0 < c.toNat := by
        rcases Nat.eq_zero_or_pos c.toNat with h | h
        · exact absurd (BitVec.eq_of_toNat_eq h) hc
        · exact h
      obtain ⟨s1, s2, s3, s4⟩ := spx_spec z zl zb zv
      have s5 := (sp_spec z zl zb zv).2
      refine Tri.fin (cx := cxb true) mix T0ok (HFvok B true) 10 (orcL [(11, true)]) [1, 2, 3] [2, 2 + 1] (2 + 2) .n (setSt (spx z) (spc z)) [decide ((0#64).toNat < c.toNat) = true] (by kernel_rfl) (obCons (decide_eq_true hc0) obNil) (by kernel_rfl) ⟨⟨spx z, spc z, s1, s2, by rw [s3]; omega, by rw [s3, settle_mod, zm], s4⟩, ?_, rfl⟩
      simp only [if_neg hc]
      by_cases h0 : spc z = 0#64
      · rw [if_pos h0, s3]
        have : val z / 2 ^ 130 = 0 := by rw [← s5, h0]; rfl
        omega
      · rw [if_neg h0, s3]
        have : val z / 2 ^ 130 ≠ 0 := by
          rw [← s5]
          intro e
          exact h0 (BitVec.eq_of_toNat_eq e)
        omega
  · obtain ⟨y, rfl, hy, hlt, hm⟩ := hs
    have yl : y.length = 9 := by rw [hy, digs_length]
    have yd : ∀ z ∈ y, z.toNat < 65536 := by rw [hy]; exact digs_lt 9 _
    refine Tri.step (cx := cxb true) mix T0ok (HFvok B true) 2 0 noOrc [1, 2, 5, 6] [2, 2 + 1, 2 + 2] (2 + 3) (cmpSt y 9) [] (by kernel_rfl) obNil (by kernel_rfl) ?_
    refine Tri.loop (id := 4) (ι := { i : Nat // i ≤ 9 ∧ ∀ k, i ≤ k → y.getD k 0 = pd.getD k 0 }) rfl (fun i => cmpSt y i.1) (fun i => i.1) ⟨9, Nat.le_refl _, fun k hk => by rw [List.getD_eq_getElem?_getD, List.getD_eq_getElem?_getD, List.getElem?_eq_none (by omega), List.getElem?_eq_none (by simpa [pd] using hk)]⟩ rfl (fun i => Nat.le_add_right _ _)
      (R1 := fun s => s = borSt y ∧ P130 ≤ val y) (fun ⟨i, hi, ha⟩ => ?_) (fun s' hs => ?_)
    · rcases Nat.eq_zero_or_pos i with rfl | hp
      · refine Tri.chg (cx := cxb false) rfl ?_
        refine Tri.fin (cx := cxb false) mix T0ok (HFvok B false) 0 (orcL [(43, false)]) [1, 2, 5] [2, 2 + 1, 2 + 2] (2 + 3) (.x 4) (borSt y) [decide ((0 : Int) ≤ ((0 : Nat) : Int) - 1) = false] (by kernel_rfl) (obCons (by decide) obNil) (by kernel_rfl) ⟨rfl, ?_⟩
        have : y = pd := getD_ext (by rw [yl]; rfl) (fun k => ha k (Nat.zero_le _))
        rw [this, val_pd]; exact Nat.le_refl _
      · have ek : Int.toNat ((i : Int) - 1) + 0 = i - 1 := by omega
        by_cases h1 : (y.getD (i - 1) 0).toNat < (pd.getD (i - 1) 0).toNat
        · refine Tri.chg (cx := cxb false) rfl ?_
          refine Tri.fin (cx := cxb false) mix T0ok (HFvok B false) 0 (orcL [(43, true), (52, true)]) [2] [2 + 1] (2 + 3) .r (retSt (lit 0 9 y)) ([decide ((0 : Int) ≤ (↑i : Int) - (1 : Int)) = true, (0 : Int) ≤ (↑i : Int) - (1 : Int) ∧ (↑i : Int) - (1 : Int) < (↑(9 : Nat) : Int), Int.toNat ((↑i : Int) - (1 : Int)) + (0 : Nat) < List.length (lit (0 : BitVec (64 : Nat)) (9 : Nat) y), (0 : Int) ≤ (↑i : Int) - (1 : Int) ∧ (↑i : Int) - (1 : Int) < (↑(9 : Nat) : Int), Int.toNat ((↑i : Int) - (1 : Int)) + (0 : Nat) < List.length pd, decide (BitVec.toNat (List.getD (lit (0 : BitVec (64 : Nat)) (9 : Nat) y) (Int.toNat ((↑i : Int) - (1 : Int)) + (0 : Nat)) (0 : BitVec (64 : Nat))) < BitVec.toNat (List.getD pd (Int.toNat ((↑i : Int) - (1 : Int)) + (0 : Nat)) (0 : BitVec (64 : Nat)))) = true]) (by kernel_rfl) (by
            (repeat' (first | exact obNil | refine obCons ?_ ?_))
            all_goals first | omega | (rw [ek, lit_eq yl]; exact decide_eq_true h1) | (simp [pd, lit_length]; omega)) (by kernel_rfl) ⟨trivial, [], [], ?_, obNil⟩
          have hv : val y < P130 := by
            rw [← val_pd]
            exact val_cmp (i - 1) y pd (by rw [yl]; rfl) yd (by omega) (fun k hk => ha k (by omega)) h1
          have : lit 0 9 y = lit 0 9 (digs 9 (val x % P130)) := by rw [← hm, Nat.mod_eq_of_lt hv, ← hy]
          rw [this]
          exact ret_eq B _ _
        · by_cases h2 : (pd.getD (i - 1) 0).toNat < (y.getD (i - 1) 0).toNat
          · refine Tri.chg (cx := cxb false) rfl ?_
            refine Tri.fin (cx := cxb false) mix T0ok (HFvok B false) 0 (orcL [(43, true), (52, false), (60, true)]) [1, 2, 5] [2, 2 + 1, 2 + 2] (2 + 3) (.x 4) (borSt y) ([decide ((0 : Int) ≤ (↑i : Int) - (1 : Int)) = true, (0 : Int) ≤ (↑i : Int) - (1 : Int) ∧ (↑i : Int) - (1 : Int) < (↑(9 : Nat) : Int), Int.toNat ((↑i : Int) - (1 : Int)) + (0 : Nat) < List.length (lit (0 : BitVec (64 : Nat)) (9 : Nat) y), (0 : Int) ≤ (↑i : Int) - (1 : Int) ∧ (↑i : Int) - (1 : Int) < (↑(9 : Nat) : Int), Int.toNat ((↑i : Int) - (1 : Int)) + (0 : Nat) < List.length pd, decide (BitVec.toNat (List.getD (lit (0 : BitVec (64 : Nat)) (9 : Nat) y) (Int.toNat ((↑i : Int) - (1 : Int)) + (0 : Nat)) (0 : BitVec (64 : Nat))) < BitVec.toNat (List.getD pd (Int.toNat ((↑i : Int) - (1 : Int)) + (0 : Nat)) (0 : BitVec (64 : Nat)))) = false, (0 : Int) ≤ (↑i : Int) - (1 : Int) ∧ (↑i : Int) - (1 : Int) < (↑(9 : Nat) : Int), Int.toNat ((↑i : Int) - (1 : Int)) + (0 : Nat) < List.length (lit (0 : BitVec (64 : Nat)) (9 : Nat) y), (0 : Int) ≤ (↑i : Int) - (1 : Int) ∧ (↑i : Int) - (1 : Int) < (↑(9 : Nat) : Int), Int.toNat ((↑i : Int) - (1 : Int)) + (0 : Nat) < List.length pd, decide (BitVec.toNat (List.getD pd (Int.toNat ((↑i : Int) - (1 : Int)) + (0 : Nat)) (0 : BitVec (64 : Nat))) < BitVec.toNat (List.getD (lit (0 : BitVec (64 : Nat)) (9 : Nat) y) (Int.toNat ((↑i : Int) - (1 : Int)) + (0 : Nat)) (0 : BitVec (64 : Nat)))) = true]) (by kernel_rfl) (by
              (repeat' (first | exact obNil | refine obCons ?_ ?_))
              all_goals first | omega | (rw [ek, lit_eq yl]; exact decide_eq_false h1) | (rw [ek, lit_eq yl]; exact decide_eq_true h2) | (simp [pd, lit_length]; omega)) (by kernel_rfl) ⟨rfl, ?_⟩
            rw [← val_pd]
            exact Nat.le_of_lt (val_cmp (i - 1) pd y (by rw [yl]; rfl) pd_lt (by show i - 1 < 9; omega) (fun k hk => (ha k (by omega)).symm) h2)
          · refine Tri.chg (cx := cxb false) rfl ?_
            refine Tri.fin (cx := cxb false) mix T0ok (HFvok B false) 0 (orcL [(43, true), (52, false), (60, false)]) [1, 2, 5, 6] [2, 2 + 1, 2 + 2] (2 + 3) .n (cmpSt' y i) ([decide ((0 : Int) ≤ (↑i : Int) - (1 : Int)) = true, (0 : Int) ≤ (↑i : Int) - (1 : Int) ∧ (↑i : Int) - (1 : Int) < (↑(9 : Nat) : Int), Int.toNat ((↑i : Int) - (1 : Int)) + (0 : Nat) < List.length (lit (0 : BitVec (64 : Nat)) (9 : Nat) y), (0 : Int) ≤ (↑i : Int) - (1 : Int) ∧ (↑i : Int) - (1 : Int) < (↑(9 : Nat) : Int), Int.toNat ((↑i : Int) - (1 : Int)) + (0 : Nat) < List.length pd, decide (BitVec.toNat (List.getD (lit (0 : BitVec (64 : Nat)) (9 : Nat) y) (Int.toNat ((↑i : Int) - (1 : Int)) + (0 : Nat)) (0 : BitVec (64 : Nat))) < BitVec.toNat (List.getD pd (Int.toNat ((↑i : Int) - (1 : Int)) + (0 : Nat)) (0 : BitVec (64 : Nat)))) = false, (0 : Int) ≤ (↑i : Int) - (1 : Int) ∧ (↑i : Int) - (1 : Int) < (↑(9 : Nat) : Int), Int.toNat ((↑i : Int) - (1 : Int)) + (0 : Nat) < List.length (lit (0 : BitVec (64 : Nat)) (9 : Nat) y), (0 : Int) ≤ (↑i : Int) - (1 : Int) ∧ (↑i : Int) - (1 : Int) < (↑(9 : Nat) : Int), Int.toNat ((↑i : Int) - (1 : Int)) + (0 : Nat) < List.length pd, decide (BitVec.toNat (List.getD pd (Int.toNat ((↑i : Int) - (1 : Int)) + (0 : Nat)) (0 : BitVec (64 : Nat))) < BitVec.toNat (List.getD (lit (0 : BitVec (64 : Nat)) (9 : Nat) y) (Int.toNat ((↑i : Int) - (1 : Int)) + (0 : Nat)) (0 : BitVec (64 : Nat)))) = false, rng ((↑i : Int) - (1 : Int) - (1 : Int))]) (by kernel_rfl) (by
              (repeat' (first | exact obNil | refine obCons ?_ ?_))
              all_goals first | omega | (rw [ek, lit_eq yl]; exact decide_eq_false h1) | (rw [ek, lit_eq yl]; exact decide_eq_false h2) | (simp [pd, lit_length]; omega) | (unfold rng; omega)) (by kernel_rfl) ⟨⟨i - 1, by omega, fun k hk => ?_⟩, by show i - 1 < i; omega, ?_⟩
            · rcases Nat.eq_or_lt_of_le hk with rfl | h
              · exact BitVec.eq_of_toNat_eq (by omega)
              · exact ha k (by omega)
            · have : (((i - 1 : Nat) : Int) - 1) = (i : Int) - 1 - 1 := by omega
              unfold cmpSt cmpSt'
              rw [this]
    · obtain ⟨rfl, hp⟩ := hs
      have hs := bpass_spec (lit 0 9 y) pd 0#64 (by decide) (by rw [lit_eq yl]; exact yd) pd_lt (by rw [lit_length]; rfl)
      have e : bpass 0#64 (lit 0 9 y) pd = lit 0 9 (digs 9 (val x % P130)) := by
        rw [hs, lit_length, lit_eq yl, lit_eq (digs_length 9 _), ← hm, val_pd, ← digs_mod, ← digs_mod 9 (val y % P130)]
        refine congrArg (digs 9) ?_
        have h1 : val y % P130 = val y - P130 := by rw [P130_eq] at hp ⊢; omega
        rw [h1]
        rw [show (0#64).toNat = 0 from rfl, Nat.sub_zero]
        clear hs
        generalize P130 = Q at *
        generalize val y = V at *
        omega
      refine Tri.ret (cx := cxb true) mix T0ok (HFvok B true) 10 noOrc [2] [2 + 1] (2 + 3) (retSt (bpass 0#64 (lit 0 9 y) pd)) [] .r (by kernel_rfl) obNil (by kernel_rfl) rfl [] [] ?_ obNil
      rw [e]
      exact ret_eq B _ _

def settledCt : Ct := ⟨[.val], [], fun vs ds gs => match vs, ds, gs with
  | [.one (.ag [.d64 x])], [], [] => bif Nat.beq x.length 9 then some ⟨.one (.ag [.d64 (lit 0 9 (digs 9 (val x % P130)))]), [], [], [∀ y ∈ x, y.toNat < 2 ^ 60]⟩ else none
  | _, _, _ => none⟩

theorem settled_ok (B : Nat) : settledCt.Ok P0 B 2 18 := by
  intro vs ds gs out h hpre hn
  unfold settledCt at h
  dsimp only at h
  split at h <;> first | (cases h; done) | skip
  rename_i x
  cases hb : Nat.beq x.length 9 with
  | false => rw [hb] at h; cases h
  | true =>
    rw [hb, cond_true] at h
    cases h
    have hl := Nat.eq_of_beq_eq_true hb
    have := settled1 B x hl (hpre _ (by simp))
    rw [lit_eq hl] at this
    exact this
end Go.Sx

set_option maxRecDepth 1000000
set_option linter.unusedVariables false
namespace Go.Sx
open Go.Proofs

/-- bytes as nine digits, with a one behind them -/
def digL (l : List (BitVec 8)) : List (BitVec 64) := lit 0 9 (d16 (l ++ [1#8]))
def digM (n : Nat) (b : List (BitVec 8)) : Mem := [(2, ⟨n, .d8 (lit 0 n b), false, false, false⟩)]
def digE (n : Nat) (b : List (BitVec 8)) : Ef := ⟨.one (.ag [.d64 (digL (lit 0 n b))]), digM n b, 2 + 1, .eff, []⟩
def digSt (n : Nat) (b : List (BitVec 8)) : St := ⟨[(2, .one (.s (.p (2 + 1) 0)))], [(2, ⟨n, .d8 (lit 0 n b), false, false, false⟩), (2 + 1, ⟨9, .d64 (digL (lit 0 n b)), true, false, false⟩)], 2 + 3⟩

theorem dig0 (B : Nat) (b : List (BitVec 8)) : FnE P0 B 2 17 [.one (.s (.osl 2 0))] (digM 0 b) (2 + 1) (digE 0 b) := by
  refine FnE.tri (cx := cxb true) (sz := 34) (fn := Tryz.f17) (c := bodyOf Tryz.f17) T0ok (by kernel_rfl) (by kernel_rfl) (by kernel_rfl) (by kernel_rfl) (by kernel_rfl) (by kernel_rfl) (Nat.le_refl _) ?_
  exact Tri.ret (cx := cxb true) mix T0ok (H0ok B true) 2 noOrc [2] [2, 2 + 1] (2 + 3) (digSt 0 b) [] .r (by kernel_rfl) obNil (by kernel_rfl) rfl [2] [] (by kernel_rfl) obNil

theorem dig1 (B : Nat) (b : List (BitVec 8)) : FnE P0 B 2 17 [.one (.s (.osl 2 1))] (digM 1 b) (2 + 1) (digE 1 b) := by
  refine FnE.tri (cx := cxb true) (sz := 34) (fn := Tryz.f17) (c := bodyOf Tryz.f17) T0ok (by kernel_rfl) (by kernel_rfl) (by kernel_rfl) (by kernel_rfl) (by kernel_rfl) (by kernel_rfl) (Nat.le_refl _) ?_
  exact Tri.ret (cx := cxb true) mix T0ok (H0ok B true) 3 noOrc [2] [2, 2 + 1] (2 + 3) (digSt 1 b) [] .r (by kernel_rfl) obNil (by kernel_rfl) rfl [2] [] (by kernel_rfl) obNil

theorem dig2 (B : Nat) (b : List (BitVec 8)) : FnE P0 B 2 17 [.one (.s (.osl 2 2))] (digM 2 b) (2 + 1) (digE 2 b) := by
  refine FnE.tri (cx := cxb true) (sz := 34) (fn := Tryz.f17) (c := bodyOf Tryz.f17) T0ok (by kernel_rfl) (by kernel_rfl) (by kernel_rfl) (by kernel_rfl) (by kernel_rfl) (by kernel_rfl) (Nat.le_refl _) ?_
  exact Tri.ret (cx := cxb true) mix T0ok (H0ok B true) 4 noOrc [2] [2, 2 + 1] (2 + 3) (digSt 2 b) [] .r (by kernel_rfl) obNil (by kernel_rfl) rfl [2] [] (by kernel_rfl) obNil

theorem dig3 (B : Nat) (b : List (BitVec 8)) : FnE P0 B 2 17 [.one (.s (.osl 2 3))] (digM 3 b) (2 + 1) (digE 3 b) := by
  refine FnE.tri (cx := cxb true) (sz := 34) (fn := Tryz.f17) (c := bodyOf Tryz.f17) T0ok (by kernel_rfl) (by kernel_rfl) (by kernel_rfl) (by kernel_rfl) (by kernel_rfl) (by kernel_rfl) (Nat.le_refl _) ?_
  exact Tri.ret (cx := cxb true) mix T0ok (H0ok B true) 5 noOrc [2] [2, 2 + 1] (2 + 3) (digSt 3 b) [] .r (by kernel_rfl) obNil (by kernel_rfl) rfl [2] [] (by kernel_rfl) obNil

theorem dig4 (B : Nat) (b : List (BitVec 8)) : FnE P0 B 2 17 [.one (.s (.osl 2 4))] (digM 4 b) (2 + 1) (digE 4 b) := by
  refine FnE.tri (cx := cxb true) (sz := 34) (fn := Tryz.f17) (c := bodyOf Tryz.f17) T0ok (by kernel_rfl) (by kernel_rfl) (by kernel_rfl) (by kernel_rfl) (by kernel_rfl) (by kernel_rfl) (Nat.le_refl _) ?_
  exact Tri.ret (cx := cxb true) mix T0ok (H0ok B true) 6 noOrc [2] [2, 2 + 1] (2 + 3) (digSt 4 b) [] .r (by kernel_rfl) obNil (by kernel_rfl) rfl [2] [] (by kernel_rfl) obNil

theorem dig5 (B : Nat) (b : List (BitVec 8)) : FnE P0 B 2 17 [.one (.s (.osl 2 5))] (digM 5 b) (2 + 1) (digE 5 b) := by
  refine FnE.tri (cx := cxb true) (sz := 34) (fn := Tryz.f17) (c := bodyOf Tryz.f17) T0ok (by kernel_rfl) (by kernel_rfl) (by kernel_rfl) (by kernel_rfl) (by kernel_rfl) (by kernel_rfl) (Nat.le_refl _) ?_
  exact Tri.ret (cx := cxb true) mix T0ok (H0ok B true) 7 noOrc [2] [2, 2 + 1] (2 + 3) (digSt 5 b) [] .r (by kernel_rfl) obNil (by kernel_rfl) rfl [2] [] (by kernel_rfl) obNil

theorem dig6 (B : Nat) (b : List (BitVec 8)) : FnE P0 B 2 17 [.one (.s (.osl 2 6))] (digM 6 b) (2 + 1) (digE 6 b) := by
  refine FnE.tri (cx := cxb true) (sz := 34) (fn := Tryz.f17) (c := bodyOf Tryz.f17) T0ok (by kernel_rfl) (by kernel_rfl) (by kernel_rfl) (by kernel_rfl) (by kernel_rfl) (by kernel_rfl) (Nat.le_refl _) ?_
  exact Tri.ret (cx := cxb true) mix T0ok (H0ok B true) 8 noOrc [2] [2, 2 + 1] (2 + 3) (digSt 6 b) [] .r (by kernel_rfl) obNil (by kernel_rfl) rfl [2] [] (by kernel_rfl) obNil

theorem dig7 (B : Nat) (b : List (BitVec 8)) : FnE P0 B 2 17 [.one (.s (.osl 2 7))] (digM 7 b) (2 + 1) (digE 7 b) := by
  refine FnE.tri (cx := cxb true) (sz := 34) (fn := Tryz.f17) (c := bodyOf Tryz.f17) T0ok (by kernel_rfl) (by kernel_rfl) (by kernel_rfl) (by kernel_rfl) (by kernel_rfl) (by kernel_rfl) (Nat.le_refl _) ?_
  exact Tri.ret (cx := cxb true) mix T0ok (H0ok B true) 9 noOrc [2] [2, 2 + 1] (2 + 3) (digSt 7 b) [] .r (by kernel_rfl) obNil (by kernel_rfl) rfl [2] [] (by kernel_rfl) obNil

theorem dig8 (B : Nat) (b : List (BitVec 8)) : FnE P0 B 2 17 [.one (.s (.osl 2 8))] (digM 8 b) (2 + 1) (digE 8 b) := by
  refine FnE.tri (cx := cxb true) (sz := 34) (fn := Tryz.f17) (c := bodyOf Tryz.f17) T0ok (by kernel_rfl) (by kernel_rfl) (by kernel_rfl) (by kernel_rfl) (by kernel_rfl) (by kernel_rfl) (Nat.le_refl _) ?_
  exact Tri.ret (cx := cxb true) mix T0ok (H0ok B true) 10 noOrc [2] [2, 2 + 1] (2 + 3) (digSt 8 b) [] .r (by kernel_rfl) obNil (by kernel_rfl) rfl [2] [] (by kernel_rfl) obNil

theorem dig9 (B : Nat) (b : List (BitVec 8)) : FnE P0 B 2 17 [.one (.s (.osl 2 9))] (digM 9 b) (2 + 1) (digE 9 b) := by
  refine FnE.tri (cx := cxb true) (sz := 34) (fn := Tryz.f17) (c := bodyOf Tryz.f17) T0ok (by kernel_rfl) (by kernel_rfl) (by kernel_rfl) (by kernel_rfl) (by kernel_rfl) (by kernel_rfl) (Nat.le_refl _) ?_
  exact Tri.ret (cx := cxb true) mix T0ok (H0ok B true) 11 noOrc [2] [2, 2 + 1] (2 + 3) (digSt 9 b) [] .r (by kernel_rfl) obNil (by kernel_rfl) rfl [2] [] (by kernel_rfl) obNil

theorem dig10 (B : Nat) (b : List (BitVec 8)) : FnE P0 B 2 17 [.one (.s (.osl 2 10))] (digM 10 b) (2 + 1) (digE 10 b) := by
  refine FnE.tri (cx := cxb true) (sz := 34) (fn := Tryz.f17) (c := bodyOf Tryz.f17) T0ok (by kernel_rfl) (by kernel_rfl) (by kernel_rfl) (by kernel_rfl) (by kernel_rfl) (by kernel_rfl) (Nat.le_refl _) ?_
  exact Tri.ret (cx := cxb true) mix T0ok (H0ok B true) 12 noOrc [2] [2, 2 + 1] (2 + 3) (digSt 10 b) [] .r (by kernel_rfl) obNil (by kernel_rfl) rfl [2] [] (by kernel_rfl) obNil

theorem dig11 (B : Nat) (b : List (BitVec 8)) : FnE P0 B 2 17 [.one (.s (.osl 2 11))] (digM 11 b) (2 + 1) (digE 11 b) := by
  refine FnE.tri (cx := cxb true) (sz := 34) (fn := Tryz.f17) (c := bodyOf Tryz.f17) T0ok (by kernel_rfl) (by kernel_rfl) (by kernel_rfl) (by kernel_rfl) (by kernel_rfl) (by kernel_rfl) (Nat.le_refl _) ?_
  exact Tri.ret (cx := cxb true) mix T0ok (H0ok B true) 13 noOrc [2] [2, 2 + 1] (2 + 3) (digSt 11 b) [] .r (by kernel_rfl) obNil (by kernel_rfl) rfl [2] [] (by kernel_rfl) obNil

theorem dig12 (B : Nat) (b : List (BitVec 8)) : FnE P0 B 2 17 [.one (.s (.osl 2 12))] (digM 12 b) (2 + 1) (digE 12 b) := by
  refine FnE.tri (cx := cxb true) (sz := 34) (fn := Tryz.f17) (c := bodyOf Tryz.f17) T0ok (by kernel_rfl) (by kernel_rfl) (by kernel_rfl) (by kernel_rfl) (by kernel_rfl) (by kernel_rfl) (Nat.le_refl _) ?_
  exact Tri.ret (cx := cxb true) mix T0ok (H0ok B true) 14 noOrc [2] [2, 2 + 1] (2 + 3) (digSt 12 b) [] .r (by kernel_rfl) obNil (by kernel_rfl) rfl [2] [] (by kernel_rfl) obNil

theorem dig13 (B : Nat) (b : List (BitVec 8)) : FnE P0 B 2 17 [.one (.s (.osl 2 13))] (digM 13 b) (2 + 1) (digE 13 b) := by
  refine FnE.tri (cx := cxb true) (sz := 34) (fn := Tryz.f17) (c := bodyOf Tryz.f17) T0ok (by kernel_rfl) (by kernel_rfl) (by kernel_rfl) (by kernel_rfl) (by kernel_rfl) (by kernel_rfl) (Nat.le_refl _) ?_
  exact Tri.ret (cx := cxb true) mix T0ok (H0ok B true) 15 noOrc [2] [2, 2 + 1] (2 + 3) (digSt 13 b) [] .r (by kernel_rfl) obNil (by kernel_rfl) rfl [2] [] (by kernel_rfl) obNil

theorem dig14 (B : Nat) (b : List (BitVec 8)) : FnE P0 B 2 17 [.one (.s (.osl 2 14))] (digM 14 b) (2 + 1) (digE 14 b) := by
  refine FnE.tri (cx := cxb true) (sz := 34) (fn := Tryz.f17) (c := bodyOf Tryz.f17) T0ok (by kernel_rfl) (by kernel_rfl) (by kernel_rfl) (by kernel_rfl) (by kernel_rfl) (by kernel_rfl) (Nat.le_refl _) ?_
  exact Tri.ret (cx := cxb true) mix T0ok (H0ok B true) 16 noOrc [2] [2, 2 + 1] (2 + 3) (digSt 14 b) [] .r (by kernel_rfl) obNil (by kernel_rfl) rfl [2] [] (by kernel_rfl) obNil

theorem dig15 (B : Nat) (b : List (BitVec 8)) : FnE P0 B 2 17 [.one (.s (.osl 2 15))] (digM 15 b) (2 + 1) (digE 15 b) := by
  refine FnE.tri (cx := cxb true) (sz := 34) (fn := Tryz.f17) (c := bodyOf Tryz.f17) T0ok (by kernel_rfl) (by kernel_rfl) (by kernel_rfl) (by kernel_rfl) (by kernel_rfl) (by kernel_rfl) (Nat.le_refl _) ?_
  exact Tri.ret (cx := cxb true) mix T0ok (H0ok B true) 17 noOrc [2] [2, 2 + 1] (2 + 3) (digSt 15 b) [] .r (by kernel_rfl) obNil (by kernel_rfl) rfl [2] [] (by kernel_rfl) obNil

theorem dig16 (B : Nat) (b : List (BitVec 8)) : FnE P0 B 2 17 [.one (.s (.osl 2 16))] (digM 16 b) (2 + 1) (digE 16 b) := by
  refine FnE.tri (cx := cxb true) (sz := 34) (fn := Tryz.f17) (c := bodyOf Tryz.f17) T0ok (by kernel_rfl) (by kernel_rfl) (by kernel_rfl) (by kernel_rfl) (by kernel_rfl) (by kernel_rfl) (Nat.le_refl _) ?_
  exact Tri.ret (cx := cxb true) mix T0ok (H0ok B true) 18 noOrc [2] [2, 2 + 1] (2 + 3) (digSt 16 b) [] .r (by kernel_rfl) obNil (by kernel_rfl) rfl [2] [] (by kernel_rfl) obNil

theorem digAll (B : Nat) : ∀ (n : Nat), n ≤ 16 → ∀ b : List (BitVec 8), FnE P0 B 2 17 [.one (.s (.osl 2 n))] (digM n b) (2 + 1) (digE n b)
  | 0, _ => dig0 B
  | 1, _ => dig1 B
  | 2, _ => dig2 B
  | 3, _ => dig3 B
  | 4, _ => dig4 B
  | 5, _ => dig5 B
  | 6, _ => dig6 B
  | 7, _ => dig7 B
  | 8, _ => dig8 B
  | 9, _ => dig9 B
  | 10, _ => dig10 B
  | 11, _ => dig11 B
  | 12, _ => dig12 B
  | 13, _ => dig13 B
  | 14, _ => dig14 B
  | 15, _ => dig15 B
  | 16, _ => dig16 B
  | n + 17, h => by omega

theorem d16_length : ∀ l, (d16 l).length = (l.length + 1) / 2
  | [] => rfl
  | [x] => by simp [d16]
  | x :: y :: r => by simp only [d16, List.length_cons, d16_length r]; omega

theorem lit_getD {α : Type} {z : α} {n : Nat} {l : List α} (i : Nat) : (lit z n l)[i]? = if i < n then some (l.getD i z) else none := by
  unfold lit
  rw [List.getElem?_map]
  split
  · rename_i h; rw [List.getElem?_range h]; rfl
  · rename_i h; rw [List.getElem?_eq_none (by simpa using h)]; rfl

theorem val_zeros : ∀ n, val (List.replicate n 0#64) = 0
  | 0 => rfl
  | n + 1 => by simp [List.replicate_succ, val, val_zeros n]
theorem val_app : ∀ (a b : List (BitVec 64)), val (a ++ b) = val a + 65536 ^ a.length * val b
  | [], b => by simp [val]
  | x :: a, b => by
    simp only [List.cons_append, val, val_app a b, List.length_cons, Nat.pow_succ]
    rw [Nat.mul_add, ← Nat.mul_assoc, Nat.mul_comm 65536 (65536 ^ a.length)]
    omega
theorem lit_pad {n : Nat} {l : List (BitVec 64)} (h : l.length ≤ n) : lit 0 n l = l ++ List.replicate (n - l.length) 0#64 := by
  apply List.ext_getElem?
  intro i
  rw [lit_getD, List.getElem?_append, List.getElem?_replicate]
  rcases Nat.lt_or_ge i l.length with h1 | h1
  · rw [if_pos (show i < n by omega), if_pos h1]; simp [List.getD, h1]
  · rw [if_neg (show ¬ i < l.length by omega)]
    by_cases h2 : i < n
    · rw [if_pos h2, if_pos (show i - l.length < n - l.length by omega)]; simp [List.getD, List.getElem?_eq_none h1]
    · rw [if_neg h2, if_neg (show ¬ i - l.length < n - l.length by omega)]

theorem digL_eq (b : List (BitVec 8)) (h : b.length ≤ 16) : digL b = digs 9 (leN b + 256 ^ b.length) := by
  have hs := d16_spec (b ++ [1#8])
  have hl : (d16 (b ++ [1#8])).length ≤ 9 := by rw [d16_length]; simp; omega
  have hn : leN (b ++ [1#8]) = leN b + 256 ^ b.length := by rw [leN_append]; simp [leN]
  have hp : digL b = d16 (b ++ [1#8]) ++ List.replicate (9 - (d16 (b ++ [1#8])).length) 0#64 := lit_pad hl
  have hv : val (digL b) = leN b + 256 ^ b.length := by rw [hp, val_app, val_zeros, hs.1, hn]; simp
  have hd : ∀ x ∈ digL b, x.toNat < 65536 := by
    intro x hx
    rw [hp, List.mem_append] at hx
    rcases hx with hx | hx
    · exact hs.2 x hx
    · rw [(List.mem_replicate.1 hx).2]; decide
  have := digs_val (digL b) hd
  rw [hv, show (digL b).length = 9 from lit_length _ _ _] at this
  exact this.symm

def digCt : Ct := ⟨[.slc false], [], fun vs ds gs => match vs, ds, gs with
  | [], [.d8 b], [] => some ⟨.one (.ag [.d64 (lit 0 9 (digs 9 (leN b + 256 ^ b.length)))]), [.d8 b], [], [b.length ≤ 16]⟩
  | _, _, _ => none⟩

theorem digits_ok (B : Nat) : digCt.Ok P0 B 2 17 := by
  intro vs ds gs out h hpre hn
  unfold digCt at h
  dsimp only at h
  split at h <;> first | (cases h; done) | skip
  rename_i b
  cases h
  have hl : b.length ≤ 16 := hpre _ (by simp)
  have := digAll B b.length hl b
  unfold digE digM at this
  rw [lit_eq rfl, digL_eq b hl] at this
  rw [lit_eq (digs_length _ _)]
  exact this

noncomputable def HLw (c : Bool) : Hook := hookC 18 (hookOf (cxb c) settledCt) (H0 c)
theorem HLwok (B : Nat) (c : Bool) : HookOk P0 B 2 (HLw c) := .cons (.ct (cx := cxb c) (settled_ok B)) (H0ok B c)
/-- what is settled -/
def loX (p : List (BitVec 64)) : List (BitVec 64) := low5 (pass 0#64 (lit 0 18 p)).1

theorem loX_spec (p : List (BitVec 64)) (hl : p.length = 18) (hb : ∀ y ∈ p, y.toNat < 2 ^ 60) (hv : val p < 2 ^ 274) : val (loX p) % P130 = val p % P130 ∧ ∀ y ∈ loX p, y.toNat < 2 ^ 60 := by
  unfold loX
  rw [lit_eq hl]
  have h1 := (pass_eq p 0#64 (by decide) (fun x hx => by have := hb x hx; omega)).1
  rw [hl, show (0#64).toNat = 0 from rfl, Nat.zero_add] at h1
  obtain ⟨h2, h3, h4⟩ := low5_spec (val p) hv
  rw [h1]
  exact ⟨by rw [h2, settle_mod], fun y hy => by have := h4 y hy; omega⟩

theorem lowered1 (B : Nat) (p : List (BitVec 64)) (hb : ∀ y ∈ loX p, y.toNat < 2 ^ 60) : FnE P0 B 2 19 [.one (.ag [.d64 (lit 0 18 p)])] [] 2 ⟨.one (.ag [.d64 (lit 0 9 (digs 9 (val (loX p) % P130)))]), [], 2, .eff, []⟩ := by
  refine FnE.tri (cx := cxb true) (sz := 67) (fn := Tryz.f19) (c := bodyOf Tryz.f19) T0ok (by kernel_rfl) (by kernel_rfl) (by kernel_rfl) (by kernel_rfl) (by kernel_rfl) (by kernel_rfl) (Nat.le_refl _) ?_
  exact Tri.ret (cx := cxb true) mix T0ok (HLwok B true) 20 noOrc [2] [2 + 1] (2 + 3) ⟨[(2, .one (.s (.p (2 + 1) 0)))], [(2 + 1, ⟨9, .d64 (lit 0 9 (digs 9 (val (loX p) % P130))), true, false, false⟩)], 2 + 3⟩ [∀ y ∈ loX p, y.toNat < 2 ^ 60] .r (by kernel_rfl) (obCons hb obNil) (by kernel_rfl) rfl [] [] (by kernel_rfl) obNil

/-- 2^274 -/
def LIM274 : Nat := 2 ^ 274
def loweredCt : Ct := ⟨[.val], [], fun vs ds gs => match vs, ds, gs with
  | [.one (.ag [.d64 p])], [], [] => bif Nat.beq p.length 18 then some ⟨.one (.ag [.d64 (lit 0 9 (digs 9 (val p % P130)))]), [], [], [∀ y ∈ p, y.toNat < 2 ^ 60, val p < LIM274]⟩ else none
  | _, _, _ => none⟩

theorem lowered_ok (B : Nat) : loweredCt.Ok P0 B 2 19 := by
  intro vs ds gs out h hpre hn
  unfold loweredCt at h
  dsimp only at h
  split at h <;> first | (cases h; done) | skip
  rename_i p
  cases hb : Nat.beq p.length 18 with
  | false => rw [hb] at h; cases h
  | true =>
    rw [hb, cond_true] at h
    cases h
    have hl := Nat.eq_of_beq_eq_true hb
    have hlim : val p < LIM274 := hpre _ (List.mem_cons_of_mem _ List.mem_cons_self)
    unfold LIM274 at hlim
    obtain ⟨h1, h2⟩ := loX_spec p hl (hpre _ (by simp)) hlim
    have := lowered1 B p h2
    rw [lit_eq hl, h1] at this
    exact this
end Go.Sx

set_option maxRecDepth 1000000
set_option linter.unusedVariables false
namespace Go.Sx
open Go.Proofs

noncomputable def HPl (c : Bool) : Hook := hookC 17 (hookOf (cxb c) digCt) (hookC 18 (hookOf (cxb c) settledCt) (hookC 19 (hookOf (cxb c) loweredCt) (H0 c)))
theorem HPlok (B : Nat) (c : Bool) : HookOk P0 B 2 (HPl c) := .cons (.ct (cx := cxb c) (digits_ok B)) (.cons (.ct (cx := cxb c) (settled_ok B)) (.cons (.ct (cx := cxb c) (lowered_ok B)) (H0ok B c)))

/-- digit by digit -/
def zipA : List (BitVec 64) → List (BitVec 64) → List (BitVec 64)
  | x :: a, y :: b => (x + y) :: zipA a b
  | _, _ => []
/-- the key's digits -/
def rD (key : List (BitVec 8)) : List (BitVec 64) := lit 0 9 (d16 (rB key))

def plM (key m : List (BitVec 8)) (a : List (BitVec 64)) : Mem := [(2, ⟨32, .d8 (lit 0 32 key), false, false, false⟩), (2 + 1, ⟨m.length, .d8 m, false, false, false⟩), (2 + 2, ⟨9, .d64 (rD key), true, false, false⟩), (2 + 3, ⟨9, .d64 (lit 0 9 a), true, false, false⟩)]
def plSt (key m : List (BitVec 8)) (a : List (BitVec 64)) (k o q : Nat) : St := ⟨[(0, .one (.s (.osl 2 32))), (1, .one (.s (.sl (2 + 1) o (m.length - 16 * k) q))), (5, .one (.s (.p (2 + 2) 0))), (8, .one (.s (.p (2 + 3) 0)))], plM key m a, 2 + 4⟩
def plS2 (key m : List (BitVec 8)) (a d : List (BitVec 64)) (k c : Nat) (n : Int) : St := ⟨[(0, .one (.s (.osl 2 32))), (1, .one (.s (.sl (2 + 1) (16 * k) (m.length - 16 * k) (c - 16 * k)))), (5, .one (.s (.p (2 + 2) 0))), (8, .one (.s (.p (2 + 3) 0))), (9, .one (.s (.i n))), (10, .one (.s (.p (2 + 4) 0)))], plM key m a ++ [(2 + 4, ⟨9, .d64 (lit 0 9 d), true, false, false⟩)], 2 + 5⟩
def plS3 (key m : List (BitVec 8)) (a : List (BitVec 64)) (k c : Nat) (n : Int) : St := ⟨[(0, .one (.s (.osl 2 32))), (1, .one (.s (.sl (2 + 1) (16 * k) (m.length - 16 * k) (c - 16 * k)))), (5, .one (.s (.p (2 + 2) 0))), (8, .one (.s (.p (2 + 3) 0))), (9, .one (.s (.i n)))], plM key m a, 2 + 5⟩
def plS4 (key m : List (BitVec 8)) (a : List (BitVec 64)) : St := ⟨[(0, .one (.s (.osl 2 32))), (8, .one (.s (.p (2 + 3) 0)))], plM key m a, 2 + 4⟩
def plZ1 (a d : List (BitVec 64)) : List (BitVec 64) := digs 9 (val (zipA (lit 0 9 a) (lit 0 9 d)) % P130)
def plZ2 (key : List (BitVec 8)) (a d : List (BitVec 64)) : List (BitVec 64) := convD (lit 0 9 (plZ1 a d)) (rD key) (List.replicate 18 0#64)
def plE (key m out : List (BitVec 8)) : Ef := ⟨.one (.s (.osl (2 + 2) 16)), [(2 + 2, ⟨0, .d8 out, true, true, false⟩), (2, ⟨32, .d8 (lit 0 32 key), false, false, false⟩), (2 + 1, ⟨m.length, .d8 m, false, false, false⟩)], 2 + 3, .eff, []⟩
noncomputable def plBody : List Code := flat (bodyOf Tryz.f11)
theorem plEnd (B : Nat) (key m : List (BitVec 8)) (a : List (BitVec 64)) : Tri P0 B (cxb true) 152 (2 + 2) (plBody.drop 6) (plS4 key m a) (Ret (cxb true) Tryz.f11.results.toList (plE key m (spOut 0#64 (lit 0 8 a) ((lit 0 32 key).drop 16)))) := by
  refine Tri.stepR (cx := cxb true) mix T0ok (HPlok B true) 5 10 noOrc [4] [(2, 2), (2 + 1, 2 + 1), (2 + 20, 2 + 2)] (2 + 3) ⟨[(4, .one (.s (.osl (2 + 2) 16)))], [(2, ⟨32, .d8 (lit 0 32 key), false, false, false⟩), (2 + 1, ⟨m.length, .d8 m, false, false, false⟩), (2 + 2, ⟨0, .d8 (spOut 0#64 (lit 0 8 a) ((lit 0 32 key).drop 16)), true, true, false⟩)], 2 + 3⟩ [] (by kernel_rfl) obNil ?_
  exact Tri.ret (cx := cxb true) mix T0ok (HPlok B true) 0 noOrc [4] [2 + 2, 2, 2 + 1] (2 + 3) ⟨[(4, .one (.s (.osl (2 + 2) 16)))], (plE key m (spOut 0#64 (lit 0 8 a) ((lit 0 32 key).drop 16))).m, 2 + 3⟩ [] .r (by kernel_rfl) obNil (by kernel_rfl) rfl [2 + 2, 2, 2 + 1] [] (by kernel_rfl) obNil

/-- digits of sums -/
theorem zipA_spec : ∀ (a b : List (BitVec 64)), a.length = b.length → (∀ x ∈ a, x.toNat < 65536) → (∀ x ∈ b, x.toNat < 65536) → val (zipA a b) = val a + val b ∧ ∀ x ∈ zipA a b, x.toNat < 2 ^ 60
  | [], [], _, _, _ => by simp [zipA, val]
  | x :: a, y :: b, hl, ha, hb => by
    have h1 := ha x (by simp)
    have h2 := hb y (by simp)
    have ih := zipA_spec a b (by simpa using hl) (fun z hz => ha z (by simp [hz])) (fun z hz => hb z (by simp [hz]))
    have e : (x + y).toNat = x.toNat + y.toNat := by rw [BitVec.toNat_add]; omega
    refine ⟨?_, fun z hz => ?_⟩
    · simp only [zipA, val, ih.1, e]; omega
    · simp only [zipA, List.mem_cons] at hz
      rcases hz with rfl | hz
      · rw [e]; omega
      · exact ih.2 z hz
  | [], _ :: _, hl, _, _ => by simp at hl
  | _ :: _, [], hl, _, _ => by simp at hl

theorem rD_spec (key : List (BitVec 8)) : val (rD key) = leN (rB key) ∧ (∀ x ∈ rD key, x.toNat < 65536) ∧ (rD key).length = 9 := by
  have hs := d16_spec (rB key)
  have hl : (d16 (rB key)).length ≤ 9 := by rw [d16_length]; show (16 + 1) / 2 ≤ 9; omega
  have hp : rD key = d16 (rB key) ++ List.replicate (9 - (d16 (rB key)).length) 0#64 := lit_pad hl
  refine ⟨by rw [hp, val_app, val_zeros, hs.1]; simp, fun x hx => ?_, lit_length _ _ _⟩
  rw [hp, List.mem_append] at hx
  rcases hx with hx | hx
  · exact hs.2 x hx
  · rw [(List.mem_replicate.1 hx).2]; decide

theorem P130_lt : P130 < 65536 ^ 9 := by decide
theorem lim_lt : 2 ^ 130 * 256 ^ 16 < LIM274 := of_decide_eq_true (by kernel_rfl)
/-- one block's step -/
theorem pl_step (key : List (BitVec 8)) (v b : Nat) (hv : v < P130) (hb : b < 65536 ^ 9) :
    (∀ y ∈ zipA (lit 0 9 (digs 9 v)) (lit 0 9 (digs 9 b)), y.toNat < 2 ^ 60) ∧ (∀ y ∈ plZ2 key (digs 9 v) (digs 9 b), y.toNat < 2 ^ 60) ∧ val (plZ2 key (digs 9 v) (digs 9 b)) < LIM274 ∧ val (plZ2 key (digs 9 v) (digs 9 b)) % P130 = (v + b) * leN (rB key) % P130 := by
  obtain ⟨r1, r2, r3⟩ := rD_spec key
  have l1 := lit_eq (z := (0 : BitVec 64)) (digs_length 9 v)
  have l2 := lit_eq (z := (0 : BitVec 64)) (digs_length 9 b)
  obtain ⟨z1, z2⟩ := zipA_spec (digs 9 v) (digs 9 b) (by rw [digs_length, digs_length]) (digs_lt 9 v) (digs_lt 9 b)
  have pl := P130_lt
  rw [val_digs, val_digs, Nat.mod_eq_of_lt (show v < 65536 ^ 9 by omega), Nat.mod_eq_of_lt hb] at z1
  have e1 : plZ1 (digs 9 v) (digs 9 b) = digs 9 ((v + b) % P130) := by unfold plZ1; rw [l1, l2, z1]
  have hm : (v + b) % P130 < P130 := Nat.mod_lt _ (by decide)
  have c := convD_spec (lit 0 9 (plZ1 (digs 9 v) (digs 9 b))) (rD key) (List.replicate 18 0#64) 0 (by rw [e1, lit_eq (digs_length _ _)]; exact digs_lt 9 _) r2 (fun z hz => by rw [(List.mem_replicate.1 hz).2]; decide) (by rw [lit_length]; decide) (by rw [lit_length, r3]; simp)
  have hval : val (plZ2 key (digs 9 v) (digs 9 b)) = (v + b) % P130 * leN (rB key) := by
    unfold plZ2
    rw [c.1, val_zeros, e1, lit_eq (digs_length _ _), val_digs, Nat.mod_eq_of_lt (by omega), r1, Nat.zero_add]
  refine ⟨by rw [l1, l2]; exact z2, fun y hy => ?_, ?_, ?_⟩
  · have := c.2.2 y hy
    rw [lit_length] at this
    omega
  · rw [hval]
    have h1 := leN_lt (rB key)
    have h2 : (rB key).length = 16 := rfl
    rw [h2] at h1
    have h3 : (v + b) % P130 ≤ 2 ^ 130 := by rw [P130_eq] at hm ⊢; omega
    exact Nat.lt_of_le_of_lt (Nat.mul_le_mul h3 (Nat.le_of_lt h1)) lim_lt
  · rw [hval, Nat.mod_mul_mod]

theorem blk_eq (m : List (BitVec 8)) (k c : Nat) (hk : 16 * k < m.length) (hc : m.length ≤ c) :
    List.take (Int.toNat (minX (↑(List.length m - (16 : Nat) * k) : Int) (16 : Int)) - Int.toNat (0 : Int)) (List.drop (if c - (16 : Nat) * k = Int.toNat (0 : Int) then (16 : Nat) * k else Int.toNat (0 : Int) + (16 : Nat) * k) m) = (m.drop (16 * k)).take 16 := by
  rw [if_neg (by omega)]
  have h0 : Int.toNat (0 : Int) = 0 := rfl
  rw [h0, Nat.zero_add, Nat.sub_zero]
  have : Int.toNat (minX (↑(List.length m - (16 : Nat) * k) : Int) (16 : Int)) = min 16 (m.length - 16 * k) := by unfold minX; split <;> omega
  rw [this, ← List.take_take]
  congr 1
  rw [List.take_of_length_le (by simp)]

theorem Tri.code {P : Program} {B : Nat} {cx : Cx} {sz base : Nat} {l l' : List Code} {s : St} {R : Ex → St → Prop} (h : l = l') (ht : Tri P B cx sz base l' s R) : Tri P B cx sz base l s R := by rw [h]; exact ht
noncomputable def inB (l : List Code) : List Code := match l with
  | .block _ (.loop c) :: _ => flat c
  | .block _ c :: _ => flat c
  | _ => []
noncomputable def plIn : List Code := inB ((inB (plBody.drop 5)).drop 2)
theorem plMid (key m : List (BitVec 8)) (a d : List (BitVec 64)) (k c : Nat) (n : Int) : runC (cxb true) (HPl true) 152 10 noOrc [0, 1, 5, 8, 9] [2, 2 + 1, 2 + 2, 2 + 3] (2 + 5) ((plIn.drop 2).take 7) (plS2 key m a d k c n) = some (.n, plS3 key m (digs 9 (val (plZ2 key a d) % P130)) k c n, [∀ y ∈ zipA (lit 0 9 a) (lit 0 9 d), y.toNat < 2 ^ 60, ∀ y ∈ plZ2 key a d, y.toNat < 2 ^ 60, val (plZ2 key a d) < LIM274]) := by kernel_rfl
theorem plMidT (B : Nat) (key m : List (BitVec 8)) (a d : List (BitVec 64)) (k c : Nat) (n : Int) {R : Ex → St → Prop} {base : Nat} (h1 : ∀ y ∈ zipA (lit 0 9 a) (lit 0 9 d), y.toNat < 2 ^ 60) (h2 : ∀ y ∈ plZ2 key a d, y.toNat < 2 ^ 60) (h3 : val (plZ2 key a d) < LIM274)
    (h : Tri P0 B (cxb true) 152 base ((plIn.drop 2).drop 7) (plS3 key m (digs 9 (val (plZ2 key a d) % P130)) k c n) R) : Tri P0 B (cxb true) 152 base (plIn.drop 2) (plS2 key m a d k c n) R :=
  Tri.step (cx := cxb true) mix T0ok (HPlok B true) 7 10 noOrc [0, 1, 5, 8, 9] [2, 2 + 1, 2 + 2, 2 + 3] (2 + 5) _ _ (plMid key m a d k c n) (obCons h1 <| obCons h2 <| obCons h3 obNil) rfl h

theorem plLoop (B : Nat) (key m : List (BitVec 8)) (c : Nat) (hc : m.length ≤ c) (hl : m.length ≤ 4294967295) : Tri P0 B (cxb true) 152 (2 + 2) (plBody.drop 5) (plSt key m (digs 9 (pAcc (leN (rB key)) m 0)) 0 0 c)
    (Ret (cxb true) Tryz.f11.results.toList (plE key m (spOut 0#64 (lit 0 8 (digs 9 (pAcc (leN (rB key)) m (nBlk m)))) ((lit 0 32 key).drop 16)))) := by
  refine Tri.loop (id := 2) (ι := { k : Nat × Nat × Nat // k.1 ≤ nBlk m ∧ (k.1 < nBlk m → k.2.1 = 16 * k.1 ∧ k.2.2 = c - 16 * k.1) }) rfl (fun k => plSt key m (digs 9 (pAcc (leN (rB key)) m k.1.1)) k.1.1 k.1.2.1 k.1.2.2) (fun k => nBlk m - k.1.1) ⟨(0, 0, c), Nat.zero_le _, fun _ => ⟨rfl, rfl⟩⟩ rfl (fun k => by show 2 + 2 ≤ 2 + 4; omega) (R1 := fun s => s = plS4 key m (digs 9 (pAcc (leN (rB key)) m (nBlk m)))) (fun ⟨⟨k, o, q⟩, hk, hoq⟩ => ?_) (fun s' hs => ?_)
  · by_cases hlt : k < nBlk m
    · dsimp only at hk hoq
      obtain ⟨rfl, rfl⟩ := hoq hlt
      have hkm : 16 * k < m.length := by unfold nBlk at hlt; omega
      have hbl : blkN m k < 65536 ^ 9 := by
        unfold blkN
        have h1 := leN_lt ((m.drop (16 * k)).take 16)
        have h2 : ((m.drop (16 * k)).take 16).length ≤ 16 := by rw [List.length_take]; omega
        have h3 := Nat.pow_le_pow_right (n := 256) (by omega) h2
        omega
      obtain ⟨s1, s2, s3, s4⟩ := pl_step key (pAcc (leN (rB key)) m k) (blkN m k) (pAcc_lt _ _ _) hbl
      have be := blk_eq m k c hkm hc
      have hnm : minX (↑(List.length m - (16 : Nat) * k) : Int) (16 : Int) = ((min 16 (m.length - 16 * k) : Nat) : Int) := by unfold minX; split <;> omega
      refine Tri.chg (cx := cxb false) rfl ?_
      refine Tri.step (cx := cxb false) mix T0ok (HPlok B false) 2 0 (orcL [(60, true)]) [0, 1, 5, 8] [2, 2 + 1, 2 + 2, 2 + 3] (2 + 4) (plSt key m (digs 9 (pAcc (leN (rB key)) m k)) k (16 * k) (c - 16 * k)) [decide ((0 : Int) < (↑(List.length m - (16 : Nat) * k) : Int)) = true] (by kernel_rfl) (obCons (by simp; omega) obNil) (by kernel_rfl) ?_
      refine Tri.block (id := 3) rfl (R1 := fun s => ∃ o q, (k + 1 < nBlk m → o = 16 * (k + 1) ∧ q = c - 16 * (k + 1)) ∧ s = plSt key m (digs 9 (pAcc (leN (rB key)) m (k + 1))) (k + 1) o q) ?_ (fun s' ⟨o, q, h1, h2⟩ => Tri.nil ⟨⟨(k + 1, o, q), hlt, h1⟩, by show nBlk m - (k + 1) < nBlk m - k; omega, h2⟩)
      refine Tri.step (cx := cxb false) mix T0ok (HPlok B false) 2 0 noOrc [0, 1, 5, 8, 9, 10] [2, 2 + 1, 2 + 2, 2 + 3, 2 + 4] (2 + 5) (plS2 key m (digs 9 (pAcc (leN (rB key)) m k)) (digs 9 (leN (List.take (Int.toNat (minX (↑(List.length m - (16 : Nat) * k) : Int) (16 : Int)) - Int.toNat (0 : Int)) (List.drop (if c - (16 : Nat) * k = Int.toNat (0 : Int) then (16 : Nat) * k else Int.toNat (0 : Int) + (16 : Nat) * k) m)) + (256 : Nat) ^ List.length (List.take (Int.toNat (minX (↑(List.length m - (16 : Nat) * k) : Int) (16 : Int)) - Int.toNat (0 : Int)) (List.drop (if c - (16 : Nat) * k = Int.toNat (0 : Int) then (16 : Nat) * k else Int.toNat (0 : Int) + (16 : Nat) * k) m)))) k c (minX (↑(List.length m - (16 : Nat) * k) : Int) (16 : Int))) ([(0 : Int) ≤ (0 : Int) ∧ (0 : Int) ≤ minX (↑(List.length m - (16 : Nat) * k) : Int) (16 : Int) ∧ minX (↑(List.length m - (16 : Nat) * k) : Int) (16 : Int) ≤ (↑(c - (16 : Nat) * k) : Int), (if c - (16 : Nat) * k = Int.toNat (0 : Int) then (16 : Nat) * k else Int.toNat (0 : Int) + (16 : Nat) * k) + (Int.toNat (minX (↑(List.length m - (16 : Nat) * k) : Int) (16 : Int)) - Int.toNat (0 : Int)) ≤ List.length m ∧ Int.toNat (minX (↑(List.length m - (16 : Nat) * k) : Int) (16 : Int)) - Int.toNat (0 : Int) ≤ c - (16 : Nat) * k - Int.toNat (0 : Int), List.length (List.take (Int.toNat (minX (↑(List.length m - (16 : Nat) * k) : Int) (16 : Int)) - Int.toNat (0 : Int)) (List.drop (if c - (16 : Nat) * k = Int.toNat (0 : Int) then (16 : Nat) * k else Int.toNat (0 : Int) + (16 : Nat) * k) m)) = List.length (List.take (Int.toNat (minX (↑(List.length m - (16 : Nat) * k) : Int) (16 : Int)) - Int.toNat (0 : Int)) (List.drop (if c - (16 : Nat) * k = Int.toNat (0 : Int) then (16 : Nat) * k else Int.toNat (0 : Int) + (16 : Nat) * k) m)) ∧ True, List.length (List.take (Int.toNat (minX (↑(List.length m - (16 : Nat) * k) : Int) (16 : Int)) - Int.toNat (0 : Int)) (List.drop (if c - (16 : Nat) * k = Int.toNat (0 : Int) then (16 : Nat) * k else Int.toNat (0 : Int) + (16 : Nat) * k) m)) ≤ (16 : Nat)]) (by kernel_rfl) (by
        rw [be, hnm]
        clear s1 s2 s3 s4 hbl be
        (repeat' (first | exact obNil | refine obCons ?_ ?_))
        all_goals first | trivial | (simp only [Int.toNat_zero]; omega) | (simp; omega) | (rw [if_neg (by simp; omega)]; simp; omega)) (by kernel_rfl) ?_
      rw [be, show leN ((m.drop (16 * k)).take 16) + 256 ^ ((m.drop (16 * k)).take 16).length = blkN m k from rfl]
      refine Tri.chg (cx := cxb true) rfl ?_
      refine Tri.code (l' := plIn.drop 2) (by kernel_rfl) ?_
      refine plMidT B key m _ _ k c _ s1 s2 s3 ?_
      refine Tri.code (l' := plIn.drop 9) (by kernel_rfl) ?_
      rw [s4]
      clear s1 s2 s3 s4 hbl be
      refine Tri.chg (cx := cxb false) rfl ?_
      refine Tri.finR (cx := cxb false) mix T0ok (HPlok B false) 0 noOrc [0, 1, 5, 8] [(2, 2), (2 + 1, 2 + 1), (2 + 2, 2 + 2), (2 + 3, 2 + 3)] (2 + 4) .n (St.mk [(nat_lit 0, SV.one (SV0.s (Sc.osl (2) (nat_lit 32)))), (nat_lit 1, SV.one (SV0.s (Sc.sl (2 + 1) (if c - (16 : Nat) * k = Int.toNat (minX (↑(List.length m - (16 : Nat) * k) : Int) (16 : Int)) then (16 : Nat) * k else Int.toNat (minX (↑(List.length m - (16 : Nat) * k) : Int) (16 : Int)) + (16 : Nat) * k) (Int.toNat (↑(List.length m - (16 : Nat) * k) : Int) - Int.toNat (minX (↑(List.length m - (16 : Nat) * k) : Int) (16 : Int))) (c - (16 : Nat) * k - Int.toNat (minX (↑(List.length m - (16 : Nat) * k) : Int) (16 : Int)))))), (nat_lit 5, SV.one (SV0.s (Sc.p (2 + 2) (nat_lit 0)))), (nat_lit 8, SV.one (SV0.s (Sc.p (2 + 3) (nat_lit 0))))] [(2, Seg.mk (nat_lit 32) (SegD.d8 (lit (0 : BitVec (8 : Nat)) (32 : Nat) key)) false false false), (2 + 1, Seg.mk (List.length m) (SegD.d8 m) false false false), (2 + 2, Seg.mk (nat_lit 9) (SegD.d64 (rD key)) true false false), (2 + 3, Seg.mk (nat_lit 9) (SegD.d64 (lit (0 : BitVec (64 : Nat)) (9 : Nat) (digs (9 : Nat) ((pAcc (leN (rB key)) m k + blkN m k) * leN (rB key) % P130)))) true false false)] (2 + 4)) ([(0 : Int) ≤ minX (↑(List.length m - (16 : Nat) * k) : Int) (16 : Int) ∧ minX (↑(List.length m - (16 : Nat) * k) : Int) (16 : Int) ≤ (↑(List.length m - (16 : Nat) * k) : Int) ∧ (↑(List.length m - (16 : Nat) * k) : Int) ≤ (↑(c - (16 : Nat) * k) : Int)]) (by kernel_rfl) (by
        rw [hnm]
        (repeat' (first | exact obNil | refine obCons ?_ ?_))
        all_goals first | trivial | omega | (simp; omega)) ⟨if c - (16 : Nat) * k = Int.toNat (minX (↑(List.length m - (16 : Nat) * k) : Int) (16 : Int)) then (16 : Nat) * k else Int.toNat (minX (↑(List.length m - (16 : Nat) * k) : Int) (16 : Int)) + (16 : Nat) * k, c - (16 : Nat) * k - Int.toNat (minX (↑(List.length m - (16 : Nat) * k) : Int) (16 : Int)), fun h => ?_, ?_⟩
      · have h1 : 16 * (k + 1) < m.length := by unfold nBlk at h; omega
        rw [hnm, Int.toNat_natCast, show min 16 (m.length - 16 * k) = 16 by omega, if_neg (by omega)]
        omega
      · have hL : Int.toNat (↑(List.length m - (16 : Nat) * k) : Int) - Int.toNat (minX (↑(List.length m - (16 : Nat) * k) : Int) (16 : Int)) = m.length - 16 * (k + 1) := by rw [hnm]; omega
        unfold plSt
        rw [← hL]
        rfl
    · obtain rfl : k = nBlk m := by omega
      refine Tri.chg (cx := cxb false) rfl ?_
      exact Tri.fin (cx := cxb false) mix T0ok (HPlok B false) 0 (orcL [(60, false)]) [0, 8] [2, 2 + 1, 2 + 2, 2 + 3] (2 + 4) (.x 2) (plS4 key m (digs 9 (pAcc (leN (rB key)) m (nBlk m)))) [decide ((0 : Int) < (↑(List.length m - (16 : Nat) * nBlk m) : Int)) = false] (by kernel_rfl) (obCons (by unfold nBlk; simp; omega) obNil) (by kernel_rfl) rfl
  · subst hs
    exact plEnd B key m _

theorem poly_out (key m : List (BitVec 8)) (hk : key.length = 32) : spOut 0#64 (lit 0 8 (digs 9 (pAcc (leN (rB key)) m (nBlk m)))) ((lit 0 32 key).drop 16) = poly key m := by
  have hv := Nat.lt_trans (pAcc_lt (leN (rB key)) m (nBlk m)) P130_lt
  unfold poly
  generalize pAcc (leN (rB key)) m (nBlk m) = v at hv
  rw [lit_take (by rw [digs_length]; omega), digs_take 9 8 v (by omega), lit_eq hk, spOut_spec _ _ _ (by rw [digs_length, List.length_drop, hk]) (by decide) (digs_lt 8 v), digs_length, val_digs]
  rw [List.take_of_length_le (show (key.drop 16).length ≤ 16 by rw [List.length_drop, hk]; omega)]
  rw [← bytesN_mod, ← bytesN_mod 16 (v + _)]
  refine congrArg (bytesN 16) ?_
  rw [show (0#64).toNat = 0 from rfl, Nat.zero_add]
  omega

def plA (key m : List (BitVec 8)) : Mem := [(2, ⟨32, .d8 (lit 0 32 key), false, false, false⟩), (2 + 1, ⟨m.length, .d8 m, false, false, false⟩)]
theorem poly1 (B : Nat) (key m : List (BitVec 8)) (c : Nat) (hc : m.length ≤ c) (hl : m.length ≤ 4294967295) : FnE P0 B 2 11 [.one (.s (.osl 2 32)), .one (.s (.sl (2 + 1) 0 m.length c))] (plA key m) (2 + 2) (plE key m (spOut 0#64 (lit 0 8 (digs 9 (pAcc (leN (rB key)) m (nBlk m)))) ((lit 0 32 key).drop 16))) := by
  refine FnE.tri (cx := cxb true) (sz := 152) (fn := Tryz.f11) (c := bodyOf Tryz.f11) T0ok (by kernel_rfl) (by kernel_rfl) (by kernel_rfl) (by kernel_rfl) (by kernel_rfl) (by kernel_rfl) (by show 2 + 2 ≤ 2 + 3; omega) ?_
  refine Tri.step (cx := cxb true) mix T0ok (HPlok B true) 5 20 noOrc [0, 1, 5, 8] [2, 2 + 1, 2 + 2, 2 + 3] (2 + 4) (plSt key m (digs 9 (pAcc (leN (rB key)) m 0)) 0 0 c) [] (by kernel_rfl) obNil (by kernel_rfl) ?_
  exact plLoop B key m c hc hl

theorem poly0 (B : Nat) (key m : List (BitVec 8)) (h0 : m.length = 0) : FnE P0 B 2 11 [.one (.s (.osl 2 32)), .one (.s .sl0)] (plA key m) (2 + 2) (plE key m (spOut 0#64 (lit 0 8 (digs 9 (pAcc (leN (rB key)) m (nBlk m)))) ((lit 0 32 key).drop 16))) := by
  refine FnE.tri (cx := cxb true) (sz := 152) (fn := Tryz.f11) (c := bodyOf Tryz.f11) T0ok (by kernel_rfl) (by kernel_rfl) (by kernel_rfl) (by kernel_rfl) (by kernel_rfl) (by kernel_rfl) (by show 2 + 2 ≤ 2 + 3; omega) ?_
  rw [show nBlk m = 0 by unfold nBlk; omega]
  refine Tri.step (cx := cxb true) mix T0ok (HPlok B true) 6 20 noOrc [0, 8] [2, 2 + 1, 2 + 2, 2 + 3] (2 + 4) (plS4 key m (digs 9 (pAcc (leN (rB key)) m 0))) [] (by kernel_rfl) obNil (by kernel_rfl) ?_
  exact plEnd B key m _

def plCt : Ct := ⟨[.slc false, .slc false], [], fun vs ds gs => match vs, ds, gs with
  | [], [.d8 key, .d8 m], [] => bif Nat.beq key.length 32 then some ⟨.one (.s (.osl (2 + 2) 16)), [.d8 key, .d8 m], [⟨0, .d8 (lit 0 16 (poly key m)), true, true, false⟩], [m.length ≤ 4294967295]⟩ else none
  | _, _, _ => none⟩

theorem poly_ok (B : Nat) : plCt.Ok P0 B 2 11 := by
  intro vs ds gs out h hpre hn
  unfold plCt at h
  dsimp only at h
  split at h <;> first | (cases h; done) | skip
  rename_i key m
  cases hb : Nat.beq key.length 32 with
  | false => rw [hb] at h; cases h
  | true =>
    rw [hb, cond_true] at h
    cases h
    have hk := Nat.eq_of_beq_eq_true hb
    have hl : m.length ≤ 4294967295 := hpre _ (by simp)
    simp only [plCt, canArgs, segsOf, globs, addM, List.length_cons, List.length_nil, SegD.len, hk, Nat.zero_add]
    have e := poly_out key m hk
    refine FnE.slice (A := fun x => [.one (.s (.osl 2 32)), .one (.s x)]) (k := 2 + 1) (n := m.length) (s := ⟨m.length, .d8 m, false, false, false⟩) (fun x y ρ h => by simp [SV.den, SV0.den, h]) (by kernel_rfl) (Nat.le_refl _) (fun c hc => ?_) (fun h0 => ?_)
    · have := poly1 B key m c hc hl
      unfold plA plE at this
      rw [e, lit_eq hk] at this
      rw [lit_eq (poly_length _ _)]
      exact this
    · have := poly0 B key m h0
      unfold plA plE at this
      rw [e, lit_eq hk] at this
      rw [lit_eq (poly_length _ _)]
      exact this
end Go.Sx

set_option maxRecDepth 1000000
set_option linter.unusedVariables false
namespace Go.Sx
open Go.Proofs
def behE (a b : List (BitVec 8)) : Ef := ⟨.one (.s (.osl (2 + 2) (a.length + b.length))), (2 + 2, ⟨0, .d8 (a ++ b), true, true, false⟩) :: isM a b, 2 + 3, .eff, []⟩
theorem beh1 (B : Nat) (a b : List (BitVec 8)) (hl : a.length + b.length ≤ 4294967295) : FnE P0 B 2 5 [.one (.s (.osl 2 a.length)), .one (.s (.osl (2 + 1) b.length))] (isM a b) (2 + 2) (behE a b) := by
  refine FnE.tri (cx := cxb false) (sz := 10) (fn := Tryz.f5) (c := bodyOf Tryz.f5) T0ok (by kernel_rfl) (by kernel_rfl) (by kernel_rfl) (by kernel_rfl) (by kernel_rfl) (by kernel_rfl) (by show 2 + 2 ≤ 2 + 3; omega) ?_
  refine Tri.stepR (cx := cxb false) mix T0ok (H0ok B false) 2 0 noOrc [4] [(2 + 4, 2 + 2), (2, 2), (2 + 1, 2 + 1)] (2 + 3) ⟨[(4, .one (.s (.osl (2 + 2) ((0 : Nat) + a.length + b.length))))], (2 + 2, ⟨0, .d8 (List.replicate (0 : Nat) (0 : BitVec 8) ++ List.take (List.length a) (List.drop (0 : Nat) a) ++ List.take (List.length b) (List.drop (0 : Nat) b)), true, true, false⟩) :: isM a b, 2 + 3⟩
    [(0 : Nat) = List.length (List.replicate (0 : Nat) (0 : BitVec (8 : Nat))) ∧ (0 : Nat) + List.length a ≤ List.length a ∧ (0 : Nat) + List.length a ≤ (4294967296 : Nat),
      (0 : Nat) + List.length a = List.length (List.replicate (0 : Nat) (0 : BitVec (8 : Nat)) ++ List.take (List.length a) (List.drop (0 : Nat) a)) ∧ (0 : Nat) + List.length b ≤ List.length b ∧ (0 : Nat) + List.length a + List.length b ≤ (4294967296 : Nat)] (by kernel_rfl)
    (obCons ⟨rfl, by omega, by omega⟩ <| obCons ⟨by rw [tk0, List.length_append]; rfl, by omega, by omega⟩ obNil) ?_
  rw [tk0, tk0, Nat.zero_add, List.replicate_zero, List.nil_append]
  exact Tri.ret (cx := cxb false) mix T0ok (H0ok B false) 0 noOrc [4] [2 + 2, 2, 2 + 1] (2 + 3) ⟨[(4, .one (.s (.osl (2 + 2) (a.length + b.length))))], (2 + 2, ⟨0, .d8 (a ++ b), true, true, false⟩) :: isM a b, 2 + 3⟩ [] .r (by kernel_rfl) obNil (by kernel_rfl) rfl [2 + 2, 2, 2 + 1] [] (by kernel_rfl) obNil
def behCt : Ct := ⟨[.slc false, .slc false], [], fun vs ds gs => match vs, ds, gs with
  | [], [.d8 a, .d8 b], [] => some ⟨.one (.s (.osl (2 + 2) (a.length + b.length))), [.d8 a, .d8 b], [⟨0, .d8 (a ++ b), true, true, false⟩], [a.length + b.length ≤ 4294967295]⟩
  | _, _, _ => none⟩
theorem beh_ok (B : Nat) : behCt.Ok P0 B 2 5 := by
  intro vs ds gs out h hpre hn
  unfold behCt at h
  dsimp only at h
  split at h <;> first | (cases h; done) | skip
  rename_i a b
  cases h
  exact beh1 B a b (hpre _ (by simp))

noncomputable def HSp (c : Bool) : Hook := hookC 11 (hookOf (cxb c) plCt) (hookC 10 (hookOf (cxb c) ssCt) (H0 c))
theorem HSpok (B : Nat) (c : Bool) : HookOk P0 B 2 (HSp c) := .cons (.ct (cx := cxb c) (poly_ok B)) (.cons (.ct (cx := cxb c) (ssCt_ok B)) (H0ok B c))
def ssM (m : List (BitVec 8)) : Mem := [(2, ⟨m.length, .d8 m, false, false, false⟩)]
def ssAr (m nonce key : List (BitVec 8)) : List SV := [.one (.s (.osl 2 m.length)), .one (.ag [.d8 (lit 0 24 nonce)]), .one (.ag [.d8 (lit 0 32 key)])]
end Go.Sx

set_option maxRecDepth 1000000
set_option linter.unusedVariables false
namespace Go.Sx
open Go.Proofs
def ssS2 (m all : List (BitVec 8)) : St := ⟨[(7, .one (.s (.osl (2 + 1) all.length)))], (2 + 1, ⟨all.length, .d8 all, false, false, false⟩) :: ssM m, 2 + 2⟩
def ssE (m V : List (BitVec 8)) : Ef := ⟨.one (.s (.osl (2 + 1) V.length)), (2 + 1, ⟨0, .d8 V, true, true, false⟩) :: ssM m, 2 + 2, .eff, []⟩
theorem sps2 (B : Nat) (m p E : List (BitVec 8)) (hE : E.length ≤ 4000000000) : Tri P0 B (cxb false) 22 (2 + 1) ((flat (bodyOf Tryz.f6)).drop 2) (ssS2 m (lit 0 32 p ++ E)) (Ret (cxb false) Tryz.f6.results.toList (ssE m (lit 0 16 (poly (lit 0 32 p) E) ++ E))) := by
  have hlp : (lit 0 32 p : List (BitVec 8)).length = 32 := lit_length _ _ _
  have hl : (lit 0 32 p ++ E).length = 32 + E.length := by rw [List.length_append, hlp]
  have e0 : Int.toNat (↑(lit 0 32 p ++ E).length : Int) - Int.toNat (32 : Int) = E.length := by omega
  have e1 : List.drop (Int.toNat (32 : Int)) (lit 0 32 p ++ E) = E := List.drop_left' hlp
  have e2 : List.take (Int.toNat (32 : Int)) (List.drop 0 (lit 0 32 p ++ E)) = lit 0 32 p := by rw [List.drop_zero]; exact List.take_left' hlp
  have e3 : List.take (Int.toNat (↑(lit 0 32 p ++ E).length : Int) - Int.toNat (32 : Int)) (List.drop (Int.toNat (32 : Int)) (lit 0 32 p ++ E)) = E := by rw [e0, e1, List.take_length]
  have e4 : List.take (Int.toNat (↑(lit 0 32 p ++ E).length : Int) - Int.toNat (32 : Int)) (List.drop 0 (List.take (Int.toNat (↑(lit 0 32 p ++ E).length : Int) - Int.toNat (32 : Int)) (List.drop (Int.toNat (32 : Int)) (lit 0 32 p ++ E)))) = E := by rw [e3, List.drop_zero, e0, List.take_length]
  refine Tri.stepR (cx := cxb false) mix T0ok (HSpok B false) 1 0 noOrc [6] [(2 + 5, 2 + 1), (2, 2)] (2 + 2)
    ⟨[(6, .one (.s (.osl (2 + 1) (16 + (Int.toNat (↑(lit 0 32 p ++ E).length : Int) - Int.toNat (32 : Int))))))], (2 + 1, ⟨0, .d8 (lit 0 16 (poly (List.take (Int.toNat (32 : Int)) (List.drop 0 (lit 0 32 p ++ E))) (List.take (Int.toNat (↑(lit 0 32 p ++ E).length : Int) - Int.toNat (32 : Int)) (List.drop 0 (List.take (Int.toNat (↑(lit 0 32 p ++ E).length : Int) - Int.toNat (32 : Int)) (List.drop (Int.toNat (32 : Int)) (lit 0 32 p ++ E)))))) ++ List.take (Int.toNat (↑(lit 0 32 p ++ E).length : Int) - Int.toNat (32 : Int)) (List.drop 0 (List.take (Int.toNat (↑(lit 0 32 p ++ E).length : Int) - Int.toNat (32 : Int)) (List.drop (Int.toNat (32 : Int)) (lit 0 32 p ++ E))))), true, true, false⟩) :: ssM m, 2 + 2⟩
    [(0 : Int) ≤ (32 : Int) ∧ (32 : Int) ≤ (↑(lit 0 32 p ++ E).length : Int) ∧ (32 : Int) ≤ (↑(lit 0 32 p ++ E).length : Int),
     (0 : Int) ≤ (32 : Int) ∧ (32 : Int) ≤ (↑(lit 0 32 p ++ E).length : Int) ∧ (↑(lit 0 32 p ++ E).length : Int) ≤ (↑(lit 0 32 p ++ E).length : Int) ∧ (↑(lit 0 32 p ++ E).length : Int) ≤ (↑(lit 0 32 p ++ E).length : Int),
     Int.toNat (32 : Int) ≤ (lit 0 32 p ++ E).length,
     Int.toNat (↑(lit 0 32 p ++ E).length : Int) - Int.toNat (32 : Int) ≤ List.length (List.take (Int.toNat (↑(lit 0 32 p ++ E).length : Int) - Int.toNat (32 : Int)) (List.drop (Int.toNat (32 : Int)) (lit 0 32 p ++ E))),
     List.length (List.take (Int.toNat (32 : Int)) (List.drop 0 (lit 0 32 p ++ E))) = List.length (List.take (Int.toNat (32 : Int)) (List.drop 0 (lit 0 32 p ++ E))) ∧ List.length (List.take (Int.toNat (↑(lit 0 32 p ++ E).length : Int) - Int.toNat (32 : Int)) (List.drop 0 (List.take (Int.toNat (↑(lit 0 32 p ++ E).length : Int) - Int.toNat (32 : Int)) (List.drop (Int.toNat (32 : Int)) (lit 0 32 p ++ E))))) = List.length (List.take (Int.toNat (↑(lit 0 32 p ++ E).length : Int) - Int.toNat (32 : Int)) (List.drop 0 (List.take (Int.toNat (↑(lit 0 32 p ++ E).length : Int) - Int.toNat (32 : Int)) (List.drop (Int.toNat (32 : Int)) (lit 0 32 p ++ E))))) ∧ True,
     List.length (List.take (Int.toNat (↑(lit 0 32 p ++ E).length : Int) - Int.toNat (32 : Int)) (List.drop 0 (List.take (Int.toNat (↑(lit 0 32 p ++ E).length : Int) - Int.toNat (32 : Int)) (List.drop (Int.toNat (32 : Int)) (lit 0 32 p ++ E))))) ≤ 4294967295,
     (0 : Int) ≤ (32 : Int) ∧ (32 : Int) ≤ (↑(lit 0 32 p ++ E).length : Int) ∧ (↑(lit 0 32 p ++ E).length : Int) ≤ (↑(lit 0 32 p ++ E).length : Int) ∧ (↑(lit 0 32 p ++ E).length : Int) ≤ (↑(lit 0 32 p ++ E).length : Int),
     16 = List.length (lit 0 16 (poly (List.take (Int.toNat (32 : Int)) (List.drop 0 (lit 0 32 p ++ E))) (List.take (Int.toNat (↑(lit 0 32 p ++ E).length : Int) - Int.toNat (32 : Int)) (List.drop 0 (List.take (Int.toNat (↑(lit 0 32 p ++ E).length : Int) - Int.toNat (32 : Int)) (List.drop (Int.toNat (32 : Int)) (lit 0 32 p ++ E))))))) ∧ 0 + (Int.toNat (↑(lit 0 32 p ++ E).length : Int) - Int.toNat (32 : Int)) ≤ List.length (List.take (Int.toNat (↑(lit 0 32 p ++ E).length : Int) - Int.toNat (32 : Int)) (List.drop (Int.toNat (32 : Int)) (lit 0 32 p ++ E))) ∧ 16 + (Int.toNat (↑(lit 0 32 p ++ E).length : Int) - Int.toNat (32 : Int)) ≤ 4294967296]
    (by kernel_rfl)
    (by
      rw [e4, e3, e2, e0, hl]
      exact obCons (by omega) <| obCons (by omega) <| obCons (by show 32 ≤ _; omega) <| obCons (Nat.le_refl _) <| obCons ⟨rfl, rfl, trivial⟩ <| obCons (by omega) <| obCons (by omega) <| obCons ⟨by rw [lit_length], by omega, by omega⟩ obNil) ?_
  rw [e4, e2, e0]
  have hv : 16 + E.length = (lit 0 16 (poly (lit 0 32 p) E) ++ E).length := by rw [List.length_append, lit_length]
  rw [hv]
  exact Tri.ret (cx := cxb false) mix T0ok (H0ok B false) 0 noOrc [6] [2 + 1, 2] (2 + 2) ⟨[(6, .one (.s (.osl (2 + 1) (lit 0 16 (poly (lit 0 32 p) E) ++ E).length)))], (2 + 1, ⟨0, .d8 (lit 0 16 (poly (lit 0 32 p) E) ++ E), true, true, false⟩) :: ssM m, 2 + 2⟩ [] .r (by kernel_rfl) obNil (by kernel_rfl) rfl [2 + 1, 2] [] (by kernel_rfl) obNil
/-- the stream over 32 zeros and a message -/
def allS (nonce key m : List (BitVec 8)) : List (BitVec 8) := strS (List.replicate 32 0 ++ m) (kC nonce) (kK nonce key) (32 + m.length)
theorem allS_length (nonce key m : List (BitVec 8)) : (allS nonce key m).length = 32 + m.length := strS_length _ _ _ _
def spsV (nonce key m : List (BitVec 8)) : List (BitVec 8) := lit 0 16 (poly (lit 0 32 (allS nonce key m)) ((allS nonce key m).drop 32)) ++ (allS nonce key m).drop 32
theorem lit_app {n : Nat} {l : List (BitVec 8)} (h : n ≤ l.length) : lit 0 n l ++ l.drop n = l := by
  have : lit 0 n l = l.take n := by
    apply List.ext_getElem?
    intro i
    unfold lit
    rw [List.getElem?_map]
    rcases Nat.lt_or_ge i n with hi | hi
    · rw [List.getElem?_range hi, List.getElem?_take, if_pos hi]
      simp [List.getD, show i < l.length by omega]
    · rw [List.getElem?_eq_none (by simpa using hi), List.getElem?_take, if_neg (by omega)]; rfl
  rw [this, List.take_append_drop]
theorem sps1 (B : Nat) (m nonce key : List (BitVec 8)) (hm : m.length ≤ 2000000000) : FnE P0 B 2 6 (ssAr m nonce key) (ssM m) (2 + 1) (ssE m (spsV nonce key m)) := by
  refine FnE.tri (cx := cxb false) (sz := 22) (fn := Tryz.f6) (c := bodyOf Tryz.f6) T0ok (by kernel_rfl) (by kernel_rfl) (by kernel_rfl) (by kernel_rfl) (by kernel_rfl) (by kernel_rfl) (by show 2 + 1 ≤ 2 + 2; omega) ?_
  have e0 : List.take (Int.toNat (32 : Int)) (List.drop (0 : Nat) (List.replicate (Int.toNat (32 : Int)) (0 : BitVec (8 : Nat)))) ++ List.take (List.length m) (List.drop (0 : Nat) m) = List.replicate 32 0 ++ m := by rw [tk0]; rfl
  have e1 : List.take (Int.toNat (32 : Int) + List.length m) (List.drop 0 (List.replicate 32 (0 : BitVec 8) ++ m)) = List.replicate 32 0 ++ m := by
    rw [List.drop_zero]; exact List.take_of_length_le (by rw [List.length_append, List.length_replicate]; exact Nat.le_refl _)
  have e2 : (List.replicate 32 (0 : BitVec 8) ++ m).length = 32 + m.length := by rw [List.length_append, List.length_replicate]
  have e3 : List.take (Int.toNat (↑(24 : Nat) : Int) - Int.toNat (0 : Int)) (List.drop (Int.toNat (0 : Int) + (0 : Nat)) (lit (0 : BitVec 8) 24 nonce)) = lit 0 24 nonce := rfl
  refine Tri.stepR (cx := cxb false) mix T0ok (HSpok B false) 2 0 noOrc [7] [(2 + 5, 2 + 1), (2, 2)] (2 + 2)
    ⟨[(7, .one (.s (.osl (2 + 1) (List.length (List.take (Int.toNat (32 : Int) + List.length m) (List.drop (0 : Nat) (List.take (Int.toNat (32 : Int)) (List.drop (0 : Nat) (List.replicate (Int.toNat (32 : Int)) (0 : BitVec (8 : Nat)))) ++ List.take (List.length m) (List.drop (0 : Nat) m))))))))],
     (2 + 1, ⟨0, .d8 (strS (List.take (Int.toNat (32 : Int) + List.length m) (List.drop (0 : Nat) (List.take (Int.toNat (32 : Int)) (List.drop (0 : Nat) (List.replicate (Int.toNat (32 : Int)) (0 : BitVec (8 : Nat)))) ++ List.take (List.length m) (List.drop (0 : Nat) m))))
            (lit (0 : BitVec (8 : Nat)) (16 : Nat) (c24 (List.take (Int.toNat (↑(24 : Nat) : Int) - Int.toNat (0 : Int)) (List.drop (Int.toNat (0 : Int) + (0 : Nat)) (lit (0 : BitVec (8 : Nat)) (24 : Nat) nonce)))))
            (lit (0 : BitVec (8 : Nat)) (32 : Nat) (k24 (List.take (Int.toNat (↑(24 : Nat) : Int) - Int.toNat (0 : Int)) (List.drop (Int.toNat (0 : Int) + (0 : Nat)) (lit (0 : BitVec (8 : Nat)) (24 : Nat) nonce))) (lit (0 : BitVec (8 : Nat)) (32 : Nat) key)))
            (List.length (List.take (Int.toNat (32 : Int) + List.length m) (List.drop (0 : Nat) (List.take (Int.toNat (32 : Int)) (List.drop (0 : Nat) (List.replicate (Int.toNat (32 : Int)) (0 : BitVec (8 : Nat)))) ++ List.take (List.length m) (List.drop (0 : Nat) m)))))), true, true, false⟩) :: ssM m, 2 + 2⟩
    [List.length (lit (0 : BitVec (8 : Nat)) (24 : Nat) nonce) = List.length (List.replicate (24 : Nat) (0 : BitVec (8 : Nat))) ∧ True,
     List.length (lit (0 : BitVec (8 : Nat)) (32 : Nat) key) = List.length (List.replicate (32 : Nat) (0 : BitVec (8 : Nat))) ∧ True,
     (0 : Int) ≤ (0 : Int) ∧ (0 : Int) ≤ (↑(24 : Nat) : Int) ∧ (↑(24 : Nat) : Int) ≤ (↑(24 : Nat) : Int),
     (0 : Int) ≤ (32 : Int) ∧ (32 : Int) = (32 : Int) ∧ (32 : Int) ≤ (281474976710656 : Int) ∧ (↑(1 : Nat) : Int) * (32 : Int) ≤ (281474976710656 : Int),
     Int.toNat (32 : Int) = Int.toNat (32 : Int) ∧ (0 : Nat) + Int.toNat (32 : Int) ≤ Int.toNat (32 : Int) ∧ (0 : Nat) + List.length m ≤ List.length m ∧ Int.toNat (32 : Int) + List.length m ≤ (4294967296 : Nat),
     some (Seg.mk (List.length (List.replicate (32 : Nat) (0 : BitVec (8 : Nat)))) (SegD.d8 (lit (0 : BitVec (8 : Nat)) (32 : Nat) key)) true false !true) = some (Seg.mk (List.length (List.replicate (32 : Nat) (0 : BitVec (8 : Nat)))) (SegD.d8 (lit (0 : BitVec (8 : Nat)) (32 : Nat) key)) true false !true),
     Int.toNat (0 : Int) + (0 : Nat) + (Int.toNat (↑(24 : Nat) : Int) - Int.toNat (0 : Int)) ≤ List.length (lit (0 : BitVec (8 : Nat)) (24 : Nat) nonce) ∧ Int.toNat (↑(24 : Nat) : Int) - Int.toNat (0 : Int) ≤ (24 : Nat) - Int.toNat (0 : Int),
     Int.toNat (32 : Int) + List.length m ≤ List.length (List.take (Int.toNat (32 : Int)) (List.drop (0 : Nat) (List.replicate (Int.toNat (32 : Int)) (0 : BitVec (8 : Nat)))) ++ List.take (List.length m) (List.drop (0 : Nat) m)),
     List.length (List.take (Int.toNat (↑(24 : Nat) : Int) - Int.toNat (0 : Int)) (List.drop (Int.toNat (0 : Int) + (0 : Nat)) (lit (0 : BitVec (8 : Nat)) (24 : Nat) nonce))) = List.length (List.take (Int.toNat (↑(24 : Nat) : Int) - Int.toNat (0 : Int)) (List.drop (Int.toNat (0 : Int) + (0 : Nat)) (lit (0 : BitVec (8 : Nat)) (24 : Nat) nonce))) ∧
       List.length (List.take (Int.toNat (32 : Int) + List.length m) (List.drop (0 : Nat) (List.take (Int.toNat (32 : Int)) (List.drop (0 : Nat) (List.replicate (Int.toNat (32 : Int)) (0 : BitVec (8 : Nat)))) ++ List.take (List.length m) (List.drop (0 : Nat) m)))) = List.length (List.take (Int.toNat (32 : Int) + List.length m) (List.drop (0 : Nat) (List.take (Int.toNat (32 : Int)) (List.drop (0 : Nat) (List.replicate (Int.toNat (32 : Int)) (0 : BitVec (8 : Nat)))) ++ List.take (List.length m) (List.drop (0 : Nat) m)))) ∧ True,
     List.length (List.take (Int.toNat (32 : Int) + List.length m) (List.drop (0 : Nat) (List.take (Int.toNat (32 : Int)) (List.drop (0 : Nat) (List.replicate (Int.toNat (32 : Int)) (0 : BitVec (8 : Nat)))) ++ List.take (List.length m) (List.drop (0 : Nat) m)))) ≤ (4294967295 : Nat)]
    (by kernel_rfl)
    (by
      rw [e0, e1, e2]
      exact obCons ⟨by rw [lit_length]; rfl, trivial⟩ <| obCons ⟨by rw [lit_length]; rfl, trivial⟩ <| obCons (by omega) <| obCons (by omega) <| obCons (by omega) <| obCons rfl <| obCons ⟨by rw [lit_length]; decide, by decide⟩ <| obCons (by show 32 + m.length ≤ _; omega) <| obCons ⟨rfl, rfl, trivial⟩ <| obCons (by omega) obNil) ?_
  rw [e0, e1, e2, e3]
  show Tri _ _ _ _ _ _ ⟨[(7, .one (.s (.osl (2 + 1) (32 + m.length))))], (2 + 1, ⟨0, .d8 (allS nonce key m), true, true, false⟩) :: ssM m, 2 + 2⟩ _
  have hal := allS_length nonce key m
  refine Tri.view (k := 2 + 1) (d := 7) (n := 32 + m.length) (g := ⟨0, .d8 (allS nonce key m), true, true, false⟩) (by kernel_rfl) (by kernel_rfl) (by show _ ≤ (allS nonce key m).length; omega) ?_
  refine Tri.ren (ts := [7]) (ks := [(2 + 2, 2 + 1), (2, 2)]) (nx := 2 + 2) (s' := ⟨[(7, .one (.s (.osl (2 + 1) (32 + m.length))))], (2 + 1, ⟨32 + m.length, .d8 (((allS nonce key m).drop 0).take (32 + m.length)), false, false, false⟩) :: ssM m, 2 + 2⟩) (by kernel_rfl) ?_
  rw [← hal, tk0]
  show Tri _ _ _ _ _ _ (ssS2 m (allS nonce key m)) _
  have e5 := lit_app (n := 32) (l := allS nonce key m) (by omega)
  rw [← e5]
  have := sps2 B m (allS nonce key m) ((allS nonce key m).drop 32) (by rw [List.length_drop]; omega)
  exact this
end Go.Sx

set_option maxRecDepth 1000000
set_option linter.unusedVariables false
namespace Go.Sx
open Go.Proofs
theorem strS_map (inp c k : List (BitVec 8)) : ∀ n, strS inp c k n = (List.range n).map fun j => inp.getD j 0 ^^^ (blk c k (j / 64)).getD (j % 64) 0
  | 0 => rfl
  | n + 1 => by rw [List.range_succ, List.map_append, ← strS_map inp c k n]; rfl
theorem getD_map_range (f : Nat → BitVec 8) {n j : Nat} (h : j < n) : ((List.range n).map f).getD j 0 = f j := by
  simp [List.getD, h]
theorem strS_getD (inp c k : List (BitVec 8)) {n j : Nat} (h : j < n) : (strS inp c k n).getD j 0 = inp.getD j 0 ^^^ (blk c k (j / 64)).getD (j % 64) 0 := by
  rw [strS_map, getD_map_range _ h]
theorem map_range_app (f : Nat → BitVec 8) (a b : Nat) : (List.range (a + b)).map f = (List.range a).map f ++ (List.range b).map fun j => f (a + j) := by
  rw [List.range_add, List.map_append, List.map_map]; rfl
theorem map_range_congr {f g : Nat → BitVec 8} {n : Nat} (h : ∀ j, j < n → f j = g j) : (List.range n).map f = (List.range n).map g :=
  List.map_congr_left fun j hj => h j (List.mem_range.1 hj)
theorem kC_cells (nonce : List (BitVec 8)) : ∃ a0 a1 a2 a3 a4 a5 a6 a7 : BitVec 8, kC nonce = [a0, a1, a2, a3, a4, a5, a6, a7, 0, 0, 0, 0, 0, 0, 0, 0] :=
  ⟨_, _, _, _, _, _, _, _, rfl⟩
theorem kC1_cnt (nonce : List (BitVec 8)) : kC1 nonce = cnt (kC nonce) 1 := by
  unfold kC1
  obtain ⟨a0, a1, a2, a3, a4, a5, a6, a7, h⟩ := kC_cells nonce
  rw [h]
  simp [cnt, pkB, addc, lit, List.range_succ]
theorem blk_kC1 (nonce k : List (BitVec 8)) (i : Nat) : blk (kC1 nonce) k i = blk (kC nonce) k (1 + i) := by
  unfold blk
  rw [kC1_cnt, cnt_cnt]
theorem bI_kC (nonce k : List (BitVec 8)) : bI (kC nonce) k = blk (kC nonce) k 0 := by
  rw [← bI_blk, cnt_zero _ rfl]
/-- a byte of the stream behind the tag's key -/
def ksB (nonce key : List (BitVec 8)) (j : Nat) : BitVec 8 := (blk (kC nonce) (kK nonce key) ((32 + j) / 64)).getD ((32 + j) % 64) 0
theorem kF_getD (nonce key : List (BitVec 8)) {j : Nat} (h : j < 64) : (kF nonce key).getD j 0 = (blk (kC nonce) (kK nonce key) 0).getD j 0 := by
  unfold kF xor64
  rw [getD_map_range _ h, bI_kC]
  have : (List.replicate 64 (0 : BitVec 8)).getD j 0 = 0 := by rw [List.getD_eq_getElem?_getD, List.getElem?_replicate, if_pos h]; rfl
  rw [this]; exact BitVec.zero_xor
theorem sbE_map (nonce key m : List (BitVec 8)) : sbE nonce key m (m32 m.length) = (List.range m.length).map fun j => m.getD j 0 ^^^ ksB nonce key j := by
  have hm := m32_or m.length
  generalize m32 m.length = m0 at *
  have hmm : m0 ≤ m.length := by omega
  obtain ⟨r, hr⟩ : ∃ r, m.length = m0 + r := ⟨m.length - m0, by omega⟩
  unfold sbE
  rw [hr, map_range_app, strS_map, Nat.add_sub_cancel_left]
  congr 1
  · unfold encK
    refine map_range_congr fun j hj => ?_
    rw [kF_getD _ _ (by omega), BitVec.xor_comm]
    unfold ksB
    rw [show (32 + j) / 64 = 0 by omega, show (32 + j) % 64 = 32 + j by omega]
  · refine map_range_congr fun j hj => ?_
    have h0 : m0 = 32 := by omega
    subst h0
    unfold ksB
    rw [blk_kC1, show (32 + (32 + j)) / 64 = 1 + j / 64 by omega, show (32 + (32 + j)) % 64 = j % 64 by omega]
    congr 1
    simp [List.getD]
theorem allS_drop (nonce key m : List (BitVec 8)) : (allS nonce key m).drop 32 = sbE nonce key m (m32 m.length) := by
  rw [sbE_map]
  unfold allS
  rw [strS_map, map_range_app, List.drop_left' (by simp)]
  refine map_range_congr fun j hj => ?_
  unfold ksB
  congr 1
  rw [List.getD_eq_getElem?_getD, List.getElem?_append_right (by simp), List.length_replicate, Nat.add_sub_cancel_left, ← List.getD_eq_getElem?_getD]
theorem lit_congr {n : Nat} {l l' : List (BitVec 8)} (h : ∀ j, j < n → l.getD j 0 = l'.getD j 0) : lit 0 n l = lit 0 n l' := map_range_congr h
theorem allS_key (nonce key m : List (BitVec 8)) : lit 0 32 (allS nonce key m) = kP nonce key := by
  unfold kP
  refine lit_congr fun j hj => ?_
  unfold allS
  rw [strS_getD _ _ _ (by omega), kF_getD _ _ (by omega), show j / 64 = 0 by omega, show j % 64 = j by omega]
  have : (List.replicate 32 (0 : BitVec 8) ++ m).getD j 0 = 0 := by
    rw [List.getD_eq_getElem?_getD, List.getElem?_append_left (by simpa using hj), List.getElem?_replicate, if_pos hj]; rfl
  rw [this]; exact BitVec.zero_xor
/-- the spec's box is the code's, behind nothing -/
theorem spsV_eq (nonce key m : List (BitVec 8)) : spsV nonce key m = sealV nonce key [] m := by
  unfold spsV sealV sealF sbT
  rw [allS_key, allS_drop, List.nil_append]
theorem sealV_app (nonce key a m : List (BitVec 8)) : sealV nonce key a m = a ++ spsV nonce key m := by
  rw [spsV_eq]; unfold sealV sealF; rw [List.nil_append]
theorem sealV_length (nonce key a m : List (BitVec 8)) : (sealV nonce key a m).length = a.length + (m.length + 16) := by
  have hmm : m32 m.length ≤ m.length := by have := m32_or m.length; omega
  unfold sealV sealF sbT
  rw [List.length_append, List.length_append, lit_length, sbE_length _ _ _ hmm, Nat.add_comm 16]
theorem spsV_length (nonce key m : List (BitVec 8)) : (spsV nonce key m).length = m.length + 16 := by
  rw [spsV_eq, sealV_length, List.length_nil, Nat.zero_add]
end Go.Sx

set_option maxRecDepth 1000000
set_option linter.unusedVariables false
namespace Go.Sx
open Go.Proofs
def spsCt : Ct := ⟨[.slc false, .val, .val], [], fun vs ds gs => match vs, ds, gs with
  | [.one (.ag [.d8 nonce]), .one (.ag [.d8 key])], [.d8 m], [] => bif Nat.beq nonce.length 24 && Nat.beq key.length 32 then some ⟨.one (.s (.osl (2 + 1) (spsV nonce key m).length)), [.d8 m], [⟨0, .d8 (spsV nonce key m), true, true, false⟩], [m.length ≤ 2000000000]⟩ else none
  | _, _, _ => none⟩
theorem sps_ok (B : Nat) : spsCt.Ok P0 B 2 6 := by
  intro vs ds gs out hh hpre hn
  unfold spsCt at hh
  dsimp only at hh
  split at hh <;> first | (cases hh; done) | skip
  rename_i nonce key m
  cases hb : (Nat.beq nonce.length 24 && Nat.beq key.length 32) with
  | false => rw [hb] at hh; cases hh
  | true =>
    rw [hb, cond_true] at hh
    cases hh
    simp only [Bool.and_eq_true] at hb
    have h1 := Nat.eq_of_beq_eq_true hb.1
    have h2 := Nat.eq_of_beq_eq_true hb.2
    have := sps1 B m nonce key (hpre _ (by simp))
    unfold ssAr ssM ssE at this
    rw [lit_eq h1, lit_eq h2] at this
    exact this
/-- which way few's test goes, of the first slice and of the second -/
def few2Orc (b c : Bool) : Orc := fun t d => bif Nat.beq d 16 then (match find t 8 with
  | some (.one (.s (.i (.ofNat 0)))) => some (!b)
  | _ => some (!c)) else none
noncomputable def inFew2 (b c : Bool) : In := ⟨Tryz.f4, bodyOf Tryz.f4, 4, .read, few2Orc b c⟩
theorem ioFew2 (b c : Bool) : InOk P0 4 (inFew2 b c) := ⟨by kernel_rfl, by kernel_rfl, by kernel_rfl⟩
end Go.Sx

set_option maxRecDepth 1000000
set_option linter.unusedVariables false
namespace Go.Sx
open Go.Proofs
end Go.Sx
