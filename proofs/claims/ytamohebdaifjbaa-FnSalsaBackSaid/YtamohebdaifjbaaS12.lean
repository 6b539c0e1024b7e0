/- salsa.genericXORKeyStream: states. salsa.genericXORKeyStream. Conditions: none. -/
import Derived.Test.YtamohebdaifjbaaQ1
set_option maxRecDepth 1000000
set_option linter.unusedVariables false
namespace Go.Sx
open Go.Proofs

noncomputable def in28 : In := ⟨Try.f28, bodyOf Try.f28, 0, .new, noOrc⟩
theorem io28 : InOk P0 28 in28 := ⟨by kernel_rfl, by kernel_rfl, by kernel_rfl⟩
noncomputable def HSg (c : Bool) : Hook := hookC 28 (inl (cxb c) (H0 c) in28) (H0 c)
theorem HSgok (B : Nat) (c : Bool) : HookOk P0 B 0 (HSg c) := HookOk.cons (HkOk.inl (cx := cxb c) mix T0ok (H0ok B c) io28) (H0ok B c)
noncomputable def HG (c : Bool) : Hook := hookC 30 (hookOf (cxb c) scCt) (HSg c)
theorem HGok (B : Nat) (c : Bool) : HookOk P0 B 0 (HG c) := .cons (.ct (cx := cxb c) (sc_ok B)) (HSgok B c)

/-- the block of a counter -/
def bI (C key : List (BitVec 8)) : List (BitVec 8) := lit 0 64 (coreI (mxW (lit 0 16 C) key sigma) 10)
theorem bI_blk (ctr key : List (BitVec 8)) (j : Nat) : bI (cnt ctr j) key = blk ctr key j := by unfold bI blk; rw [coreS_eq]

/-- the counter's carry -/
def incU (c : List (BitVec 8)) : Nat → BitVec 32
  | 0 => 1
  | j + 1 => (incU c j + (c.getD (8 + j) 0).setWidth 32) >>> 8
def inc8 (c : List (BitVec 8)) (j : Nat) : BitVec 8 := (incU c j + (c.getD (8 + j) 0).setWidth 32).setWidth 8
def inc (c : List (BitVec 8)) : List (BitVec 8) := [c.getD 0 0, c.getD 1 0, c.getD 2 0, c.getD 3 0, c.getD 4 0, c.getD 5 0, c.getD 6 0, c.getD 7 0, inc8 c 0, inc8 c 1, inc8 c 2, inc8 c 3, inc8 c 4, inc8 c 5, inc8 c 6, inc8 c 7]

theorem incU_le (c : List (BitVec 8)) : ∀ j, (incU c j).toNat ≤ 1
  | 0 => Nat.le_refl 1
  | j + 1 => by
    have h := incU_le c j
    have := (c.getD (8 + j) 0).isLt
    simp only [incU, BitVec.toNat_ushiftRight, BitVec.toNat_add, BitVec.toNat_setWidth, Nat.shiftRight_eq_div_pow]
    omega
theorem incU_succ (c : List (BitVec 8)) (j : Nat) : (incU c (j + 1)).toNat = ((c.getD (8 + j) 0).toNat + (incU c j).toNat) / 256 := by
  have h := incU_le c j
  have := (c.getD (8 + j) 0).isLt
  simp only [incU, BitVec.toNat_ushiftRight, BitVec.toNat_add, BitVec.toNat_setWidth, Nat.shiftRight_eq_div_pow]
  omega
theorem inc8_eq (c : List (BitVec 8)) (j : Nat) : inc8 c j = BitVec.ofNat 8 ((c.getD (8 + j) 0).toNat + (incU c j).toNat) := by
  have h := incU_le c j
  have := (c.getD (8 + j) 0).isLt
  apply BitVec.eq_of_toNat_eq
  simp only [inc8, BitVec.toNat_setWidth, BitVec.toNat_add, BitVec.toNat_ofNat]
  omega
theorem inc_cnt (c : List (BitVec 8)) : inc c = cnt c 1 := by
  have h0 : (incU c 0).toNat = 1 := rfl
  unfold inc cnt
  simp only [inc8_eq, incU_succ, h0]
  simp [pick, addc, List.range_succ]

def gst (inp ctr key : List (BitVec 8)) (n : Nat) (o n' c' m : Nat) (l D b C : List (BitVec 8)) : St := ⟨[(0, .one (.s (.sl 0 o n' c'))), (1, .one (.s (.osl (0 + 6) m))), (3, .one (.s (.p (0 + 3) 0))), (8, .one (.s (.p (0 + 4) 0))), (9, .one (.s (.p (0 + 5) 0)))],
  [(0, ⟨n, .d8 D, true, false, false⟩), (0 + 1, ⟨inp.length, .d8 inp, false, false, false⟩), (0 + 2, ⟨16, .d8 (lit 0 16 ctr), false, false, false⟩), (0 + 3, ⟨32, .d8 (lit 0 32 key), false, false, false⟩), (0 + 4, ⟨64, .d8 (lit 0 64 b), true, false, false⟩), (0 + 5, ⟨16, .d8 (lit 0 16 C), true, false, false⟩), (0 + 6, ⟨m, .d8 l, false, false, false⟩)], 0 + 7⟩
/-- within the rounds over a block -/
def gin (inp ctr key : List (BitVec 8)) (n : Nat) (o n' c' m : Nat) (l D X C : List (BitVec 8)) (k : Nat) : St := ⟨[(0, .one (.s (.sl 0 o n' c'))), (1, .one (.s (.osl (0 + 6) m))), (3, .one (.s (.p (0 + 3) 0))), (8, .one (.s (.p (0 + 4) 0))), (9, .one (.s (.p (0 + 5) 0))), (27, .one (.ag [.d8 (lit 0 64 X)])), (28, .one (.s (.i k)))],
  [(0, ⟨n, .d8 D, true, false, false⟩), (0 + 1, ⟨inp.length, .d8 inp, false, false, false⟩), (0 + 2, ⟨16, .d8 (lit 0 16 ctr), false, false, false⟩), (0 + 3, ⟨32, .d8 (lit 0 32 key), false, false, false⟩), (0 + 4, ⟨64, .d8 (lit 0 64 X), true, false, false⟩), (0 + 5, ⟨16, .d8 (lit 0 16 C), true, false, false⟩), (0 + 6, ⟨m, .d8 l, false, false, false⟩)], 0 + 7⟩
/-- within the last rounds -/
def gla (inp ctr key : List (BitVec 8)) (n : Nat) (o n' c' m : Nat) (l D X C : List (BitVec 8)) (k : Nat) : St := ⟨[(0, .one (.s (.sl 0 o n' c'))), (8, .one (.s (.p (0 + 4) 0))), (68, .one (.s (.osl (0 + 6) m))), (69, .one (.s (.i m))), (70, .one (.s (.i k)))],
  [(0, ⟨n, .d8 D, true, false, false⟩), (0 + 1, ⟨inp.length, .d8 inp, false, false, false⟩), (0 + 2, ⟨16, .d8 (lit 0 16 ctr), false, false, false⟩), (0 + 3, ⟨32, .d8 (lit 0 32 key), false, false, false⟩), (0 + 4, ⟨64, .d8 (lit 0 64 X), true, false, false⟩), (0 + 6, ⟨m, .d8 l, false, false, false⟩)], 0 + 7⟩

def gT : List Nat := [0, 1, 3, 8, 9]
def gK : List Nat := [0, 0 + 1, 0 + 2, 0 + 3, 0 + 4, 0 + 5, 0 + 6]

/-- the first k bytes done -/
def mixS (inp ctr key out : List (BitVec 8)) (k : Nat) : List (BitVec 8) := strS inp ctr key k ++ out.drop k
theorem mixS_length (inp ctr key out : List (BitVec 8)) {k : Nat} (h : k ≤ out.length) : (mixS inp ctr key out k).length = out.length := by
  simp [mixS, strS_length]; omega
theorem mixS_set (inp ctr key out : List (BitVec 8)) {k : Nat} (h : k < out.length) : (mixS inp ctr key out k).set k (inp.getD k 0 ^^^ (blk ctr key (k / 64)).getD (k % 64) 0) = mixS inp ctr key out (k + 1) := by
  unfold mixS
  rw [List.set_append_right _ _ (by rw [strS_length]; omega), strS_length, Nat.sub_self, List.drop_eq_getElem_cons h, List.set_cons_zero]
  simp [strS]
end Go.Sx

set_option maxRecDepth 1000000
set_option linter.unusedVariables false
namespace Go.Sx
open Go.Proofs

theorem mix_step (inp ctr K out X : List (BitVec 8)) (j k : Nat) (h : 64 * j + k < out.length) (hk : k < 64) (hX : lit 0 64 X = blk ctr K j) :
    (mixS inp ctr K out (64 * j + k)).set (k + 64 * j) ((inp.drop (64 * j)).getD k 0 ^^^ (lit 0 64 X).getD k 0) = mixS inp ctr K out (64 * j + (k + 1)) := by
  have := mixS_set inp ctr K out h
  rw [show (64 * j + k) / 64 = j by omega, show (64 * j + k) % 64 = k by omega] at this
  rw [← Nat.add_assoc, ← this, hX, Nat.add_comm k]
  congr 2
  simp [List.getD]

structure GI (inp ctr key out : List (BitVec 8)) (c : Nat) where
  j : Nat
  o : Nat
  n' : Nat
  c' : Nat
  m : Nat
  l : List (BitVec 8)
  D : List (BitVec 8)
  b : List (BitVec 8)
  C : List (BitVec 8)
  hm : m + 64 * j = inp.length
  hl : l = inp.drop (64 * j)
  hD : D = mixS inp ctr (lit 0 32 key) out (64 * j)
  hC : C = cnt ctr j
  hn : n' + 64 * j = out.length
  hc : n' ≤ c'
  ho : 0 < n' → o = 64 * j

def GI.st {inp ctr key out : List (BitVec 8)} {c : Nat} (i : GI inp ctr key out c) : St := gst inp ctr key out.length i.o i.n' i.c' i.m i.l i.D i.b i.C

def gX (key C : List (BitVec 8)) : List (BitVec 8) := coreI (mxW (lit 0 16 C) (lit 0 32 key) sigma) 10
theorem gX_blk (ctr key : List (BitVec 8)) (j : Nat) : lit 0 64 (gX key (cnt ctr j)) = blk ctr (lit 0 32 key) j := bI_blk ctr (lit 0 32 key) j

theorem gen1 (B : Nat) (inp ctr key out : List (BitVec 8)) (c : Nat) (hctr : ctr.length = 16) (hle : inp.length ≤ out.length) (hcap : out.length ≤ c) :
    FnE P0 B 0 26 [.one (.s (.sl 0 0 out.length c)), .one (.s (.osl (0 + 1) inp.length)), .one (.s (.p (0 + 2) 0)), .one (.s (.p (0 + 3) 0))]
      [(0, ⟨out.length, .d8 out, true, false, false⟩), (0 + 1, ⟨inp.length, .d8 inp, false, false, false⟩), (0 + 2, ⟨16, .d8 (lit 0 16 ctr), false, false, false⟩), (0 + 3, ⟨32, .d8 (lit 0 32 key), false, false, false⟩)] (0 + 4)
      ⟨.tup [], [(0, ⟨out.length, .d8 (mixS inp ctr (lit 0 32 key) out inp.length), true, false, false⟩), (0 + 1, ⟨inp.length, .d8 inp, false, false, false⟩), (0 + 2, ⟨16, .d8 (lit 0 16 ctr), false, false, false⟩), (0 + 3, ⟨32, .d8 (lit 0 32 key), false, false, false⟩)], 0 + 4, .eff, []⟩ := by
  refine FnE.tri (cx := cxb false) (sz := 84) (fn := Try.f26) (c := bodyOf Try.f26) T0ok (by kernel_rfl) (by kernel_rfl) (by kernel_rfl) (by kernel_rfl) (by kernel_rfl) (by kernel_rfl) (Nat.le_refl _) ?_
  refine Tri.chg (cx := cxb true) rfl ?_
  refine Tri.step (cx := cxb true) mix T0ok (HGok B true) 3 0 noOrc gT [0, 0 + 1, 0 + 2, 0 + 3, 0 + 4, 0 + 5] (0 + 6) ⟨[(0, .one (.s (.sl 0 0 out.length c))), (1, .one (.s (.osl (0 + 1) inp.length))), (3, .one (.s (.p (0 + 3) 0))), (8, .one (.s (.p (0 + 4) 0))), (9, .one (.s (.p (0 + 5) 0)))],
    [(0, ⟨out.length, .d8 out, true, false, false⟩), (0 + 1, ⟨inp.length, .d8 inp, false, false, false⟩), (0 + 2, ⟨16, .d8 (lit 0 16 ctr), false, false, false⟩), (0 + 3, ⟨32, .d8 (lit 0 32 key), false, false, false⟩), (0 + 4, ⟨64, .d8 (List.replicate 64 0), true, false, false⟩), (0 + 5, ⟨16, .d8 (lit 0 16 ctr), true, false, false⟩)], 0 + 6⟩ [] (by kernel_rfl) obNil (by kernel_rfl) ?_
  refine Tri.twin (k := 0 + 1) (d := 1) (n := inp.length) (g := ⟨inp.length, .d8 inp, false, false, false⟩) (by kernel_rfl) rfl rfl (by kernel_rfl) ?_
  refine Tri.weak (ts := gT) (ks := gK) (nx := 0 + 7) (s' := gst inp ctr key out.length 0 out.length c inp.length inp out [] ctr) (by kernel_rfl) (Nat.le_refl _) ?_
  refine Tri.chg (cx := cxb false) rfl ?_
  refine Tri.loop (id := 0) (ι := GI inp ctr key out c) rfl GI.st (fun i => i.m) ⟨0, 0, out.length, c, inp.length, inp, out, [], ctr, by omega, rfl, rfl, (cnt_zero ctr hctr).symm, by omega, hcap, fun _ => rfl⟩ rfl (fun i => by show 0 + 4 ≤ 0 + 7; omega)
    (R1 := fun s => ∃ i : GI inp ctr key out c, i.m < 64 ∧ s = i.st) (fun i => ?_) (fun s' ⟨i, hi, hs⟩ => ?_)
  · obtain ⟨j, o, n', c', m, l, D, b, C, hm, hl, hD, hC, hn, hc, ho⟩ := i
    by_cases h64 : 64 ≤ m
    · have hn' : 0 < n' := by omega
      have ho' := ho hn'
      have hll : l.length = m := by rw [hl, List.length_drop]; omega
      have hX : lit 0 64 (gX key C) = blk ctr (lit 0 32 key) j := by rw [hC]; exact gX_blk ctr key j
      refine Tri.step (cx := cxb false) mix T0ok (HGok B false) 2 0 (orcL [(23, true)]) gT gK (0 + 7) (gst inp ctr key out.length o n' c' m l D b C) [decide ((64 : Int) ≤ (m : Int)) = true] (by kernel_rfl) (obCons (decide_eq_true (by omega)) obNil) (by kernel_rfl) ?_
      refine Tri.block (id := 1) rfl (R1 := fun s => ∃ i : GI inp ctr key out c, i.m < m ∧ s = i.st) ?_ (fun s' hs => Tri.nil hs)
      refine Tri.chg (cx := cxb true) rfl ?_
      refine Tri.step (cx := cxb true) mix T0ok (HGok B true) 2 0 noOrc [0, 1, 3, 8, 9, 27, 28] gK (0 + 7) (gin inp ctr key out.length o n' c' m l D (gX key C) C 0) [] (by kernel_rfl) obNil (by kernel_rfl) ?_
      refine Tri.chg (cx := cxb false) rfl ?_
      refine Tri.loop (id := 2) (ι := { k : Nat // k ≤ 64 }) rfl (fun k => gin inp ctr key out.length o n' c' m l (mixS inp ctr (lit 0 32 key) out (64 * j + k.1)) (gX key C) C k.1) (fun k => 64 - k.1) ⟨0, Nat.zero_le _⟩ (by rw [hD]; rfl) (fun k => by show 0 + 4 ≤ 0 + 7; omega)
        (R1 := fun s => s = gin inp ctr key out.length o n' c' m l (mixS inp ctr (lit 0 32 key) out (64 * (j + 1))) (gX key C) C 64) (fun ⟨k, hk⟩ => ?_) (fun s' hs => ?_)
      · by_cases hlt : k < 64
        · refine Tri.fin (cx := cxb false) mix T0ok (HGok B false) 0 (orcL [(29, true)]) [0, 1, 3, 8, 9, 27, 28] gK (0 + 7) .n (gin inp ctr key out.length o n' c' m l ((mixS inp ctr (lit 0 32 key) out (64 * j + k)).set (k + o) (l.getD k 0 ^^^ (lit 0 64 (gX key C)).getD k 0)) (gX key C) C (k + 1))
            [decide ((k : Int) < 64) = true, 0 ≤ (k : Int) ∧ (k : Int) < (64 : Nat), Int.toNat k < (lit 0 64 (gX key C)).length, 0 ≤ (k : Int) ∧ (k : Int) < (m : Int) ∧ (k : Int) < (l.length : Int), Int.toNat k + 0 < l.length, 0 ≤ (k : Int) ∧ (k : Int) < (n' : Int), Int.toNat k + o + 1 ≤ out.length, rng ((k : Int) + 1)] (by kernel_rfl)
            (obCons (by simp; omega) <| obCons (by omega) <| obCons (by rw [lit_length]; omega) <| obCons (by omega) <| obCons (by omega) <| obCons (by omega) <| obCons (by omega) <| obCons (by unfold rng; omega) obNil) (by kernel_rfl) ⟨⟨k + 1, hlt⟩, by show 64 - (k + 1) < 64 - k; omega, ?_⟩
          show gin _ _ _ _ _ _ _ _ _ _ _ _ _ = gin _ _ _ _ _ _ _ _ _ _ _ _ _
          rw [hl, ho', mix_step inp ctr (lit 0 32 key) out (gX key C) j k (by omega) hlt hX]
        · obtain rfl : k = 64 := by omega
          refine Tri.fin (cx := cxb false) mix T0ok (HGok B false) 0 (orcL [(29, false)]) [0, 1, 3, 8, 9, 27, 28] gK (0 + 7) (.x 2) (gin inp ctr key out.length o n' c' m l (mixS inp ctr (lit 0 32 key) out (64 * j + 64)) (gX key C) C 64) [decide (((64 : Nat) : Int) < 64) = false] (by kernel_rfl) (obCons (by simp) obNil) (by kernel_rfl) ?_
          show gin _ _ _ _ _ _ _ _ _ _ _ _ _ = gin _ _ _ _ _ _ _ _ _ _ _ _ _
          rw [Nat.mul_succ]
      · subst hs
        refine Tri.chg (cx := cxb true) rfl ?_
        refine Tri.step (cx := cxb true) mix T0ok (HGok B true) 3 9 noOrc gT gK (0 + 7) (gst inp ctr key out.length o n' c' m l (mixS inp ctr (lit 0 32 key) out (64 * (j + 1))) (gX key C) (inc C)) [] (by kernel_rfl) obNil (by kernel_rfl) ?_
        refine Tri.chg (cx := cxb false) rfl ?_
        refine Tri.finR (cx := cxb false) mix T0ok (HGok B false) 0 noOrc gT [(0, 0), (0 + 1, 0 + 1), (0 + 2, 0 + 2), (0 + 3, 0 + 3), (0 + 4, 0 + 4), (0 + 5, 0 + 5), (0 + 7, 0 + 6)] (0 + 7) .n
          (gst inp ctr key out.length (if c' = 64 then o else 64 + o) (n' - 64) (c' - 64) (m - 64) ((l.drop 64).take (m - 64)) (mixS inp ctr (lit 0 32 key) out (64 * (j + 1))) (gX key C) (inc C))
          [0 ≤ (64 : Int) ∧ (64 : Int) ≤ (m : Int) ∧ (m : Int) ≤ (m : Int) ∧ (m : Int) ≤ (l.length : Int), 0 ≤ (64 : Int) ∧ (64 : Int) ≤ (n' : Int) ∧ (n' : Int) ≤ (c' : Int)] (by kernel_rfl) (obCons (by omega) <| obCons (by omega) obNil) ?_
        refine ⟨⟨j + 1, if c' = 64 then o else 64 + o, n' - 64, c' - 64, m - 64, (l.drop 64).take (m - 64), _, gX key C, inc C, by omega, ?_, rfl, by rw [inc_cnt, hC, cnt_cnt], by omega, by omega, fun h => ?_⟩, by show m - 64 < m; omega, rfl⟩
        · rw [hl, List.drop_drop, List.take_of_length_le (by rw [List.length_drop]; omega), Nat.mul_succ]
        · rw [if_neg (by omega)]; omega
    · refine Tri.fin (cx := cxb false) mix T0ok (HGok B false) 0 (orcL [(23, false)]) gT gK (0 + 7) (.x 0) (gst inp ctr key out.length o n' c' m l D b C) [decide ((64 : Int) ≤ (m : Int)) = false] (by kernel_rfl) (obCons (by simp; omega) obNil) (by kernel_rfl) ?_
      exact ⟨⟨j, o, n', c', m, l, D, b, C, hm, hl, hD, hC, hn, hc, ho⟩, by show m < 64; omega, rfl⟩
  · subst hs
    obtain ⟨j, o, n', c', m, l, D, b, C, hm, hl, hD, hC, hn, hc, ho⟩ := i
    have hi : m < 64 := hi
    show Tri P0 B (cxb false) _ _ _ (gst inp ctr key out.length o n' c' m l D b C) _
    refine Tri.step (cx := cxb false) mix T0ok (HGok B false) 1 0 noOrc [0, 1, 3, 8, 9, 64] gK (0 + 7) ⟨[(0, .one (.s (.sl 0 o n' c'))), (1, .one (.s (.osl (0 + 6) m))), (3, .one (.s (.p (0 + 3) 0))), (8, .one (.s (.p (0 + 4) 0))), (9, .one (.s (.p (0 + 5) 0))), (64, .one (.s (.b (decide ((0 : Int) < (m : Int))))))], (gst inp ctr key out.length o n' c' m l D b C).m, 0 + 7⟩ [] (by kernel_rfl) obNil (by kernel_rfl) ?_
    refine Tri.cond (b := decide ((0 : Int) < (m : Int))) rfl (by kernel_rfl) (fun hb => ?_) (fun hb => ?_)
    · have hb : 0 < m := by simpa using hb
      have hn' : 0 < n' := by omega
      have ho' := ho hn'
      have hll : l.length = m := by rw [hl, List.length_drop]; omega
      have hX : lit 0 64 (gX key C) = blk ctr (lit 0 32 key) j := by rw [hC]; exact gX_blk ctr key j
      refine Tri.chg (cx := cxb true) rfl ?_
      refine Tri.step (cx := cxb true) mix T0ok (HGok B true) 2 0 noOrc [0, 8, 68, 69, 70] [0, 0 + 1, 0 + 2, 0 + 3, 0 + 4, 0 + 6] (0 + 7) (gla inp ctr key out.length o n' c' m l D (gX key C) C 0) [] (by kernel_rfl) obNil (by kernel_rfl) ?_
      refine Tri.chg (cx := cxb false) rfl ?_
      refine Tri.loop (id := 6) (ι := { k : Nat // k ≤ m }) rfl (fun k => gla inp ctr key out.length o n' c' m l (mixS inp ctr (lit 0 32 key) out (64 * j + k.1)) (gX key C) C k.1) (fun k => m - k.1) ⟨0, Nat.zero_le _⟩ (by rw [hD]; rfl) (fun k => by show 0 + 4 ≤ 0 + 7; omega)
        (R1 := fun s => s = gla inp ctr key out.length o n' c' m l (mixS inp ctr (lit 0 32 key) out inp.length) (gX key C) C m) (fun ⟨k, hk⟩ => ?_) (fun s' hs => ?_)
      · by_cases hlt : k < m
        · refine Tri.fin (cx := cxb false) mix T0ok (HGok B false) 0 (orcL [(71, true)]) [0, 8, 68, 69, 70] [0, 0 + 1, 0 + 2, 0 + 3, 0 + 4, 0 + 6] (0 + 7) .n (gla inp ctr key out.length o n' c' m l ((mixS inp ctr (lit 0 32 key) out (64 * j + k)).set (k + o) (l.getD k 0 ^^^ (lit 0 64 (gX key C)).getD k 0)) (gX key C) C (k + 1))
            [decide ((k : Int) < (m : Int)) = true, 0 ≤ (k : Int) ∧ (k : Int) < (m : Int) ∧ (k : Int) < (l.length : Int), Int.toNat k + 0 < l.length, 0 ≤ (k : Int) ∧ (k : Int) < (64 : Nat), Int.toNat k + 0 < (lit 0 64 (gX key C)).length, 0 ≤ (k : Int) ∧ (k : Int) < (n' : Int), Int.toNat k + o + 1 ≤ out.length, rng ((k : Int) + 1)] (by kernel_rfl)
            (obCons (by simp; omega) <| obCons (by omega) <| obCons (by omega) <| obCons (by omega) <| obCons (by rw [lit_length]; omega) <| obCons (by omega) <| obCons (by omega) <| obCons (by unfold rng; omega) obNil) (by kernel_rfl) ⟨⟨k + 1, hlt⟩, by show m - (k + 1) < m - k; omega, ?_⟩
          show gla _ _ _ _ _ _ _ _ _ _ _ _ _ = gla _ _ _ _ _ _ _ _ _ _ _ _ _
          rw [hl, ho', mix_step inp ctr (lit 0 32 key) out (gX key C) j k (by omega) (by omega) hX]
        · obtain rfl : k = m := by omega
          refine Tri.fin (cx := cxb false) mix T0ok (HGok B false) 0 (orcL [(71, false)]) [0, 8, 68, 69, 70] [0, 0 + 1, 0 + 2, 0 + 3, 0 + 4, 0 + 6] (0 + 7) (.x 6) (gla inp ctr key out.length o n' c' k l (mixS inp ctr (lit 0 32 key) out (64 * j + k)) (gX key C) C k) [decide ((k : Int) < (k : Int)) = false] (by kernel_rfl) (obCons (by simp) obNil) (by kernel_rfl) ?_
          show gla _ _ _ _ _ _ _ _ _ _ _ _ _ = gla _ _ _ _ _ _ _ _ _ _ _ _ _
          rw [show 64 * j + k = inp.length by omega]
      · subst hs
        exact Tri.ret (cx := cxb false) mix T0ok (HGok B false) 0 noOrc [] [0, 0 + 1, 0 + 2, 0 + 3] (0 + 7) ⟨[], [(0, ⟨out.length, .d8 (mixS inp ctr (lit 0 32 key) out inp.length), true, false, false⟩), (0 + 1, ⟨inp.length, .d8 inp, false, false, false⟩), (0 + 2, ⟨16, .d8 (lit 0 16 ctr), false, false, false⟩), (0 + 3, ⟨32, .d8 (lit 0 32 key), false, false, false⟩)], 0 + 7⟩ [] .n (by kernel_rfl) obNil (by kernel_rfl) rfl [0, 0 + 1, 0 + 2, 0 + 3] [] (by kernel_rfl) obNil
    · have hb : m = 0 := by simpa using hb
      have hD' : D = mixS inp ctr (lit 0 32 key) out inp.length := by rw [hD, show 64 * j = inp.length by omega]
      rw [hD']
      exact Tri.ret (cx := cxb false) mix T0ok (HGok B false) 0 noOrc [] [0, 0 + 1, 0 + 2, 0 + 3] (0 + 7) ⟨[], [(0, ⟨out.length, .d8 (mixS inp ctr (lit 0 32 key) out inp.length), true, false, false⟩), (0 + 1, ⟨inp.length, .d8 inp, false, false, false⟩), (0 + 2, ⟨16, .d8 (lit 0 16 ctr), false, false, false⟩), (0 + 3, ⟨32, .d8 (lit 0 32 key), false, false, false⟩)], 0 + 7⟩ [] .n (by kernel_rfl) obNil (by kernel_rfl) rfl [0, 0 + 1, 0 + 2, 0 + 3] [] (by kernel_rfl) obNil

theorem gen0 (B : Nat) (ctr key : List (BitVec 8)) :
    FnE P0 B 0 26 [.one (.s .sl0), .one (.s (.osl (0 + 1) 0)), .one (.s (.p (0 + 2) 0)), .one (.s (.p (0 + 3) 0))]
      [(0, ⟨0, .d8 [], true, false, false⟩), (0 + 1, ⟨0, .d8 [], false, false, false⟩), (0 + 2, ⟨16, .d8 (lit 0 16 ctr), false, false, false⟩), (0 + 3, ⟨32, .d8 (lit 0 32 key), false, false, false⟩)] (0 + 4)
      ⟨.tup [], [(0, ⟨0, .d8 [], true, false, false⟩), (0 + 1, ⟨0, .d8 [], false, false, false⟩), (0 + 2, ⟨16, .d8 (lit 0 16 ctr), false, false, false⟩), (0 + 3, ⟨32, .d8 (lit 0 32 key), false, false, false⟩)], 0 + 4, .eff, []⟩ := by
  refine FnE.tri (cx := cxb true) (sz := 84) (fn := Try.f26) (c := bodyOf Try.f26) T0ok (by kernel_rfl) (by kernel_rfl) (by kernel_rfl) (by kernel_rfl) (by kernel_rfl) (by kernel_rfl) (Nat.le_refl _) ?_
  exact Tri.ret (cx := cxb true) mix T0ok (HGok B true) 2 noOrc [] [0, 0 + 1, 0 + 2, 0 + 3] (0 + 6) ⟨[], [(0, ⟨0, .d8 [], true, false, false⟩), (0 + 1, ⟨0, .d8 [], false, false, false⟩), (0 + 2, ⟨16, .d8 (lit 0 16 ctr), false, false, false⟩), (0 + 3, ⟨32, .d8 (lit 0 32 key), false, false, false⟩)], 0 + 6⟩ [] .n (by kernel_rfl) obNil (by kernel_rfl) rfl [0, 0 + 1, 0 + 2, 0 + 3] [] (by kernel_rfl) obNil

def genCt : Ct := ⟨[.slc true, .slc false, .ptr 16 false, .ptr 32 false], [], fun vs ds gs => match vs, ds, gs with
  | [], [.d8 out, .d8 inp, .d8 ctr, .d8 key], [] => bif Nat.beq ctr.length 16 && Nat.beq key.length 32 then some ⟨.tup [], [.d8 (mixS inp ctr key out inp.length), .d8 inp, .d8 ctr, .d8 key], [], [inp.length ≤ out.length]⟩ else none
  | _, _, _ => none⟩

theorem gen_ok (B : Nat) : genCt.Ok P0 B 0 26 := by
  intro vs ds gs o h hpre hn
  unfold genCt at h
  dsimp only at h
  split at h <;> first | (cases h; done) | skip
  rename_i out inp ctr key
  cases hb : (Nat.beq ctr.length 16 && Nat.beq key.length 32) with
  | false => rw [hb] at h; cases h
  | true =>
    rw [hb, cond_true] at h
    cases h
    simp only [Bool.and_eq_true] at hb
    have hle : inp.length ≤ out.length := hpre _ (by simp)
    have h1 := Nat.eq_of_beq_eq_true hb.1
    have h2 := Nat.eq_of_beq_eq_true hb.2
    have hm : (mixS inp ctr key out inp.length).length = out.length := mixS_length inp ctr key out hle
    simp only [genCt, canArgs, segsOf, globs, addM, List.length_cons, List.length_nil, SegD.len, h1, h2, hm, Nat.add_zero]
    refine FnE.slice (A := fun x => [.one (.s x), .one (.s (.osl (0 + 1) inp.length)), .one (.s (.p (0 + 2) 0)), .one (.s (.p (0 + 3) 0))]) (k := 0) (n := out.length) (s := ⟨out.length, .d8 out, true, false, false⟩) (fun x y ρ h => by simp [SV.den, SV0.den, h]) (by kernel_rfl) (Nat.le_refl _) (fun c hc => ?_) (fun h0 => ?_)
    · have := gen1 B inp ctr key out c h1 hle hc
      rw [lit_eq h1, lit_eq h2] at this
      exact this
    · have e1 : out = [] := List.eq_nil_of_length_eq_zero h0
      subst e1
      have e2 : inp = [] := List.eq_nil_of_length_eq_zero (by simpa using hle)
      subst e2
      have := gen0 B ctr key
      rw [lit_eq h1, lit_eq h2] at this
      exact this
end Go.Sx
