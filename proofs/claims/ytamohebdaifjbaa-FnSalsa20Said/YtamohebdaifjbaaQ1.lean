/- Counters: bytes, the lowest first, with a number added. Conditions: none; plain definitions and theorems. The spec's counter and stream. spec.Stream. slices.Clone, laws.same, laws.few. Conditions: none. -/
import Derived.Test.YtamohebdaifjbaaS8
set_option linter.unusedVariables false
namespace Go.Sx

/-- bytes, the lowest first, with n added -/
def addc : List (BitVec 8) → Nat → List (BitVec 8)
  | [], _ => []
  | b :: r, n => BitVec.ofNat 8 (b.toNat + n) :: addc r ((b.toNat + n) / 256)

theorem addc_length : ∀ (l : List (BitVec 8)) (n : Nat), (addc l n).length = l.length
  | [], _ => rfl
  | b :: r, n => by simp [addc, addc_length r]

theorem addc_zero : ∀ (l : List (BitVec 8)), addc l 0 = l
  | [] => rfl
  | b :: r => by
    have h := b.isLt
    have : (b.toNat + 0) / 256 = 0 := by omega
    simp only [addc, this, addc_zero r]
    simp

theorem addc_add : ∀ (l : List (BitVec 8)) (a b : Nat), addc (addc l a) b = addc l (a + b)
  | [], _, _ => rfl
  | x :: r, a, b => by
    simp only [addc, addc_add r]
    congr 1
    · apply BitVec.eq_of_toNat_eq
      simp only [BitVec.toNat_ofNat]
      omega
    · congr 1
      simp only [BitVec.toNat_ofNat]
      omega

/-- the counter's last eight bytes, n added -/
def cnt (c : List (BitVec 8)) (n : Nat) : List (BitVec 8) := pick c 0 8 ++ addc (pick c 8 8) n
theorem cnt_length (c : List (BitVec 8)) (n : Nat) : (cnt c n).length = 16 := by simp [cnt, pick_length, addc_length]
theorem pick_app_left (a b : List (BitVec 8)) (h : a.length = 8) : pick (a ++ b) 0 8 = a := by
  apply List.ext_getElem?
  intro i
  simp only [pick, Nat.zero_add, List.getElem?_map]
  rcases Nat.lt_or_ge i 8 with hi | hi
  · rw [List.getElem?_range hi]
    simp [List.getD, List.getElem?_append_left (show i < a.length by omega), show i < a.length by omega]
  · rw [List.getElem?_eq_none (by simpa using hi), List.getElem?_eq_none (by omega)]; rfl
theorem pick_app_right (a b : List (BitVec 8)) (h : a.length = 8) (hb : b.length = 8) : pick (a ++ b) 8 8 = b := by
  apply List.ext_getElem?
  intro i
  simp only [pick, List.getElem?_map]
  rcases Nat.lt_or_ge i 8 with hi | hi
  · rw [List.getElem?_range hi]
    simp [List.getD, h, show 8 + i - 8 = i by omega, show i < b.length by omega]
  · rw [List.getElem?_eq_none (by simpa using hi), List.getElem?_eq_none (by omega)]; rfl
theorem cnt_cnt (c : List (BitVec 8)) (a b : Nat) : cnt (cnt c a) b = cnt c (a + b) := by
  have h1 : pick (cnt c a) 0 8 = pick c 0 8 := pick_app_left _ _ (pick_length _ _ _)
  have h2 : pick (cnt c a) 8 8 = addc (pick c 8 8) a := pick_app_right _ _ (pick_length _ _ _) (by rw [addc_length, pick_length])
  show pick (cnt c a) 0 8 ++ addc (pick (cnt c a) 8 8) b = _
  rw [h1, h2, addc_add]; rfl
theorem cnt_zero (c : List (BitVec 8)) (h : c.length = 16) : cnt c 0 = c := by
  unfold cnt
  rw [addc_zero]
  apply List.ext_getElem?
  intro i
  rcases Nat.lt_or_ge i 8 with hi | hi
  · rw [List.getElem?_append_left (by rw [pick_length]; exact hi)]
    simp only [pick, Nat.zero_add, List.getElem?_map]
    rw [List.getElem?_range hi]
    simp [List.getD, show i < c.length by omega]
  · rw [List.getElem?_append_right (by rw [pick_length]; exact hi), pick_length]
    simp only [pick, List.getElem?_map]
    rcases Nat.lt_or_ge i 16 with h2 | h2
    · rw [List.getElem?_range (by omega)]
      simp [List.getD, show 8 + (i - 8) = i by omega, show i < c.length by omega]
    · rw [List.getElem?_eq_none (by simp; omega), List.getElem?_eq_none (by omega)]; rfl

/-- the spec's loop: the number that is carried, and the bytes -/
def cs (c : List (BitVec 8)) (n : Nat) : Nat → Nat × List (BitVec 8)
  | 0 => (n, c)
  | j + 1 => (((cs c n j).1 + ((cs c n j).2.getD (8 + j) 0).toNat) / 256, (cs c n j).2.set (8 + j) (BitVec.ofInt 8 (((cs c n j).1 + ((cs c n j).2.getD (8 + j) 0).toNat : Nat) : Int)))
theorem cs_length (c : List (BitVec 8)) (n : Nat) : ∀ j, (cs c n j).2.length = c.length
  | 0 => rfl
  | j + 1 => by simp [cs, cs_length c n j]
theorem cs_le (c : List (BitVec 8)) (n : Nat) : ∀ j, (cs c n j).1 ≤ n + 255
  | 0 => by simp [cs]
  | j + 1 => by
    have h := cs_le c n j
    have := ((cs c n j).2.getD (8 + j) 0).isLt
    simp only [cs]
    omega
theorem cs_cnt (c : List (BitVec 8)) (n : Nat) (h : c.length = 16) : (cs c n 8).2 = cnt c n := by
  match c, h with
  | [c0, c1, c2, c3, c4, c5, c6, c7, c8, c9, c10, c11, c12, c13, c14, c15], _ =>
    have e : ∀ m : Nat, BitVec.ofInt 8 (m : Int) = BitVec.ofNat 8 m := fun m => BitVec.ofInt_natCast 8 m
    simp only [cs, e]
    simp [cnt, pick, addc, List.range_succ, Nat.add_comm]
end Go.Sx

set_option maxRecDepth 1000000
set_option linter.unusedVariables false
namespace Go.Sx
open Go.Proofs

theorem rng_add8 {a : Int} (x : BitVec 8) (h0 : 0 ≤ a) (h1 : a ≤ 4611686018427387904) : rng (a + (x.toNat : Int)) := by
  have := x.isLt
  unfold rng; omega

def cntSt (c : List (BitVec 8)) (n j : Nat) : St := ⟨[(1, .one (.s (.i (cs c n j).1))), (2, .one (.s (.p 0 0))), (4, .one (.s (.p (0 + 1) 0))), (5, .one (.s (.i (8 + j : Nat))))], [(0, ⟨16, .d8 (cs c n j).2, true, false, false⟩), (0 + 1, ⟨16, .d8 (List.replicate 16 0), true, false, false⟩)], 0 + 2⟩

theorem counted1 (B : Nat) (c : List (BitVec 8)) (n : Nat) (hc : c.length = 16) (hn : n ≤ 1099511627776) : FnE P0 B 0 20 [.one (.ag [.d8 c]), .one (.s (.i n))] [] 0 ⟨.one (.ag [.d8 (lit 0 16 (cs c n 8).2)]), [], 0, .eff, []⟩ := by
  refine FnE.tri (cx := cxb false) (sz := 23) (fn := Try.f20) (c := bodyOf Try.f20) T0ok (by kernel_rfl) (by kernel_rfl) (by kernel_rfl) (by kernel_rfl) (by kernel_rfl) (by kernel_rfl) (Nat.le_refl _) ?_
  refine Tri.step (cx := cxb false) mix T0ok (HQok B false) 2 0 noOrc [1, 2, 4, 5] [0, 0 + 1] (0 + 2) (cntSt c n 0) [lensEq [.d8 (List.replicate 16 0)] [.d8 c]] (by kernel_rfl) (obCons ⟨by simpa [SegD.len] using hc, trivial⟩ obNil) (by kernel_rfl) ?_
  refine Tri.loop (id := 0) (ι := { j : Nat // j ≤ 8 }) rfl (fun j => cntSt c n j.1) (fun j => 8 - j.1) ⟨0, Nat.zero_le _⟩ rfl (fun j => Nat.le_add_right _ _) (R1 := fun s => s = cntSt c n 8) (fun ⟨j, hj⟩ => ?_) (fun s' hs => ?_)
  · by_cases hlt : j < 8
    · have hl := cs_length c n j
      have hle := cs_le c n j
      refine Tri.fin (cx := cxb false) mix T0ok (HQok B false) 0 (orcL [(7, true)]) [1, 2, 4, 5] [0, 0 + 1] (0 + 2) .n (cntSt c n (j + 1)) [decide (((8 + j : Nat) : Int) < 16) = true, 0 ≤ ((8 + j : Nat) : Int) ∧ ((8 + j : Nat) : Int) < (16 : Nat),
        Int.toNat (8 + j : Nat) + 0 < (cs c n j).2.length, rng (((cs c n j).1 : Int) + (((cs c n j).2.getD (Int.toNat (8 + j : Nat) + 0) 0).toNat : Int)), 0 ≤ ((8 + j : Nat) : Int) ∧ ((8 + j : Nat) : Int) < (16 : Nat), Int.toNat (8 + j : Nat) + 0 + 1 ≤ 16, (8#64).toNat ≤ 63, rng (((8 + j : Nat) : Int) + 1)] (by kernel_rfl)
        (obCons (by simp; omega) <| obCons (by omega) <| obCons (by omega) <| obCons (rng_add8 _ (by omega) (by omega)) <| obCons (by omega) <| obCons (by omega) <| obCons (by decide) <| obCons (by unfold rng; omega) obNil) (by kernel_rfl) ⟨⟨j + 1, hlt⟩, by show 8 - (j + 1) < 8 - j; omega, rfl⟩
    · obtain rfl : j = 8 := by omega
      exact Tri.fin (cx := cxb false) mix T0ok (HQok B false) 0 noOrc [1, 2, 4, 5] [0, 0 + 1] (0 + 2) (.x 0) (cntSt c n 8) [] (by kernel_rfl) obNil (by kernel_rfl) (by simp)
  · have e : cntSt c n 8 = ⟨[(1, .one (.s (.i (cs c n 8).1))), (2, .one (.s (.p 0 0))), (4, .one (.s (.p (0 + 1) 0))), (5, .one (.s (.i (8 + 8 : Nat))))], [(0, ⟨16, .d8 (lit 0 16 (cs c n 8).2), true, false, false⟩), (0 + 1, ⟨16, .d8 (List.replicate 16 0), true, false, false⟩)], 0 + 2⟩ := by
      unfold cntSt; rw [lit_eq ((cs_length c n 8).trans hc)]
    rw [hs, e]
    exact Tri.ret (cx := cxb false) mix T0ok (HQok B false) 0 noOrc [4] [0 + 1] (0 + 2) ⟨[(4, .one (.s (.p (0 + 1) 0)))], [(0 + 1, ⟨16, .d8 (lit 0 16 (cs c n 8).2), true, false, false⟩)], 0 + 2⟩ [] .r (by kernel_rfl) obNil (by kernel_rfl) rfl [] [] (by kernel_rfl) obNil

def countedCt : Ct := ⟨[.val, .val], [], fun vs ds gs => match vs, ds, gs with
  | [.one (.ag [.d8 c]), .one (.s (.i (.ofNat n)))], [], [] => bif Nat.beq c.length 16 then some ⟨.one (.ag [.d8 (lit 0 16 (cnt c n))]), [], [], [n ≤ 1099511627776]⟩ else none
  | _, _, _ => none⟩

theorem counted_ok (B : Nat) : countedCt.Ok P0 B 0 20 := by
  intro vs ds gs out h hpre hn
  unfold countedCt at h
  dsimp only at h
  split at h <;> first | (cases h; done) | skip
  rename_i c n
  cases hb : (Nat.beq c.length 16) with
  | false => rw [hb] at h; cases h
  | true =>
    rw [hb, cond_true] at h
    cases h
    have hc := Nat.eq_of_beq_eq_true hb
    have hle : n ≤ 1099511627776 := hpre _ (by simp)
    have := counted1 B c n hc hle
    rw [cs_cnt c n hc] at this
    exact this

/-- block n of a key's stream from a counter on -/
def sigma : List (BitVec 8) := [101, 120, 112, 97, 110, 100, 32, 51, 50, 45, 98, 121, 116, 101, 32, 107]
def blk (ctr key : List (BitVec 8)) (n : Nat) : List (BitVec 8) := lit 0 64 (coreS (mxW (lit 0 16 (cnt ctr n)) key sigma) 10)

noncomputable def HB (c : Bool) : Hook := hookC 20 (hookOf (cxb c) countedCt) (hookC 19 (hookOf (cxb c) matrixCt) (hookC 16 (hookOf (cxb c) core10Ct) (H0 c)))
theorem HBok (B : Nat) (c : Bool) : HookOk P0 B 0 (HB c) := .cons (.ct (cx := cxb c) (counted_ok B)) (.cons (.ct (cx := cxb c) (matrix_ok B)) (.cons (.ct (cx := cxb c) (core10_ok B)) (H0ok B c)))

def sst (inp ctr key : List (BitVec 8)) (j : Nat) (b o : List (BitVec 8)) : St :=
  ⟨[(4, .one (.s (.p (0 + 1) 0))), (5, .one (.s (.p (0 + 2) 0))), (7, .one (.s (.osl (0 + 3) j))), (8, .one (.s (.p (0 + 4) 0))), (13, .one (.s (.osl 0 inp.length))), (14, .one (.s (.i inp.length))), (15, .one (.s (.i j)))],
   [(0, ⟨inp.length, .d8 inp, false, false, false⟩), (0 + 1, ⟨16, .d8 (lit 0 16 ctr), true, false, false⟩), (0 + 2, ⟨32, .d8 (lit 0 32 key), true, false, false⟩), (0 + 3, ⟨0, .d8 o, true, true, false⟩), (0 + 4, ⟨64, .d8 b, true, false, false⟩)], 0 + 5⟩
end Go.Sx

set_option maxRecDepth 1000000
set_option linter.unusedVariables false
namespace Go.Sx
open Go.Proofs

/-- the stream added to the first j bytes -/
def strS (inp ctr key : List (BitVec 8)) : Nat → List (BitVec 8)
  | 0 => []
  | j + 1 => strS inp ctr key j ++ [inp.getD j 0 ^^^ (blk ctr key (j / 64)).getD (j % 64) 0]
theorem strS_length (inp ctr key : List (BitVec 8)) : ∀ j, (strS inp ctr key j).length = j
  | 0 => rfl
  | j + 1 => by simp [strS, strS_length inp ctr key j]

def strT : List Nat := [4, 5, 7, 8, 13, 14, 15]

structure StrI (inp ctr key : List (BitVec 8)) where
  j : Nat
  b : List (BitVec 8)
  o : List (BitVec 8)
  le : j ≤ inp.length
  ho : o = strS inp ctr key j
  hb : b.length = 64
  hk : j % 64 ≠ 0 → b = blk ctr key (j / 64)

theorem stream1 (B : Nat) (inp ctr key : List (BitVec 8)) (hlen : inp.length ≤ 4294967295) : FnE P0 B 0 12 [.one (.s (.osl 0 inp.length)), .one (.ag [.d8 (lit 0 16 ctr)]), .one (.ag [.d8 (lit 0 32 key)])] [(0, ⟨inp.length, .d8 inp, false, false, false⟩)] (0 + 1)
    ⟨.one (.s (.osl (0 + 1) inp.length)), [(0 + 1, ⟨0, .d8 (strS inp (lit 0 16 ctr) (lit 0 32 key) inp.length), true, true, false⟩), (0, ⟨inp.length, .d8 inp, false, false, false⟩)], 0 + 2, .eff, []⟩ := by
  refine FnE.tri (cx := cxb false) (sz := 41) (fn := Try.f12) (c := bodyOf Try.f12) T0ok (by kernel_rfl) (by kernel_rfl) (by kernel_rfl) (by kernel_rfl) (by kernel_rfl) (by kernel_rfl) (by show 0 + 1 ≤ 0 + 2; omega) ?_
  refine Tri.step (cx := cxb false) mix T0ok (HBok B false) 4 0 noOrc strT [0, 0 + 1, 0 + 2, 0 + 3, 0 + 4] (0 + 5) (sst inp ctr key 0 (List.replicate 64 0) []) [(lit 0 16 ctr).length = (List.replicate 16 (0 : BitVec 8)).length ∧ True, (lit 0 32 key).length = (List.replicate 32 (0 : BitVec 8)).length ∧ True] (by kernel_rfl)
    (obCons (by simp [lit_length]) <| obCons (by simp [lit_length]) obNil) (by kernel_rfl) ?_
  refine Tri.loop (id := 0) (ι := StrI inp (lit 0 16 ctr) (lit 0 32 key)) rfl (fun i => sst inp ctr key i.j i.b i.o) (fun i => inp.length - i.j) ⟨0, List.replicate 64 0, [], Nat.zero_le _, rfl, by simp, fun h => absurd rfl h⟩ rfl (fun i => by show 0 + 1 ≤ 0 + 5; omega)
    (R1 := fun s => s = ⟨[(7, .one (.s (.osl (0 + 1) inp.length)))], [(0, ⟨inp.length, .d8 inp, false, false, false⟩), (0 + 1, ⟨0, .d8 (strS inp (lit 0 16 ctr) (lit 0 32 key) inp.length), true, true, false⟩)], 0 + 2⟩) (fun ⟨j, b, o, le, ho, hb, hk⟩ => ?_) (fun s' hs => ?_)
  · by_cases hlt : j < inp.length
    · have hol : o.length = j := by rw [ho, strS_length]
      by_cases h64 : j % 64 = 0
      · refine Tri.finR (cx := cxb false) mix T0ok (HBok B false) 0 (orcL [(16, true), (22, true)]) strT [(0, 0), (0 + 1, 0 + 1), (0 + 2, 0 + 2), (0 + 6, 0 + 3), (0 + 4, 0 + 4)] (0 + 5) .n (sst inp ctr key (j + 1) (blk (lit 0 16 ctr) (lit 0 32 key) (j / 64)) (o ++ [inp.getD j 0 ^^^ (blk (lit 0 16 ctr) (lit 0 32 key) (j / 64)).getD (j % 64) 0]))
          [decide ((j : Int) < (inp.length : Int)) = true, 0 ≤ (j : Int) ∧ (j : Int) < (inp.length : Int) ∧ (j : Int) < (inp.length : Int), Int.toNat j + 0 < inp.length, 0 ≤ (j : Int) ∧ (0 : Int) < 64, decide ((j : Int) % 64 = 0) = true, 0 ≤ (j : Int) ∧ (0 : Int) < 64 ∧ rng j, True, j / 64 ≤ 1099511627776, True, True,
            0 ≤ (j : Int) ∧ (0 : Int) < 64, 0 ≤ (j : Int) % 64 ∧ (j : Int) % 64 < (64 : Nat), Int.toNat ((j : Int) % 64) + 0 < (blk (lit 0 16 ctr) (lit 0 32 key) (j / 64)).length,
            j = o.length ∧ 0 + 1 ≤ (List.set (List.replicate 1 (0 : BitVec 8)) (0 * 1) (inp.getD (Int.toNat j + 0) 0 ^^^ (blk (lit 0 16 ctr) (lit 0 32 key) (j / 64)).getD (Int.toNat ((j : Int) % 64) + 0) 0)).length ∧ j + 1 ≤ 4294967296, rng ((j : Int) + 1)] (by kernel_rfl)
          (obCons (by simpa using hlt) <| obCons (by omega) <| obCons (by omega) <| obCons (by omega) <| obCons (by simp; omega) <| obCons (by unfold rng; omega) <| obCons trivial <| obCons (by omega) <| obCons trivial <| obCons trivial <|
            obCons (by omega) <| obCons (by omega) <| obCons (by rw [blk, lit_length]; omega) <| obCons (by simp; omega) <| obCons (by unfold rng; omega) obNil)
          ⟨⟨j + 1, blk (lit 0 16 ctr) (lit 0 32 key) (j / 64), o ++ [inp.getD j 0 ^^^ (blk (lit 0 16 ctr) (lit 0 32 key) (j / 64)).getD (j % 64) 0], hlt, by rw [ho]; rfl, lit_length _ _ _, fun h => by rw [show (j + 1) / 64 = j / 64 by omega]⟩, by show inp.length - (j + 1) < inp.length - j; omega, rfl⟩
      · have hbk := hk h64
        refine Tri.finR (cx := cxb false) mix T0ok (HBok B false) 0 (orcL [(16, true), (22, false)]) strT [(0, 0), (0 + 1, 0 + 1), (0 + 2, 0 + 2), (0 + 6, 0 + 3), (0 + 4, 0 + 4)] (0 + 5) .n (sst inp ctr key (j + 1) b (o ++ [inp.getD j 0 ^^^ b.getD (j % 64) 0]))
          [decide ((j : Int) < (inp.length : Int)) = true, 0 ≤ (j : Int) ∧ (j : Int) < (inp.length : Int) ∧ (j : Int) < (inp.length : Int), Int.toNat j + 0 < inp.length, 0 ≤ (j : Int) ∧ (0 : Int) < 64, decide ((j : Int) % 64 = 0) = false,
            0 ≤ (j : Int) ∧ (0 : Int) < 64, 0 ≤ (j : Int) % 64 ∧ (j : Int) % 64 < (64 : Nat), Int.toNat ((j : Int) % 64) + 0 < b.length,
            j = o.length ∧ 0 + 1 ≤ (List.set (List.replicate 1 (0 : BitVec 8)) (0 * 1) (inp.getD (Int.toNat j + 0) 0 ^^^ b.getD (Int.toNat ((j : Int) % 64) + 0) 0)).length ∧ j + 1 ≤ 4294967296, rng ((j : Int) + 1)] (by kernel_rfl)
          (obCons (by simpa using hlt) <| obCons (by omega) <| obCons (by omega) <| obCons (by omega) <| obCons (by simp; omega) <|
            obCons (by omega) <| obCons (by omega) <| obCons (by omega) <| obCons (by simp; omega) <| obCons (by unfold rng; omega) obNil)
          ⟨⟨j + 1, b, o ++ [inp.getD j 0 ^^^ b.getD (j % 64) 0], hlt, by rw [ho, hbk]; rfl, hb, fun h => by rw [hbk, show (j + 1) / 64 = j / 64 by omega]⟩, by show inp.length - (j + 1) < inp.length - j; omega, rfl⟩
    · obtain rfl : j = inp.length := by omega
      subst ho
      exact Tri.finR (cx := cxb false) mix T0ok (HBok B false) 0 (orcL [(16, false)]) [7] [(0, 0), (0 + 3, 0 + 1)] (0 + 2) (.x 0) ⟨[(7, .one (.s (.osl (0 + 1) inp.length)))], [(0, ⟨inp.length, .d8 inp, false, false, false⟩), (0 + 1, ⟨0, .d8 (strS inp (lit 0 16 ctr) (lit 0 32 key) inp.length), true, true, false⟩)], 0 + 2⟩ [decide ((inp.length : Int) < (inp.length : Int)) = false] (by kernel_rfl) (obCons (by simp) obNil) (by simp)
  · subst hs
    exact Tri.ret (cx := cxb false) mix T0ok (HBok B false) 0 noOrc [6] [0 + 1, 0] (0 + 2) ⟨[(6, .one (.s (.osl (0 + 1) inp.length)))], [(0 + 1, ⟨0, .d8 (strS inp (lit 0 16 ctr) (lit 0 32 key) inp.length), true, true, false⟩), (0, ⟨inp.length, .d8 inp, false, false, false⟩)], 0 + 2⟩ [] .r (by kernel_rfl) obNil (by kernel_rfl) rfl [0 + 1, 0] [] (by kernel_rfl) obNil

def streamCt : Ct := ⟨[.slc false, .val, .val], [], fun vs ds gs => match vs, ds, gs with
  | [.one (.ag [.d8 ctr]), .one (.ag [.d8 key])], [.d8 inp], [] => bif Nat.beq ctr.length 16 && Nat.beq key.length 32 then some ⟨.one (.s (.osl (0 + 1) inp.length)), [.d8 inp], [⟨0, .d8 (strS inp ctr key inp.length), true, true, false⟩], [inp.length ≤ 4294967295]⟩ else none
  | _, _, _ => none⟩

theorem stream_ok (B : Nat) : streamCt.Ok P0 B 0 12 := by
  intro vs ds gs out h hpre hn
  unfold streamCt at h
  dsimp only at h
  split at h <;> first | (cases h; done) | skip
  rename_i ctr key inp
  cases hb : (Nat.beq ctr.length 16 && Nat.beq key.length 32) with
  | false => rw [hb] at h; cases h
  | true =>
    rw [hb, cond_true] at h
    cases h
    simp only [Bool.and_eq_true] at hb
    have := stream1 B inp ctr key (hpre _ (by simp))
    rw [lit_eq (Nat.eq_of_beq_eq_true hb.1), lit_eq (Nat.eq_of_beq_eq_true hb.2)] at this
    exact this
end Go.Sx

set_option maxRecDepth 1000000
set_option linter.unusedVariables false
namespace Go.Sx
open Go.Proofs

def cloneCt : Ct := ⟨[.slc false], [], fun vs ds gs => match vs, ds, gs with
  | [], [.d8 l], [] => some ⟨.one (.s (.osl (0 + 1) l.length)), [.d8 l], [⟨0, .d8 l, true, true, false⟩], [l.length ≤ 4294967295]⟩
  | _, _, _ => none⟩

theorem clone1 (B : Nat) (l : List (BitVec 8)) (c : Nat) (hl : l.length ≤ 4294967295) : FnE P0 B 0 18 [.one (.s (.sl 0 0 l.length c))] [(0, ⟨l.length, .d8 l, false, false, false⟩)] (0 + 1)
    ⟨.one (.s (.osl (0 + 1) (0 + l.length))), [(0 + 1, ⟨0, .d8 ([] ++ (l.drop 0).take l.length), true, true, false⟩), (0, ⟨l.length, .d8 l, false, false, false⟩)], 0 + 2, .eff, []⟩ := by
  refine FnE.tri (cx := cxb false) (sz := 8) (fn := Try.f18) (c := bodyOf Try.f18) T0ok (by kernel_rfl) (by kernel_rfl) (by kernel_rfl) (by kernel_rfl) (by kernel_rfl) (by kernel_rfl) (by show 0 + 1 ≤ 0 + 2; omega) ?_
  refine Tri.stepR (cx := cxb false) mix T0ok (H0ok B false) 4 0 noOrc [2] [(0, 0), (0 + 2, 0 + 1)] (0 + 2) ⟨[(2, .one (.s (.osl (0 + 1) (0 + l.length))))], [(0, ⟨l.length, .d8 l, false, false, false⟩), (0 + 1, ⟨0, .d8 ([] ++ (l.drop 0).take l.length), true, true, false⟩)], 0 + 2⟩ [0 = ([] : List (BitVec 8)).length ∧ 0 + l.length ≤ l.length ∧ 0 + l.length ≤ 4294967296] (by kernel_rfl) (obCons (by simp; omega) obNil) ?_
  exact Tri.ret (cx := cxb false) mix T0ok (H0ok B false) 0 noOrc [2] [0 + 1, 0] (0 + 2) ⟨[(2, .one (.s (.osl (0 + 1) (0 + l.length))))], [(0 + 1, ⟨0, .d8 ([] ++ (l.drop 0).take l.length), true, true, false⟩), (0, ⟨l.length, .d8 l, false, false, false⟩)], 0 + 2⟩ [] .r (by kernel_rfl) obNil (by kernel_rfl) rfl [0 + 1, 0] [] (by kernel_rfl) obNil

theorem clone0 (B : Nat) (l : List (BitVec 8)) : FnE P0 B 0 18 [.one (.s .sl0)] [(0, ⟨l.length, .d8 l, false, false, false⟩)] (0 + 1)
    ⟨.one (.s .sl0), [(0, ⟨l.length, .d8 l, false, false, false⟩)], 0 + 1, .eff, []⟩ := by
  refine FnE.tri (cx := cxb false) (sz := 8) (fn := Try.f18) (c := bodyOf Try.f18) T0ok (by kernel_rfl) (by kernel_rfl) (by kernel_rfl) (by kernel_rfl) (by kernel_rfl) (by kernel_rfl) (Nat.le_refl _) ?_
  exact Tri.ret (cx := cxb false) mix T0ok (H0ok B false) 0 noOrc [2] [0] (0 + 1) ⟨[(2, .one (.s .sl0))], [(0, ⟨l.length, .d8 l, false, false, false⟩)], 0 + 1⟩ [] .r (by kernel_rfl) obNil (by kernel_rfl) rfl [0] [] (by kernel_rfl) obNil

theorem clone_ok (B : Nat) : cloneCt.Ok P0 B 0 18 := by
  intro vs ds gs out h hpre hn
  unfold cloneCt at h
  dsimp only at h
  split at h <;> first | (cases h; done) | skip
  rename_i l
  cases h
  have hl : l.length ≤ 4294967295 := hpre _ (by simp)
  refine FnE.slice (A := fun x => [.one (.s x)]) (k := 0) (n := l.length) (s := ⟨l.length, .d8 l, false, false, false⟩) (fun x y ρ h => by simp [SV.den, SV0.den, h]) (by kernel_rfl) (Nat.le_refl _) (fun c hc => ?_) (fun h0 => ?_)
  · have := clone1 B l c hl
    rw [Nat.zero_add l.length, List.nil_append, List.drop_zero, List.take_length] at this
    exact this
  · have e : l = [] := List.eq_nil_of_length_eq_zero h0
    subst e
    exact FnE.nilRes (.d8 []) rfl rfl (clone0 B [])

def sameCt : Ct := ⟨[.slc false, .slc false], [], fun vs ds gs => match vs, ds, gs with
  | [], [.d8 a, .d8 b], [] => some ⟨.one (.s (.b (decide (a = b)))), [.d8 a, .d8 b], [], []⟩
  | _, _, _ => none⟩

theorem same1 (B : Nat) (a b : List (BitVec 8)) : FnE P0 B 0 10 [.one (.s (.osl 0 a.length)), .one (.s (.osl (0 + 1) b.length))] [(0, ⟨a.length, .d8 a, false, false, false⟩), (0 + 1, ⟨b.length, .d8 b, false, false, false⟩)] (0 + 2)
    ⟨.one (.s (.b (decide ((a.drop 0).take a.length = (b.drop 0).take b.length)))), [(0, ⟨a.length, .d8 a, false, false, false⟩), (0 + 1, ⟨b.length, .d8 b, false, false, false⟩)], 0 + 2, .eff, []⟩ := by
  refine FnE.tri (cx := cxb false) (sz := 10) (fn := Try.f10) (c := bodyOf Try.f10) T0ok (by kernel_rfl) (by kernel_rfl) (by kernel_rfl) (by kernel_rfl) (by kernel_rfl) (by kernel_rfl) (Nat.le_refl _) ?_
  exact Tri.ret (cx := cxb false) mix T0ok (H0ok B false) 0 noOrc [4] [0, 0 + 1] (0 + 2) ⟨[(4, .one (.s (.b (decide ((a.drop 0).take a.length = (b.drop 0).take b.length)))))], [(0, ⟨a.length, .d8 a, false, false, false⟩), (0 + 1, ⟨b.length, .d8 b, false, false, false⟩)], 0 + 2⟩ [0 + a.length ≤ a.length, 0 + b.length ≤ b.length] .r (by kernel_rfl) (obCons (by omega) <| obCons (by omega) obNil) (by kernel_rfl) rfl [0, 0 + 1] [] (by kernel_rfl) obNil

theorem same_ok (B : Nat) : sameCt.Ok P0 B 0 10 := by
  intro vs ds gs out h hpre hn
  unfold sameCt at h
  dsimp only at h
  split at h <;> first | (cases h; done) | skip
  rename_i a b
  cases h
  have := same1 B a b
  rw [List.drop_zero, List.drop_zero, List.take_length, List.take_length] at this
  exact this

/-- few: of one slice, or of two: which way its tests go -/
def few1Orc (b : Bool) : Orc := fun _ d => bif Nat.beq d 16 then some (!b) else none
noncomputable def inFew1 (b : Bool) : In := ⟨Try.f9, bodyOf Try.f9, 3, .read, few1Orc b⟩
theorem ioFew1 (b : Bool) : InOk P0 9 (inFew1 b) := ⟨by kernel_rfl, by kernel_rfl, by kernel_rfl⟩

end Go.Sx
