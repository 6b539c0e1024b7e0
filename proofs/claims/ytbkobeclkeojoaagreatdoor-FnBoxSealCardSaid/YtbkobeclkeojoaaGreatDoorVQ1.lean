/- Counters: bytes, the lowest first, with a number added. Conditions: none; plain definitions and theorems. The spec's counter and stream. spec.Stream. slices.Clone, laws.same, laws.few. salsa.genericXORKeyStream: states. salsa.genericXORKeyStream. spec.HSalsa as a contract. spec.Salsa20. spec.Salsa20: the contract. Conditions: none. -/
import Derived.Test.YtbkobeclkeojoaaGreatDoorVS6
set_option maxRecDepth 1000000
set_option linter.unusedVariables false
namespace Go.Sx
open Go.Proofs
/-- bytes, the lowest first, with n added -/
def addc : List (BitVec 8) → Nat → List (BitVec 8)
  | [], _ => []
  | b :: r, n => BitVec.ofNat 8 (b.toNat + n) :: addc r ((b.toNat + n) / 256)

theorem addc_length : ∀ (l : List (BitVec 8)) (n : Nat), (addc l n).length = l.length
  | [], _ => rfl
  | b :: r, n => by simp [addc, addc_length r]

theorem addc_zero : ∀ (l : List (BitVec 8)), addc l 0 = l
  | [] => rfl
  | b :: r => by
    have h := b.isLt
    have : (b.toNat + 0) / 256 = 0 := by omega
    simp only [addc, this, addc_zero r]
    simp

theorem addc_add : ∀ (l : List (BitVec 8)) (a b : Nat), addc (addc l a) b = addc l (a + b)
  | [], _, _ => rfl
  | x :: r, a, b => by
    simp only [addc, addc_add r]
    congr 1
    · apply BitVec.eq_of_toNat_eq
      simp only [BitVec.toNat_ofNat]
      omega
    · congr 1
      simp only [BitVec.toNat_ofNat]
      omega

/-- the counter's last eight bytes, n added -/
def cnt (c : List (BitVec 8)) (n : Nat) : List (BitVec 8) := pkB c 0 8 ++ addc (pkB c 8 8) n
theorem pick_app_left (a b : List (BitVec 8)) (h : a.length = 8) : pkB (a ++ b) 0 8 = a := by
  apply List.ext_getElem?
  intro i
  simp only [pkB, Nat.zero_add, List.getElem?_map]
  rcases Nat.lt_or_ge i 8 with hi | hi
  · rw [List.getElem?_range hi]
    simp [List.getD, List.getElem?_append_left (show i < a.length by omega), show i < a.length by omega]
  · rw [List.getElem?_eq_none (by simpa using hi), List.getElem?_eq_none (by omega)]; rfl
theorem pick_app_right (a b : List (BitVec 8)) (h : a.length = 8) (hb : b.length = 8) : pkB (a ++ b) 8 8 = b := by
  apply List.ext_getElem?
  intro i
  simp only [pkB, List.getElem?_map]
  rcases Nat.lt_or_ge i 8 with hi | hi
  · rw [List.getElem?_range hi]
    simp [List.getD, h, show 8 + i - 8 = i by omega, show i < b.length by omega]
  · rw [List.getElem?_eq_none (by simpa using hi), List.getElem?_eq_none (by omega)]; rfl
theorem cnt_cnt (c : List (BitVec 8)) (a b : Nat) : cnt (cnt c a) b = cnt c (a + b) := by
  have h1 : pkB (cnt c a) 0 8 = pkB c 0 8 := pick_app_left _ _ (pkB_length _ _ _)
  have h2 : pkB (cnt c a) 8 8 = addc (pkB c 8 8) a := pick_app_right _ _ (pkB_length _ _ _) (by rw [addc_length, pkB_length])
  show pkB (cnt c a) 0 8 ++ addc (pkB (cnt c a) 8 8) b = _
  rw [h1, h2, addc_add]; rfl
theorem cnt_zero (c : List (BitVec 8)) (h : c.length = 16) : cnt c 0 = c := by
  unfold cnt
  rw [addc_zero]
  apply List.ext_getElem?
  intro i
  rcases Nat.lt_or_ge i 8 with hi | hi
  · rw [List.getElem?_append_left (by rw [pkB_length]; exact hi)]
    simp only [pkB, Nat.zero_add, List.getElem?_map]
    rw [List.getElem?_range hi]
    simp [List.getD, show i < c.length by omega]
  · rw [List.getElem?_append_right (by rw [pkB_length]; exact hi), pkB_length]
    simp only [pkB, List.getElem?_map]
    rcases Nat.lt_or_ge i 16 with h2 | h2
    · rw [List.getElem?_range (by omega)]
      simp [List.getD, show 8 + (i - 8) = i by omega, show i < c.length by omega]
    · rw [List.getElem?_eq_none (by simp; omega), List.getElem?_eq_none (by omega)]; rfl

/-- the spec's loop: the number that is carried, and the bytes -/
def cs (c : List (BitVec 8)) (n : Nat) : Nat → Nat × List (BitVec 8)
  | 0 => (n, c)
  | j + 1 => (((cs c n j).1 + ((cs c n j).2.getD (8 + j) 0).toNat) / 256, (cs c n j).2.set (8 + j) (BitVec.ofInt 8 (((cs c n j).1 + ((cs c n j).2.getD (8 + j) 0).toNat : Nat) : Int)))
theorem cs_length (c : List (BitVec 8)) (n : Nat) : ∀ j, (cs c n j).2.length = c.length
  | 0 => rfl
  | j + 1 => by simp [cs, cs_length c n j]
theorem cs_le (c : List (BitVec 8)) (n : Nat) : ∀ j, (cs c n j).1 ≤ n + 255
  | 0 => by simp [cs]
  | j + 1 => by
    have h := cs_le c n j
    have := ((cs c n j).2.getD (8 + j) 0).isLt
    simp only [cs]
    omega
theorem cs_cnt (c : List (BitVec 8)) (n : Nat) (h : c.length = 16) : (cs c n 8).2 = cnt c n := by
  match c, h with
  | [c0, c1, c2, c3, c4, c5, c6, c7, c8, c9, c10, c11, c12, c13, c14, c15], _ =>
    have e : ∀ m : Nat, BitVec.ofInt 8 (m : Int) = BitVec.ofNat 8 m := fun m => BitVec.ofInt_natCast 8 m
    simp only [cs, e]
    simp [cnt, pkB, addc, List.range_succ, Nat.add_comm]
end Go.Sx

set_option maxRecDepth 1000000
set_option linter.unusedVariables false
namespace Go.Sx
open Go.Proofs
theorem rng_add8 {a : Int} (x : BitVec 8) (h0 : 0 ≤ a) (h1 : a ≤ 4611686018427387904) : rng (a + (x.toNat : Int)) := by
  have := x.isLt
  unfold rng; omega

def cntSt (c : List (BitVec 8)) (n j : Nat) : St := ⟨[(1, .one (.s (.i (cs c n j).1))), (2, .one (.s (.p 2 0))), (4, .one (.s (.p (2 + 1) 0))), (5, .one (.s (.i (8 + j : Nat))))], [(2, ⟨16, .d8 (cs c n j).2, true, false, false⟩), (2 + 1, ⟨16, .d8 (List.replicate 16 0), true, false, false⟩)], 2 + 2⟩

theorem counted1 (B : Nat) (c : List (BitVec 8)) (n : Nat) (hc : c.length = 16) (hn : n ≤ 1099511627776) : FnE P0 B 2 34 [.one (.ag [.d8 c]), .one (.s (.i n))] [] 2 ⟨.one (.ag [.d8 (lit 0 16 (cs c n 8).2)]), [], 2, .eff, []⟩ := by
  refine FnE.tri (cx := cxb false) (sz := 23) (fn := Tryz.f34) (c := bodyOf Tryz.f34) T0ok (by kernel_rfl) (by kernel_rfl) (by kernel_rfl) (by kernel_rfl) (by kernel_rfl) (by kernel_rfl) (Nat.le_refl _) ?_
  refine Tri.step (cx := cxb false) mix T0ok (HQok B false) 2 0 noOrc [1, 2, 4, 5] [2, 2 + 1] (2 + 2) (cntSt c n 0) [lensEq [.d8 (List.replicate 16 0)] [.d8 c]] (by kernel_rfl) (obCons ⟨by simpa [SegD.len] using hc, trivial⟩ obNil) (by kernel_rfl) ?_
  refine Tri.loop (id := 0) (ι := { j : Nat // j ≤ 8 }) rfl (fun j => cntSt c n j.1) (fun j => 8 - j.1) ⟨0, Nat.zero_le _⟩ rfl (fun j => Nat.le_add_right _ _) (R1 := fun s => s = cntSt c n 8) (fun ⟨j, hj⟩ => ?_) (fun s' hs => ?_)
  · by_cases hlt : j < 8
    · have hl := cs_length c n j
      have hle := cs_le c n j
      refine Tri.fin (cx := cxb false) mix T0ok (HQok B false) 0 (orcL [(7, true)]) [1, 2, 4, 5] [2, 2 + 1] (2 + 2) .n (cntSt c n (j + 1)) [decide (((8 + j : Nat) : Int) < 16) = true, 0 ≤ ((8 + j : Nat) : Int) ∧ ((8 + j : Nat) : Int) < (16 : Nat),
        Int.toNat (8 + j : Nat) + 0 < (cs c n j).2.length, rng (((cs c n j).1 : Int) + (((cs c n j).2.getD (Int.toNat (8 + j : Nat) + 0) 0).toNat : Int)), 0 ≤ ((8 + j : Nat) : Int) ∧ ((8 + j : Nat) : Int) < (16 : Nat), Int.toNat (8 + j : Nat) + 0 + 1 ≤ 16, (8#64).toNat ≤ 63, rng (((8 + j : Nat) : Int) + 1)] (by kernel_rfl)
        (obCons (by simp; omega) <| obCons (by omega) <| obCons (by omega) <| obCons (rng_add8 _ (by omega) (by omega)) <| obCons (by omega) <| obCons (by omega) <| obCons (by decide) <| obCons (by unfold rng; omega) obNil) (by kernel_rfl) ⟨⟨j + 1, hlt⟩, by show 8 - (j + 1) < 8 - j; omega, rfl⟩
    · obtain rfl : j = 8 := by omega
      exact Tri.fin (cx := cxb false) mix T0ok (HQok B false) 0 noOrc [1, 2, 4, 5] [2, 2 + 1] (2 + 2) (.x 0) (cntSt c n 8) [] (by kernel_rfl) obNil (by kernel_rfl) (by simp)
  · have e : cntSt c n 8 = ⟨[(1, .one (.s (.i (cs c n 8).1))), (2, .one (.s (.p 2 0))), (4, .one (.s (.p (2 + 1) 0))), (5, .one (.s (.i (8 + 8 : Nat))))], [(2, ⟨16, .d8 (lit 0 16 (cs c n 8).2), true, false, false⟩), (2 + 1, ⟨16, .d8 (List.replicate 16 0), true, false, false⟩)], 2 + 2⟩ := by
      unfold cntSt; rw [lit_eq ((cs_length c n 8).trans hc)]
    rw [hs, e]
    exact Tri.ret (cx := cxb false) mix T0ok (HQok B false) 0 noOrc [4] [2 + 1] (2 + 2) ⟨[(4, .one (.s (.p (2 + 1) 0)))], [(2 + 1, ⟨16, .d8 (lit 0 16 (cs c n 8).2), true, false, false⟩)], 2 + 2⟩ [] .r (by kernel_rfl) obNil (by kernel_rfl) rfl [] [] (by kernel_rfl) obNil

def countedCt : Ct := ⟨[.val, .val], [], fun vs ds gs => match vs, ds, gs with
  | [.one (.ag [.d8 c]), .one (.s (.i (.ofNat n)))], [], [] => bif Nat.beq c.length 16 then some ⟨.one (.ag [.d8 (lit 0 16 (cnt c n))]), [], [], [n ≤ 1099511627776]⟩ else none
  | _, _, _ => none⟩

theorem counted_ok (B : Nat) : countedCt.Ok P0 B 2 34 := by
  intro vs ds gs out h hpre hn
  unfold countedCt at h
  dsimp only at h
  split at h <;> first | (cases h; done) | skip
  rename_i c n
  cases hb : (Nat.beq c.length 16) with
  | false => rw [hb] at h; cases h
  | true =>
    rw [hb, cond_true] at h
    cases h
    have hc := Nat.eq_of_beq_eq_true hb
    have hle : n ≤ 1099511627776 := hpre _ (by simp)
    have := counted1 B c n hc hle
    rw [cs_cnt c n hc] at this
    exact this

/-- block n of a key's stream from a counter on -/
def sigma : List (BitVec 8) := [101, 120, 112, 97, 110, 100, 32, 51, 50, 45, 98, 121, 116, 101, 32, 107]
def blk (ctr key : List (BitVec 8)) (n : Nat) : List (BitVec 8) := lit 0 64 (coreS (mxW (lit 0 16 (cnt ctr n)) key sigma) 10)

noncomputable def HB (c : Bool) : Hook := hookC 34 (hookOf (cxb c) countedCt) (hookC 20 (hookOf (cxb c) matrixCt) (hookC 33 (hookOf (cxb c) core10Ct) (H0 c)))
theorem HBok (B : Nat) (c : Bool) : HookOk P0 B 2 (HB c) := .cons (.ct (cx := cxb c) (counted_ok B)) (.cons (.ct (cx := cxb c) (matrix_ok B)) (.cons (.ct (cx := cxb c) (core10_ok B)) (H0ok B c)))

def sst (inp ctr key : List (BitVec 8)) (j : Nat) (b o : List (BitVec 8)) : St :=
  ⟨[(4, .one (.s (.p (2 + 1) 0))), (5, .one (.s (.p (2 + 2) 0))), (7, .one (.s (.osl (2 + 3) j))), (8, .one (.s (.p (2 + 4) 0))), (13, .one (.s (.osl 2 inp.length))), (14, .one (.s (.i inp.length))), (15, .one (.s (.i j)))],
   [(2, ⟨inp.length, .d8 inp, false, false, false⟩), (2 + 1, ⟨16, .d8 (lit 0 16 ctr), true, false, false⟩), (2 + 2, ⟨32, .d8 (lit 0 32 key), true, false, false⟩), (2 + 3, ⟨0, .d8 o, true, true, false⟩), (2 + 4, ⟨64, .d8 b, true, false, false⟩)], 2 + 5⟩
end Go.Sx

set_option maxRecDepth 1000000
set_option linter.unusedVariables false
namespace Go.Sx
open Go.Proofs
/-- the stream added to the first j bytes -/
def strS (inp ctr key : List (BitVec 8)) : Nat → List (BitVec 8)
  | 0 => []
  | j + 1 => strS inp ctr key j ++ [inp.getD j 0 ^^^ (blk ctr key (j / 64)).getD (j % 64) 0]
theorem strS_length (inp ctr key : List (BitVec 8)) : ∀ j, (strS inp ctr key j).length = j
  | 0 => rfl
  | j + 1 => by simp [strS, strS_length inp ctr key j]

def strT : List Nat := [4, 5, 7, 8, 13, 14, 15]

structure StrI (inp ctr key : List (BitVec 8)) where
  j : Nat
  b : List (BitVec 8)
  o : List (BitVec 8)
  le : j ≤ inp.length
  ho : o = strS inp ctr key j
  hb : b.length = 64
  hk : j % 64 ≠ 0 → b = blk ctr key (j / 64)

theorem stream1 (B : Nat) (inp ctr key : List (BitVec 8)) (hlen : inp.length ≤ 4294967295) : FnE P0 B 2 16 [.one (.s (.osl 2 inp.length)), .one (.ag [.d8 (lit 0 16 ctr)]), .one (.ag [.d8 (lit 0 32 key)])] [(2, ⟨inp.length, .d8 inp, false, false, false⟩)] (2 + 1)
    ⟨.one (.s (.osl (2 + 1) inp.length)), [(2 + 1, ⟨0, .d8 (strS inp (lit 0 16 ctr) (lit 0 32 key) inp.length), true, true, false⟩), (2, ⟨inp.length, .d8 inp, false, false, false⟩)], 2 + 2, .eff, []⟩ := by
  refine FnE.tri (cx := cxb false) (sz := 41) (fn := Tryz.f16) (c := bodyOf Tryz.f16) T0ok (by kernel_rfl) (by kernel_rfl) (by kernel_rfl) (by kernel_rfl) (by kernel_rfl) (by kernel_rfl) (by show 2 + 1 ≤ 2 + 2; omega) ?_
  refine Tri.step (cx := cxb false) mix T0ok (HBok B false) 4 0 noOrc strT [2, 2 + 1, 2 + 2, 2 + 3, 2 + 4] (2 + 5) (sst inp ctr key 0 (List.replicate 64 0) []) [(lit 0 16 ctr).length = (List.replicate 16 (0 : BitVec 8)).length ∧ True, (lit 0 32 key).length = (List.replicate 32 (0 : BitVec 8)).length ∧ True] (by kernel_rfl)
    (obCons (by simp [lit_length]) <| obCons (by simp [lit_length]) obNil) (by kernel_rfl) ?_
  refine Tri.loop (id := 0) (ι := StrI inp (lit 0 16 ctr) (lit 0 32 key)) rfl (fun i => sst inp ctr key i.j i.b i.o) (fun i => inp.length - i.j) ⟨0, List.replicate 64 0, [], Nat.zero_le _, rfl, by simp, fun h => absurd rfl h⟩ rfl (fun i => by show 2 + 1 ≤ 2 + 5; omega)
    (R1 := fun s => s = ⟨[(7, .one (.s (.osl (2 + 1) inp.length)))], [(2, ⟨inp.length, .d8 inp, false, false, false⟩), (2 + 1, ⟨0, .d8 (strS inp (lit 0 16 ctr) (lit 0 32 key) inp.length), true, true, false⟩)], 2 + 2⟩) (fun ⟨j, b, o, le, ho, hb, hk⟩ => ?_) (fun s' hs => ?_)
  · by_cases hlt : j < inp.length
    · have hol : o.length = j := by rw [ho, strS_length]
      by_cases h64 : j % 64 = 0
      · refine Tri.finR (cx := cxb false) mix T0ok (HBok B false) 0 (orcL [(16, true), (22, true)]) strT [(2, 2), (2 + 1, 2 + 1), (2 + 2, 2 + 2), (2 + 6, 2 + 3), (2 + 4, 2 + 4)] (2 + 5) .n (sst inp ctr key (j + 1) (blk (lit 0 16 ctr) (lit 0 32 key) (j / 64)) (o ++ [inp.getD j 0 ^^^ (blk (lit 0 16 ctr) (lit 0 32 key) (j / 64)).getD (j % 64) 0]))
          [decide ((j : Int) < (inp.length : Int)) = true, 0 ≤ (j : Int) ∧ (j : Int) < (inp.length : Int) ∧ (j : Int) < (inp.length : Int), Int.toNat j + 0 < inp.length, 0 ≤ (j : Int) ∧ (0 : Int) < 64, decide ((j : Int) % 64 = 0) = true, 0 ≤ (j : Int) ∧ (0 : Int) < 64 ∧ rng j, True, j / 64 ≤ 1099511627776, True, True,
            0 ≤ (j : Int) ∧ (0 : Int) < 64, 0 ≤ (j : Int) % 64 ∧ (j : Int) % 64 < (64 : Nat), Int.toNat ((j : Int) % 64) + 0 < (blk (lit 0 16 ctr) (lit 0 32 key) (j / 64)).length,
            j = o.length ∧ 0 + 1 ≤ (List.set (List.replicate 1 (0 : BitVec 8)) (0 * 1) (inp.getD (Int.toNat j + 0) 0 ^^^ (blk (lit 0 16 ctr) (lit 0 32 key) (j / 64)).getD (Int.toNat ((j : Int) % 64) + 0) 0)).length ∧ j + 1 ≤ 4294967296, rng ((j : Int) + 1)] (by kernel_rfl)
          (obCons (by simpa using hlt) <| obCons (by omega) <| obCons (by omega) <| obCons (by omega) <| obCons (by simp; omega) <| obCons (by unfold rng; omega) <| obCons trivial <| obCons (by omega) <| obCons trivial <| obCons trivial <|
            obCons (by omega) <| obCons (by omega) <| obCons (by rw [blk, lit_length]; omega) <| obCons (by simp; omega) <| obCons (by unfold rng; omega) obNil)
          ⟨⟨j + 1, blk (lit 0 16 ctr) (lit 0 32 key) (j / 64), o ++ [inp.getD j 0 ^^^ (blk (lit 0 16 ctr) (lit 0 32 key) (j / 64)).getD (j % 64) 0], hlt, by rw [ho]; rfl, lit_length _ _ _, fun h => by rw [show (j + 1) / 64 = j / 64 by omega]⟩, by show inp.length - (j + 1) < inp.length - j; omega, rfl⟩
      · have hbk := hk h64
        refine Tri.finR (cx := cxb false) mix T0ok (HBok B false) 0 (orcL [(16, true), (22, false)]) strT [(2, 2), (2 + 1, 2 + 1), (2 + 2, 2 + 2), (2 + 6, 2 + 3), (2 + 4, 2 + 4)] (2 + 5) .n (sst inp ctr key (j + 1) b (o ++ [inp.getD j 0 ^^^ b.getD (j % 64) 0]))
          [decide ((j : Int) < (inp.length : Int)) = true, 0 ≤ (j : Int) ∧ (j : Int) < (inp.length : Int) ∧ (j : Int) < (inp.length : Int), Int.toNat j + 0 < inp.length, 0 ≤ (j : Int) ∧ (0 : Int) < 64, decide ((j : Int) % 64 = 0) = false,
            0 ≤ (j : Int) ∧ (0 : Int) < 64, 0 ≤ (j : Int) % 64 ∧ (j : Int) % 64 < (64 : Nat), Int.toNat ((j : Int) % 64) + 0 < b.length,
            j = o.length ∧ 0 + 1 ≤ (List.set (List.replicate 1 (0 : BitVec 8)) (0 * 1) (inp.getD (Int.toNat j + 0) 0 ^^^ b.getD (Int.toNat ((j : Int) % 64) + 0) 0)).length ∧ j + 1 ≤ 4294967296, rng ((j : Int) + 1)] (by kernel_rfl)
          (obCons (by simpa using hlt) <| obCons (by omega) <| obCons (by omega) <| obCons (by omega) <| obCons (by simp; omega) <|
            obCons (by omega) <| obCons (by omega) <| obCons (by omega) <| obCons (by simp; omega) <| obCons (by unfold rng; omega) obNil)
          ⟨⟨j + 1, b, o ++ [inp.getD j 0 ^^^ b.getD (j % 64) 0], hlt, by rw [ho, hbk]; rfl, hb, fun h => by rw [hbk, show (j + 1) / 64 = j / 64 by omega]⟩, by show inp.length - (j + 1) < inp.length - j; omega, rfl⟩
    · obtain rfl : j = inp.length := by omega
      subst ho
      exact Tri.finR (cx := cxb false) mix T0ok (HBok B false) 0 (orcL [(16, false)]) [7] [(2, 2), (2 + 3, 2 + 1)] (2 + 2) (.x 0) ⟨[(7, .one (.s (.osl (2 + 1) inp.length)))], [(2, ⟨inp.length, .d8 inp, false, false, false⟩), (2 + 1, ⟨0, .d8 (strS inp (lit 0 16 ctr) (lit 0 32 key) inp.length), true, true, false⟩)], 2 + 2⟩ [decide ((inp.length : Int) < (inp.length : Int)) = false] (by kernel_rfl) (obCons (by simp) obNil) (by simp)
  · subst hs
    exact Tri.ret (cx := cxb false) mix T0ok (HBok B false) 0 noOrc [6] [2 + 1, 2] (2 + 2) ⟨[(6, .one (.s (.osl (2 + 1) inp.length)))], [(2 + 1, ⟨0, .d8 (strS inp (lit 0 16 ctr) (lit 0 32 key) inp.length), true, true, false⟩), (2, ⟨inp.length, .d8 inp, false, false, false⟩)], 2 + 2⟩ [] .r (by kernel_rfl) obNil (by kernel_rfl) rfl [2 + 1, 2] [] (by kernel_rfl) obNil

def streamCt : Ct := ⟨[.slc false, .val, .val], [], fun vs ds gs => match vs, ds, gs with
  | [.one (.ag [.d8 ctr]), .one (.ag [.d8 key])], [.d8 inp], [] => bif Nat.beq ctr.length 16 && Nat.beq key.length 32 then some ⟨.one (.s (.osl (2 + 1) inp.length)), [.d8 inp], [⟨0, .d8 (strS inp ctr key inp.length), true, true, false⟩], [inp.length ≤ 4294967295]⟩ else none
  | _, _, _ => none⟩

theorem stream_ok (B : Nat) : streamCt.Ok P0 B 2 16 := by
  intro vs ds gs out h hpre hn
  unfold streamCt at h
  dsimp only at h
  split at h <;> first | (cases h; done) | skip
  rename_i ctr key inp
  cases hb : (Nat.beq ctr.length 16 && Nat.beq key.length 32) with
  | false => rw [hb] at h; cases h
  | true =>
    rw [hb, cond_true] at h
    cases h
    simp only [Bool.and_eq_true] at hb
    have := stream1 B inp ctr key (hpre _ (by simp))
    rw [lit_eq (Nat.eq_of_beq_eq_true hb.1), lit_eq (Nat.eq_of_beq_eq_true hb.2)] at this
    exact this
end Go.Sx

set_option maxRecDepth 1000000
set_option linter.unusedVariables false
namespace Go.Sx
open Go.Proofs
def cloneCt : Ct := ⟨[.slc false], [], fun vs ds gs => match vs, ds, gs with
  | [], [.d8 l], [] => some ⟨.one (.s (.osl (2 + 1) l.length)), [.d8 l], [⟨0, .d8 l, true, true, false⟩], [l.length ≤ 4294967295]⟩
  | _, _, _ => none⟩

theorem clone1 (B : Nat) (l : List (BitVec 8)) (c : Nat) (hl : l.length ≤ 4294967295) : FnE P0 B 2 15 [.one (.s (.sl 2 0 l.length c))] [(2, ⟨l.length, .d8 l, false, false, false⟩)] (2 + 1)
    ⟨.one (.s (.osl (2 + 1) (0 + l.length))), [(2 + 1, ⟨0, .d8 ([] ++ (l.drop 0).take l.length), true, true, false⟩), (2, ⟨l.length, .d8 l, false, false, false⟩)], 2 + 2, .eff, []⟩ := by
  refine FnE.tri (cx := cxb false) (sz := 8) (fn := Tryz.f15) (c := bodyOf Tryz.f15) T0ok (by kernel_rfl) (by kernel_rfl) (by kernel_rfl) (by kernel_rfl) (by kernel_rfl) (by kernel_rfl) (by show 2 + 1 ≤ 2 + 2; omega) ?_
  refine Tri.stepR (cx := cxb false) mix T0ok (H0ok B false) 4 0 noOrc [2] [(2, 2), (2 + 2, 2 + 1)] (2 + 2) ⟨[(2, .one (.s (.osl (2 + 1) (0 + l.length))))], [(2, ⟨l.length, .d8 l, false, false, false⟩), (2 + 1, ⟨0, .d8 ([] ++ (l.drop 0).take l.length), true, true, false⟩)], 2 + 2⟩ [0 = ([] : List (BitVec 8)).length ∧ 0 + l.length ≤ l.length ∧ 0 + l.length ≤ 4294967296] (by kernel_rfl) (obCons (by simp; omega) obNil) ?_
  exact Tri.ret (cx := cxb false) mix T0ok (H0ok B false) 0 noOrc [2] [2 + 1, 2] (2 + 2) ⟨[(2, .one (.s (.osl (2 + 1) (0 + l.length))))], [(2 + 1, ⟨0, .d8 ([] ++ (l.drop 0).take l.length), true, true, false⟩), (2, ⟨l.length, .d8 l, false, false, false⟩)], 2 + 2⟩ [] .r (by kernel_rfl) obNil (by kernel_rfl) rfl [2 + 1, 2] [] (by kernel_rfl) obNil

theorem clone0 (B : Nat) (l : List (BitVec 8)) : FnE P0 B 2 15 [.one (.s .sl0)] [(2, ⟨l.length, .d8 l, false, false, false⟩)] (2 + 1)
    ⟨.one (.s .sl0), [(2, ⟨l.length, .d8 l, false, false, false⟩)], 2 + 1, .eff, []⟩ := by
  refine FnE.tri (cx := cxb false) (sz := 8) (fn := Tryz.f15) (c := bodyOf Tryz.f15) T0ok (by kernel_rfl) (by kernel_rfl) (by kernel_rfl) (by kernel_rfl) (by kernel_rfl) (by kernel_rfl) (Nat.le_refl _) ?_
  exact Tri.ret (cx := cxb false) mix T0ok (H0ok B false) 0 noOrc [2] [2] (2 + 1) ⟨[(2, .one (.s .sl0))], [(2, ⟨l.length, .d8 l, false, false, false⟩)], 2 + 1⟩ [] .r (by kernel_rfl) obNil (by kernel_rfl) rfl [2] [] (by kernel_rfl) obNil

theorem clone_ok (B : Nat) : cloneCt.Ok P0 B 2 15 := by
  intro vs ds gs out h hpre hn
  unfold cloneCt at h
  dsimp only at h
  split at h <;> first | (cases h; done) | skip
  rename_i l
  cases h
  have hl : l.length ≤ 4294967295 := hpre _ (by simp)
  refine FnE.slice (A := fun x => [.one (.s x)]) (k := 2) (n := l.length) (s := ⟨l.length, .d8 l, false, false, false⟩) (fun x y ρ h => by simp [SV.den, SV0.den, h]) (by kernel_rfl) (Nat.le_refl _) (fun c hc => ?_) (fun h0 => ?_)
  · have := clone1 B l c hl
    rw [Nat.zero_add, List.nil_append, List.drop_zero, List.take_length] at this
    exact this
  · have e : l = [] := List.eq_nil_of_length_eq_zero h0
    subst e
    exact FnE.nilRes (.d8 []) rfl rfl (clone0 B [])

def sameCt : Ct := ⟨[.slc false, .slc false], [], fun vs ds gs => match vs, ds, gs with
  | [], [.d8 a, .d8 b], [] => some ⟨.one (.s (.b (decide (a = b)))), [.d8 a, .d8 b], [], []⟩
  | _, _, _ => none⟩

theorem same1 (B : Nat) (a b : List (BitVec 8)) : FnE P0 B 2 8 [.one (.s (.osl 2 a.length)), .one (.s (.osl (2 + 1) b.length))] [(2, ⟨a.length, .d8 a, false, false, false⟩), (2 + 1, ⟨b.length, .d8 b, false, false, false⟩)] (2 + 2)
    ⟨.one (.s (.b (decide ((a.drop 0).take a.length = (b.drop 0).take b.length)))), [(2, ⟨a.length, .d8 a, false, false, false⟩), (2 + 1, ⟨b.length, .d8 b, false, false, false⟩)], 2 + 2, .eff, []⟩ := by
  refine FnE.tri (cx := cxb false) (sz := 10) (fn := Tryz.f8) (c := bodyOf Tryz.f8) T0ok (by kernel_rfl) (by kernel_rfl) (by kernel_rfl) (by kernel_rfl) (by kernel_rfl) (by kernel_rfl) (Nat.le_refl _) ?_
  exact Tri.ret (cx := cxb false) mix T0ok (H0ok B false) 0 noOrc [4] [2, 2 + 1] (2 + 2) ⟨[(4, .one (.s (.b (decide ((a.drop 0).take a.length = (b.drop 0).take b.length)))))], [(2, ⟨a.length, .d8 a, false, false, false⟩), (2 + 1, ⟨b.length, .d8 b, false, false, false⟩)], 2 + 2⟩ [0 + a.length ≤ a.length, 0 + b.length ≤ b.length] .r (by kernel_rfl) (obCons (by omega) <| obCons (by omega) obNil) (by kernel_rfl) rfl [2, 2 + 1] [] (by kernel_rfl) obNil

theorem same_ok (B : Nat) : sameCt.Ok P0 B 2 8 := by
  intro vs ds gs out h hpre hn
  unfold sameCt at h
  dsimp only at h
  split at h <;> first | (cases h; done) | skip
  rename_i a b
  cases h
  have := same1 B a b
  rw [List.drop_zero, List.drop_zero, List.take_length, List.take_length] at this
  exact this

end Go.Sx

set_option maxRecDepth 1000000
set_option linter.unusedVariables false
namespace Go.Sx
open Go.Proofs
noncomputable def in47 : In := ⟨Tryz.f47, bodyOf Tryz.f47, 0, .new, noOrc⟩
theorem io47 : InOk P0 47 in47 := ⟨by kernel_rfl, by kernel_rfl, by kernel_rfl⟩
noncomputable def HSg (c : Bool) : Hook := hookC 47 (inl (cxb c) (H0 c) in47) (H0 c)
theorem HSgok (B : Nat) (c : Bool) : HookOk P0 B 2 (HSg c) := HookOk.cons (HkOk.inl (cx := cxb c) mix T0ok (H0ok B c) io47) (H0ok B c)
noncomputable def HGs (c : Bool) : Hook := hookC 64 (hookOf (cxb c) scCt) (HSg c)
theorem HGsok (B : Nat) (c : Bool) : HookOk P0 B 2 (HGs c) := .cons (.ct (cx := cxb c) (sc_ok B)) (HSgok B c)

/-- the block of a counter -/
def bI (C key : List (BitVec 8)) : List (BitVec 8) := lit 0 64 (coreI (mxW (lit 0 16 C) key sigma) 10)
theorem bI_blk (ctr key : List (BitVec 8)) (j : Nat) : bI (cnt ctr j) key = blk ctr key j := by unfold bI blk; rw [coreS_eq]

/-- the counter's carry -/
def incU (c : List (BitVec 8)) : Nat → BitVec 32
  | 0 => 1
  | j + 1 => (incU c j + (c.getD (8 + j) 0).setWidth 32) >>> 8
def inc8 (c : List (BitVec 8)) (j : Nat) : BitVec 8 := (incU c j + (c.getD (8 + j) 0).setWidth 32).setWidth 8
def inc (c : List (BitVec 8)) : List (BitVec 8) := [c.getD 0 0, c.getD 1 0, c.getD 2 0, c.getD 3 0, c.getD 4 0, c.getD 5 0, c.getD 6 0, c.getD 7 0, inc8 c 0, inc8 c 1, inc8 c 2, inc8 c 3, inc8 c 4, inc8 c 5, inc8 c 6, inc8 c 7]

theorem incU_le (c : List (BitVec 8)) : ∀ j, (incU c j).toNat ≤ 1
  | 0 => Nat.le_refl 1
  | j + 1 => by
    have h := incU_le c j
    have := (c.getD (8 + j) 0).isLt
    simp only [incU, BitVec.toNat_ushiftRight, BitVec.toNat_add, BitVec.toNat_setWidth, Nat.shiftRight_eq_div_pow]
    omega
theorem incU_succ (c : List (BitVec 8)) (j : Nat) : (incU c (j + 1)).toNat = ((c.getD (8 + j) 0).toNat + (incU c j).toNat) / 256 := by
  have h := incU_le c j
  have := (c.getD (8 + j) 0).isLt
  simp only [incU, BitVec.toNat_ushiftRight, BitVec.toNat_add, BitVec.toNat_setWidth, Nat.shiftRight_eq_div_pow]
  omega
theorem inc8_eq (c : List (BitVec 8)) (j : Nat) : inc8 c j = BitVec.ofNat 8 ((c.getD (8 + j) 0).toNat + (incU c j).toNat) := by
  have h := incU_le c j
  have := (c.getD (8 + j) 0).isLt
  apply BitVec.eq_of_toNat_eq
  simp only [inc8, BitVec.toNat_setWidth, BitVec.toNat_add, BitVec.toNat_ofNat]
  omega
theorem inc_cnt (c : List (BitVec 8)) : inc c = cnt c 1 := by
  have h0 : (incU c 0).toNat = 1 := rfl
  unfold inc cnt
  simp only [inc8_eq, incU_succ, h0]
  simp [pkB, addc, List.range_succ]

def gst (inp ctr key : List (BitVec 8)) (n : Nat) (o n' c' m : Nat) (l D b C : List (BitVec 8)) : St := ⟨[(0, .one (.s (.sl 2 o n' c'))), (1, .one (.s (.osl (2 + 6) m))), (3, .one (.s (.p (2 + 3) 0))), (8, .one (.s (.p (2 + 4) 0))), (9, .one (.s (.p (2 + 5) 0)))],
  [(2, ⟨n, .d8 D, true, false, false⟩), (2 + 1, ⟨inp.length, .d8 inp, false, false, false⟩), (2 + 2, ⟨16, .d8 (lit 0 16 ctr), false, false, false⟩), (2 + 3, ⟨32, .d8 (lit 0 32 key), false, false, false⟩), (2 + 4, ⟨64, .d8 (lit 0 64 b), true, false, false⟩), (2 + 5, ⟨16, .d8 (lit 0 16 C), true, false, false⟩), (2 + 6, ⟨m, .d8 l, false, false, false⟩)], 2 + 7⟩
/-- within the rounds over a block -/
def gin (inp ctr key : List (BitVec 8)) (n : Nat) (o n' c' m : Nat) (l D X C : List (BitVec 8)) (k : Nat) : St := ⟨[(0, .one (.s (.sl 2 o n' c'))), (1, .one (.s (.osl (2 + 6) m))), (3, .one (.s (.p (2 + 3) 0))), (8, .one (.s (.p (2 + 4) 0))), (9, .one (.s (.p (2 + 5) 0))), (27, .one (.ag [.d8 (lit 0 64 X)])), (28, .one (.s (.i k)))],
  [(2, ⟨n, .d8 D, true, false, false⟩), (2 + 1, ⟨inp.length, .d8 inp, false, false, false⟩), (2 + 2, ⟨16, .d8 (lit 0 16 ctr), false, false, false⟩), (2 + 3, ⟨32, .d8 (lit 0 32 key), false, false, false⟩), (2 + 4, ⟨64, .d8 (lit 0 64 X), true, false, false⟩), (2 + 5, ⟨16, .d8 (lit 0 16 C), true, false, false⟩), (2 + 6, ⟨m, .d8 l, false, false, false⟩)], 2 + 7⟩
/-- within the last rounds -/
def gla (inp ctr key : List (BitVec 8)) (n : Nat) (o n' c' m : Nat) (l D X C : List (BitVec 8)) (k : Nat) : St := ⟨[(0, .one (.s (.sl 2 o n' c'))), (8, .one (.s (.p (2 + 4) 0))), (68, .one (.s (.osl (2 + 6) m))), (69, .one (.s (.i m))), (70, .one (.s (.i k)))],
  [(2, ⟨n, .d8 D, true, false, false⟩), (2 + 1, ⟨inp.length, .d8 inp, false, false, false⟩), (2 + 2, ⟨16, .d8 (lit 0 16 ctr), false, false, false⟩), (2 + 3, ⟨32, .d8 (lit 0 32 key), false, false, false⟩), (2 + 4, ⟨64, .d8 (lit 0 64 X), true, false, false⟩), (2 + 6, ⟨m, .d8 l, false, false, false⟩)], 2 + 7⟩

def gT : List Nat := [0, 1, 3, 8, 9]
def gK : List Nat := [2, 2 + 1, 2 + 2, 2 + 3, 2 + 4, 2 + 5, 2 + 6]

/-- the first k bytes done -/
def mixS (inp ctr key out : List (BitVec 8)) (k : Nat) : List (BitVec 8) := strS inp ctr key k ++ out.drop k
theorem mixS_length (inp ctr key out : List (BitVec 8)) {k : Nat} (h : k ≤ out.length) : (mixS inp ctr key out k).length = out.length := by
  simp [mixS, strS_length]; omega
theorem mixS_set (inp ctr key out : List (BitVec 8)) {k : Nat} (h : k < out.length) : (mixS inp ctr key out k).set k (inp.getD k 0 ^^^ (blk ctr key (k / 64)).getD (k % 64) 0) = mixS inp ctr key out (k + 1) := by
  unfold mixS
  rw [List.set_append_right _ _ (by rw [strS_length]; omega), strS_length, Nat.sub_self, List.drop_eq_getElem_cons h, List.set_cons_zero]
  simp [strS]
end Go.Sx

set_option maxRecDepth 1000000
set_option linter.unusedVariables false
namespace Go.Sx
open Go.Proofs
theorem mix_step (inp ctr K out X : List (BitVec 8)) (j k : Nat) (h : 64 * j + k < out.length) (hk : k < 64) (hX : lit 0 64 X = blk ctr K j) :
    (mixS inp ctr K out (64 * j + k)).set (k + 64 * j) ((inp.drop (64 * j)).getD k 0 ^^^ (lit 0 64 X).getD k 0) = mixS inp ctr K out (64 * j + (k + 1)) := by
  have := mixS_set inp ctr K out h
  rw [show (64 * j + k) / 64 = j by omega, show (64 * j + k) % 64 = k by omega] at this
  rw [← Nat.add_assoc, ← this, hX, Nat.add_comm k]
  congr 2
  simp [List.getD]

structure GI (inp ctr key out : List (BitVec 8)) (c : Nat) where
  j : Nat
  o : Nat
  n' : Nat
  c' : Nat
  m : Nat
  l : List (BitVec 8)
  D : List (BitVec 8)
  b : List (BitVec 8)
  C : List (BitVec 8)
  hm : m + 64 * j = inp.length
  hl : l = inp.drop (64 * j)
  hD : D = mixS inp ctr (lit 0 32 key) out (64 * j)
  hC : C = cnt ctr j
  hn : n' + 64 * j = out.length
  hc : n' ≤ c'
  ho : 0 < n' → o = 64 * j

def GI.st {inp ctr key out : List (BitVec 8)} {c : Nat} (i : GI inp ctr key out c) : St := gst inp ctr key out.length i.o i.n' i.c' i.m i.l i.D i.b i.C

def gX (key C : List (BitVec 8)) : List (BitVec 8) := coreI (mxW (lit 0 16 C) (lit 0 32 key) sigma) 10
theorem gX_blk (ctr key : List (BitVec 8)) (j : Nat) : lit 0 64 (gX key (cnt ctr j)) = blk ctr (lit 0 32 key) j := bI_blk ctr (lit 0 32 key) j

theorem gen1 (B : Nat) (inp ctr key out : List (BitVec 8)) (c : Nat) (hctr : ctr.length = 16) (hle : inp.length ≤ out.length) (hcap : out.length ≤ c) :
    FnE P0 B 2 57 [.one (.s (.sl 2 0 out.length c)), .one (.s (.osl (2 + 1) inp.length)), .one (.s (.p (2 + 2) 0)), .one (.s (.p (2 + 3) 0))]
      [(2, ⟨out.length, .d8 out, true, false, false⟩), (2 + 1, ⟨inp.length, .d8 inp, false, false, false⟩), (2 + 2, ⟨16, .d8 (lit 0 16 ctr), false, false, false⟩), (2 + 3, ⟨32, .d8 (lit 0 32 key), false, false, false⟩)] (2 + 4)
      ⟨.tup [], [(2, ⟨out.length, .d8 (mixS inp ctr (lit 0 32 key) out inp.length), true, false, false⟩), (2 + 1, ⟨inp.length, .d8 inp, false, false, false⟩), (2 + 2, ⟨16, .d8 (lit 0 16 ctr), false, false, false⟩), (2 + 3, ⟨32, .d8 (lit 0 32 key), false, false, false⟩)], 2 + 4, .eff, []⟩ := by
  refine FnE.tri (cx := cxb false) (sz := 84) (fn := Tryz.f57) (c := bodyOf Tryz.f57) T0ok (by kernel_rfl) (by kernel_rfl) (by kernel_rfl) (by kernel_rfl) (by kernel_rfl) (by kernel_rfl) (Nat.le_refl _) ?_
  refine Tri.chg (cx := cxb true) rfl ?_
  refine Tri.step (cx := cxb true) mix T0ok (HGsok B true) 3 0 noOrc gT [2, 2 + 1, 2 + 2, 2 + 3, 2 + 4, 2 + 5] (2 + 6) ⟨[(0, .one (.s (.sl 2 0 out.length c))), (1, .one (.s (.osl (2 + 1) inp.length))), (3, .one (.s (.p (2 + 3) 0))), (8, .one (.s (.p (2 + 4) 0))), (9, .one (.s (.p (2 + 5) 0)))],
    [(2, ⟨out.length, .d8 out, true, false, false⟩), (2 + 1, ⟨inp.length, .d8 inp, false, false, false⟩), (2 + 2, ⟨16, .d8 (lit 0 16 ctr), false, false, false⟩), (2 + 3, ⟨32, .d8 (lit 0 32 key), false, false, false⟩), (2 + 4, ⟨64, .d8 (List.replicate 64 0), true, false, false⟩), (2 + 5, ⟨16, .d8 (lit 0 16 ctr), true, false, false⟩)], 2 + 6⟩ [] (by kernel_rfl) obNil (by kernel_rfl) ?_
  refine Tri.twin (k := 2 + 1) (d := 1) (n := inp.length) (g := ⟨inp.length, .d8 inp, false, false, false⟩) (by kernel_rfl) rfl rfl (by kernel_rfl) ?_
  refine Tri.weak (ts := gT) (ks := gK) (nx := 2 + 7) (s' := gst inp ctr key out.length 0 out.length c inp.length inp out [] ctr) (by kernel_rfl) (Nat.le_refl _) ?_
  refine Tri.chg (cx := cxb false) rfl ?_
  refine Tri.loop (id := 0) (ι := GI inp ctr key out c) rfl GI.st (fun i => i.m) ⟨0, 0, out.length, c, inp.length, inp, out, [], ctr, by omega, rfl, rfl, (cnt_zero ctr hctr).symm, by omega, hcap, fun _ => rfl⟩ rfl (fun i => by show 2 + 4 ≤ 2 + 7; omega)
    (R1 := fun s => ∃ i : GI inp ctr key out c, i.m < 64 ∧ s = i.st) (fun i => ?_) (fun s' ⟨i, hi, hs⟩ => ?_)
  · obtain ⟨j, o, n', c', m, l, D, b, C, hm, hl, hD, hC, hn, hc, ho⟩ := i
    by_cases h64 : 64 ≤ m
    · have hn' : 0 < n' := by omega
      have ho' := ho hn'
      have hll : l.length = m := by rw [hl, List.length_drop]; omega
      have hX : lit 0 64 (gX key C) = blk ctr (lit 0 32 key) j := by rw [hC]; exact gX_blk ctr key j
      refine Tri.step (cx := cxb false) mix T0ok (HGsok B false) 2 0 (orcL [(23, true)]) gT gK (2 + 7) (gst inp ctr key out.length o n' c' m l D b C) [decide ((64 : Int) ≤ (m : Int)) = true] (by kernel_rfl) (obCons (decide_eq_true (by omega)) obNil) (by kernel_rfl) ?_
      refine Tri.block (id := 1) rfl (R1 := fun s => ∃ i : GI inp ctr key out c, i.m < m ∧ s = i.st) ?_ (fun s' hs => Tri.nil hs)
      refine Tri.chg (cx := cxb true) rfl ?_
      refine Tri.step (cx := cxb true) mix T0ok (HGsok B true) 2 0 noOrc [0, 1, 3, 8, 9, 27, 28] gK (2 + 7) (gin inp ctr key out.length o n' c' m l D (gX key C) C 0) [] (by kernel_rfl) obNil (by kernel_rfl) ?_
      refine Tri.chg (cx := cxb false) rfl ?_
      refine Tri.loop (id := 2) (ι := { k : Nat // k ≤ 64 }) rfl (fun k => gin inp ctr key out.length o n' c' m l (mixS inp ctr (lit 0 32 key) out (64 * j + k.1)) (gX key C) C k.1) (fun k => 64 - k.1) ⟨0, Nat.zero_le _⟩ (by rw [hD]; rfl) (fun k => by show 2 + 4 ≤ 2 + 7; omega)
        (R1 := fun s => s = gin inp ctr key out.length o n' c' m l (mixS inp ctr (lit 0 32 key) out (64 * (j + 1))) (gX key C) C 64) (fun ⟨k, hk⟩ => ?_) (fun s' hs => ?_)
      · by_cases hlt : k < 64
        · refine Tri.fin (cx := cxb false) mix T0ok (HGsok B false) 0 (orcL [(29, true)]) [0, 1, 3, 8, 9, 27, 28] gK (2 + 7) .n (gin inp ctr key out.length o n' c' m l ((mixS inp ctr (lit 0 32 key) out (64 * j + k)).set (k + o) (l.getD k 0 ^^^ (lit 0 64 (gX key C)).getD k 0)) (gX key C) C (k + 1))
            [decide ((k : Int) < 64) = true, 0 ≤ (k : Int) ∧ (k : Int) < (64 : Nat), Int.toNat k < (lit 0 64 (gX key C)).length, 0 ≤ (k : Int) ∧ (k : Int) < (m : Int) ∧ (k : Int) < (l.length : Int), Int.toNat k + 0 < l.length, 0 ≤ (k : Int) ∧ (k : Int) < (n' : Int), Int.toNat k + o + 1 ≤ out.length, rng ((k : Int) + 1)] (by kernel_rfl)
            (obCons (by simp; omega) <| obCons (by omega) <| obCons (by rw [lit_length]; omega) <| obCons (by omega) <| obCons (by omega) <| obCons (by omega) <| obCons (by omega) <| obCons (by unfold rng; omega) obNil) (by kernel_rfl) ⟨⟨k + 1, hlt⟩, by show 64 - (k + 1) < 64 - k; omega, ?_⟩
          show gin _ _ _ _ _ _ _ _ _ _ _ _ _ = gin _ _ _ _ _ _ _ _ _ _ _ _ _
          rw [hl, ho', mix_step inp ctr (lit 0 32 key) out (gX key C) j k (by omega) hlt hX]
        · obtain rfl : k = 64 := by omega
          refine Tri.fin (cx := cxb false) mix T0ok (HGsok B false) 0 (orcL [(29, false)]) [0, 1, 3, 8, 9, 27, 28] gK (2 + 7) (.x 2) (gin inp ctr key out.length o n' c' m l (mixS inp ctr (lit 0 32 key) out (64 * j + 64)) (gX key C) C 64) [decide (((64 : Nat) : Int) < 64) = false] (by kernel_rfl) (obCons (by simp) obNil) (by kernel_rfl) ?_
          show gin _ _ _ _ _ _ _ _ _ _ _ _ _ = gin _ _ _ _ _ _ _ _ _ _ _ _ _
          rw [Nat.mul_succ]
      · subst hs
        refine Tri.chg (cx := cxb true) rfl ?_
        refine Tri.step (cx := cxb true) mix T0ok (HGsok B true) 3 9 noOrc gT gK (2 + 7) (gst inp ctr key out.length o n' c' m l (mixS inp ctr (lit 0 32 key) out (64 * (j + 1))) (gX key C) (inc C)) [] (by kernel_rfl) obNil (by kernel_rfl) ?_
        refine Tri.chg (cx := cxb false) rfl ?_
        refine Tri.finR (cx := cxb false) mix T0ok (HGsok B false) 0 noOrc gT [(2, 2), (2 + 1, 2 + 1), (2 + 2, 2 + 2), (2 + 3, 2 + 3), (2 + 4, 2 + 4), (2 + 5, 2 + 5), (2 + 7, 2 + 6)] (2 + 7) .n
          (gst inp ctr key out.length (if c' = 64 then o else 64 + o) (n' - 64) (c' - 64) (m - 64) ((l.drop 64).take (m - 64)) (mixS inp ctr (lit 0 32 key) out (64 * (j + 1))) (gX key C) (inc C))
          [0 ≤ (64 : Int) ∧ (64 : Int) ≤ (m : Int) ∧ (m : Int) ≤ (m : Int) ∧ (m : Int) ≤ (l.length : Int), 0 ≤ (64 : Int) ∧ (64 : Int) ≤ (n' : Int) ∧ (n' : Int) ≤ (c' : Int)] (by kernel_rfl) (obCons (by omega) <| obCons (by omega) obNil) ?_
        refine ⟨⟨j + 1, if c' = 64 then o else 64 + o, n' - 64, c' - 64, m - 64, (l.drop 64).take (m - 64), _, gX key C, inc C, by omega, ?_, rfl, by rw [inc_cnt, hC, cnt_cnt], by omega, by omega, fun h => ?_⟩, by show m - 64 < m; omega, rfl⟩
        · rw [hl, List.drop_drop, List.take_of_length_le (by rw [List.length_drop]; omega), Nat.mul_succ]
        · rw [if_neg (by omega)]; omega
    · refine Tri.fin (cx := cxb false) mix T0ok (HGsok B false) 0 (orcL [(23, false)]) gT gK (2 + 7) (.x 0) (gst inp ctr key out.length o n' c' m l D b C) [decide ((64 : Int) ≤ (m : Int)) = false] (by kernel_rfl) (obCons (by simp; omega) obNil) (by kernel_rfl) ?_
      exact ⟨⟨j, o, n', c', m, l, D, b, C, hm, hl, hD, hC, hn, hc, ho⟩, by show m < 64; omega, rfl⟩
  · subst hs
    obtain ⟨j, o, n', c', m, l, D, b, C, hm, hl, hD, hC, hn, hc, ho⟩ := i
    have hi : m < 64 := hi
    show Tri P0 B (cxb false) _ _ _ (gst inp ctr key out.length o n' c' m l D b C) _
    refine Tri.step (cx := cxb false) mix T0ok (HGsok B false) 1 0 noOrc [0, 1, 3, 8, 9, 64] gK (2 + 7) ⟨[(0, .one (.s (.sl 2 o n' c'))), (1, .one (.s (.osl (2 + 6) m))), (3, .one (.s (.p (2 + 3) 0))), (8, .one (.s (.p (2 + 4) 0))), (9, .one (.s (.p (2 + 5) 0))), (64, .one (.s (.b (decide ((0 : Int) < (m : Int))))))], (gst inp ctr key out.length o n' c' m l D b C).m, 2 + 7⟩ [] (by kernel_rfl) obNil (by kernel_rfl) ?_
    refine Tri.cond (b := decide ((0 : Int) < (m : Int))) rfl (by kernel_rfl) (fun hb => ?_) (fun hb => ?_)
    · have hb : 0 < m := by simpa using hb
      have hn' : 0 < n' := by omega
      have ho' := ho hn'
      have hll : l.length = m := by rw [hl, List.length_drop]; omega
      have hX : lit 0 64 (gX key C) = blk ctr (lit 0 32 key) j := by rw [hC]; exact gX_blk ctr key j
      refine Tri.chg (cx := cxb true) rfl ?_
      refine Tri.step (cx := cxb true) mix T0ok (HGsok B true) 2 0 noOrc [0, 8, 68, 69, 70] [2, 2 + 1, 2 + 2, 2 + 3, 2 + 4, 2 + 6] (2 + 7) (gla inp ctr key out.length o n' c' m l D (gX key C) C 0) [] (by kernel_rfl) obNil (by kernel_rfl) ?_
      refine Tri.chg (cx := cxb false) rfl ?_
      refine Tri.loop (id := 6) (ι := { k : Nat // k ≤ m }) rfl (fun k => gla inp ctr key out.length o n' c' m l (mixS inp ctr (lit 0 32 key) out (64 * j + k.1)) (gX key C) C k.1) (fun k => m - k.1) ⟨0, Nat.zero_le _⟩ (by rw [hD]; rfl) (fun k => by show 2 + 4 ≤ 2 + 7; omega)
        (R1 := fun s => s = gla inp ctr key out.length o n' c' m l (mixS inp ctr (lit 0 32 key) out inp.length) (gX key C) C m) (fun ⟨k, hk⟩ => ?_) (fun s' hs => ?_)
      · by_cases hlt : k < m
        · refine Tri.fin (cx := cxb false) mix T0ok (HGsok B false) 0 (orcL [(71, true)]) [0, 8, 68, 69, 70] [2, 2 + 1, 2 + 2, 2 + 3, 2 + 4, 2 + 6] (2 + 7) .n (gla inp ctr key out.length o n' c' m l ((mixS inp ctr (lit 0 32 key) out (64 * j + k)).set (k + o) (l.getD k 0 ^^^ (lit 0 64 (gX key C)).getD k 0)) (gX key C) C (k + 1))
            [decide ((k : Int) < (m : Int)) = true, 0 ≤ (k : Int) ∧ (k : Int) < (m : Int) ∧ (k : Int) < (l.length : Int), Int.toNat k + 0 < l.length, 0 ≤ (k : Int) ∧ (k : Int) < (64 : Nat), Int.toNat k + 0 < (lit 0 64 (gX key C)).length, 0 ≤ (k : Int) ∧ (k : Int) < (n' : Int), Int.toNat k + o + 1 ≤ out.length, rng ((k : Int) + 1)] (by kernel_rfl)
            (obCons (by simp; omega) <| obCons (by omega) <| obCons (by omega) <| obCons (by omega) <| obCons (by rw [lit_length]; omega) <| obCons (by omega) <| obCons (by omega) <| obCons (by unfold rng; omega) obNil) (by kernel_rfl) ⟨⟨k + 1, hlt⟩, by show m - (k + 1) < m - k; omega, ?_⟩
          show gla _ _ _ _ _ _ _ _ _ _ _ _ _ = gla _ _ _ _ _ _ _ _ _ _ _ _ _
          rw [hl, ho', mix_step inp ctr (lit 0 32 key) out (gX key C) j k (by omega) (by omega) hX]
        · obtain rfl : k = m := by omega
          refine Tri.fin (cx := cxb false) mix T0ok (HGsok B false) 0 (orcL [(71, false)]) [0, 8, 68, 69, 70] [2, 2 + 1, 2 + 2, 2 + 3, 2 + 4, 2 + 6] (2 + 7) (.x 6) (gla inp ctr key out.length o n' c' k l (mixS inp ctr (lit 0 32 key) out (64 * j + k)) (gX key C) C k) [decide ((k : Int) < (k : Int)) = false] (by kernel_rfl) (obCons (by simp) obNil) (by kernel_rfl) ?_
          show gla _ _ _ _ _ _ _ _ _ _ _ _ _ = gla _ _ _ _ _ _ _ _ _ _ _ _ _
          rw [show 64 * j + k = inp.length by omega]
      · subst hs
        exact Tri.ret (cx := cxb false) mix T0ok (HGsok B false) 0 noOrc [] [2, 2 + 1, 2 + 2, 2 + 3] (2 + 7) ⟨[], [(2, ⟨out.length, .d8 (mixS inp ctr (lit 0 32 key) out inp.length), true, false, false⟩), (2 + 1, ⟨inp.length, .d8 inp, false, false, false⟩), (2 + 2, ⟨16, .d8 (lit 0 16 ctr), false, false, false⟩), (2 + 3, ⟨32, .d8 (lit 0 32 key), false, false, false⟩)], 2 + 7⟩ [] .n (by kernel_rfl) obNil (by kernel_rfl) rfl [2, 2 + 1, 2 + 2, 2 + 3] [] (by kernel_rfl) obNil
    · have hb : m = 0 := by simpa using hb
      have hD' : D = mixS inp ctr (lit 0 32 key) out inp.length := by rw [hD, show 64 * j = inp.length by omega]
      rw [hD']
      exact Tri.ret (cx := cxb false) mix T0ok (HGsok B false) 0 noOrc [] [2, 2 + 1, 2 + 2, 2 + 3] (2 + 7) ⟨[], [(2, ⟨out.length, .d8 (mixS inp ctr (lit 0 32 key) out inp.length), true, false, false⟩), (2 + 1, ⟨inp.length, .d8 inp, false, false, false⟩), (2 + 2, ⟨16, .d8 (lit 0 16 ctr), false, false, false⟩), (2 + 3, ⟨32, .d8 (lit 0 32 key), false, false, false⟩)], 2 + 7⟩ [] .n (by kernel_rfl) obNil (by kernel_rfl) rfl [2, 2 + 1, 2 + 2, 2 + 3] [] (by kernel_rfl) obNil

theorem gen0 (B : Nat) (ctr key : List (BitVec 8)) :
    FnE P0 B 2 57 [.one (.s .sl0), .one (.s (.osl (2 + 1) 0)), .one (.s (.p (2 + 2) 0)), .one (.s (.p (2 + 3) 0))]
      [(2, ⟨0, .d8 [], true, false, false⟩), (2 + 1, ⟨0, .d8 [], false, false, false⟩), (2 + 2, ⟨16, .d8 (lit 0 16 ctr), false, false, false⟩), (2 + 3, ⟨32, .d8 (lit 0 32 key), false, false, false⟩)] (2 + 4)
      ⟨.tup [], [(2, ⟨0, .d8 [], true, false, false⟩), (2 + 1, ⟨0, .d8 [], false, false, false⟩), (2 + 2, ⟨16, .d8 (lit 0 16 ctr), false, false, false⟩), (2 + 3, ⟨32, .d8 (lit 0 32 key), false, false, false⟩)], 2 + 4, .eff, []⟩ := by
  refine FnE.tri (cx := cxb true) (sz := 84) (fn := Tryz.f57) (c := bodyOf Tryz.f57) T0ok (by kernel_rfl) (by kernel_rfl) (by kernel_rfl) (by kernel_rfl) (by kernel_rfl) (by kernel_rfl) (Nat.le_refl _) ?_
  exact Tri.ret (cx := cxb true) mix T0ok (HGsok B true) 2 noOrc [] [2, 2 + 1, 2 + 2, 2 + 3] (2 + 6) ⟨[], [(2, ⟨0, .d8 [], true, false, false⟩), (2 + 1, ⟨0, .d8 [], false, false, false⟩), (2 + 2, ⟨16, .d8 (lit 0 16 ctr), false, false, false⟩), (2 + 3, ⟨32, .d8 (lit 0 32 key), false, false, false⟩)], 2 + 6⟩ [] .n (by kernel_rfl) obNil (by kernel_rfl) rfl [2, 2 + 1, 2 + 2, 2 + 3] [] (by kernel_rfl) obNil

def genCt : Ct := ⟨[.slc true, .slc false, .ptr 16 false, .ptr 32 false], [], fun vs ds gs => match vs, ds, gs with
  | [], [.d8 out, .d8 inp, .d8 ctr, .d8 key], [] => bif Nat.beq ctr.length 16 && Nat.beq key.length 32 then some ⟨.tup [], [.d8 (mixS inp ctr key out inp.length), .d8 inp, .d8 ctr, .d8 key], [], [inp.length ≤ out.length]⟩ else none
  | _, _, _ => none⟩

theorem gen_ok (B : Nat) : genCt.Ok P0 B 2 57 := by
  intro vs ds gs o h hpre hn
  unfold genCt at h
  dsimp only at h
  split at h <;> first | (cases h; done) | skip
  rename_i out inp ctr key
  cases hb : (Nat.beq ctr.length 16 && Nat.beq key.length 32) with
  | false => rw [hb] at h; cases h
  | true =>
    rw [hb, cond_true] at h
    cases h
    simp only [Bool.and_eq_true] at hb
    have hle : inp.length ≤ out.length := hpre _ (by simp)
    have h1 := Nat.eq_of_beq_eq_true hb.1
    have h2 := Nat.eq_of_beq_eq_true hb.2
    have hm : (mixS inp ctr key out inp.length).length = out.length := mixS_length inp ctr key out hle
    simp only [genCt, canArgs, segsOf, globs, addM, List.length_cons, List.length_nil, SegD.len, h1, h2, hm, Nat.add_zero]
    refine FnE.slice (A := fun x => [.one (.s x), .one (.s (.osl (2 + 1) inp.length)), .one (.s (.p (2 + 2) 0)), .one (.s (.p (2 + 3) 0))]) (k := 2) (n := out.length) (s := ⟨out.length, .d8 out, true, false, false⟩) (fun x y ρ h => by simp [SV.den, SV0.den, h]) (by kernel_rfl) (Nat.le_refl _) (fun c hc => ?_) (fun h0 => ?_)
    · have := gen1 B inp ctr key out c h1 hle hc
      rw [lit_eq h1, lit_eq h2] at this
      exact this
    · have e1 : out = [] := List.eq_nil_of_length_eq_zero h0
      subst e1
      have e2 : inp = [] := List.eq_nil_of_length_eq_zero (by simpa using hle)
      subst e2
      have := gen0 B ctr key
      rw [lit_eq h1, lit_eq h2] at this
      exact this
end Go.Sx

set_option maxRecDepth 1000000
set_option linter.unusedVariables false
namespace Go.Sx
open Go.Proofs
def hsSCt : Ct := ⟨[.val, .val, .val], [], fun vs ds gs => match vs, ds, gs with
  | [.one (.ag [.d8 inp]), .one (.ag [.d8 key]), .one (.s (.str c))], [], [] => bif Nat.beq inp.length 16 && (Nat.beq key.length 32 && Nat.beq c.length 16) then some ⟨.one (.ag [.d8 (lit 0 32 (hs inp key c))]), [], [], []⟩ else none
  | _, _, _ => none⟩

theorem hsS1 (B : Nat) (inp key c : List (BitVec 8)) : FnE P0 B 2 12 [.one (.ag [.d8 (lit 0 16 inp)]), .one (.ag [.d8 (lit 0 32 key)]), .one (.s (.str (lit 0 16 c)))] [] 2
    ⟨.one (.ag [.d8 (lit 0 32 (hsOutS (drs (mxW inp key c) 10)))]), [], 2, .eff, []⟩ := by
  refine FnE.tri (cx := cxb true) (sz := 55) (fn := Tryz.f12) (c := bodyOf Tryz.f12) T0ok (by kernel_rfl) (by kernel_rfl) (by kernel_rfl) (by kernel_rfl) (by kernel_rfl) (by kernel_rfl) (Nat.le_refl _) ?_
  exact Tri.ret (cx := cxb true) mix T0ok (HS0ok B true) 20 noOrc [6] [2 + 2] (2 + 8) ⟨[(6, .one (.s (.p (2 + 2) 0)))], [(2 + 2, ⟨32, .d8 (lit 0 32 (hsOutS (drs (mxW inp key c) 10))), true, false, false⟩)], 2 + 8⟩ [] .r (by kernel_rfl) obNil (by kernel_rfl) rfl [] [] (by kernel_rfl) obNil

theorem hsS_ok (B : Nat) : hsSCt.Ok P0 B 2 12 := by
  intro vs ds gs out h hpre hn
  unfold hsSCt at h
  dsimp only at h
  split at h <;> first | (cases h; done) | skip
  rename_i inp key c
  cases hb : (Nat.beq inp.length 16 && (Nat.beq key.length 32 && Nat.beq c.length 16)) with
  | false => rw [hb] at h; cases h
  | true =>
    rw [hb, cond_true] at h
    cases h
    simp only [Bool.and_eq_true] at hb
    obtain ⟨h1, h2, h3⟩ := hb
    have := hsS1 B inp key c
    rw [lit_eq (Nat.eq_of_beq_eq_true h1), lit_eq (Nat.eq_of_beq_eq_true h2), lit_eq (Nat.eq_of_beq_eq_true h3), hsOutS_eq] at this
    exact this
end Go.Sx

set_option maxRecDepth 1000000
set_option linter.unusedVariables false
namespace Go.Sx
open Go.Proofs
def c8 (n : List (BitVec 8)) : List (BitVec 8) := pkB n 0 8 ++ List.replicate 8 0
def c24 (n : List (BitVec 8)) : List (BitVec 8) := pkB n 16 8 ++ List.replicate 8 0
def k24 (n key : List (BitVec 8)) : List (BitVec 8) := hs (lit 0 16 n) (lit 0 32 key) sigma

noncomputable def HJs (c : Bool) : Hook := hookC 12 (hookOf (cxb c) hsSCt) (hookC 16 (hookOf (cxb c) streamCt) (H0 c))
theorem HJsok (B : Nat) (c : Bool) : HookOk P0 B 2 (HJs c) := .cons (.ct (cx := cxb c) (hsS_ok B)) (.cons (.ct (cx := cxb c) (stream_ok B)) (H0ok B c))
def sArgs (k : Nat) (inp key : List (BitVec 8)) : List SV := [.one (.ag [.d8 (lit 0 32 key)]), .one (.s (.osl 2 k)), .one (.s (.osl (2 + 1) inp.length))]
def sMs (k : Nat) (inp nonce : List (BitVec 8)) : Mem := [(2, ⟨k, .d8 (lit 0 k nonce), false, false, false⟩), (2 + 1, ⟨inp.length, .d8 inp, false, false, false⟩)]
end Go.Sx

set_option maxRecDepth 1000000
set_option linter.unusedVariables false
namespace Go.Sx
open Go.Proofs
theorem ss8 (B : Nat) (inp nonce key : List (BitVec 8)) (hlen : inp.length ≤ 4294967295) : FnE P0 B 2 10 (sArgs 8 inp key) (sMs 8 inp nonce) (2 + 2)
    ⟨.one (.s (.osl (2 + 2) inp.length)), (2 + 2, ⟨0, .d8 (strS inp (lit 0 16 (c8 (lit 0 8 nonce))) (lit 0 32 key) inp.length), true, true, false⟩) :: sMs 8 inp nonce, 2 + 3, .eff, []⟩ := by
  refine FnE.tri (cx := cxb true) (sz := 26) (fn := Tryz.f10) (c := bodyOf Tryz.f10) T0ok (by kernel_rfl) (by kernel_rfl) (by kernel_rfl) (by kernel_rfl) (by kernel_rfl) (by kernel_rfl) (by show 2 + 2 ≤ 2 + 3; omega) ?_
  refine Tri.step (cx := cxb true) mix T0ok (HJsok B true) 5 0 noOrc [2, 3, 7] [2, 2 + 1, 2 + 2, 2 + 3] (2 + 4) ⟨[(2, .one (.s (.osl (2 + 1) inp.length))), (3, .one (.s (.p (2 + 2) 0))), (7, .one (.s (.p (2 + 3) 0)))], sMs 8 inp nonce ++ [(2 + 2, ⟨32, .d8 (lit 0 32 key), true, false, false⟩), (2 + 3, ⟨16, .d8 (lit 0 16 (c8 (lit 0 8 nonce))), true, false, false⟩)], 2 + 4⟩ [] (by kernel_rfl) obNil (by kernel_rfl) ?_
  refine Tri.chg (cx := cxb false) rfl ?_
  refine Tri.stepR (cx := cxb false) mix T0ok (HJsok B false) 1 0 noOrc [6] [(2, 2), (2 + 1, 2 + 1), (2 + 4, 2 + 2)] (2 + 3) (St.mk [(nat_lit 6, SV.one (SV0.s (Sc.osl (2 + 2) (List.length (List.take (List.length inp) (List.drop (0 : Nat) inp))))))] [(2, Seg.mk (nat_lit 8) (SegD.d8 (lit (0 : BitVec (8 : Nat)) (8 : Nat) nonce)) false false false), (2 + 1, Seg.mk (List.length inp) (SegD.d8 inp) false false false), (2 + 2, Seg.mk (nat_lit 0) (SegD.d8 (strS (List.take (List.length inp) (List.drop (0 : Nat) inp)) (lit (0 : BitVec (8 : Nat)) (16 : Nat) (c8 (lit (0 : BitVec (8 : Nat)) (8 : Nat) nonce))) (lit (0 : BitVec (8 : Nat)) (32 : Nat) key) (List.length (List.take (List.length inp) (List.drop (0 : Nat) inp))))) true true false)] (2 + 3)) ([List.length inp ≤ List.length inp, List.length (List.take (List.length inp) (List.drop (0 : Nat) inp)) = List.length (List.take (List.length inp) (List.drop (0 : Nat) inp)) ∧ True, List.length (List.take (List.length inp) (List.drop (0 : Nat) inp)) ≤ (4294967295 : Nat)]) (by kernel_rfl) (by (repeat' (first | exact obNil | refine obCons ?_ ?_)); all_goals (first | trivial | omega | (simp [hlen] <;> omega))) ?_
  rw [List.drop_zero, List.take_length]
  refine Tri.chg (cx := cxb true) rfl ?_
  exact Tri.ret (cx := cxb true) mix T0ok (H0ok B true) 0 noOrc [6] [2, 2 + 1, 2 + 2] (2 + 3) (⟨[(6, .one (.s (.osl (2 + 2) inp.length)))], sMs 8 inp nonce ++ [(2 + 2, ⟨0, .d8 (strS inp (lit 0 16 (c8 (lit 0 8 nonce))) (lit 0 32 key) inp.length), true, true, false⟩)], 2 + 3⟩) [] .r (by kernel_rfl) obNil (by kernel_rfl) rfl [2 + 2, 2, 2 + 1] [] (by kernel_rfl) obNil

theorem ss24 (B : Nat) (inp nonce key : List (BitVec 8)) (hlen : inp.length ≤ 4294967295) : FnE P0 B 2 10 (sArgs 24 inp key) (sMs 24 inp nonce) (2 + 2)
    ⟨.one (.s (.osl (2 + 2) inp.length)), (2 + 2, ⟨0, .d8 (strS inp (lit 0 16 (c24 (lit 0 24 nonce))) (lit 0 32 (k24 (lit 0 24 nonce) (lit 0 32 key))) inp.length), true, true, false⟩) :: sMs 24 inp nonce, 2 + 3, .eff, []⟩ := by
  refine FnE.tri (cx := cxb true) (sz := 26) (fn := Tryz.f10) (c := bodyOf Tryz.f10) T0ok (by kernel_rfl) (by kernel_rfl) (by kernel_rfl) (by kernel_rfl) (by kernel_rfl) (by kernel_rfl) (by show 2 + 2 ≤ 2 + 3; omega) ?_
  refine Tri.step (cx := cxb true) mix T0ok (HJsok B true) 5 0 noOrc [2, 3, 7] [2, 2 + 1, 2 + 2, 2 + 4] (2 + 5) ⟨[(2, .one (.s (.osl (2 + 1) inp.length))), (3, .one (.s (.p (2 + 2) 0))), (7, .one (.s (.p (2 + 4) 0)))], sMs 24 inp nonce ++ [(2 + 2, ⟨32, .d8 (lit 0 32 (k24 (lit 0 24 nonce) (lit 0 32 key))), true, false, false⟩), (2 + 4, ⟨16, .d8 (lit 0 16 (c24 (lit 0 24 nonce))), true, false, false⟩)], 2 + 5⟩ [] (by kernel_rfl) obNil (by kernel_rfl) ?_
  refine Tri.chg (cx := cxb false) rfl ?_
  refine Tri.stepR (cx := cxb false) mix T0ok (HJsok B false) 1 0 noOrc [6] [(2, 2), (2 + 1, 2 + 1), (2 + 5, 2 + 2)] (2 + 3) (St.mk [(nat_lit 6, SV.one (SV0.s (Sc.osl (2 + 2) (List.length (List.take (List.length inp) (List.drop (0 : Nat) inp))))))] [(2, Seg.mk (nat_lit 24) (SegD.d8 (lit (0 : BitVec (8 : Nat)) (24 : Nat) nonce)) false false false), (2 + 1, Seg.mk (List.length inp) (SegD.d8 inp) false false false), (2 + 2, Seg.mk (nat_lit 0) (SegD.d8 (strS (List.take (List.length inp) (List.drop (0 : Nat) inp)) (lit (0 : BitVec (8 : Nat)) (16 : Nat) (c24 (lit (0 : BitVec (8 : Nat)) (24 : Nat) nonce))) (lit (0 : BitVec (8 : Nat)) (32 : Nat) (k24 (lit (0 : BitVec (8 : Nat)) (24 : Nat) nonce) (lit (0 : BitVec (8 : Nat)) (32 : Nat) key))) (List.length (List.take (List.length inp) (List.drop (0 : Nat) inp))))) true true false)] (2 + 3)) ([List.length inp ≤ List.length inp, List.length (List.take (List.length inp) (List.drop (0 : Nat) inp)) = List.length (List.take (List.length inp) (List.drop (0 : Nat) inp)) ∧ True, List.length (List.take (List.length inp) (List.drop (0 : Nat) inp)) ≤ (4294967295 : Nat)]) (by kernel_rfl) (by (repeat' (first | exact obNil | refine obCons ?_ ?_)); all_goals (first | trivial | omega | (simp [hlen] <;> omega))) ?_
  rw [List.drop_zero, List.take_length]
  refine Tri.chg (cx := cxb true) rfl ?_
  exact Tri.ret (cx := cxb true) mix T0ok (H0ok B true) 0 noOrc [6] [2, 2 + 1, 2 + 2] (2 + 3) (⟨[(6, .one (.s (.osl (2 + 2) inp.length)))], sMs 24 inp nonce ++ [(2 + 2, ⟨0, .d8 (strS inp (lit 0 16 (c24 (lit 0 24 nonce))) (lit 0 32 (k24 (lit 0 24 nonce) (lit 0 32 key))) inp.length), true, true, false⟩)], 2 + 3⟩) [] .r (by kernel_rfl) obNil (by kernel_rfl) rfl [2 + 2, 2, 2 + 1] [] (by kernel_rfl) obNil

def ssCt : Ct := ⟨[.val, .slc false, .slc false], [], fun vs ds gs => match vs, ds, gs with
  | [.one (.ag [.d8 key])], [.d8 nonce, .d8 inp], [] => bif Nat.beq key.length 32 && Nat.beq nonce.length 8 then some ⟨.one (.s (.osl (2 + 2) inp.length)), [.d8 nonce, .d8 inp], [⟨0, .d8 (strS inp (lit 0 16 (c8 nonce)) key inp.length), true, true, false⟩], [inp.length ≤ 4294967295]⟩
    else bif Nat.beq key.length 32 && Nat.beq nonce.length 24 then some ⟨.one (.s (.osl (2 + 2) inp.length)), [.d8 nonce, .d8 inp], [⟨0, .d8 (strS inp (lit 0 16 (c24 nonce)) (lit 0 32 (k24 nonce key)) inp.length), true, true, false⟩], [inp.length ≤ 4294967295]⟩ else none
  | _, _, _ => none⟩

theorem ssCt_ok (B : Nat) : ssCt.Ok P0 B 2 10 := by
  intro vs ds gs o h hpre hn
  unfold ssCt at h
  dsimp only at h
  split at h <;> first | (cases h; done) | skip
  rename_i key nonce inp
  cases hb : (Nat.beq key.length 32 && Nat.beq nonce.length 8) with
  | false =>
    rw [hb, cond_false] at h
    cases hc : (Nat.beq key.length 32 && Nat.beq nonce.length 24) with
    | false => rw [hc] at h; cases h
    | true =>
      rw [hc, cond_true] at h
      cases h
      simp only [Bool.and_eq_true] at hc
      have h1 := Nat.eq_of_beq_eq_true hc.1
      have h2 := Nat.eq_of_beq_eq_true hc.2
      have := ss24 B inp nonce key (hpre _ (by simp))
      unfold sMs sArgs at this
      rw [lit_eq h1, lit_eq h2] at this
      simp only [ssCt, canArgs, segsOf, globs, addM, List.length_cons, List.length_nil, SegD.len, h2]
      exact this
  | true =>
    rw [hb, cond_true] at h
    cases h
    simp only [Bool.and_eq_true] at hb
    have h1 := Nat.eq_of_beq_eq_true hb.1
    have h2 := Nat.eq_of_beq_eq_true hb.2
    have := ss8 B inp nonce key (hpre _ (by simp))
    unfold sMs sArgs at this
    rw [lit_eq h1, lit_eq h2] at this
    simp only [ssCt, canArgs, segsOf, globs, addM, List.length_cons, List.length_nil, SegD.len, h2]
    exact this
end Go.Sx
