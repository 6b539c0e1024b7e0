/- spec.Poly1305. Conditions: none. -/
import Derived.Test.YtnloecdkogckiaaP2
set_option maxRecDepth 1000000
set_option linter.unusedVariables false
namespace Go.Sx
open Go.Proofs

noncomputable def HPl (c : Bool) : Hook := hookC 17 (hookOf (cxb c) digCt) (hookC 18 (hookOf (cxb c) settledCt) (hookC 19 (hookOf (cxb c) loweredCt) (H0 c)))
theorem HPlok (B : Nat) (c : Bool) : HookOk P0 B 1 (HPl c) := .cons (.ct (cx := cxb c) (digits_ok B)) (.cons (.ct (cx := cxb c) (settled_ok B)) (.cons (.ct (cx := cxb c) (lowered_ok B)) (H0ok B c)))

/-- digit by digit -/
def zipA : List (BitVec 64) → List (BitVec 64) → List (BitVec 64)
  | x :: a, y :: b => (x + y) :: zipA a b
  | _, _ => []
/-- the key's digits -/
def rD (key : List (BitVec 8)) : List (BitVec 64) := lit 0 9 (d16 (rB key))

def plM (key m : List (BitVec 8)) (a : List (BitVec 64)) : Mem := [(1, ⟨32, .d8 (lit 0 32 key), false, false, false⟩), (1 + 1, ⟨m.length, .d8 m, false, false, false⟩), (1 + 2, ⟨9, .d64 (rD key), true, false, false⟩), (1 + 3, ⟨9, .d64 (lit 0 9 a), true, false, false⟩)]
def plSt (key m : List (BitVec 8)) (a : List (BitVec 64)) (k o q : Nat) : St := ⟨[(0, .one (.s (.osl 1 32))), (1, .one (.s (.sl (1 + 1) o (m.length - 16 * k) q))), (5, .one (.s (.p (1 + 2) 0))), (8, .one (.s (.p (1 + 3) 0)))], plM key m a, 1 + 4⟩
def plS2 (key m : List (BitVec 8)) (a d : List (BitVec 64)) (k c : Nat) (n : Int) : St := ⟨[(0, .one (.s (.osl 1 32))), (1, .one (.s (.sl (1 + 1) (16 * k) (m.length - 16 * k) (c - 16 * k)))), (5, .one (.s (.p (1 + 2) 0))), (8, .one (.s (.p (1 + 3) 0))), (9, .one (.s (.i n))), (10, .one (.s (.p (1 + 4) 0)))], plM key m a ++ [(1 + 4, ⟨9, .d64 (lit 0 9 d), true, false, false⟩)], 1 + 5⟩
def plS3 (key m : List (BitVec 8)) (a : List (BitVec 64)) (k c : Nat) (n : Int) : St := ⟨[(0, .one (.s (.osl 1 32))), (1, .one (.s (.sl (1 + 1) (16 * k) (m.length - 16 * k) (c - 16 * k)))), (5, .one (.s (.p (1 + 2) 0))), (8, .one (.s (.p (1 + 3) 0))), (9, .one (.s (.i n)))], plM key m a, 1 + 5⟩
def plS4 (key m : List (BitVec 8)) (a : List (BitVec 64)) : St := ⟨[(0, .one (.s (.osl 1 32))), (8, .one (.s (.p (1 + 3) 0)))], plM key m a, 1 + 4⟩
def plZ1 (a d : List (BitVec 64)) : List (BitVec 64) := digs 9 (val (zipA (lit 0 9 a) (lit 0 9 d)) % P130)
def plZ2 (key : List (BitVec 8)) (a d : List (BitVec 64)) : List (BitVec 64) := convD (lit 0 9 (plZ1 a d)) (rD key) (List.replicate 18 0#64)
def plE (key m out : List (BitVec 8)) : Ef := ⟨.one (.s (.osl (1 + 2) 16)), [(1 + 2, ⟨0, .d8 out, true, true, false⟩), (1, ⟨32, .d8 (lit 0 32 key), false, false, false⟩), (1 + 1, ⟨m.length, .d8 m, false, false, false⟩)], 1 + 3, .eff, []⟩
noncomputable def plBody : List Code := flat (bodyOf Try.f9)
theorem plEnd (B : Nat) (key m : List (BitVec 8)) (a : List (BitVec 64)) : Tri P0 B (cxb true) 152 (1 + 2) (plBody.drop 6) (plS4 key m a) (Ret (cxb true) Try.f9.results.toList (plE key m (spOut 0#64 (lit 0 8 a) ((lit 0 32 key).drop 16)))) := by
  refine Tri.stepR (cx := cxb true) mix T0ok (HPlok B true) 5 10 noOrc [4] [(1, 1), (1 + 1, 1 + 1), (1 + 20, 1 + 2)] (1 + 3) ⟨[(4, .one (.s (.osl (1 + 2) 16)))], [(1, ⟨32, .d8 (lit 0 32 key), false, false, false⟩), (1 + 1, ⟨m.length, .d8 m, false, false, false⟩), (1 + 2, ⟨0, .d8 (spOut 0#64 (lit 0 8 a) ((lit 0 32 key).drop 16)), true, true, false⟩)], 1 + 3⟩ [] (by kernel_rfl) obNil ?_
  exact Tri.ret (cx := cxb true) mix T0ok (HPlok B true) 0 noOrc [4] [1 + 2, 1, 1 + 1] (1 + 3) ⟨[(4, .one (.s (.osl (1 + 2) 16)))], (plE key m (spOut 0#64 (lit 0 8 a) ((lit 0 32 key).drop 16))).m, 1 + 3⟩ [] .r (by kernel_rfl) obNil (by kernel_rfl) rfl [1 + 2, 1, 1 + 1] [] (by kernel_rfl) obNil

/-- digits of sums -/
theorem zipA_spec : ∀ (a b : List (BitVec 64)), a.length = b.length → (∀ x ∈ a, x.toNat < 65536) → (∀ x ∈ b, x.toNat < 65536) → val (zipA a b) = val a + val b ∧ ∀ x ∈ zipA a b, x.toNat < 2 ^ 60
  | [], [], _, _, _ => by simp [zipA, val]
  | x :: a, y :: b, hl, ha, hb => by
    have h1 := ha x (by simp)
    have h2 := hb y (by simp)
    have ih := zipA_spec a b (by simpa using hl) (fun z hz => ha z (by simp [hz])) (fun z hz => hb z (by simp [hz]))
    have e : (x + y).toNat = x.toNat + y.toNat := by rw [BitVec.toNat_add]; omega
    refine ⟨?_, fun z hz => ?_⟩
    · simp only [zipA, val, ih.1, e]; omega
    · simp only [zipA, List.mem_cons] at hz
      rcases hz with rfl | hz
      · rw [e]; omega
      · exact ih.2 z hz
  | [], _ :: _, hl, _, _ => by simp at hl
  | _ :: _, [], hl, _, _ => by simp at hl

theorem rD_spec (key : List (BitVec 8)) : val (rD key) = leN (rB key) ∧ (∀ x ∈ rD key, x.toNat < 65536) ∧ (rD key).length = 9 := by
  have hs := d16_spec (rB key)
  have hl : (d16 (rB key)).length ≤ 9 := by rw [d16_length]; show (16 + 1) / 2 ≤ 9; omega
  have hp : rD key = d16 (rB key) ++ List.replicate (9 - (d16 (rB key)).length) 0#64 := lit_pad hl
  refine ⟨by rw [hp, val_app, val_zeros, hs.1]; simp, fun x hx => ?_, lit_length _ _ _⟩
  rw [hp, List.mem_append] at hx
  rcases hx with hx | hx
  · exact hs.2 x hx
  · rw [(List.mem_replicate.1 hx).2]; decide

theorem P130_lt : P130 < 65536 ^ 9 := by decide
theorem lim_lt : 2 ^ 130 * 256 ^ 16 < LIM274 := of_decide_eq_true (by kernel_rfl)
/-- one block's step -/
theorem pl_step (key : List (BitVec 8)) (v b : Nat) (hv : v < P130) (hb : b < 65536 ^ 9) :
    (∀ y ∈ zipA (lit 0 9 (digs 9 v)) (lit 0 9 (digs 9 b)), y.toNat < 2 ^ 60) ∧ (∀ y ∈ plZ2 key (digs 9 v) (digs 9 b), y.toNat < 2 ^ 60) ∧ val (plZ2 key (digs 9 v) (digs 9 b)) < LIM274 ∧ val (plZ2 key (digs 9 v) (digs 9 b)) % P130 = (v + b) * leN (rB key) % P130 := by
  obtain ⟨r1, r2, r3⟩ := rD_spec key
  have l1 := lit_eq (z := (0 : BitVec 64)) (digs_length 9 v)
  have l2 := lit_eq (z := (0 : BitVec 64)) (digs_length 9 b)
  obtain ⟨z1, z2⟩ := zipA_spec (digs 9 v) (digs 9 b) (by rw [digs_length, digs_length]) (digs_lt 9 v) (digs_lt 9 b)
  have pl := P130_lt
  rw [val_digs, val_digs, Nat.mod_eq_of_lt (show v < 65536 ^ 9 by omega), Nat.mod_eq_of_lt hb] at z1
  have e1 : plZ1 (digs 9 v) (digs 9 b) = digs 9 ((v + b) % P130) := by unfold plZ1; rw [l1, l2, z1]
  have hm : (v + b) % P130 < P130 := Nat.mod_lt _ (by decide)
  have c := convD_spec (lit 0 9 (plZ1 (digs 9 v) (digs 9 b))) (rD key) (List.replicate 18 0#64) 0 (by rw [e1, lit_eq (digs_length _ _)]; exact digs_lt 9 _) r2 (fun z hz => by rw [(List.mem_replicate.1 hz).2]; decide) (by rw [lit_length]; decide) (by rw [lit_length, r3]; simp)
  have hval : val (plZ2 key (digs 9 v) (digs 9 b)) = (v + b) % P130 * leN (rB key) := by
    unfold plZ2
    rw [c.1, val_zeros, e1, lit_eq (digs_length _ _), val_digs, Nat.mod_eq_of_lt (by omega), r1, Nat.zero_add]
  refine ⟨by rw [l1, l2]; exact z2, fun y hy => ?_, ?_, ?_⟩
  · have := c.2.2 y hy
    rw [lit_length] at this
    omega
  · rw [hval]
    have h1 := leN_lt (rB key)
    have h2 : (rB key).length = 16 := rfl
    rw [h2] at h1
    have h3 : (v + b) % P130 ≤ 2 ^ 130 := by rw [P130_eq] at hm ⊢; omega
    exact Nat.lt_of_le_of_lt (Nat.mul_le_mul h3 (Nat.le_of_lt h1)) lim_lt
  · rw [hval, Nat.mod_mul_mod]

theorem blk_eq (m : List (BitVec 8)) (k c : Nat) (hk : 16 * k < m.length) (hc : m.length ≤ c) :
    List.take (Int.toNat (minX (↑(List.length m - (16 : Nat) * k) : Int) (16 : Int)) - Int.toNat (0 : Int)) (List.drop (if c - (16 : Nat) * k = Int.toNat (0 : Int) then (16 : Nat) * k else Int.toNat (0 : Int) + (16 : Nat) * k) m) = (m.drop (16 * k)).take 16 := by
  rw [if_neg (by omega)]
  have h0 : Int.toNat (0 : Int) = 0 := rfl
  rw [h0, Nat.zero_add, Nat.sub_zero]
  have : Int.toNat (minX (↑(List.length m - (16 : Nat) * k) : Int) (16 : Int)) = min 16 (m.length - 16 * k) := by unfold minX; split <;> omega
  rw [this, ← List.take_take]
  congr 1
  rw [List.take_of_length_le (by simp)]

theorem Tri.code {P : Program} {B : Nat} {cx : Cx} {sz base : Nat} {l l' : List Code} {s : St} {R : Ex → St → Prop} (h : l = l') (ht : Tri P B cx sz base l' s R) : Tri P B cx sz base l s R := by rw [h]; exact ht
noncomputable def inB (l : List Code) : List Code := match l with
  | .block _ (.loop c) :: _ => flat c
  | .block _ c :: _ => flat c
  | _ => []
noncomputable def plIn : List Code := inB ((inB (plBody.drop 5)).drop 2)
theorem plMid (key m : List (BitVec 8)) (a d : List (BitVec 64)) (k c : Nat) (n : Int) : runC (cxb true) (HPl true) 152 10 noOrc [0, 1, 5, 8, 9] [1, 1 + 1, 1 + 2, 1 + 3] (1 + 5) ((plIn.drop 2).take 7) (plS2 key m a d k c n) = some (.n, plS3 key m (digs 9 (val (plZ2 key a d) % P130)) k c n, [∀ y ∈ zipA (lit 0 9 a) (lit 0 9 d), y.toNat < 2 ^ 60, ∀ y ∈ plZ2 key a d, y.toNat < 2 ^ 60, val (plZ2 key a d) < LIM274]) := by kernel_rfl
theorem plMidT (B : Nat) (key m : List (BitVec 8)) (a d : List (BitVec 64)) (k c : Nat) (n : Int) {R : Ex → St → Prop} {base : Nat} (h1 : ∀ y ∈ zipA (lit 0 9 a) (lit 0 9 d), y.toNat < 2 ^ 60) (h2 : ∀ y ∈ plZ2 key a d, y.toNat < 2 ^ 60) (h3 : val (plZ2 key a d) < LIM274)
    (h : Tri P0 B (cxb true) 152 base ((plIn.drop 2).drop 7) (plS3 key m (digs 9 (val (plZ2 key a d) % P130)) k c n) R) : Tri P0 B (cxb true) 152 base (plIn.drop 2) (plS2 key m a d k c n) R :=
  Tri.step (cx := cxb true) mix T0ok (HPlok B true) 7 10 noOrc [0, 1, 5, 8, 9] [1, 1 + 1, 1 + 2, 1 + 3] (1 + 5) _ _ (plMid key m a d k c n) (obCons h1 <| obCons h2 <| obCons h3 obNil) rfl h

theorem plLoop (B : Nat) (key m : List (BitVec 8)) (c : Nat) (hc : m.length ≤ c) (hl : m.length ≤ 4294967295) : Tri P0 B (cxb true) 152 (1 + 2) (plBody.drop 5) (plSt key m (digs 9 (pAcc (leN (rB key)) m 0)) 0 0 c)
    (Ret (cxb true) Try.f9.results.toList (plE key m (spOut 0#64 (lit 0 8 (digs 9 (pAcc (leN (rB key)) m (nBlk m)))) ((lit 0 32 key).drop 16)))) := by
  refine Tri.loop (id := 2) (ι := { k : Nat × Nat × Nat // k.1 ≤ nBlk m ∧ (k.1 < nBlk m → k.2.1 = 16 * k.1 ∧ k.2.2 = c - 16 * k.1) }) rfl (fun k => plSt key m (digs 9 (pAcc (leN (rB key)) m k.1.1)) k.1.1 k.1.2.1 k.1.2.2) (fun k => nBlk m - k.1.1) ⟨(0, 0, c), Nat.zero_le _, fun _ => ⟨rfl, rfl⟩⟩ rfl (fun k => by show 1 + 2 ≤ 1 + 4; omega) (R1 := fun s => s = plS4 key m (digs 9 (pAcc (leN (rB key)) m (nBlk m)))) (fun ⟨⟨k, o, q⟩, hk, hoq⟩ => ?_) (fun s' hs => ?_)
  · by_cases hlt : k < nBlk m
    · dsimp only at hk hoq
      obtain ⟨rfl, rfl⟩ := hoq hlt
      have hkm : 16 * k < m.length := by unfold nBlk at hlt; omega
      have hbl : blkN m k < 65536 ^ 9 := by
        unfold blkN
        have h1 := leN_lt ((m.drop (16 * k)).take 16)
        have h2 : ((m.drop (16 * k)).take 16).length ≤ 16 := by rw [List.length_take]; omega
        have h3 := Nat.pow_le_pow_right (n := 256) (by omega) h2
        omega
      obtain ⟨s1, s2, s3, s4⟩ := pl_step key (pAcc (leN (rB key)) m k) (blkN m k) (pAcc_lt _ _ _) hbl
      have be := blk_eq m k c hkm hc
      have hnm : minX (↑(List.length m - (16 : Nat) * k) : Int) (16 : Int) = ((min 16 (m.length - 16 * k) : Nat) : Int) := by unfold minX; split <;> omega
      refine Tri.chg (cx := cxb false) rfl ?_
      refine Tri.step (cx := cxb false) mix T0ok (HPlok B false) 2 0 (orcL [(60, true)]) [0, 1, 5, 8] [1, 1 + 1, 1 + 2, 1 + 3] (1 + 4) (plSt key m (digs 9 (pAcc (leN (rB key)) m k)) k (16 * k) (c - 16 * k)) [decide ((0 : Int) < (↑(List.length m - (16 : Nat) * k) : Int)) = true] (by kernel_rfl) (obCons (by simp; omega) obNil) (by kernel_rfl) ?_
      refine Tri.block (id := 3) rfl (R1 := fun s => ∃ o q, (k + 1 < nBlk m → o = 16 * (k + 1) ∧ q = c - 16 * (k + 1)) ∧ s = plSt key m (digs 9 (pAcc (leN (rB key)) m (k + 1))) (k + 1) o q) ?_ (fun s' ⟨o, q, h1, h2⟩ => Tri.nil ⟨⟨(k + 1, o, q), hlt, h1⟩, by show nBlk m - (k + 1) < nBlk m - k; omega, h2⟩)
      refine Tri.step (cx := cxb false) mix T0ok (HPlok B false) 2 0 noOrc [0, 1, 5, 8, 9, 10] [1, 1 + 1, 1 + 2, 1 + 3, 1 + 4] (1 + 5) (plS2 key m (digs 9 (pAcc (leN (rB key)) m k)) (digs 9 (leN (List.take (Int.toNat (minX (↑(List.length m - (16 : Nat) * k) : Int) (16 : Int)) - Int.toNat (0 : Int)) (List.drop (if c - (16 : Nat) * k = Int.toNat (0 : Int) then (16 : Nat) * k else Int.toNat (0 : Int) + (16 : Nat) * k) m)) + (256 : Nat) ^ List.length (List.take (Int.toNat (minX (↑(List.length m - (16 : Nat) * k) : Int) (16 : Int)) - Int.toNat (0 : Int)) (List.drop (if c - (16 : Nat) * k = Int.toNat (0 : Int) then (16 : Nat) * k else Int.toNat (0 : Int) + (16 : Nat) * k) m)))) k c (minX (↑(List.length m - (16 : Nat) * k) : Int) (16 : Int))) ([(0 : Int) ≤ (0 : Int) ∧ (0 : Int) ≤ minX (↑(List.length m - (16 : Nat) * k) : Int) (16 : Int) ∧ minX (↑(List.length m - (16 : Nat) * k) : Int) (16 : Int) ≤ (↑(c - (16 : Nat) * k) : Int), (if c - (16 : Nat) * k = Int.toNat (0 : Int) then (16 : Nat) * k else Int.toNat (0 : Int) + (16 : Nat) * k) + (Int.toNat (minX (↑(List.length m - (16 : Nat) * k) : Int) (16 : Int)) - Int.toNat (0 : Int)) ≤ List.length m ∧ Int.toNat (minX (↑(List.length m - (16 : Nat) * k) : Int) (16 : Int)) - Int.toNat (0 : Int) ≤ c - (16 : Nat) * k - Int.toNat (0 : Int), List.length (List.take (Int.toNat (minX (↑(List.length m - (16 : Nat) * k) : Int) (16 : Int)) - Int.toNat (0 : Int)) (List.drop (if c - (16 : Nat) * k = Int.toNat (0 : Int) then (16 : Nat) * k else Int.toNat (0 : Int) + (16 : Nat) * k) m)) = List.length (List.take (Int.toNat (minX (↑(List.length m - (16 : Nat) * k) : Int) (16 : Int)) - Int.toNat (0 : Int)) (List.drop (if c - (16 : Nat) * k = Int.toNat (0 : Int) then (16 : Nat) * k else Int.toNat (0 : Int) + (16 : Nat) * k) m)) ∧ True, List.length (List.take (Int.toNat (minX (↑(List.length m - (16 : Nat) * k) : Int) (16 : Int)) - Int.toNat (0 : Int)) (List.drop (if c - (16 : Nat) * k = Int.toNat (0 : Int) then (16 : Nat) * k else Int.toNat (0 : Int) + (16 : Nat) * k) m)) ≤ (16 : Nat)]) (by kernel_rfl) (by
        rw [be, hnm]
        clear s1 s2 s3 s4 hbl be
        (repeat' (first | exact obNil | refine obCons ?_ ?_))
        all_goals first | trivial | (simp only [Int.toNat_zero]; omega) | (simp; omega) | (rw [if_neg (by simp; omega)]; simp; omega)) (by kernel_rfl) ?_
      rw [be, show leN ((m.drop (16 * k)).take 16) + 256 ^ ((m.drop (16 * k)).take 16).length = blkN m k from rfl]
      refine Tri.chg (cx := cxb true) rfl ?_
      refine Tri.code (l' := plIn.drop 2) (by kernel_rfl) ?_
      refine plMidT B key m _ _ k c _ s1 s2 s3 ?_
      refine Tri.code (l' := plIn.drop 9) (by kernel_rfl) ?_
      rw [s4]
      clear s1 s2 s3 s4 hbl be
      refine Tri.chg (cx := cxb false) rfl ?_
      refine Tri.finR (cx := cxb false) mix T0ok (HPlok B false) 0 noOrc [0, 1, 5, 8] [(1, 1), (1 + 1, 1 + 1), (1 + 2, 1 + 2), (1 + 3, 1 + 3)] (1 + 4) .n (St.mk [(nat_lit 0, SV.one (SV0.s (Sc.osl (nat_lit 1) (nat_lit 32)))), (nat_lit 1, SV.one (SV0.s (Sc.sl (nat_lit 2) (if c - (16 : Nat) * k = Int.toNat (minX (↑(List.length m - (16 : Nat) * k) : Int) (16 : Int)) then (16 : Nat) * k else Int.toNat (minX (↑(List.length m - (16 : Nat) * k) : Int) (16 : Int)) + (16 : Nat) * k) (Int.toNat (↑(List.length m - (16 : Nat) * k) : Int) - Int.toNat (minX (↑(List.length m - (16 : Nat) * k) : Int) (16 : Int))) (c - (16 : Nat) * k - Int.toNat (minX (↑(List.length m - (16 : Nat) * k) : Int) (16 : Int)))))), (nat_lit 5, SV.one (SV0.s (Sc.p (nat_lit 3) (nat_lit 0)))), (nat_lit 8, SV.one (SV0.s (Sc.p (nat_lit 4) (nat_lit 0))))] [(nat_lit 1, Seg.mk (nat_lit 32) (SegD.d8 (lit (0 : BitVec (8 : Nat)) (32 : Nat) key)) false false false), (nat_lit 2, Seg.mk (List.length m) (SegD.d8 m) false false false), (nat_lit 3, Seg.mk (nat_lit 9) (SegD.d64 (rD key)) true false false), (nat_lit 4, Seg.mk (nat_lit 9) (SegD.d64 (lit (0 : BitVec (64 : Nat)) (9 : Nat) (digs (9 : Nat) ((pAcc (leN (rB key)) m k + blkN m k) * leN (rB key) % P130)))) true false false)] (nat_lit 5)) ([(0 : Int) ≤ minX (↑(List.length m - (16 : Nat) * k) : Int) (16 : Int) ∧ minX (↑(List.length m - (16 : Nat) * k) : Int) (16 : Int) ≤ (↑(List.length m - (16 : Nat) * k) : Int) ∧ (↑(List.length m - (16 : Nat) * k) : Int) ≤ (↑(c - (16 : Nat) * k) : Int)]) (by kernel_rfl) (by
        rw [hnm]
        (repeat' (first | exact obNil | refine obCons ?_ ?_))
        all_goals first | trivial | omega | (simp; omega)) ⟨if c - (16 : Nat) * k = Int.toNat (minX (↑(List.length m - (16 : Nat) * k) : Int) (16 : Int)) then (16 : Nat) * k else Int.toNat (minX (↑(List.length m - (16 : Nat) * k) : Int) (16 : Int)) + (16 : Nat) * k, c - (16 : Nat) * k - Int.toNat (minX (↑(List.length m - (16 : Nat) * k) : Int) (16 : Int)), fun h => ?_, ?_⟩
      · have h1 : 16 * (k + 1) < m.length := by unfold nBlk at h; omega
        rw [hnm, Int.toNat_natCast, show min 16 (m.length - 16 * k) = 16 by omega, if_neg (by omega)]
        omega
      · have hL : Int.toNat (↑(List.length m - (16 : Nat) * k) : Int) - Int.toNat (minX (↑(List.length m - (16 : Nat) * k) : Int) (16 : Int)) = m.length - 16 * (k + 1) := by rw [hnm]; omega
        unfold plSt
        rw [← hL]
        rfl
    · obtain rfl : k = nBlk m := by omega
      refine Tri.chg (cx := cxb false) rfl ?_
      exact Tri.fin (cx := cxb false) mix T0ok (HPlok B false) 0 (orcL [(60, false)]) [0, 8] [1, 1 + 1, 1 + 2, 1 + 3] (1 + 4) (.x 2) (plS4 key m (digs 9 (pAcc (leN (rB key)) m (nBlk m)))) [decide ((0 : Int) < (↑(List.length m - (16 : Nat) * nBlk m) : Int)) = false] (by kernel_rfl) (obCons (by unfold nBlk; simp; omega) obNil) (by kernel_rfl) rfl
  · subst hs
    exact plEnd B key m _

theorem poly_out (key m : List (BitVec 8)) (hk : key.length = 32) : spOut 0#64 (lit 0 8 (digs 9 (pAcc (leN (rB key)) m (nBlk m)))) ((lit 0 32 key).drop 16) = poly key m := by
  have hv := Nat.lt_trans (pAcc_lt (leN (rB key)) m (nBlk m)) P130_lt
  unfold poly
  generalize pAcc (leN (rB key)) m (nBlk m) = v at hv
  rw [lit_take (by rw [digs_length]; omega), digs_take 9 8 v (by omega), lit_eq hk, spOut_spec _ _ _ (by rw [digs_length, List.length_drop, hk]) (by decide) (digs_lt 8 v), digs_length, val_digs]
  rw [List.take_of_length_le (show (key.drop 16).length ≤ 16 by rw [List.length_drop, hk]; omega)]
  rw [← bytesN_mod, ← bytesN_mod 16 (v + _)]
  refine congrArg (bytesN 16) ?_
  rw [show (0#64).toNat = 0 from rfl, Nat.zero_add]
  omega

def plA (key m : List (BitVec 8)) : Mem := [(1, ⟨32, .d8 (lit 0 32 key), false, false, false⟩), (1 + 1, ⟨m.length, .d8 m, false, false, false⟩)]
theorem poly1 (B : Nat) (key m : List (BitVec 8)) (c : Nat) (hc : m.length ≤ c) (hl : m.length ≤ 4294967295) : FnE P0 B 1 9 [.one (.s (.osl 1 32)), .one (.s (.sl (1 + 1) 0 m.length c))] (plA key m) (1 + 2) (plE key m (spOut 0#64 (lit 0 8 (digs 9 (pAcc (leN (rB key)) m (nBlk m)))) ((lit 0 32 key).drop 16))) := by
  refine FnE.tri (cx := cxb true) (sz := 152) (fn := Try.f9) (c := bodyOf Try.f9) T0ok (by kernel_rfl) (by kernel_rfl) (by kernel_rfl) (by kernel_rfl) (by kernel_rfl) (by kernel_rfl) (by show 1 + 2 ≤ 1 + 3; omega) ?_
  refine Tri.step (cx := cxb true) mix T0ok (HPlok B true) 5 20 noOrc [0, 1, 5, 8] [1, 1 + 1, 1 + 2, 1 + 3] (1 + 4) (plSt key m (digs 9 (pAcc (leN (rB key)) m 0)) 0 0 c) [] (by kernel_rfl) obNil (by kernel_rfl) ?_
  exact plLoop B key m c hc hl

theorem poly0 (B : Nat) (key m : List (BitVec 8)) (h0 : m.length = 0) : FnE P0 B 1 9 [.one (.s (.osl 1 32)), .one (.s .sl0)] (plA key m) (1 + 2) (plE key m (spOut 0#64 (lit 0 8 (digs 9 (pAcc (leN (rB key)) m (nBlk m)))) ((lit 0 32 key).drop 16))) := by
  refine FnE.tri (cx := cxb true) (sz := 152) (fn := Try.f9) (c := bodyOf Try.f9) T0ok (by kernel_rfl) (by kernel_rfl) (by kernel_rfl) (by kernel_rfl) (by kernel_rfl) (by kernel_rfl) (by show 1 + 2 ≤ 1 + 3; omega) ?_
  rw [show nBlk m = 0 by unfold nBlk; omega]
  refine Tri.step (cx := cxb true) mix T0ok (HPlok B true) 6 20 noOrc [0, 8] [1, 1 + 1, 1 + 2, 1 + 3] (1 + 4) (plS4 key m (digs 9 (pAcc (leN (rB key)) m 0))) [] (by kernel_rfl) obNil (by kernel_rfl) ?_
  exact plEnd B key m _

def plCt : Ct := ⟨[.slc false, .slc false], [], fun vs ds gs => match vs, ds, gs with
  | [], [.d8 key, .d8 m], [] => bif Nat.beq key.length 32 then some ⟨.one (.s (.osl (1 + 2) 16)), [.d8 key, .d8 m], [⟨0, .d8 (lit 0 16 (poly key m)), true, true, false⟩], [m.length ≤ 4294967295]⟩ else none
  | _, _, _ => none⟩

theorem poly_ok (B : Nat) : plCt.Ok P0 B 1 9 := by
  intro vs ds gs out h hpre hn
  unfold plCt at h
  dsimp only at h
  split at h <;> first | (cases h; done) | skip
  rename_i key m
  cases hb : Nat.beq key.length 32 with
  | false => rw [hb] at h; cases h
  | true =>
    rw [hb, cond_true] at h
    cases h
    have hk := Nat.eq_of_beq_eq_true hb
    have hl : m.length ≤ 4294967295 := hpre _ (by simp)
    simp only [plCt, canArgs, segsOf, globs, addM, List.length_cons, List.length_nil, SegD.len, hk, Nat.zero_add]
    have e := poly_out key m hk
    refine FnE.slice (A := fun x => [.one (.s (.osl 1 32)), .one (.s x)]) (k := 1 + 1) (n := m.length) (s := ⟨m.length, .d8 m, false, false, false⟩) (fun x y ρ h => by simp [SV.den, SV0.den, h]) (by kernel_rfl) (Nat.le_refl _) (fun c hc => ?_) (fun h0 => ?_)
    · have := poly1 B key m c hc hl
      unfold plA plE at this
      rw [e, lit_eq hk] at this
      rw [lit_eq (poly_length _ _)]
      exact this
    · have := poly0 B key m h0
      unfold plA plE at this
      rw [e, lit_eq hk] at this
      rw [lit_eq (poly_length _ _)]
      exact this
end Go.Sx
