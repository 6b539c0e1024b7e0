/- spec.P, spec.minus; spec.Less: the states. spec.Less; spec.settle. spec.settle: its contract. spec.product, spec.Add, spec.Neg, spec.Sub, spec.Mul, spec.Mod. spec.Neg, spec.Sub, spec.Mul. Conditions: none. -/
import Derived.Test.YtnloecdkogckiaaDoorPg
import Derived.Test.YtnloecdkogckiaaDoorR1
set_option maxRecDepth 1000000
set_option linter.unusedVariables false
namespace Go.Sx
open Go.Proofs

def pCt : Ct := ⟨[], [], fun vs ds gs => match vs, ds, gs with
  | [], [], [] => some ⟨.one (.ag [.d64 pd25]), [], [], []⟩
  | _, _, _ => none⟩
theorem p1 (B : Nat) : FnE P0 B 4 39 [] [] 4 ⟨.one (.ag [.d64 pd25]), [], 4, .eff, []⟩ := by
  refine FnE.tri (cx := cxb true) (sz := 13) (fn := Tryd.f39) (c := bodyOf Tryd.f39) T0ok (by kernel_rfl) (by kernel_rfl) (by kernel_rfl) (by kernel_rfl) (by kernel_rfl) (by kernel_rfl) (Nat.le_refl _) ?_
  refine Tri.stepR (cx := cxb true) mix T0ok (H0ok B true) 7 17 noOrc [0] [(4, 4)] (4 + 1) ⟨[(0, .one (.s (.p 4 0)))], [(4, ⟨16, .d64 pd25, true, false, false⟩)], 4 + 1⟩ [] (by kernel_rfl) obNil ?_
  exact Tri.ret (cx := cxb true) mix T0ok (H0ok B true) 0 noOrc [0] [4] (4 + 1) ⟨[(0, .one (.s (.p 4 0)))], [(4, ⟨16, .d64 pd25, true, false, false⟩)], 4 + 1⟩ [] .r (by kernel_rfl) obNil (by kernel_rfl) rfl [] [] (by kernel_rfl) obNil
theorem p_ok (B : Nat) : pCt.Ok P0 B 4 39 := by
  intro vs ds gs out h hpre hn
  unfold pCt at h
  dsimp only at h
  split at h <;> first | (cases h; done) | skip
  cases h
  exact p1 B

theorem minus1 (B : Nat) (a b : List (BitVec 64)) : FnE P0 B 4 38 [.one (.ag [.d64 (lit 0 16 a)]), .one (.ag [.d64 (lit 0 16 b)])] [] 4 ⟨.one (.ag [.d64 (lit 0 16 (bpass 0#64 (lit 0 16 a) (lit 0 16 b)))]), [], 4, .eff, []⟩ := by
  refine FnE.tri (cx := cxb true) (sz := 32) (fn := Tryd.f38) (c := bodyOf Tryd.f38) T0ok (by kernel_rfl) (by kernel_rfl) (by kernel_rfl) (by kernel_rfl) (by kernel_rfl) (by kernel_rfl) (Nat.le_refl _) ?_
  refine Tri.stepR (cx := cxb true) mix T0ok (H0ok B true) 6 17 noOrc [4] [(4 + 2, 4)] (4 + 1) ⟨[(4, .one (.s (.p 4 0)))], [(4, ⟨16, .d64 (lit 0 16 (bpass 0#64 (lit 0 16 a) (lit 0 16 b))), true, false, false⟩)], 4 + 1⟩ [] (by kernel_rfl) obNil ?_
  exact Tri.ret (cx := cxb true) mix T0ok (H0ok B true) 0 noOrc [4] [4] (4 + 1) ⟨[(4, .one (.s (.p 4 0)))], [(4, ⟨16, .d64 (lit 0 16 (bpass 0#64 (lit 0 16 a) (lit 0 16 b))), true, false, false⟩)], 4 + 1⟩ [] .r (by kernel_rfl) obNil (by kernel_rfl) rfl [] [] (by kernel_rfl) obNil
def minusCt : Ct := ⟨[.val, .val], [], fun vs ds gs => match vs, ds, gs with
  | [.one (.ag [.d64 a]), .one (.ag [.d64 b])], [], [] => bif Nat.beq a.length 16 && Nat.beq b.length 16 then some ⟨.one (.ag [.d64 (lit 0 16 (bpass 0#64 a b))]), [], [], []⟩ else none
  | _, _, _ => none⟩
theorem minus_ok (B : Nat) : minusCt.Ok P0 B 4 38 := by
  intro vs ds gs out h hpre hn
  unfold minusCt at h
  dsimp only at h
  split at h <;> first | (cases h; done) | skip
  rename_i a b
  cases hb : (Nat.beq a.length 16 && Nat.beq b.length 16) with
  | false => rw [hb] at h; cases h
  | true =>
    rw [hb, cond_true] at h
    cases h
    simp only [Bool.and_eq_true] at hb
    have k1 := Nat.eq_of_beq_eq_true hb.1
    have k2 := Nat.eq_of_beq_eq_true hb.2
    have := minus1 B a b
    rw [lit_eq k1, lit_eq k2] at this
    exact this

def lsM (a b : List (BitVec 64)) : Mem := [(4, ⟨16, .d64 (lit 0 16 a), true, false, false⟩), (4 + 1, ⟨16, .d64 (lit 0 16 b), true, false, false⟩)]
def lsSt (a b : List (BitVec 64)) (i : Int) : St := ⟨[(2, .one (.s (.p 4 0))), (3, .one (.s (.p (4 + 1) 0))), (5, .one (.s (.i i)))], lsM a b, 4 + 2⟩
noncomputable def lsB : List Code := flat (bodyOf Tryd.f45)
/-- the body of the first loop, or block -/
noncomputable def lpB (l : List Code) : List Code := match l with
  | .block _ (.loop c) :: _ => flat c
  | .block _ c :: _ => flat c
  | _ => []
end Go.Sx

set_option maxRecDepth 1000000
set_option linter.unusedVariables false
namespace Go.Sx
open Go.Proofs

theorem getD_all {a b : List (BitVec 64)} (h : a.length = b.length) (he : ∀ k, a.getD k 0 = b.getD k 0) : a = b := by
  apply List.ext_getElem?
  intro i
  have := he i
  rcases Nat.lt_or_ge i a.length with hi | hi
  · have h1 : i < b.length := by omega
    simp only [List.getD, List.getElem?_eq_getElem hi, List.getElem?_eq_getElem h1, Option.getD_some] at this ⊢
    rw [this]
  · rw [List.getElem?_eq_none hi, List.getElem?_eq_none (by omega)]

def lsE (a b : List (BitVec 64)) : Ef := ⟨.one (.s (.b (decide (val a < val b)))), [], 4, .eff, []⟩

theorem less1 (B : Nat) (a b : List (BitVec 64)) (la : a.length = 16) (lb : b.length = 16) (ha : ∀ x ∈ a, x.toNat < 65536) (hb : ∀ x ∈ b, x.toNat < 65536) :
    FnE P0 B 4 45 [.one (.ag [.d64 (lit 0 16 a)]), .one (.ag [.d64 (lit 0 16 b)])] [] 4 (lsE a b) := by
  refine FnE.tri (cx := cxb true) (sz := 24) (fn := Tryd.f45) (c := bodyOf Tryd.f45) T0ok (by kernel_rfl) (by kernel_rfl) (by kernel_rfl) (by kernel_rfl) (by kernel_rfl) (by kernel_rfl) (Nat.le_refl _) ?_
  refine Tri.step (cx := cxb true) mix T0ok (H0ok B true) 2 0 noOrc [2, 3, 5] [4, 4 + 1] (4 + 2) (lsSt a b (((16 : Nat) : Int) - 1)) [] (by kernel_rfl) obNil (by kernel_rfl) ?_
  refine Tri.loop (id := 0) (ι := { i : Nat // i ≤ 16 ∧ ∀ k, i ≤ k → a.getD k 0 = b.getD k 0 }) rfl (fun i => lsSt a b ((i.1 : Int) - 1)) (fun i => i.1) ⟨16, Nat.le_refl _, fun k hk => by rw [List.getD_eq_getElem?_getD, List.getD_eq_getElem?_getD, List.getElem?_eq_none (by omega), List.getElem?_eq_none (by omega)]⟩ rfl (fun i => Nat.le_add_right _ _)
    (R1 := fun s => s = ⟨[], [], 4 + 2⟩ ∧ a = b) (fun ⟨i, hi, he⟩ => ?_) (fun s' hs => ?_)
  · have e1 := lit_eq (z := 0) la
    have e2 := lit_eq (z := 0) lb
    rcases Nat.eq_zero_or_pos i with rfl | hp
    · refine Tri.chg (cx := cxb false) rfl ?_
      exact Tri.fin (cx := cxb false) mix T0ok (H0ok B false) 0 (orcL [(7, false)]) [] [] (4 + 2) (.x 0) ⟨[], [], 4 + 2⟩ [decide ((0 : Int) ≤ ((0 : Nat) : Int) - 1) = false] (by kernel_rfl) (obCons (by decide) obNil) (by kernel_rfl) ⟨rfl, getD_all (by omega) fun k => he k (Nat.zero_le _)⟩
    · have ek : Int.toNat ((i : Int) - 1) + 0 = i - 1 := by omega
      by_cases hne : a.getD (i - 1) 0 = b.getD (i - 1) 0
      · refine Tri.chg (cx := cxb false) rfl ?_
        refine Tri.fin (cx := cxb false) mix T0ok (H0ok B false) 0 (orcL [(7, true), (16, false)]) [2, 3, 5] [4, 4 + 1] (4 + 2) .n (lsSt a b ((i : Int) - 1 - 1)) ([decide ((0 : Int) ≤ (↑i : Int) - (1 : Int)) = true, (0 : Int) ≤ (↑i : Int) - (1 : Int) ∧ (↑i : Int) - (1 : Int) < (↑(16 : Nat) : Int), Int.toNat ((↑i : Int) - (1 : Int)) + (0 : Nat) < List.length (lit (0 : BitVec (64 : Nat)) (16 : Nat) a), (0 : Int) ≤ (↑i : Int) - (1 : Int) ∧ (↑i : Int) - (1 : Int) < (↑(16 : Nat) : Int), Int.toNat ((↑i : Int) - (1 : Int)) + (0 : Nat) < List.length (lit (0 : BitVec (64 : Nat)) (16 : Nat) b), (!decide (BitVec.toNat (List.getD (lit (0 : BitVec (64 : Nat)) (16 : Nat) a) (Int.toNat ((↑i : Int) - (1 : Int)) + (0 : Nat)) (0 : BitVec (64 : Nat))) = BitVec.toNat (List.getD (lit (0 : BitVec (64 : Nat)) (16 : Nat) b) (Int.toNat ((↑i : Int) - (1 : Int)) + (0 : Nat)) (0 : BitVec (64 : Nat))))) = false, rng ((↑i : Int) - (1 : Int) - (1 : Int))]) (by kernel_rfl) ?_ (by kernel_rfl) ⟨⟨i - 1, by omega, fun k hk => ?_⟩, by show i - 1 < i; omega, ?_⟩
        · rw [ek, e1, e2]
          (repeat' (first | exact obNil | refine obCons ?_ ?_))
          all_goals first | omega | (unfold rng; omega) | (rw [hne]; simp) | exact decide_eq_true (by omega)
        · rcases Nat.eq_or_lt_of_le hk with rfl | h
          · exact hne
          · exact he k (by omega)
        · have : (((i - 1 : Nat) : Int) - 1) = (i : Int) - 1 - 1 := by omega
          rw [this]
      · have hn : (a.getD (i - 1) 0).toNat ≠ (b.getD (i - 1) 0).toNat := fun h => hne (BitVec.eq_of_toNat_eq h)
        refine Tri.chg (cx := cxb false) rfl ?_
        refine Tri.fin (cx := cxb false) mix T0ok (H0ok B false) 0 (orcL [(7, true), (16, true)]) [4] [] (4 + 2) .r ⟨[(4, .one (.s (.b (decide (((lit 0 16 a).getD (Int.toNat ((i : Int) - 1) + 0) 0).toNat < ((lit 0 16 b).getD (Int.toNat ((i : Int) - 1) + 0) 0).toNat)))))], [], 4 + 2⟩ ([decide ((0 : Int) ≤ (↑i : Int) - (1 : Int)) = true, (0 : Int) ≤ (↑i : Int) - (1 : Int) ∧ (↑i : Int) - (1 : Int) < (↑(16 : Nat) : Int), Int.toNat ((↑i : Int) - (1 : Int)) + (0 : Nat) < List.length (lit (0 : BitVec (64 : Nat)) (16 : Nat) a), (0 : Int) ≤ (↑i : Int) - (1 : Int) ∧ (↑i : Int) - (1 : Int) < (↑(16 : Nat) : Int), Int.toNat ((↑i : Int) - (1 : Int)) + (0 : Nat) < List.length (lit (0 : BitVec (64 : Nat)) (16 : Nat) b), (!decide (BitVec.toNat (List.getD (lit (0 : BitVec (64 : Nat)) (16 : Nat) a) (Int.toNat ((↑i : Int) - (1 : Int)) + (0 : Nat)) (0 : BitVec (64 : Nat))) = BitVec.toNat (List.getD (lit (0 : BitVec (64 : Nat)) (16 : Nat) b) (Int.toNat ((↑i : Int) - (1 : Int)) + (0 : Nat)) (0 : BitVec (64 : Nat))))) = true, (0 : Int) ≤ (↑i : Int) - (1 : Int) ∧ (↑i : Int) - (1 : Int) < (↑(16 : Nat) : Int), Int.toNat ((↑i : Int) - (1 : Int)) + (0 : Nat) < List.length (lit (0 : BitVec (64 : Nat)) (16 : Nat) a), (0 : Int) ≤ (↑i : Int) - (1 : Int) ∧ (↑i : Int) - (1 : Int) < (↑(16 : Nat) : Int), Int.toNat ((↑i : Int) - (1 : Int)) + (0 : Nat) < List.length (lit (0 : BitVec (64 : Nat)) (16 : Nat) b)]) (by kernel_rfl) ?_ (by kernel_rfl) ?_
        · rw [ek, e1, e2]
          (repeat' (first | exact obNil | refine obCons ?_ ?_))
          all_goals first | omega | exact decide_eq_true (by omega) | exact congrArg not (decide_eq_false hn)
        · rw [ek, e1, e2]
          have hv : decide ((a.getD (i - 1) 0).toNat < (b.getD (i - 1) 0).toNat) = decide (val a < val b) := by
            rcases Nat.lt_or_gt_of_ne hn with h | h
            · rw [decide_eq_true h, decide_eq_true (val_cmp (i - 1) a b (by omega) ha (by omega) (fun k hk => he k (by omega)) h)]
            · have := val_cmp (i - 1) b a (by omega) hb (by omega) (fun k hk => (he k (by omega)).symm) h
              rw [decide_eq_false (by omega), decide_eq_false (by omega)]
          rw [hv]
          exact ⟨trivial, [], [], by kernel_rfl, obNil⟩
  · obtain ⟨rfl, hab⟩ := hs
    have e : lsE a b = ⟨.one (.s (.b false)), [], 4, .eff, []⟩ := by unfold lsE; rw [hab, decide_eq_false (Nat.lt_irrefl _)]
    rw [e]
    exact Tri.ret (cx := cxb true) mix T0ok (H0ok B true) 0 noOrc [4] [] (4 + 2) ⟨[(4, .one (.s (.b false)))], [], 4 + 2⟩ [] .r (by kernel_rfl) obNil (by kernel_rfl) rfl [] [] (by kernel_rfl) obNil

def lessCt : Ct := ⟨[.val, .val], [], fun vs ds gs => match vs, ds, gs with
  | [.one (.ag [.d64 a]), .one (.ag [.d64 b])], [], [] => bif Nat.beq a.length 16 && Nat.beq b.length 16 then some ⟨.one (.s (.b (decide (val a < val b)))), [], [], [∀ x ∈ a, x.toNat < 65536, ∀ x ∈ b, x.toNat < 65536]⟩ else none
  | _, _, _ => none⟩
theorem less_ok (B : Nat) : lessCt.Ok P0 B 4 45 := by
  intro vs ds gs out h hpre hn
  unfold lessCt at h
  dsimp only at h
  split at h <;> first | (cases h; done) | skip
  rename_i a b
  cases hb : (Nat.beq a.length 16 && Nat.beq b.length 16) with
  | false => rw [hb] at h; cases h
  | true =>
    rw [hb, cond_true] at h
    cases h
    simp only [Bool.and_eq_true] at hb
    have k1 := Nat.eq_of_beq_eq_true hb.1
    have k2 := Nat.eq_of_beq_eq_true hb.2
    have := less1 B a b k1 k2 (hpre _ List.mem_cons_self) (hpre _ (List.mem_cons_of_mem _ List.mem_cons_self))
    rw [lit_eq k1, lit_eq k2] at this
    exact this

noncomputable def HN0 (c : Bool) : Hook := hookC 39 (hookOf (cxb c) pCt) (hookC 38 (hookOf (cxb c) minusCt) (hookC 45 (hookOf (cxb c) lessCt) (H0 c)))
theorem HN0ok (B : Nat) (c : Bool) : HookOk P0 B 4 (HN0 c) := .cons (.ct (cx := cxb c) (p_ok B)) (.cons (.ct (cx := cxb c) (minus_ok B)) (.cons (.ct (cx := cxb c) (less_ok B)) (H0ok B c)))

def stSt (x : List (BitVec 64)) (c : BitVec 64) : St := ⟨[(1, .one (.s (.p 4 0))), (2, .one (.s (.p (4 + 1) 0))), (3, .one (.s (.u64 c)))], [(4, ⟨16, .d64 (lit 0 16 x), true, false, false⟩), (4 + 1, ⟨16, .d64 (List.replicate 16 0), true, false, false⟩)], 4 + 2⟩
def stSt2 (x : List (BitVec 64)) : St := ⟨[(1, .one (.s (.p 4 0))), (2, .one (.s (.p (4 + 1) 0)))], [(4, ⟨16, .d64 (lit 0 16 x), true, false, false⟩), (4 + 1, ⟨16, .d64 (List.replicate 16 0), true, false, false⟩)], 4 + 2⟩
noncomputable def stB : List Code := flat (bodyOf Tryd.f36)
end Go.Sx

set_option maxRecDepth 1000000
set_option linter.unusedVariables false
namespace Go.Sx
open Go.Proofs

structure SI (v : Nat) where
  x : List (BitVec 64)
  c : BitVec 64
  hl : x.length = 16
  hb : ∀ y ∈ x, y.toNat < 2 ^ 62
  hv : val x / W25 < 2 ^ 56
  hm : val x % P25 = v % P25
  hc : c = 0#64 → x = digs 16 (val x) ∧ val x < W25

theorem SI.mk' (v : Nat) (x : List (BitVec 64)) (c : BitVec 64) (hl : x.length = 16) (hb : ∀ y ∈ x, y.toNat < 2 ^ 62) (hv : val x / W25 < 2 ^ 56) (hm : val x % P25 = v % P25) (hc : c = 0#64 → x = digs 16 (val x) ∧ val x < W25) : ∃ j : SI v, j.x = x ∧ j.c = c := ⟨⟨x, c, hl, hb, hv, hm, hc⟩, rfl, rfl⟩
theorem quo_small {r q w : Nat} (hr : r < w) (hq : q < 2 ^ 56) (hw : 65536 ≤ w) : (r + 38 * q) / w < 2 ^ 56 := by
  refine Nat.div_lt_of_lt_mul ?_
  have : w * 2 ^ 56 = w * (2 ^ 56 - 1) + w := by omega
  rw [this]
  have h2 : 65536 * (2 ^ 56 - 1) ≤ w * (2 ^ 56 - 1) := Nat.mul_le_mul_right _ hw
  omega
theorem W25_big : 65536 ≤ W25 := by decide
theorem less_round {q r w : Nat} (h : 0 < q) (hw : 65536 ≤ w) : r + 38 * q < w * q + r := by
  have : 65536 * q ≤ w * q := Nat.mul_le_mul_right _ hw
  omega

theorem settle1 (B : Nat) (x : List (BitVec 64)) (hl : x.length = 16) (hb : ∀ y ∈ x, y.toNat < 2 ^ 60) : FnE P0 B 4 36 [.one (.ag [.d64 (lit 0 16 x)])] [] 4 ⟨.one (.ag [.d64 (lit 0 16 (digs 16 (val x % P25)))]), [], 4, .eff, []⟩ := by
  refine FnE.tri (cx := cxb true) (sz := 37) (fn := Tryd.f36) (c := bodyOf Tryd.f36) T0ok (by kernel_rfl) (by kernel_rfl) (by kernel_rfl) (by kernel_rfl) (by kernel_rfl) (by kernel_rfl) (Nat.le_refl _) ?_
  refine Tri.step (cx := cxb true) mix T0ok (HN0ok B true) 2 0 noOrc [1, 2, 3] [4, 4 + 1] (4 + 2) (stSt x 1#64) [] (by kernel_rfl) obNil (by kernel_rfl) ?_
  refine Tri.loop (id := 0) (ι := SI (val x)) rfl (fun j => stSt j.x j.c) (fun j => 2 * val j.x + (if j.c = 0#64 then 0 else 1)) ⟨x, 1#64, hl, fun y hy => Nat.lt_trans (hb y hy) (by decide), bound16 x hl hb, rfl, fun h => absurd h (by decide)⟩ rfl (fun j => Nat.le_add_right _ _)
    (R1 := fun s => ∃ v : Nat, s = stSt2 (digs 16 v) ∧ v < W25 ∧ v % P25 = val x % P25) (fun j => ?_) (fun s' hs => ?_)
  · obtain ⟨z, c, zl, zb, zv, zm, zc⟩ := j
    by_cases hc : c = 0#64
    · refine Tri.fin (cx := cxb true) mix T0ok (HN0ok B true) 0 (orcL [(7, false)]) [1, 2] [4, 4 + 1] (4 + 2) (.x 0) (stSt2 z) [decide ((0#64).toNat < c.toNat) = false] (by kernel_rfl) (obCons (by rw [hc]; decide) obNil) (by kernel_rfl) ⟨val z, ?_, (zc hc).2, zm⟩
      rw [← (zc hc).1]
    · have hc0 : 0 < c.toNat := by
        rcases Nat.eq_zero_or_pos c.toNat with h | h
        · exact absurd (BitVec.eq_of_toNat_eq h) hc
        · exact h
      obtain ⟨s1, s2, s3, s4⟩ := rnx_spec z zl zb zv
      have s5 := (rn_spec z zl zb).2
      have hr : val z % W25 < W25 := Nat.mod_lt _ (by decide)
      refine Tri.fin (cx := cxb true) mix T0ok (HN0ok B true) 17 (orcL [(7, true)]) [1, 2, 3] [4, 4 + 1] (4 + 2) .n (stSt (rnx z) (rnc z)) [decide ((0#64).toNat < c.toNat) = true] (by kernel_rfl) (obCons (decide_eq_true hc0) obNil) (by kernel_rfl) ?_
      have hv' : (val z % W25 + 38 * (val z / W25)) / W25 < 2 ^ 56 := quo_small hr zv W25_big
      have hm' : (val z % W25 + 38 * (val z / W25)) % P25 = val x % P25 := (fold_mod (val z)).trans zm
      rw [← s3] at hv' hm'
      obtain ⟨j', e1, e2⟩ := SI.mk' (val x) (rnx z) (rnc z) s1 s2 hv' hm' s4
      refine ⟨j', ?_, by rw [e1, e2]⟩
      show 2 * val j'.x + (if j'.c = 0#64 then 0 else 1) < 2 * val z + (if c = 0#64 then 0 else 1)
      rw [e1, e2, if_neg hc]
      have hdm := Nat.div_add_mod (val z) W25
      by_cases h0 : rnc z = 0#64
      · rw [if_pos h0, s3]
        have : val z / W25 = 0 := by rw [← s5, h0]; rfl
        rw [this] at hdm ⊢
        omega
      · rw [if_neg h0, s3]
        have : 0 < val z / W25 := by
          rcases Nat.eq_zero_or_pos (val z / W25) with h | h
          · exact absurd (BitVec.eq_of_toNat_eq (by rw [s5, h]; rfl)) h0
          · exact h
        have hlt := less_round (r := val z % W25) this W25_big
        rw [hdm] at hlt
        omega
  · obtain ⟨v0, rfl, hv0, hm0⟩ := hs
    refine Tri.loop (id := 4) (ι := { v : Nat // v < W25 ∧ v % P25 = val x % P25 }) rfl (fun v => stSt2 (digs 16 v.1)) (fun v => v.1) ⟨v0, hv0, hm0⟩ rfl (fun v => Nat.le_add_right _ _)
      (R1 := fun s => s = stSt2 (digs 16 (val x % P25))) (fun ⟨v, hv, hm⟩ => ?_) (fun s' hs => ?_)
    · have le : lit 0 16 (digs 16 v) = digs 16 v := lit_eq (digs_length 16 v)
      have vv : val (digs 16 v) = v := by rw [val_digs, W25_eq, Nat.mod_eq_of_lt hv]
      have ob1 : ∀ y ∈ lit 0 16 (digs 16 v), y.toNat < 65536 := by rw [le]; exact digs_lt 16 v
      by_cases hlt : v < P25
      · refine Tri.fin (cx := cxb true) mix T0ok (HN0ok B true) 0 (orcL [(32, false)]) [1, 2] [4, 4 + 1] (4 + 2) (.x 4) (stSt2 (digs 16 v)) [∀ y ∈ lit 0 16 (digs 16 v), y.toNat < 65536, ∀ y ∈ pd25, y.toNat < 65536, (!decide (val (lit 0 16 (digs 16 v)) < val pd25)) = false] (by kernel_rfl) (obCons ob1 <| obCons pd25_lt <| obCons (by rw [le, vv, val_pd25, decide_eq_true hlt]; rfl) obNil) (by kernel_rfl) ?_
        show stSt2 (digs 16 v) = stSt2 (digs 16 (val x % P25))
        rw [← hm, Nat.mod_eq_of_lt hlt]
      · have hge : P25 ≤ v := Nat.le_of_not_lt hlt
        refine Tri.fin (cx := cxb true) mix T0ok (HN0ok B true) 0 (orcL [(32, true)]) [1, 2] [4, 4 + 1] (4 + 2) .n (stSt2 (bpass 0#64 (lit 0 16 (digs 16 v)) pd25)) [∀ y ∈ lit 0 16 (digs 16 v), y.toNat < 65536, ∀ y ∈ pd25, y.toNat < 65536, (!decide (val (lit 0 16 (digs 16 v)) < val pd25)) = true] (by kernel_rfl) (obCons ob1 <| obCons pd25_lt <| obCons (by rw [le, vv, val_pd25, decide_eq_false hlt]; rfl) obNil) (by kernel_rfl) ⟨⟨v - P25, Nat.lt_of_le_of_lt (Nat.sub_le _ _) hv, ?_⟩, ?_, ?_⟩
        · rw [← hm, Nat.mod_eq_sub_mod hge]
        · exact Nat.sub_lt (Nat.lt_of_lt_of_le P25_pos hge) P25_pos
        · rw [le, sub_digs v hge hv]
    · subst hs
      exact Tri.ret (cx := cxb true) mix T0ok (HN0ok B true) 0 noOrc [2] [4 + 1] (4 + 2) ⟨[(2, .one (.s (.p (4 + 1) 0)))], [(4 + 1, ⟨16, .d64 (lit 0 16 (digs 16 (val x % P25))), true, false, false⟩)], 4 + 2⟩ [] .r (by kernel_rfl) obNil (by kernel_rfl) rfl [] [] (by kernel_rfl) obNil

def settleCt : Ct := ⟨[.val], [], fun vs ds gs => match vs, ds, gs with
  | [.one (.ag [.d64 x])], [], [] => bif Nat.beq x.length 16 then some ⟨.one (.ag [.d64 (lit 0 16 (digs 16 (val x % P25)))]), [], [], [∀ y ∈ x, y.toNat < 2 ^ 60]⟩ else none
  | _, _, _ => none⟩
theorem settle_ok (B : Nat) : settleCt.Ok P0 B 4 36 := by
  intro vs ds gs out h hpre hn
  unfold settleCt at h
  dsimp only at h
  split at h <;> first | (cases h; done) | skip
  rename_i x
  cases hb : Nat.beq x.length 16 with
  | false => rw [hb] at h; cases h
  | true =>
    rw [hb, cond_true] at h
    cases h
    have hl := Nat.eq_of_beq_eq_true hb
    have := settle1 B x hl (hpre _ (by simp))
    rw [lit_eq hl] at this
    exact this
end Go.Sx

set_option maxRecDepth 1000000
set_option linter.unusedVariables false
namespace Go.Sx
open Go.Proofs

theorem prod1 (B : Nat) (a b : List (BitVec 64)) : FnE P0 B 4 35 [.one (.ag [.d64 (lit 0 16 a)]), .one (.ag [.d64 (lit 0 16 b)])] [] 4 ⟨.one (.ag [.d64 (lit 0 32 (prd (lit 0 16 a) (lit 0 16 b)))]), [], 4, .eff, []⟩ := by
  refine FnE.tri (cx := cxb true) (sz := 37) (fn := Tryd.f35) (c := bodyOf Tryd.f35) T0ok (by kernel_rfl) (by kernel_rfl) (by kernel_rfl) (by kernel_rfl) (by kernel_rfl) (by kernel_rfl) (Nat.le_refl _) ?_
  refine Tri.stepR (cx := cxb true) mix T0ok (H0ok B true) 5 17 noOrc [4] [(4 + 2, 4)] (4 + 1) ⟨[(4, .one (.s (.p 4 0)))], [(4, ⟨32, .d64 (lit 0 32 (prd (lit 0 16 a) (lit 0 16 b))), true, false, false⟩)], 4 + 1⟩ [] (by kernel_rfl) obNil ?_
  exact Tri.ret (cx := cxb true) mix T0ok (H0ok B true) 0 noOrc [4] [4] (4 + 1) ⟨[(4, .one (.s (.p 4 0)))], [(4, ⟨32, .d64 (lit 0 32 (prd (lit 0 16 a) (lit 0 16 b))), true, false, false⟩)], 4 + 1⟩ [] .r (by kernel_rfl) obNil (by kernel_rfl) rfl [] [] (by kernel_rfl) obNil
def prodCt : Ct := ⟨[.val, .val], [], fun vs ds gs => match vs, ds, gs with
  | [.one (.ag [.d64 a]), .one (.ag [.d64 b])], [], [] => bif Nat.beq a.length 16 && Nat.beq b.length 16 then some ⟨.one (.ag [.d64 (lit 0 32 (prd a b))]), [], [], []⟩ else none
  | _, _, _ => none⟩
theorem prod_ok (B : Nat) : prodCt.Ok P0 B 4 35 := by
  intro vs ds gs out h hpre hn
  unfold prodCt at h
  dsimp only at h
  split at h <;> first | (cases h; done) | skip
  rename_i a b
  cases hb : (Nat.beq a.length 16 && Nat.beq b.length 16) with
  | false => rw [hb] at h; cases h
  | true =>
    rw [hb, cond_true] at h
    cases h
    simp only [Bool.and_eq_true] at hb
    have k1 := Nat.eq_of_beq_eq_true hb.1
    have k2 := Nat.eq_of_beq_eq_true hb.2
    have := prod1 B a b
    rw [lit_eq k1, lit_eq k2] at this
    exact this

noncomputable def HN1 (c : Bool) : Hook := hookC 36 (hookOf (cxb c) settleCt) (hookC 35 (hookOf (cxb c) prodCt) (HN0 c))
theorem HN1ok (B : Nat) (c : Bool) : HookOk P0 B 4 (HN1 c) := .cons (.ct (cx := cxb c) (settle_ok B)) (.cons (.ct (cx := cxb c) (prod_ok B)) (HN0ok B c))

/-- a contract of two numbers -/
def binCt (f : Nat → Nat → Nat) : Ct := ⟨[.val, .val], [], fun vs ds gs => match vs, ds, gs with
  | [.one (.ag [.d64 a]), .one (.ag [.d64 b])], [], [] => bif Nat.beq a.length 16 && Nat.beq b.length 16 then some ⟨.one (.ag [.d64 (lit 0 16 (dg (f (val a) (val b))))]), [], [], [∀ x ∈ a, x.toNat < 65536, ∀ x ∈ b, x.toNat < 65536]⟩ else none
  | _, _, _ => none⟩
theorem binCt_ok (B : Nat) (f : Nat → Nat → Nat) (g : FuncId) (h1 : ∀ a b : List (BitVec 64), a.length = 16 → b.length = 16 → (∀ x ∈ a, x.toNat < 65536) → (∀ x ∈ b, x.toNat < 65536) →
    FnE P0 B 4 g [.one (.ag [.d64 (lit 0 16 a)]), .one (.ag [.d64 (lit 0 16 b)])] [] 4 ⟨.one (.ag [.d64 (lit 0 16 (dg (f (val a) (val b))))]), [], 4, .eff, []⟩) : (binCt f).Ok P0 B 4 g := by
  intro vs ds gs out h hpre hn
  unfold binCt at h
  dsimp only at h
  split at h <;> first | (cases h; done) | skip
  rename_i a b
  cases hb : (Nat.beq a.length 16 && Nat.beq b.length 16) with
  | false => rw [hb] at h; cases h
  | true =>
    rw [hb, cond_true] at h
    cases h
    simp only [Bool.and_eq_true] at hb
    have k1 := Nat.eq_of_beq_eq_true hb.1
    have k2 := Nat.eq_of_beq_eq_true hb.2
    have := h1 a b k1 k2 (hpre _ List.mem_cons_self) (hpre _ (List.mem_cons_of_mem _ List.mem_cons_self))
    rw [lit_eq k1, lit_eq k2] at this
    exact this
/-- a contract of one number -/
def unCt (f : Nat → Nat) : Ct := ⟨[.val], [], fun vs ds gs => match vs, ds, gs with
  | [.one (.ag [.d64 a])], [], [] => bif Nat.beq a.length 16 then some ⟨.one (.ag [.d64 (lit 0 16 (dg (f (val a))))]), [], [], [∀ x ∈ a, x.toNat < 65536]⟩ else none
  | _, _, _ => none⟩
theorem unCt_ok (B : Nat) (f : Nat → Nat) (g : FuncId) (h1 : ∀ a : List (BitVec 64), a.length = 16 → (∀ x ∈ a, x.toNat < 65536) →
    FnE P0 B 4 g [.one (.ag [.d64 (lit 0 16 a)])] [] 4 ⟨.one (.ag [.d64 (lit 0 16 (dg (f (val a))))]), [], 4, .eff, []⟩) : (unCt f).Ok P0 B 4 g := by
  intro vs ds gs out h hpre hn
  unfold unCt at h
  dsimp only at h
  split at h <;> first | (cases h; done) | skip
  rename_i a
  cases hb : Nat.beq a.length 16 with
  | false => rw [hb] at h; cases h
  | true =>
    rw [hb, cond_true] at h
    cases h
    have k1 := Nat.eq_of_beq_eq_true hb
    have := h1 a k1 (hpre _ List.mem_cons_self)
    rw [lit_eq k1] at this
    exact this

theorem add_ok (B : Nat) : (binCt fadd).Ok P0 B 4 32 := binCt_ok B fadd _ fun a b la lb ha hb => by
  have hz := zipN_spec a b (by omega) ha hb
  have hm : digs 16 (val (zipN (lit 0 16 a) (lit 0 16 b)) % P25) = dg (fadd (val a) (val b)) := by rw [lit_eq la, lit_eq lb, hz.1]; rfl
  rw [← hm]
  refine FnE.tri (cx := cxb true) (sz := 21) (fn := Tryd.f32) (c := bodyOf Tryd.f32) T0ok (by kernel_rfl) (by kernel_rfl) (by kernel_rfl) (by kernel_rfl) (by kernel_rfl) (by kernel_rfl) (Nat.le_refl _) ?_
  exact Tri.ret (cx := cxb true) mix T0ok (HN1ok B true) 17 noOrc [4] [4 + 2] (4 + 3) ⟨[(4, .one (.s (.p (4 + 2) 0)))], [(4 + 2, ⟨16, .d64 (lit 0 16 (digs 16 (val (zipN (lit 0 16 a) (lit 0 16 b)) % P25))), true, false, false⟩)], 4 + 3⟩ [∀ y ∈ zipN (lit 0 16 a) (lit 0 16 b), y.toNat < 2 ^ 60] .r (by kernel_rfl) (obCons (by rw [lit_eq la, lit_eq lb]; exact hz.2.2) obNil) (by kernel_rfl) rfl [] [] (by kernel_rfl) obNil

theorem mod_ok (B : Nat) : (unCt (· % P25)).Ok P0 B 4 34 := unCt_ok B _ _ fun a la ha => by
  refine FnE.tri (cx := cxb true) (sz := 5) (fn := Tryd.f34) (c := bodyOf Tryd.f34) T0ok (by kernel_rfl) (by kernel_rfl) (by kernel_rfl) (by kernel_rfl) (by kernel_rfl) (by kernel_rfl) (Nat.le_refl _) ?_
  have e : digs 16 (val (lit 0 16 a) % P25) = dg (val a % P25) := by rw [lit_eq la]; rfl
  rw [← e]
  exact Tri.ret (cx := cxb true) mix T0ok (HN1ok B true) 17 noOrc [2] [4 + 1] (4 + 2) ⟨[(2, .one (.s (.p (4 + 1) 0)))], [(4 + 1, ⟨16, .d64 (lit 0 16 (digs 16 (val (lit 0 16 a) % P25))), true, false, false⟩)], 4 + 2⟩ [∀ y ∈ lit 0 16 a, y.toNat < 2 ^ 60] .r (by kernel_rfl) (obCons (by rw [lit_eq la]; exact fun y hy => Nat.lt_trans (ha y hy) (by decide)) obNil) (by kernel_rfl) rfl [] [] (by kernel_rfl) obNil
end Go.Sx

set_option maxRecDepth 1000000
set_option linter.unusedVariables false
namespace Go.Sx
open Go.Proofs

theorem dg_zero : dg 0 = List.replicate 16 0#64 := by kernel_rfl
theorem dg_eq_zero {v : Nat} (hv : v < P25) : dg v = List.replicate 16 0 ↔ v = 0 := by
  constructor
  · intro h
    have h2 : val (dg v) = val (dg 0) := congrArg val (h.trans dg_zero.symm)
    rw [val_dg (Nat.lt_trans hv P25_W), val_dg (by decide)] at h2
    exact h2
  · rintro rfl; exact dg_zero

theorem neg_ok (B : Nat) : (unCt fneg).Ok P0 B 4 44 := unCt_ok B _ _ fun a la ha => by
  have hlt : val a % P25 < P25 := Nat.mod_lt _ P25_pos
  have ob1 : ∀ y ∈ lit 0 16 a, y.toNat < 2 ^ 60 := by rw [lit_eq la]; exact fun y hy => Nat.lt_trans (ha y hy) (by decide)
  have eL : lit 0 16 (digs 16 (val (lit 0 16 a) % P25)) = dg (val a % P25) := by rw [lit_eq la]; exact dg_lit _
  have eN : fneg (val a) = fneg (val a % P25) := by unfold fneg; rw [Nat.mod_mod]
  refine FnE.tri (cx := cxb true) (sz := 12) (fn := Tryd.f44) (c := bodyOf Tryd.f44) T0ok (by kernel_rfl) (by kernel_rfl) (by kernel_rfl) (by kernel_rfl) (by kernel_rfl) (by kernel_rfl) (Nat.le_refl _) ?_
  by_cases h0 : val a % P25 = 0
  · have e : lit 0 16 (digs 16 (val (lit 0 16 a) % P25)) = lit 0 16 (dg (fneg (val a))) := by rw [eL, eN, h0, fneg_zero, dg_lit]
    rw [← e]
    exact Tri.ret (cx := cxb true) mix T0ok (HN1ok B true) 17 (orcL [(7, true)]) [2] [4 + 1] (4 + 9) ⟨[(2, .one (.s (.p (4 + 1) 0)))], [(4 + 1, ⟨16, .d64 (lit 0 16 (digs 16 (val (lit 0 16 a) % P25))), true, false, false⟩)], 4 + 9⟩ [∀ y ∈ lit 0 16 a, y.toNat < 2 ^ 60, decide (lit 0 16 (digs 16 (val (lit 0 16 a) % P25)) = List.replicate 16 0) = true] .r (by kernel_rfl) (obCons ob1 <| obCons (decide_eq_true (by rw [eL]; exact (dg_eq_zero hlt).2 h0)) obNil) (by kernel_rfl) rfl [] [] (by kernel_rfl) obNil
  · have e : lit 0 16 (bpass 0#64 pd25 (lit 0 16 (digs 16 (val (lit 0 16 a) % P25)))) = lit 0 16 (dg (fneg (val a))) := by rw [eL, eN, opp_digs _ (Nat.pos_of_ne_zero h0) hlt]
    rw [← e]
    exact Tri.ret (cx := cxb true) mix T0ok (HN1ok B true) 17 (orcL [(7, false)]) [2] [4 + 1] (4 + 9) ⟨[(2, .one (.s (.p (4 + 1) 0)))], [(4 + 1, ⟨16, .d64 (lit 0 16 (bpass 0#64 pd25 (lit 0 16 (digs 16 (val (lit 0 16 a) % P25))))), true, false, false⟩)], 4 + 9⟩ [∀ y ∈ lit 0 16 a, y.toNat < 2 ^ 60, decide (lit 0 16 (digs 16 (val (lit 0 16 a) % P25)) = List.replicate 16 0) = false] .r (by kernel_rfl) (obCons ob1 <| obCons (decide_eq_false (by rw [eL, dg_eq_zero hlt]; exact h0)) obNil) (by kernel_rfl) rfl [] [] (by kernel_rfl) obNil

noncomputable def HN2 (c : Bool) : Hook := hookC 32 (hookOf (cxb c) (binCt fadd)) (hookC 44 (hookOf (cxb c) (unCt fneg)) (hookC 34 (hookOf (cxb c) (unCt (· % P25))) (HN1 c)))
theorem HN2ok (B : Nat) (c : Bool) : HookOk P0 B 4 (HN2 c) := .cons (.ct (cx := cxb c) (add_ok B)) (.cons (.ct (cx := cxb c) (neg_ok B)) (.cons (.ct (cx := cxb c) (mod_ok B)) (HN1ok B c)))

theorem sub_ok (B : Nat) : (binCt fsub).Ok P0 B 4 33 := binCt_ok B fsub _ fun a b la lb ha hb => by
  have e : dg (fadd (val (lit 0 16 a)) (val (lit 0 16 (dg (fneg (val (lit 0 16 b))))))) = dg (fsub (val a) (val b)) := by
    rw [lit_eq la, lit_eq lb, dg_lit, val_dg (Nat.lt_trans (fneg_lt _) P25_W)]; rfl
  rw [← e]
  refine FnE.tri (cx := cxb true) (sz := 9) (fn := Tryd.f33) (c := bodyOf Tryd.f33) T0ok (by kernel_rfl) (by kernel_rfl) (by kernel_rfl) (by kernel_rfl) (by kernel_rfl) (by kernel_rfl) (Nat.le_refl _) ?_
  exact Tri.ret (cx := cxb true) mix T0ok (HN2ok B true) 17 noOrc [4] [4 + 2] (4 + 9) ⟨[(4, .one (.s (.p (4 + 2) 0)))], [(4 + 2, ⟨16, .d64 (lit 0 16 (dg (fadd (val (lit 0 16 a)) (val (lit 0 16 (dg (fneg (val (lit 0 16 b))))))))), true, false, false⟩)], 4 + 9⟩ [∀ y ∈ lit 0 16 b, y.toNat < 65536, ∀ y ∈ lit 0 16 a, y.toNat < 65536, ∀ y ∈ lit 0 16 (dg (fneg (val (lit 0 16 b)))), y.toNat < 65536] .r (by kernel_rfl) (obCons (by rw [lit_eq lb]; exact hb) <| obCons (by rw [lit_eq la]; exact ha) <| obCons (by rw [dg_lit]; exact dg_lt _) obNil) (by kernel_rfl) rfl [] [] (by kernel_rfl) obNil

theorem mul_ok (B : Nat) : (binCt fmul).Ok P0 B 4 22 := binCt_ok B fmul _ fun a b la lb ha hb => by
  have hp := prd_spec a b la lb ha hb
  have hm := mulD_spec (prd a b) hp.2.1 hp.2.2
  have e : digs 16 (val (mulD (prd (lit 0 16 a) (lit 0 16 b))) % P25) = dg (fmul (val a) (val b)) := by
    rw [lit_eq la, lit_eq lb, hm.1, hp.1]; rfl
  rw [← e]
  refine FnE.tri (cx := cxb true) (sz := 29) (fn := Tryd.f22) (c := bodyOf Tryd.f22) T0ok (by kernel_rfl) (by kernel_rfl) (by kernel_rfl) (by kernel_rfl) (by kernel_rfl) (by kernel_rfl) (Nat.le_refl _) ?_
  exact Tri.ret (cx := cxb true) mix T0ok (HN1ok B true) 17 noOrc [4] [4 + 2] (4 + 9) ⟨[(4, .one (.s (.p (4 + 2) 0)))], [(4 + 2, ⟨16, .d64 (lit 0 16 (digs 16 (val (mulD (prd (lit 0 16 a) (lit 0 16 b))) % P25))), true, false, false⟩)], 4 + 9⟩ [∀ y ∈ mulD (prd (lit 0 16 a) (lit 0 16 b)), y.toNat < 2 ^ 60] .r (by kernel_rfl) (obCons (by rw [lit_eq la, lit_eq lb]; exact hm.2.2) obNil) (by kernel_rfl) rfl [] [] (by kernel_rfl) obNil

noncomputable def HN (c : Bool) : Hook := hookC 33 (hookOf (cxb c) (binCt fsub)) (hookC 22 (hookOf (cxb c) (binCt fmul)) (HN2 c))
theorem HNok (B : Nat) (c : Bool) : HookOk P0 B 4 (HN c) := .cons (.ct (cx := cxb c) (sub_ok B)) (.cons (.ct (cx := cxb c) (mul_ok B)) (HN2ok B c))
end Go.Sx
