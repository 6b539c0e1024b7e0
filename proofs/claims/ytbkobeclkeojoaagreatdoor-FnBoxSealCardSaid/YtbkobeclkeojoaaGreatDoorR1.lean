/- Numbers modulo 2^255 - 19 in digits of sixteen bits: settling. Conditions: none; plain definitions and theorems. spec.P, spec.minus; spec.Less: the states. spec.Less; spec.settle. spec.settle: its contract. Numbers modulo 2^255 - 19 in digits: sums, opposites, products. Conditions: none; plain definitions and theorems. spec.product, spec.Add, spec.Neg, spec.Sub, spec.Mul, spec.Mod. spec.Neg, spec.Sub, spec.Mul. Numbers modulo 2^255 - 19: bits, powers, bytes. Conditions: none; plain definitions and theorems. Conditions: none. -/
import Derived.Test.YtbkobeclkeojoaaGreatDoorQ2
import Derived.Test.YtbkobeclkeojoaaGreatDoorPg
set_option linter.unusedVariables false
namespace Go.Sx

def P25 : Nat := 57896044618658097711785492504343953926634992332820282019728792003956564819949
/-- 2^256 -/
def W25 : Nat := 115792089237316195423570985008687907853269984665640564039457584007913129639936
theorem W25_eq : 65536 ^ 16 = W25 := by decide
theorem W25_P : W25 = 2 * P25 + 38 := by decide
theorem P25_pos : 0 < P25 := by decide
/-- the prime in digits -/
def pd25 : List (BitVec 64) := [65517#64, 65535#64, 65535#64, 65535#64, 65535#64, 65535#64, 65535#64, 65535#64, 65535#64, 65535#64, 65535#64, 65535#64, 65535#64, 65535#64, 65535#64, 32767#64]
theorem val_pd25 : val pd25 = P25 := by simp [val, pd25, P25]
theorem pd25_lt : ∀ x ∈ pd25, x.toNat < 65536 := by simp [pd25]

/-- one round: the digits, what is left, and the digits behind it -/
def rnd (x : List (BitVec 64)) : List (BitVec 64) := (pass 0#64 (lit 0 16 x)).1
def rnc (x : List (BitVec 64)) : BitVec 64 := (pass 0#64 (lit 0 16 x)).2
def rnx (x : List (BitVec 64)) : List (BitVec 64) := (rnd x).set 0 ((rnd x).getD 0 0 + 38#64 * rnc x)

theorem rn_spec (x : List (BitVec 64)) (hl : x.length = 16) (hb : ∀ y ∈ x, y.toNat < 2 ^ 62) : rnd x = digs 16 (val x) ∧ (rnc x).toNat = val x / W25 := by
  have hp := pass_eq (lit 0 16 x) 0#64 (by decide) (by rw [lit_eq hl]; exact hb)
  rw [lit_eq hl, hl, show (0#64).toNat = 0 from rfl, Nat.zero_add, W25_eq] at hp
  unfold rnd rnc
  rw [lit_eq hl]
  exact hp

theorem small_add (a : BitVec 64) (c : BitVec 64) (ha : a.toNat < 65536) (hc : c.toNat < 2 ^ 56) : (a + 38#64 * c).toNat = a.toNat + 38 * c.toNat := by
  rw [BitVec.toNat_add, BitVec.toNat_mul]
  show (_ + 38 * _ % _) % _ = _
  omega

theorem rnx_spec (x : List (BitVec 64)) (hl : x.length = 16) (hb : ∀ y ∈ x, y.toNat < 2 ^ 62) (hv : val x / W25 < 2 ^ 56) :
    (rnx x).length = 16 ∧ (∀ y ∈ rnx x, y.toNat < 2 ^ 62) ∧ val (rnx x) = val x % W25 + 38 * (val x / W25) ∧ (rnc x = 0#64 → rnx x = digs 16 (val (rnx x)) ∧ val (rnx x) < W25) := by
  obtain ⟨hd, hc⟩ := rn_spec x hl hb
  have hlt := digs_lt 16 (val x)
  have hvw : val (digs 16 (val x)) = val x % W25 := by rw [val_digs, W25_eq]
  have hm : val x % W25 < W25 := Nat.mod_lt _ (by decide)
  rw [← hc] at hv
  have e : digs 16 (val x) = BitVec.ofNat 64 (val x % 65536) :: digs 15 (val x / 65536) := rfl
  have h0 : (BitVec.ofNat 64 (val x % 65536)).toNat < 65536 := hlt _ (by rw [e]; exact List.mem_cons_self)
  have hh := small_add (BitVec.ofNat 64 (val x % 65536)) (rnc x) h0 hv
  have ex : rnx x = (BitVec.ofNat 64 (val x % 65536) + 38#64 * rnc x) :: digs 15 (val x / 65536) := by
    unfold rnx; rw [hd, e]; rfl
  have hv2 : val (rnx x) = val x % W25 + 38 * (val x / W25) := by
    rw [← hvw, ← hc, ex, e]
    simp only [val]
    rw [hh]
    omega
  refine ⟨by rw [ex]; simp [digs_length], fun y hy => ?_, hv2, fun hz => ?_⟩
  · rw [ex, List.mem_cons] at hy
    rcases hy with rfl | hy
    · rw [hh]; clear hvw hm hv2; omega
    · have := digs_lt 15 _ y hy; clear hvw hm hv2; omega
  · have hq0 : val x / W25 = 0 := by rw [← hc, hz]; rfl
    rw [hv2, hq0, Nat.mul_zero, Nat.add_zero]
    refine ⟨?_, hm⟩
    rw [ex, hz, show 38#64 * 0#64 = 0#64 from rfl, BitVec.add_zero, ← e, ← digs_mod 16 (val x), W25_eq]

theorem fold_mod (v : Nat) : (v % W25 + 38 * (v / W25)) % P25 = v % P25 := by
  have h := Nat.div_add_mod v W25
  rw [W25_P] at h ⊢
  generalize v / (2 * P25 + 38) = q at *
  generalize v % (2 * P25 + 38) = r at *
  have : v = r + 38 * q + P25 * (2 * q) := by rw [← h, Nat.add_mul, Nat.mul_comm 2 P25, Nat.mul_assoc]; omega
  rw [this, Nat.add_mul_mod_self_left]

theorem off_mod {v w p : Nat} (h1 : p ≤ v) (h2 : p ≤ w) : (v + w - p) % w = (v - p) % w := by
  rw [show v + w - p = v - p + w by omega, Nat.add_mod_right]
theorem P25_W25 : P25 ≤ W25 := by decide
/-- from digits to digits: what is taken off -/
theorem sub_digs (v : Nat) (h1 : P25 ≤ v) (h2 : v < W25) : bpass 0#64 (digs 16 v) pd25 = digs 16 (v - P25) := by
  have hs := bpass_spec (digs 16 v) pd25 0#64 (by decide) (digs_lt 16 v) pd25_lt (by rw [digs_length]; rfl)
  rw [hs, digs_length, val_digs, W25_eq, Nat.mod_eq_of_lt h2, val_pd25, ← digs_mod, ← digs_mod 16 (v - P25), W25_eq, show (0#64).toNat = 0 from rfl, Nat.sub_zero, off_mod h1 P25_W25]

theorem val_lt16 (a : List (BitVec 64)) (hl : a.length = 16) (h : ∀ y ∈ a, y.toNat < 65536) : val a < W25 := by
  have := val_lt a h
  rw [hl, W25_eq] at this
  exact this
theorem digs_val16 (a : List (BitVec 64)) (hl : a.length = 16) (h : ∀ y ∈ a, y.toNat < 65536) : digs 16 (val a) = a := by
  have := digs_val a h
  rw [hl] at this
  exact this
theorem bound16 (a : List (BitVec 64)) (hl : a.length = 16) (h : ∀ y ∈ a, y.toNat < 2 ^ 60) : val a / W25 < 2 ^ 56 := by
  have h1 := val_le (b := 2 ^ 60 - 1) a (fun y hy => by have := h y hy; omega)
  rw [hl, W25_eq] at h1
  have h2 : val a < W25 * 2 ^ 56 := by
    have hw : 65536 ≤ W25 := by decide
    generalize val a = v at *
    generalize W25 = w at *
    omega
  exact Nat.div_lt_of_lt_mul h2
end Go.Sx

set_option maxRecDepth 1000000
set_option linter.unusedVariables false
namespace Go.Sx
open Go.Proofs

def pCt : Ct := ⟨[], [], fun vs ds gs => match vs, ds, gs with
  | [], [], [] => some ⟨.one (.ag [.d64 pd25]), [], [], []⟩
  | _, _, _ => none⟩
theorem spP1 (B : Nat) : FnE P0 B 2 44 [] [] 2 ⟨.one (.ag [.d64 pd25]), [], 2, .eff, []⟩ := by
  refine FnE.tri (cx := cxb true) (sz := 13) (fn := Tryz.f44) (c := bodyOf Tryz.f44) T0ok (by kernel_rfl) (by kernel_rfl) (by kernel_rfl) (by kernel_rfl) (by kernel_rfl) (by kernel_rfl) (Nat.le_refl _) ?_
  refine Tri.stepR (cx := cxb true) mix T0ok (H0ok B true) 7 17 noOrc [0] [(2, 2)] (2 + 1) ⟨[(0, .one (.s (.p 2 0)))], [(2, ⟨16, .d64 pd25, true, false, false⟩)], 2 + 1⟩ [] (by kernel_rfl) obNil ?_
  exact Tri.ret (cx := cxb true) mix T0ok (H0ok B true) 0 noOrc [0] [2] (2 + 1) ⟨[(0, .one (.s (.p 2 0)))], [(2, ⟨16, .d64 pd25, true, false, false⟩)], 2 + 1⟩ [] .r (by kernel_rfl) obNil (by kernel_rfl) rfl [] [] (by kernel_rfl) obNil
theorem p_ok (B : Nat) : pCt.Ok P0 B 2 44 := by
  intro vs ds gs out h hpre hn
  unfold pCt at h
  dsimp only at h
  split at h <;> first | (cases h; done) | skip
  cases h
  exact spP1 B

theorem minus1 (B : Nat) (a b : List (BitVec 64)) : FnE P0 B 2 43 [.one (.ag [.d64 (lit 0 16 a)]), .one (.ag [.d64 (lit 0 16 b)])] [] 2 ⟨.one (.ag [.d64 (lit 0 16 (bpass 0#64 (lit 0 16 a) (lit 0 16 b)))]), [], 2, .eff, []⟩ := by
  refine FnE.tri (cx := cxb true) (sz := 32) (fn := Tryz.f43) (c := bodyOf Tryz.f43) T0ok (by kernel_rfl) (by kernel_rfl) (by kernel_rfl) (by kernel_rfl) (by kernel_rfl) (by kernel_rfl) (Nat.le_refl _) ?_
  refine Tri.stepR (cx := cxb true) mix T0ok (H0ok B true) 6 17 noOrc [4] [(2 + 2, 2)] (2 + 1) ⟨[(4, .one (.s (.p 2 0)))], [(2, ⟨16, .d64 (lit 0 16 (bpass 0#64 (lit 0 16 a) (lit 0 16 b))), true, false, false⟩)], 2 + 1⟩ [] (by kernel_rfl) obNil ?_
  exact Tri.ret (cx := cxb true) mix T0ok (H0ok B true) 0 noOrc [4] [2] (2 + 1) ⟨[(4, .one (.s (.p 2 0)))], [(2, ⟨16, .d64 (lit 0 16 (bpass 0#64 (lit 0 16 a) (lit 0 16 b))), true, false, false⟩)], 2 + 1⟩ [] .r (by kernel_rfl) obNil (by kernel_rfl) rfl [] [] (by kernel_rfl) obNil
def minusCt : Ct := ⟨[.val, .val], [], fun vs ds gs => match vs, ds, gs with
  | [.one (.ag [.d64 a]), .one (.ag [.d64 b])], [], [] => bif Nat.beq a.length 16 && Nat.beq b.length 16 then some ⟨.one (.ag [.d64 (lit 0 16 (bpass 0#64 a b))]), [], [], []⟩ else none
  | _, _, _ => none⟩
theorem minus_ok (B : Nat) : minusCt.Ok P0 B 2 43 := by
  intro vs ds gs out h hpre hn
  unfold minusCt at h
  dsimp only at h
  split at h <;> first | (cases h; done) | skip
  rename_i a b
  cases hb : (Nat.beq a.length 16 && Nat.beq b.length 16) with
  | false => rw [hb] at h; cases h
  | true =>
    rw [hb, cond_true] at h
    cases h
    simp only [Bool.and_eq_true] at hb
    have k1 := Nat.eq_of_beq_eq_true hb.1
    have k2 := Nat.eq_of_beq_eq_true hb.2
    have := minus1 B a b
    rw [lit_eq k1, lit_eq k2] at this
    exact this

def lsM (a b : List (BitVec 64)) : Mem := [(2, ⟨16, .d64 (lit 0 16 a), true, false, false⟩), (2 + 1, ⟨16, .d64 (lit 0 16 b), true, false, false⟩)]
def lsSt (a b : List (BitVec 64)) (i : Int) : St := ⟨[(2, .one (.s (.p 2 0))), (3, .one (.s (.p (2 + 1) 0))), (5, .one (.s (.i i)))], lsM a b, 2 + 2⟩
end Go.Sx

set_option maxRecDepth 1000000
set_option linter.unusedVariables false
namespace Go.Sx
open Go.Proofs

theorem getD_all {a b : List (BitVec 64)} (h : a.length = b.length) (he : ∀ k, a.getD k 0 = b.getD k 0) : a = b := by
  apply List.ext_getElem?
  intro i
  have := he i
  rcases Nat.lt_or_ge i a.length with hi | hi
  · have h1 : i < b.length := by omega
    simp only [List.getD, List.getElem?_eq_getElem hi, List.getElem?_eq_getElem h1, Option.getD_some] at this ⊢
    rw [this]
  · rw [List.getElem?_eq_none hi, List.getElem?_eq_none (by omega)]

def lsE (a b : List (BitVec 64)) : Ef := ⟨.one (.s (.b (decide (val a < val b)))), [], 2, .eff, []⟩

theorem less1 (B : Nat) (a b : List (BitVec 64)) (la : a.length = 16) (lb : b.length = 16) (ha : ∀ x ∈ a, x.toNat < 65536) (hb : ∀ x ∈ b, x.toNat < 65536) :
    FnE P0 B 2 54 [.one (.ag [.d64 (lit 0 16 a)]), .one (.ag [.d64 (lit 0 16 b)])] [] 2 (lsE a b) := by
  refine FnE.tri (cx := cxb true) (sz := 24) (fn := Tryz.f54) (c := bodyOf Tryz.f54) T0ok (by kernel_rfl) (by kernel_rfl) (by kernel_rfl) (by kernel_rfl) (by kernel_rfl) (by kernel_rfl) (Nat.le_refl _) ?_
  refine Tri.step (cx := cxb true) mix T0ok (H0ok B true) 2 0 noOrc [2, 3, 5] [2, 2 + 1] (2 + 2) (lsSt a b (((16 : Nat) : Int) - 1)) [] (by kernel_rfl) obNil (by kernel_rfl) ?_
  refine Tri.loop (id := 0) (ι := { i : Nat // i ≤ 16 ∧ ∀ k, i ≤ k → a.getD k 0 = b.getD k 0 }) rfl (fun i => lsSt a b ((i.1 : Int) - 1)) (fun i => i.1) ⟨16, Nat.le_refl _, fun k hk => by rw [List.getD_eq_getElem?_getD, List.getD_eq_getElem?_getD, List.getElem?_eq_none (by omega), List.getElem?_eq_none (by omega)]⟩ rfl (fun i => Nat.le_add_right _ _)
    (R1 := fun s => s = ⟨[], [], 2 + 2⟩ ∧ a = b) (fun ⟨i, hi, he⟩ => ?_) (fun s' hs => ?_)
  · have e1 := lit_eq (z := 0) la
    have e2 := lit_eq (z := 0) lb
    rcases Nat.eq_zero_or_pos i with rfl | hp
    · refine Tri.chg (cx := cxb false) rfl ?_
      exact Tri.fin (cx := cxb false) mix T0ok (H0ok B false) 0 (orcL [(7, false)]) [] [] (2 + 2) (.x 0) ⟨[], [], 2 + 2⟩ [decide ((0 : Int) ≤ ((0 : Nat) : Int) - 1) = false] (by kernel_rfl) (obCons (by decide) obNil) (by kernel_rfl) ⟨rfl, getD_all (by omega) fun k => he k (Nat.zero_le _)⟩
    · have ek : Int.toNat ((i : Int) - 1) + 0 = i - 1 := by omega
      by_cases hne : a.getD (i - 1) 0 = b.getD (i - 1) 0
      · refine Tri.chg (cx := cxb false) rfl ?_
        refine Tri.fin (cx := cxb false) mix T0ok (H0ok B false) 0 (orcL [(7, true), (16, false)]) [2, 3, 5] [2, 2 + 1] (2 + 2) .n (lsSt a b ((i : Int) - 1 - 1)) ([decide ((0 : Int) ≤ (↑i : Int) - (1 : Int)) = true, (0 : Int) ≤ (↑i : Int) - (1 : Int) ∧ (↑i : Int) - (1 : Int) < (↑(16 : Nat) : Int), Int.toNat ((↑i : Int) - (1 : Int)) + (0 : Nat) < List.length (lit (0 : BitVec (64 : Nat)) (16 : Nat) a), (0 : Int) ≤ (↑i : Int) - (1 : Int) ∧ (↑i : Int) - (1 : Int) < (↑(16 : Nat) : Int), Int.toNat ((↑i : Int) - (1 : Int)) + (0 : Nat) < List.length (lit (0 : BitVec (64 : Nat)) (16 : Nat) b), (!decide (BitVec.toNat (List.getD (lit (0 : BitVec (64 : Nat)) (16 : Nat) a) (Int.toNat ((↑i : Int) - (1 : Int)) + (0 : Nat)) (0 : BitVec (64 : Nat))) = BitVec.toNat (List.getD (lit (0 : BitVec (64 : Nat)) (16 : Nat) b) (Int.toNat ((↑i : Int) - (1 : Int)) + (0 : Nat)) (0 : BitVec (64 : Nat))))) = false, rng ((↑i : Int) - (1 : Int) - (1 : Int))]) (by kernel_rfl) ?_ (by kernel_rfl) ⟨⟨i - 1, by omega, fun k hk => ?_⟩, by show i - 1 < i; omega, ?_⟩
        · rw [ek, e1, e2]
          (repeat' (first | exact obNil | refine obCons ?_ ?_))
          all_goals first | omega | (unfold rng; omega) | (rw [hne]; simp) | exact decide_eq_true (by omega)
        · rcases Nat.eq_or_lt_of_le hk with rfl | h
          · exact hne
          · exact he k (by omega)
        · have : (((i - 1 : Nat) : Int) - 1) = (i : Int) - 1 - 1 := by omega
          rw [this]
      · have hn : (a.getD (i - 1) 0).toNat ≠ (b.getD (i - 1) 0).toNat := fun h => hne (BitVec.eq_of_toNat_eq h)
        refine Tri.chg (cx := cxb false) rfl ?_
        refine Tri.fin (cx := cxb false) mix T0ok (H0ok B false) 0 (orcL [(7, true), (16, true)]) [4] [] (2 + 2) .r ⟨[(4, .one (.s (.b (decide (((lit 0 16 a).getD (Int.toNat ((i : Int) - 1) + 0) 0).toNat < ((lit 0 16 b).getD (Int.toNat ((i : Int) - 1) + 0) 0).toNat)))))], [], 2 + 2⟩ ([decide ((0 : Int) ≤ (↑i : Int) - (1 : Int)) = true, (0 : Int) ≤ (↑i : Int) - (1 : Int) ∧ (↑i : Int) - (1 : Int) < (↑(16 : Nat) : Int), Int.toNat ((↑i : Int) - (1 : Int)) + (0 : Nat) < List.length (lit (0 : BitVec (64 : Nat)) (16 : Nat) a), (0 : Int) ≤ (↑i : Int) - (1 : Int) ∧ (↑i : Int) - (1 : Int) < (↑(16 : Nat) : Int), Int.toNat ((↑i : Int) - (1 : Int)) + (0 : Nat) < List.length (lit (0 : BitVec (64 : Nat)) (16 : Nat) b), (!decide (BitVec.toNat (List.getD (lit (0 : BitVec (64 : Nat)) (16 : Nat) a) (Int.toNat ((↑i : Int) - (1 : Int)) + (0 : Nat)) (0 : BitVec (64 : Nat))) = BitVec.toNat (List.getD (lit (0 : BitVec (64 : Nat)) (16 : Nat) b) (Int.toNat ((↑i : Int) - (1 : Int)) + (0 : Nat)) (0 : BitVec (64 : Nat))))) = true, (0 : Int) ≤ (↑i : Int) - (1 : Int) ∧ (↑i : Int) - (1 : Int) < (↑(16 : Nat) : Int), Int.toNat ((↑i : Int) - (1 : Int)) + (0 : Nat) < List.length (lit (0 : BitVec (64 : Nat)) (16 : Nat) a), (0 : Int) ≤ (↑i : Int) - (1 : Int) ∧ (↑i : Int) - (1 : Int) < (↑(16 : Nat) : Int), Int.toNat ((↑i : Int) - (1 : Int)) + (0 : Nat) < List.length (lit (0 : BitVec (64 : Nat)) (16 : Nat) b)]) (by kernel_rfl) ?_ (by kernel_rfl) ?_
        · rw [ek, e1, e2]
          (repeat' (first | exact obNil | refine obCons ?_ ?_))
          all_goals first | omega | exact decide_eq_true (by omega) | exact congrArg not (decide_eq_false hn)
        · rw [ek, e1, e2]
          have hv : decide ((a.getD (i - 1) 0).toNat < (b.getD (i - 1) 0).toNat) = decide (val a < val b) := by
            rcases Nat.lt_or_gt_of_ne hn with h | h
            · rw [decide_eq_true h, decide_eq_true (val_cmp (i - 1) a b (by omega) ha (by omega) (fun k hk => he k (by omega)) h)]
            · have := val_cmp (i - 1) b a (by omega) hb (by omega) (fun k hk => (he k (by omega)).symm) h
              rw [decide_eq_false (by omega), decide_eq_false (by omega)]
          rw [hv]
          exact ⟨trivial, [], [], by kernel_rfl, obNil⟩
  · obtain ⟨rfl, hab⟩ := hs
    have e : lsE a b = ⟨.one (.s (.b false)), [], 2, .eff, []⟩ := by unfold lsE; rw [hab, decide_eq_false (Nat.lt_irrefl _)]
    rw [e]
    exact Tri.ret (cx := cxb true) mix T0ok (H0ok B true) 0 noOrc [4] [] (2 + 2) ⟨[(4, .one (.s (.b false)))], [], 2 + 2⟩ [] .r (by kernel_rfl) obNil (by kernel_rfl) rfl [] [] (by kernel_rfl) obNil

def lessCt : Ct := ⟨[.val, .val], [], fun vs ds gs => match vs, ds, gs with
  | [.one (.ag [.d64 a]), .one (.ag [.d64 b])], [], [] => bif Nat.beq a.length 16 && Nat.beq b.length 16 then some ⟨.one (.s (.b (decide (val a < val b)))), [], [], [∀ x ∈ a, x.toNat < 65536, ∀ x ∈ b, x.toNat < 65536]⟩ else none
  | _, _, _ => none⟩
theorem less_ok (B : Nat) : lessCt.Ok P0 B 2 54 := by
  intro vs ds gs out h hpre hn
  unfold lessCt at h
  dsimp only at h
  split at h <;> first | (cases h; done) | skip
  rename_i a b
  cases hb : (Nat.beq a.length 16 && Nat.beq b.length 16) with
  | false => rw [hb] at h; cases h
  | true =>
    rw [hb, cond_true] at h
    cases h
    simp only [Bool.and_eq_true] at hb
    have k1 := Nat.eq_of_beq_eq_true hb.1
    have k2 := Nat.eq_of_beq_eq_true hb.2
    have := less1 B a b k1 k2 (hpre _ List.mem_cons_self) (hpre _ (List.mem_cons_of_mem _ List.mem_cons_self))
    rw [lit_eq k1, lit_eq k2] at this
    exact this

noncomputable def HN0 (c : Bool) : Hook := hookC 44 (hookOf (cxb c) pCt) (hookC 43 (hookOf (cxb c) minusCt) (hookC 54 (hookOf (cxb c) lessCt) (H0 c)))
theorem HN0ok (B : Nat) (c : Bool) : HookOk P0 B 2 (HN0 c) := .cons (.ct (cx := cxb c) (p_ok B)) (.cons (.ct (cx := cxb c) (minus_ok B)) (.cons (.ct (cx := cxb c) (less_ok B)) (H0ok B c)))

def stSt (x : List (BitVec 64)) (c : BitVec 64) : St := ⟨[(1, .one (.s (.p 2 0))), (2, .one (.s (.p (2 + 1) 0))), (3, .one (.s (.u64 c)))], [(2, ⟨16, .d64 (lit 0 16 x), true, false, false⟩), (2 + 1, ⟨16, .d64 (List.replicate 16 0), true, false, false⟩)], 2 + 2⟩
def stSt2 (x : List (BitVec 64)) : St := ⟨[(1, .one (.s (.p 2 0))), (2, .one (.s (.p (2 + 1) 0)))], [(2, ⟨16, .d64 (lit 0 16 x), true, false, false⟩), (2 + 1, ⟨16, .d64 (List.replicate 16 0), true, false, false⟩)], 2 + 2⟩
end Go.Sx

set_option maxRecDepth 1000000
set_option linter.unusedVariables false
namespace Go.Sx
open Go.Proofs

structure SI (v : Nat) where
  x : List (BitVec 64)
  c : BitVec 64
  hl : x.length = 16
  hb : ∀ y ∈ x, y.toNat < 2 ^ 62
  hv : val x / W25 < 2 ^ 56
  hm : val x % P25 = v % P25
  hc : c = 0#64 → x = digs 16 (val x) ∧ val x < W25

theorem SI.mk' (v : Nat) (x : List (BitVec 64)) (c : BitVec 64) (hl : x.length = 16) (hb : ∀ y ∈ x, y.toNat < 2 ^ 62) (hv : val x / W25 < 2 ^ 56) (hm : val x % P25 = v % P25) (hc : c = 0#64 → x = digs 16 (val x) ∧ val x < W25) : ∃ j : SI v, j.x = x ∧ j.c = c := ⟨⟨x, c, hl, hb, hv, hm, hc⟩, rfl, rfl⟩
theorem quo_small {r q w : Nat} (hr : r < w) (hq : q < 2 ^ 56) (hw : 65536 ≤ w) : (r + 38 * q) / w < 2 ^ 56 := by
  refine Nat.div_lt_of_lt_mul ?_
  have : w * 2 ^ 56 = w * (2 ^ 56 - 1) + w := by omega
  rw [this]
  have h2 : 65536 * (2 ^ 56 - 1) ≤ w * (2 ^ 56 - 1) := Nat.mul_le_mul_right _ hw
  omega
theorem W25_big : 65536 ≤ W25 := by decide
theorem less_round {q r w : Nat} (h : 0 < q) (hw : 65536 ≤ w) : r + 38 * q < w * q + r := by
  have : 65536 * q ≤ w * q := Nat.mul_le_mul_right _ hw
  omega

theorem settle1 (B : Nat) (x : List (BitVec 64)) (hl : x.length = 16) (hb : ∀ y ∈ x, y.toNat < 2 ^ 60) : FnE P0 B 2 41 [.one (.ag [.d64 (lit 0 16 x)])] [] 2 ⟨.one (.ag [.d64 (lit 0 16 (digs 16 (val x % P25)))]), [], 2, .eff, []⟩ := by
  refine FnE.tri (cx := cxb true) (sz := 37) (fn := Tryz.f41) (c := bodyOf Tryz.f41) T0ok (by kernel_rfl) (by kernel_rfl) (by kernel_rfl) (by kernel_rfl) (by kernel_rfl) (by kernel_rfl) (Nat.le_refl _) ?_
  refine Tri.step (cx := cxb true) mix T0ok (HN0ok B true) 2 0 noOrc [1, 2, 3] [2, 2 + 1] (2 + 2) (stSt x 1#64) [] (by kernel_rfl) obNil (by kernel_rfl) ?_
  refine Tri.loop (id := 0) (ι := SI (val x)) rfl (fun j => stSt j.x j.c) (fun j => 2 * val j.x + (if j.c = 0#64 then 0 else 1)) ⟨x, 1#64, hl, fun y hy => Nat.lt_trans (hb y hy) (by decide), bound16 x hl hb, rfl, fun h => absurd h (by decide)⟩ rfl (fun j => Nat.le_add_right _ _)
    (R1 := fun s => ∃ v : Nat, s = stSt2 (digs 16 v) ∧ v < W25 ∧ v % P25 = val x % P25) (fun j => ?_) (fun s' hs => ?_)
  · obtain ⟨z, c, zl, zb, zv, zm, zc⟩ := j
    by_cases hc : c = 0#64
    · refine Tri.fin (cx := cxb true) mix T0ok (HN0ok B true) 0 (orcL [(7, false)]) [1, 2] [2, 2 + 1] (2 + 2) (.x 0) (stSt2 z) [decide ((0#64).toNat < c.toNat) = false] (by kernel_rfl) (obCons (by rw [hc]; decide) obNil) (by kernel_rfl) ⟨val z, ?_, (zc hc).2, zm⟩
      rw [← (zc hc).1]
    · have hc0 : 0 < c.toNat := by
        rcases Nat.eq_zero_or_pos c.toNat with h | h
        · exact absurd (BitVec.eq_of_toNat_eq h) hc
        · exact h
      obtain ⟨s1, s2, s3, s4⟩ := rnx_spec z zl zb zv
      have s5 := (rn_spec z zl zb).2
      have hr : val z % W25 < W25 := Nat.mod_lt _ (by decide)
      refine Tri.fin (cx := cxb true) mix T0ok (HN0ok B true) 17 (orcL [(7, true)]) [1, 2, 3] [2, 2 + 1] (2 + 2) .n (stSt (rnx z) (rnc z)) [decide ((0#64).toNat < c.toNat) = true] (by kernel_rfl) (obCons (decide_eq_true hc0) obNil) (by kernel_rfl) ?_
      have hv' : (val z % W25 + 38 * (val z / W25)) / W25 < 2 ^ 56 := quo_small hr zv W25_big
      have hm' : (val z % W25 + 38 * (val z / W25)) % P25 = val x % P25 := (fold_mod (val z)).trans zm
      rw [← s3] at hv' hm'
      obtain ⟨j', e1, e2⟩ := SI.mk' (val x) (rnx z) (rnc z) s1 s2 hv' hm' s4
      refine ⟨j', ?_, by rw [e1, e2]⟩
      show 2 * val j'.x + (if j'.c = 0#64 then 0 else 1) < 2 * val z + (if c = 0#64 then 0 else 1)
      rw [e1, e2, if_neg hc]
      have hdm := Nat.div_add_mod (val z) W25
      by_cases h0 : rnc z = 0#64
      · rw [if_pos h0, s3]
        have : val z / W25 = 0 := by rw [← s5, h0]; rfl
        rw [this] at hdm ⊢
        omega
      · rw [if_neg h0, s3]
        have : 0 < val z / W25 := by
          rcases Nat.eq_zero_or_pos (val z / W25) with h | h
          · exact absurd (BitVec.eq_of_toNat_eq (by rw [s5, h]; rfl)) h0
          · exact h
        have hlt := less_round (r := val z % W25) this W25_big
        rw [hdm] at hlt
        omega
  · obtain ⟨v0, rfl, hv0, hm0⟩ := hs
    refine Tri.loop (id := 4) (ι := { v : Nat // v < W25 ∧ v % P25 = val x % P25 }) rfl (fun v => stSt2 (digs 16 v.1)) (fun v => v.1) ⟨v0, hv0, hm0⟩ rfl (fun v => Nat.le_add_right _ _)
      (R1 := fun s => s = stSt2 (digs 16 (val x % P25))) (fun ⟨v, hv, hm⟩ => ?_) (fun s' hs => ?_)
    · have le : lit 0 16 (digs 16 v) = digs 16 v := lit_eq (digs_length 16 v)
      have vv : val (digs 16 v) = v := by rw [val_digs, W25_eq, Nat.mod_eq_of_lt hv]
      have ob1 : ∀ y ∈ lit 0 16 (digs 16 v), y.toNat < 65536 := by rw [le]; exact digs_lt 16 v
      by_cases hlt : v < P25
      · refine Tri.fin (cx := cxb true) mix T0ok (HN0ok B true) 0 (orcL [(32, false)]) [1, 2] [2, 2 + 1] (2 + 2) (.x 4) (stSt2 (digs 16 v)) [∀ y ∈ lit 0 16 (digs 16 v), y.toNat < 65536, ∀ y ∈ pd25, y.toNat < 65536, (!decide (val (lit 0 16 (digs 16 v)) < val pd25)) = false] (by kernel_rfl) (obCons ob1 <| obCons pd25_lt <| obCons (by rw [le, vv, val_pd25, decide_eq_true hlt]; rfl) obNil) (by kernel_rfl) ?_
        show stSt2 (digs 16 v) = stSt2 (digs 16 (val x % P25))
        rw [← hm, Nat.mod_eq_of_lt hlt]
      · have hge : P25 ≤ v := Nat.le_of_not_lt hlt
        refine Tri.fin (cx := cxb true) mix T0ok (HN0ok B true) 0 (orcL [(32, true)]) [1, 2] [2, 2 + 1] (2 + 2) .n (stSt2 (bpass 0#64 (lit 0 16 (digs 16 v)) pd25)) [∀ y ∈ lit 0 16 (digs 16 v), y.toNat < 65536, ∀ y ∈ pd25, y.toNat < 65536, (!decide (val (lit 0 16 (digs 16 v)) < val pd25)) = true] (by kernel_rfl) (obCons ob1 <| obCons pd25_lt <| obCons (by rw [le, vv, val_pd25, decide_eq_false hlt]; rfl) obNil) (by kernel_rfl) ⟨⟨v - P25, Nat.lt_of_le_of_lt (Nat.sub_le _ _) hv, ?_⟩, ?_, ?_⟩
        · rw [← hm, Nat.mod_eq_sub_mod hge]
        · exact Nat.sub_lt (Nat.lt_of_lt_of_le P25_pos hge) P25_pos
        · rw [le, sub_digs v hge hv]
    · subst hs
      exact Tri.ret (cx := cxb true) mix T0ok (HN0ok B true) 0 noOrc [2] [2 + 1] (2 + 2) ⟨[(2, .one (.s (.p (2 + 1) 0)))], [(2 + 1, ⟨16, .d64 (lit 0 16 (digs 16 (val x % P25))), true, false, false⟩)], 2 + 2⟩ [] .r (by kernel_rfl) obNil (by kernel_rfl) rfl [] [] (by kernel_rfl) obNil

def settleCt : Ct := ⟨[.val], [], fun vs ds gs => match vs, ds, gs with
  | [.one (.ag [.d64 x])], [], [] => bif Nat.beq x.length 16 then some ⟨.one (.ag [.d64 (lit 0 16 (digs 16 (val x % P25)))]), [], [], [∀ y ∈ x, y.toNat < 2 ^ 60]⟩ else none
  | _, _, _ => none⟩
theorem settle_ok (B : Nat) : settleCt.Ok P0 B 2 41 := by
  intro vs ds gs out h hpre hn
  unfold settleCt at h
  dsimp only at h
  split at h <;> first | (cases h; done) | skip
  rename_i x
  cases hb : Nat.beq x.length 16 with
  | false => rw [hb] at h; cases h
  | true =>
    rw [hb, cond_true] at h
    cases h
    have hl := Nat.eq_of_beq_eq_true hb
    have := settle1 B x hl (hpre _ (by simp))
    rw [lit_eq hl] at this
    exact this
end Go.Sx

set_option linter.unusedVariables false
namespace Go.Sx

def fadd (a b : Nat) : Nat := (a + b) % P25
def fneg (a : Nat) : Nat := (P25 - a % P25) % P25
def fsub (a b : Nat) : Nat := fadd a (fneg b)
def fmul (a b : Nat) : Nat := a * b % P25
theorem fadd_lt (a b : Nat) : fadd a b < P25 := Nat.mod_lt _ P25_pos
theorem fneg_lt (a : Nat) : fneg a < P25 := Nat.mod_lt _ P25_pos
theorem fsub_lt (a b : Nat) : fsub a b < P25 := Nat.mod_lt _ P25_pos
theorem fmul_lt (a b : Nat) : fmul a b < P25 := Nat.mod_lt _ P25_pos
/-- sixteen digits -/
def dg (v : Nat) : List (BitVec 64) := digs 16 v
theorem dg_length (v : Nat) : (dg v).length = 16 := digs_length 16 v
theorem dg_lt (v : Nat) : ∀ x ∈ dg v, x.toNat < 65536 := digs_lt 16 v
theorem dg_lit (v : Nat) : lit 0 16 (dg v) = dg v := lit_eq (dg_length v)
theorem P25_W : P25 < W25 := by decide
theorem val_dg {v : Nat} (h : v < W25) : val (dg v) = v := by unfold dg; rw [val_digs, W25_eq, Nat.mod_eq_of_lt h]
theorem dg_val {a : List (BitVec 64)} (hl : a.length = 16) (h : ∀ y ∈ a, y.toNat < 65536) : dg (val a) = a := digs_val16 a hl h

/-- digit by digit -/
def zipN : List (BitVec 64) → List (BitVec 64) → List (BitVec 64)
  | x :: a, y :: b => (x + y) :: zipN a b
  | _, _ => []
theorem zipN_spec : ∀ (a b : List (BitVec 64)), a.length = b.length → (∀ x ∈ a, x.toNat < 65536) → (∀ x ∈ b, x.toNat < 65536) → val (zipN a b) = val a + val b ∧ (zipN a b).length = a.length ∧ ∀ x ∈ zipN a b, x.toNat < 2 ^ 60
  | [], [], _, _, _ => by simp [zipN, val]
  | x :: a, y :: b, hl, ha, hb => by
    have h1 := ha x (by simp)
    have h2 := hb y (by simp)
    have ih := zipN_spec a b (by simpa using hl) (fun z hz => ha z (by simp [hz])) (fun z hz => hb z (by simp [hz]))
    have e : (x + y).toNat = x.toNat + y.toNat := by rw [BitVec.toNat_add]; omega
    refine ⟨?_, by simp [zipN, ih.2.1], fun z hz => ?_⟩
    · simp only [zipN, val, ih.1, e]; omega
    · simp only [zipN, List.mem_cons] at hz
      rcases hz with rfl | hz
      · rw [e]; omega
      · exact ih.2.2 z hz
  | [], _ :: _, hl, _, _ => by simp at hl
  | _ :: _, [], hl, _, _ => by simp at hl

/-- cells from o on -/
def segN (l : List (BitVec 64)) (o n : Nat) : List (BitVec 64) := (List.range n).map fun j => l.getD (o + j) 0
theorem segN_eq {l : List (BitVec 64)} {o n : Nat} (h : o + n = l.length) : segN l o n = l.drop o := by
  apply List.ext_getElem?
  intro i
  simp only [segN, List.getElem?_map, List.getElem?_drop]
  rcases Nat.lt_or_ge i n with hi | hi
  · rw [List.getElem?_range hi]
    simp [List.getD, show o + i < l.length by omega]
  · rw [List.getElem?_eq_none (by simpa using hi), List.getElem?_eq_none (by omega)]; rfl

/-- what stands beyond 2^256 counts 38 times -/
def fold38 : List (BitVec 64) → List (BitVec 64) → List (BitVec 64)
  | x :: a, y :: b => (x + 38#64 * y) :: fold38 a b
  | _, _ => []
theorem fold38_spec : ∀ (a b : List (BitVec 64)), a.length = b.length → (∀ x ∈ a, x.toNat ≤ 2 ^ 37) → (∀ x ∈ b, x.toNat ≤ 2 ^ 37) → val (fold38 a b) = val a + 38 * val b ∧ (fold38 a b).length = a.length ∧ ∀ x ∈ fold38 a b, x.toNat < 2 ^ 60
  | [], [], _, _, _ => by simp [fold38, val]
  | x :: a, y :: b, hl, ha, hb => by
    have h1 := ha x (by simp)
    have h2 := hb y (by simp)
    have ih := fold38_spec a b (by simpa using hl) (fun z hz => ha z (by simp [hz])) (fun z hz => hb z (by simp [hz]))
    have e : (x + 38#64 * y).toNat = x.toNat + 38 * y.toNat := by
      rw [BitVec.toNat_add, BitVec.toNat_mul]
      show (_ + 38 * _ % _) % _ = _
      omega
    refine ⟨?_, by simp [fold38, ih.2.1], fun z hz => ?_⟩
    · simp only [fold38, val, ih.1, e]; omega
    · simp only [fold38, List.mem_cons] at hz
      rcases hz with rfl | hz
      · rw [e]; omega
      · exact ih.2.2 z hz
  | [], _ :: _, hl, _, _ => by simp at hl
  | _ :: _, [], hl, _, _ => by simp at hl

theorem fold_prod (a b : Nat) : (a + 38 * b) % P25 = (a + W25 * b) % P25 := by
  rw [W25_P, Nat.add_mul, Nat.mul_assoc, Nat.mul_comm 2, Nat.mul_assoc, show a + (P25 * (b * 2) + 38 * b) = a + 38 * b + P25 * (b * 2) by omega, Nat.add_mul_mod_self_left]

theorem val_app16 : ∀ (a b : List (BitVec 64)), val (a ++ b) = val a + 65536 ^ a.length * val b
  | [], b => by simp [val]
  | x :: a, b => by
    simp only [List.cons_append, val, val_app16 a b, List.length_cons, Nat.pow_succ]
    rw [Nat.mul_add, Nat.mul_comm (65536 ^ a.length) 65536, Nat.mul_assoc]
    omega
theorem val_zero : ∀ n, val (List.replicate n 0#64) = 0
  | 0 => rfl
  | n + 1 => by simp [List.replicate_succ, val, val_zero n]

/-- the product's digits, of any size -/
def prd (a b : List (BitVec 64)) : List (BitVec 64) := convD a b (List.replicate 32 0#64)
theorem prd_spec (a b : List (BitVec 64)) (la : a.length = 16) (lb : b.length = 16) (ha : ∀ x ∈ a, x.toNat < 65536) (hb : ∀ x ∈ b, x.toNat < 65536) :
    val (prd a b) = val a * val b ∧ (prd a b).length = 32 ∧ ∀ x ∈ prd a b, x.toNat ≤ 2 ^ 37 := by
  have := convD_spec a b (List.replicate 32 0#64) 0 ha hb (fun z hz => by rw [(List.mem_replicate.1 hz).2]; exact Nat.le_refl _) (by rw [la]; decide) (by rw [la, lb, List.length_replicate]; decide)
  unfold prd
  refine ⟨by rw [this.1, val_zero, Nat.zero_add], by rw [this.2.1, List.length_replicate], fun x hx => ?_⟩
  have h := this.2.2 x hx
  rw [la] at h
  omega

/-- the product, folded -/
def mulD (d : List (BitVec 64)) : List (BitVec 64) := fold38 (lit 0 16 d) (segN d 16 16)
theorem mulD_spec (d : List (BitVec 64)) (hl : d.length = 32) (hb : ∀ x ∈ d, x.toNat ≤ 2 ^ 37) : val (mulD d) % P25 = val d % P25 ∧ (mulD d).length = 16 ∧ ∀ x ∈ mulD d, x.toNat < 2 ^ 60 := by
  have e1 : lit 0 16 d = d.take 16 := lit_take (by omega)
  have e2 : segN d 16 16 = d.drop 16 := segN_eq (by omega)
  unfold mulD
  rw [e1, e2]
  have h := fold38_spec (d.take 16) (d.drop 16) (by simp [hl]) (fun x hx => hb x (List.mem_of_mem_take hx)) (fun x hx => hb x (List.mem_of_mem_drop hx))
  refine ⟨?_, by rw [h.2.1]; simp [hl], h.2.2⟩
  have hv := val_app16 (d.take 16) (d.drop 16)
  rw [List.take_append_drop, show (d.take 16).length = 16 by simp [hl], W25_eq] at hv
  rw [h.1, hv, fold_prod]

theorem opp_digs (v : Nat) (h0 : 0 < v) (h : v < P25) : bpass 0#64 pd25 (dg v) = dg (fneg v) := by
  have hs := bpass_spec pd25 (dg v) 0#64 (by decide) pd25_lt (dg_lt v) (by rw [dg_length]; rfl)
  have hvW := Nat.lt_trans h P25_W
  have e : fneg v = P25 - v := by
    unfold fneg
    rw [Nat.mod_eq_of_lt h, Nat.mod_eq_of_lt (Nat.sub_lt P25_pos h0)]
  rw [hs, show pd25.length = 16 from rfl, val_pd25, val_dg hvW, W25_eq, show (0#64).toNat = 0 from rfl, Nat.sub_zero, e]
  unfold dg
  rw [← digs_mod, ← digs_mod 16 (P25 - v), W25_eq, off_mod (Nat.le_of_lt h) (Nat.le_of_lt hvW)]
theorem fneg_zero : fneg 0 = 0 := by decide
end Go.Sx

set_option maxRecDepth 1000000
set_option linter.unusedVariables false
namespace Go.Sx
open Go.Proofs

theorem prod1 (B : Nat) (a b : List (BitVec 64)) : FnE P0 B 2 40 [.one (.ag [.d64 (lit 0 16 a)]), .one (.ag [.d64 (lit 0 16 b)])] [] 2 ⟨.one (.ag [.d64 (lit 0 32 (prd (lit 0 16 a) (lit 0 16 b)))]), [], 2, .eff, []⟩ := by
  refine FnE.tri (cx := cxb true) (sz := 37) (fn := Tryz.f40) (c := bodyOf Tryz.f40) T0ok (by kernel_rfl) (by kernel_rfl) (by kernel_rfl) (by kernel_rfl) (by kernel_rfl) (by kernel_rfl) (Nat.le_refl _) ?_
  refine Tri.stepR (cx := cxb true) mix T0ok (H0ok B true) 5 17 noOrc [4] [(2 + 2, 2)] (2 + 1) ⟨[(4, .one (.s (.p 2 0)))], [(2, ⟨32, .d64 (lit 0 32 (prd (lit 0 16 a) (lit 0 16 b))), true, false, false⟩)], 2 + 1⟩ [] (by kernel_rfl) obNil ?_
  exact Tri.ret (cx := cxb true) mix T0ok (H0ok B true) 0 noOrc [4] [2] (2 + 1) ⟨[(4, .one (.s (.p 2 0)))], [(2, ⟨32, .d64 (lit 0 32 (prd (lit 0 16 a) (lit 0 16 b))), true, false, false⟩)], 2 + 1⟩ [] .r (by kernel_rfl) obNil (by kernel_rfl) rfl [] [] (by kernel_rfl) obNil
def prodCt : Ct := ⟨[.val, .val], [], fun vs ds gs => match vs, ds, gs with
  | [.one (.ag [.d64 a]), .one (.ag [.d64 b])], [], [] => bif Nat.beq a.length 16 && Nat.beq b.length 16 then some ⟨.one (.ag [.d64 (lit 0 32 (prd a b))]), [], [], []⟩ else none
  | _, _, _ => none⟩
theorem prod_ok (B : Nat) : prodCt.Ok P0 B 2 40 := by
  intro vs ds gs out h hpre hn
  unfold prodCt at h
  dsimp only at h
  split at h <;> first | (cases h; done) | skip
  rename_i a b
  cases hb : (Nat.beq a.length 16 && Nat.beq b.length 16) with
  | false => rw [hb] at h; cases h
  | true =>
    rw [hb, cond_true] at h
    cases h
    simp only [Bool.and_eq_true] at hb
    have k1 := Nat.eq_of_beq_eq_true hb.1
    have k2 := Nat.eq_of_beq_eq_true hb.2
    have := prod1 B a b
    rw [lit_eq k1, lit_eq k2] at this
    exact this

noncomputable def HN1 (c : Bool) : Hook := hookC 41 (hookOf (cxb c) settleCt) (hookC 40 (hookOf (cxb c) prodCt) (HN0 c))
theorem HN1ok (B : Nat) (c : Bool) : HookOk P0 B 2 (HN1 c) := .cons (.ct (cx := cxb c) (settle_ok B)) (.cons (.ct (cx := cxb c) (prod_ok B)) (HN0ok B c))

/-- a contract of two numbers -/
def binCt (f : Nat → Nat → Nat) : Ct := ⟨[.val, .val], [], fun vs ds gs => match vs, ds, gs with
  | [.one (.ag [.d64 a]), .one (.ag [.d64 b])], [], [] => bif Nat.beq a.length 16 && Nat.beq b.length 16 then some ⟨.one (.ag [.d64 (lit 0 16 (dg (f (val a) (val b))))]), [], [], [∀ x ∈ a, x.toNat < 65536, ∀ x ∈ b, x.toNat < 65536]⟩ else none
  | _, _, _ => none⟩
theorem binCt_ok (B : Nat) (f : Nat → Nat → Nat) (g : FuncId) (h1 : ∀ a b : List (BitVec 64), a.length = 16 → b.length = 16 → (∀ x ∈ a, x.toNat < 65536) → (∀ x ∈ b, x.toNat < 65536) →
    FnE P0 B 2 g [.one (.ag [.d64 (lit 0 16 a)]), .one (.ag [.d64 (lit 0 16 b)])] [] 2 ⟨.one (.ag [.d64 (lit 0 16 (dg (f (val a) (val b))))]), [], 2, .eff, []⟩) : (binCt f).Ok P0 B 2 g := by
  intro vs ds gs out h hpre hn
  unfold binCt at h
  dsimp only at h
  split at h <;> first | (cases h; done) | skip
  rename_i a b
  cases hb : (Nat.beq a.length 16 && Nat.beq b.length 16) with
  | false => rw [hb] at h; cases h
  | true =>
    rw [hb, cond_true] at h
    cases h
    simp only [Bool.and_eq_true] at hb
    have k1 := Nat.eq_of_beq_eq_true hb.1
    have k2 := Nat.eq_of_beq_eq_true hb.2
    have := h1 a b k1 k2 (hpre _ List.mem_cons_self) (hpre _ (List.mem_cons_of_mem _ List.mem_cons_self))
    rw [lit_eq k1, lit_eq k2] at this
    exact this
/-- a contract of one number -/
def unCt (f : Nat → Nat) : Ct := ⟨[.val], [], fun vs ds gs => match vs, ds, gs with
  | [.one (.ag [.d64 a])], [], [] => bif Nat.beq a.length 16 then some ⟨.one (.ag [.d64 (lit 0 16 (dg (f (val a))))]), [], [], [∀ x ∈ a, x.toNat < 65536]⟩ else none
  | _, _, _ => none⟩
theorem unCt_ok (B : Nat) (f : Nat → Nat) (g : FuncId) (h1 : ∀ a : List (BitVec 64), a.length = 16 → (∀ x ∈ a, x.toNat < 65536) →
    FnE P0 B 2 g [.one (.ag [.d64 (lit 0 16 a)])] [] 2 ⟨.one (.ag [.d64 (lit 0 16 (dg (f (val a))))]), [], 2, .eff, []⟩) : (unCt f).Ok P0 B 2 g := by
  intro vs ds gs out h hpre hn
  unfold unCt at h
  dsimp only at h
  split at h <;> first | (cases h; done) | skip
  rename_i a
  cases hb : Nat.beq a.length 16 with
  | false => rw [hb] at h; cases h
  | true =>
    rw [hb, cond_true] at h
    cases h
    have k1 := Nat.eq_of_beq_eq_true hb
    have := h1 a k1 (hpre _ List.mem_cons_self)
    rw [lit_eq k1] at this
    exact this

theorem add_ok (B : Nat) : (binCt fadd).Ok P0 B 2 37 := binCt_ok B fadd _ fun a b la lb ha hb => by
  have hz := zipN_spec a b (by omega) ha hb
  have hm : digs 16 (val (zipN (lit 0 16 a) (lit 0 16 b)) % P25) = dg (fadd (val a) (val b)) := by rw [lit_eq la, lit_eq lb, hz.1]; rfl
  rw [← hm]
  refine FnE.tri (cx := cxb true) (sz := 21) (fn := Tryz.f37) (c := bodyOf Tryz.f37) T0ok (by kernel_rfl) (by kernel_rfl) (by kernel_rfl) (by kernel_rfl) (by kernel_rfl) (by kernel_rfl) (Nat.le_refl _) ?_
  exact Tri.ret (cx := cxb true) mix T0ok (HN1ok B true) 17 noOrc [4] [2 + 2] (2 + 3) ⟨[(4, .one (.s (.p (2 + 2) 0)))], [(2 + 2, ⟨16, .d64 (lit 0 16 (digs 16 (val (zipN (lit 0 16 a) (lit 0 16 b)) % P25))), true, false, false⟩)], 2 + 3⟩ [∀ y ∈ zipN (lit 0 16 a) (lit 0 16 b), y.toNat < 2 ^ 60] .r (by kernel_rfl) (obCons (by rw [lit_eq la, lit_eq lb]; exact hz.2.2) obNil) (by kernel_rfl) rfl [] [] (by kernel_rfl) obNil

theorem mod_ok (B : Nat) : (unCt (· % P25)).Ok P0 B 2 39 := unCt_ok B _ _ fun a la ha => by
  refine FnE.tri (cx := cxb true) (sz := 5) (fn := Tryz.f39) (c := bodyOf Tryz.f39) T0ok (by kernel_rfl) (by kernel_rfl) (by kernel_rfl) (by kernel_rfl) (by kernel_rfl) (by kernel_rfl) (Nat.le_refl _) ?_
  have e : digs 16 (val (lit 0 16 a) % P25) = dg (val a % P25) := by rw [lit_eq la]; rfl
  rw [← e]
  exact Tri.ret (cx := cxb true) mix T0ok (HN1ok B true) 17 noOrc [2] [2 + 1] (2 + 2) ⟨[(2, .one (.s (.p (2 + 1) 0)))], [(2 + 1, ⟨16, .d64 (lit 0 16 (digs 16 (val (lit 0 16 a) % P25))), true, false, false⟩)], 2 + 2⟩ [∀ y ∈ lit 0 16 a, y.toNat < 2 ^ 60] .r (by kernel_rfl) (obCons (by rw [lit_eq la]; exact fun y hy => Nat.lt_trans (ha y hy) (by decide)) obNil) (by kernel_rfl) rfl [] [] (by kernel_rfl) obNil
end Go.Sx

set_option maxRecDepth 1000000
set_option linter.unusedVariables false
namespace Go.Sx
open Go.Proofs

theorem dg_zero : dg 0 = List.replicate 16 0#64 := by kernel_rfl
theorem dg_eq_zero {v : Nat} (hv : v < P25) : dg v = List.replicate 16 0 ↔ v = 0 := by
  constructor
  · intro h
    have h2 : val (dg v) = val (dg 0) := congrArg val (h.trans dg_zero.symm)
    rw [val_dg (Nat.lt_trans hv P25_W), val_dg (by decide)] at h2
    exact h2
  · rintro rfl; exact dg_zero

theorem neg_ok (B : Nat) : (unCt fneg).Ok P0 B 2 53 := unCt_ok B _ _ fun a la ha => by
  have hlt : val a % P25 < P25 := Nat.mod_lt _ P25_pos
  have ob1 : ∀ y ∈ lit 0 16 a, y.toNat < 2 ^ 60 := by rw [lit_eq la]; exact fun y hy => Nat.lt_trans (ha y hy) (by decide)
  have eL : lit 0 16 (digs 16 (val (lit 0 16 a) % P25)) = dg (val a % P25) := by rw [lit_eq la]; exact dg_lit _
  have eN : fneg (val a) = fneg (val a % P25) := by unfold fneg; rw [Nat.mod_mod]
  refine FnE.tri (cx := cxb true) (sz := 12) (fn := Tryz.f53) (c := bodyOf Tryz.f53) T0ok (by kernel_rfl) (by kernel_rfl) (by kernel_rfl) (by kernel_rfl) (by kernel_rfl) (by kernel_rfl) (Nat.le_refl _) ?_
  by_cases h0 : val a % P25 = 0
  · have e : lit 0 16 (digs 16 (val (lit 0 16 a) % P25)) = lit 0 16 (dg (fneg (val a))) := by rw [eL, eN, h0, fneg_zero, dg_lit]
    rw [← e]
    exact Tri.ret (cx := cxb true) mix T0ok (HN1ok B true) 17 (orcL [(7, true)]) [2] [2 + 1] (2 + 9) ⟨[(2, .one (.s (.p (2 + 1) 0)))], [(2 + 1, ⟨16, .d64 (lit 0 16 (digs 16 (val (lit 0 16 a) % P25))), true, false, false⟩)], 2 + 9⟩ [∀ y ∈ lit 0 16 a, y.toNat < 2 ^ 60, decide (lit 0 16 (digs 16 (val (lit 0 16 a) % P25)) = List.replicate 16 0) = true] .r (by kernel_rfl) (obCons ob1 <| obCons (decide_eq_true (by rw [eL]; exact (dg_eq_zero hlt).2 h0)) obNil) (by kernel_rfl) rfl [] [] (by kernel_rfl) obNil
  · have e : lit 0 16 (bpass 0#64 pd25 (lit 0 16 (digs 16 (val (lit 0 16 a) % P25)))) = lit 0 16 (dg (fneg (val a))) := by rw [eL, eN, opp_digs _ (Nat.pos_of_ne_zero h0) hlt]
    rw [← e]
    exact Tri.ret (cx := cxb true) mix T0ok (HN1ok B true) 17 (orcL [(7, false)]) [2] [2 + 1] (2 + 9) ⟨[(2, .one (.s (.p (2 + 1) 0)))], [(2 + 1, ⟨16, .d64 (lit 0 16 (bpass 0#64 pd25 (lit 0 16 (digs 16 (val (lit 0 16 a) % P25))))), true, false, false⟩)], 2 + 9⟩ [∀ y ∈ lit 0 16 a, y.toNat < 2 ^ 60, decide (lit 0 16 (digs 16 (val (lit 0 16 a) % P25)) = List.replicate 16 0) = false] .r (by kernel_rfl) (obCons ob1 <| obCons (decide_eq_false (by rw [eL, dg_eq_zero hlt]; exact h0)) obNil) (by kernel_rfl) rfl [] [] (by kernel_rfl) obNil

noncomputable def HN2 (c : Bool) : Hook := hookC 37 (hookOf (cxb c) (binCt fadd)) (hookC 53 (hookOf (cxb c) (unCt fneg)) (hookC 39 (hookOf (cxb c) (unCt (· % P25))) (HN1 c)))
theorem HN2ok (B : Nat) (c : Bool) : HookOk P0 B 2 (HN2 c) := .cons (.ct (cx := cxb c) (add_ok B)) (.cons (.ct (cx := cxb c) (neg_ok B)) (.cons (.ct (cx := cxb c) (mod_ok B)) (HN1ok B c)))

theorem sub_ok (B : Nat) : (binCt fsub).Ok P0 B 2 38 := binCt_ok B fsub _ fun a b la lb ha hb => by
  have e : dg (fadd (val (lit 0 16 a)) (val (lit 0 16 (dg (fneg (val (lit 0 16 b))))))) = dg (fsub (val a) (val b)) := by
    rw [lit_eq la, lit_eq lb, dg_lit, val_dg (Nat.lt_trans (fneg_lt _) P25_W)]; rfl
  rw [← e]
  refine FnE.tri (cx := cxb true) (sz := 9) (fn := Tryz.f38) (c := bodyOf Tryz.f38) T0ok (by kernel_rfl) (by kernel_rfl) (by kernel_rfl) (by kernel_rfl) (by kernel_rfl) (by kernel_rfl) (Nat.le_refl _) ?_
  exact Tri.ret (cx := cxb true) mix T0ok (HN2ok B true) 17 noOrc [4] [2 + 2] (2 + 9) ⟨[(4, .one (.s (.p (2 + 2) 0)))], [(2 + 2, ⟨16, .d64 (lit 0 16 (dg (fadd (val (lit 0 16 a)) (val (lit 0 16 (dg (fneg (val (lit 0 16 b))))))))), true, false, false⟩)], 2 + 9⟩ [∀ y ∈ lit 0 16 b, y.toNat < 65536, ∀ y ∈ lit 0 16 a, y.toNat < 65536, ∀ y ∈ lit 0 16 (dg (fneg (val (lit 0 16 b)))), y.toNat < 65536] .r (by kernel_rfl) (obCons (by rw [lit_eq lb]; exact hb) <| obCons (by rw [lit_eq la]; exact ha) <| obCons (by rw [dg_lit]; exact dg_lt _) obNil) (by kernel_rfl) rfl [] [] (by kernel_rfl) obNil

theorem mulX_ok (B : Nat) : (binCt fmul).Ok P0 B 2 29 := binCt_ok B fmul _ fun a b la lb ha hb => by
  have hp := prd_spec a b la lb ha hb
  have hm := mulD_spec (prd a b) hp.2.1 hp.2.2
  have e : digs 16 (val (mulD (prd (lit 0 16 a) (lit 0 16 b))) % P25) = dg (fmul (val a) (val b)) := by
    rw [lit_eq la, lit_eq lb, hm.1, hp.1]; rfl
  rw [← e]
  refine FnE.tri (cx := cxb true) (sz := 29) (fn := Tryz.f29) (c := bodyOf Tryz.f29) T0ok (by kernel_rfl) (by kernel_rfl) (by kernel_rfl) (by kernel_rfl) (by kernel_rfl) (by kernel_rfl) (Nat.le_refl _) ?_
  exact Tri.ret (cx := cxb true) mix T0ok (HN1ok B true) 17 noOrc [4] [2 + 2] (2 + 9) ⟨[(4, .one (.s (.p (2 + 2) 0)))], [(2 + 2, ⟨16, .d64 (lit 0 16 (digs 16 (val (mulD (prd (lit 0 16 a) (lit 0 16 b))) % P25))), true, false, false⟩)], 2 + 9⟩ [∀ y ∈ mulD (prd (lit 0 16 a) (lit 0 16 b)), y.toNat < 2 ^ 60] .r (by kernel_rfl) (obCons (by rw [lit_eq la, lit_eq lb]; exact hm.2.2) obNil) (by kernel_rfl) rfl [] [] (by kernel_rfl) obNil

noncomputable def HN (c : Bool) : Hook := hookC 38 (hookOf (cxb c) (binCt fsub)) (hookC 29 (hookOf (cxb c) (binCt fmul)) (HN2 c))
theorem HNok (B : Nat) (c : Bool) : HookOk P0 B 2 (HN c) := .cons (.ct (cx := cxb c) (sub_ok B)) (.cons (.ct (cx := cxb c) (mulX_ok B)) (HN2ok B c))
end Go.Sx

set_option linter.unusedVariables false
namespace Go.Sx

def bitN (v i : Nat) : BitVec 64 := BitVec.ofNat 64 (v / 2 ^ i % 2)
theorem bitN_nat (v i : Nat) : (bitN v i).toNat = v / 2 ^ i % 2 := by
  unfold bitN
  rw [BitVec.toNat_ofNat, Nat.mod_eq_of_lt]
  have := Nat.mod_lt (v / 2 ^ i) (show 0 < 2 by decide)
  omega

theorem bit_digs (v i : Nat) (hi : i < 256) (hv : v < W25) : ((dg v).getD (i / 16) 0 >>> (i % 16)) &&& 1#64 = bitN v i := by
  apply BitVec.eq_of_toNat_eq
  rw [bitN_nat, and_low _ 1 1#64 rfl, shr_nat]
  unfold dg
  rw [digs_getD 16 v (i / 16) (by omega), BitVec.toNat_ofNat]
  have h1 : v / 65536 ^ (i / 16) % 65536 % 2 ^ 64 = v / 65536 ^ (i / 16) % 65536 := Nat.mod_eq_of_lt (by omega)
  have h2 : 65536 ^ (i / 16) = 2 ^ (16 * (i / 16)) := by rw [Nat.pow_mul]
  have h3 : 65536 = 2 ^ (i % 16) * 2 ^ (16 - i % 16) := by rw [← Nat.pow_add, show i % 16 + (16 - i % 16) = 16 by omega]
  have h4 : 2 ^ (16 - i % 16) = 2 * 2 ^ (15 - i % 16) := by rw [← Nat.pow_succ', show (15 - i % 16).succ = 16 - i % 16 by omega]
  rw [h1, h2]
  conv => lhs; rw [h3]
  rw [Nat.mod_mul_right_div_self, h4, Nat.div_div_eq_div_mul, ← Nat.pow_add, show 16 * (i / 16) + i % 16 = i by omega, show (2 : Nat) ^ 1 = 2 from rfl, Nat.mod_mul_right_mod]

def fpow (a e : Nat) : Nat := a ^ e % P25
theorem fpow_lt (a e : Nat) : fpow a e < P25 := Nat.mod_lt _ P25_pos
/-- the power by the bits from i on -/
def pw (a e i : Nat) : Nat := fpow a (e / 2 ^ i)
theorem pw_step (a e i : Nat) : pw a e i = if e / 2 ^ i % 2 = 1 then fmul (fmul (pw a e (i + 1)) (pw a e (i + 1))) a else fmul (pw a e (i + 1)) (pw a e (i + 1)) := by
  have h : e / 2 ^ i = 2 * (e / 2 ^ (i + 1)) + e / 2 ^ i % 2 := by
    rw [Nat.pow_succ, ← Nat.div_div_eq_div_mul]
    generalize e / 2 ^ i = q
    omega
  unfold pw fpow fmul
  generalize e / 2 ^ (i + 1) = q at *
  have hs : a ^ q % P25 * (a ^ q % P25) % P25 = a ^ (2 * q) % P25 := by
    rw [← Nat.mul_mod, ← Nat.pow_add, show q + q = 2 * q by omega]
  split
  · rename_i h1
    rw [h, h1, hs, Nat.mod_mul_mod, Nat.pow_succ]
  · rename_i h1
    have : e / 2 ^ i % 2 = 0 := by omega
    rw [h, this, hs, Nat.add_zero]
theorem pw_top (a e : Nat) (he : e < W25) : pw a e 256 = 1 := by
  unfold pw
  have : e / 2 ^ 256 = 0 := Nat.div_eq_of_lt (Nat.lt_of_lt_of_eq he (by decide))
  rw [this]; rfl
theorem pw_zero (a e : Nat) : pw a e 0 = fpow a e := by unfold pw; simp
theorem pw_lt (a e i : Nat) : pw a e i < P25 := fpow_lt _ _

/-- bytes of digits -/
def bd2 : List (BitVec 64) → List (BitVec 8)
  | [] => []
  | x :: r => (x >>> 0).setWidth 8 :: (x >>> 8).setWidth 8 :: bd2 r
theorem bd2_spec : ∀ l : List (BitVec 64), (∀ x ∈ l, x.toNat < 65536) → bd2 l = bytesN (2 * l.length) (val l)
  | [], _ => rfl
  | x :: r, h => by
    have hx := h x (by simp)
    have ih := bd2_spec r (fun y hy => h y (by simp [hy]))
    simp only [bd2, List.length_cons, val]
    rw [show 2 * (r.length + 1) = 2 * r.length + 1 + 1 by omega]
    simp only [bytesN]
    rw [ih]
    congr 1
    · apply BitVec.eq_of_toNat_eq
      rw [BitVec.toNat_setWidth, shr_nat, BitVec.toNat_ofNat]; omega
    · congr 1
      · apply BitVec.eq_of_toNat_eq
        rw [BitVec.toNat_setWidth, shr_nat, BitVec.toNat_ofNat]; omega
      · congr 1
        omega
theorem bd2_dg (v : Nat) (hv : v < W25) : bd2 (dg v) = bytesN 32 v := by
  rw [bd2_spec _ (dg_lt v), dg_length, val_dg hv]

/-- digits of bytes -/
theorem d16_len : ∀ l : List (BitVec 8), (d16 l).length = (l.length + 1) / 2
  | [] => rfl
  | [x] => by simp [d16]
  | x :: y :: r => by simp only [d16, List.length_cons, d16_len r]; omega
theorem d16_dg (b : List (BitVec 8)) (h : b.length = 32) : d16 b = dg (leN b) := by
  obtain ⟨h1, h2⟩ := d16_spec b
  have hl : (d16 b).length = 16 := by rw [d16_len, h]
  rw [← h1, dg_val hl h2]

/-- a key as X25519 takes it -/
def clampB (k : List (BitVec 8)) : List (BitVec 8) := (k.set 0 (k.getD 0 0 &&& ~~~7#8)).set 31 (k.getD 31 0 &&& 127#8 ||| 64#8)
theorem clampB_length (k : List (BitVec 8)) : (clampB k).length = k.length := by unfold clampB; rw [List.length_set, List.length_set]
end Go.Sx
