/- Numbers modulo 2^255 - 19 are a field; the curve and its base point. Conditions: none; plain definitions and theorems, no program in sight. Two keys in either order give one shared number. Conditions: none; plain definitions and theorems. One shared key, reckoned. Conditions: none; plain definitions and theorems. Conditions: none. -/
import Derived.Test.YtbkobeclkeojoaaDoorK1
import Derived.Test.YtbkobeclkeojoaaDoorX5b
import Derived.Test.YtbkobeclkeojoaaDoorE7
import Derived.Test.YtbkobeclkeojoaaDoorZ1
set_option linter.unusedVariables false
set_option maxRecDepth 100000
namespace Go.Sx
theorem P25_pr : Pr P25 := pr_P
instance P25_nz : NeZero P25 := ⟨by decide⟩
def tF (v : Nat) : _root_.Fin P25 := Fin.ofNat P25 v
theorem tF_val (v : Nat) : (tF v).val = v % P25 := rfl
theorem tF_eq {a b : Nat} (h : a % P25 = b % P25) : tF a = tF b := Fin.ext h
theorem tF_inj {a b : Nat} (h : tF a = tF b) : a % P25 = b % P25 := congrArg Fin.val h
theorem tF_of (a : _root_.Fin P25) : tF a.val = a := Fin.ext (Nat.mod_eq_of_lt a.isLt)
theorem tF_add (a b : Nat) : tF (fadd a b) = tF a + tF b := Fin.ext (by
  show (a + b) % P25 % P25 = (a % P25 + b % P25) % P25
  rw [Nat.mod_mod, ← Nat.add_mod])
theorem tF_mul (a b : Nat) : tF (fmul a b) = tF a * tF b := Fin.ext (by
  show (a * b) % P25 % P25 = (a % P25 * (b % P25)) % P25
  rw [Nat.mod_mod, ← Nat.mul_mod])
theorem tF_sub (a b : Nat) : tF (fsub a b) = tF a - tF b := Fin.ext (by
  show (a + (P25 - b % P25) % P25) % P25 % P25 = ((P25 - b % P25) + a % P25) % P25
  rw [Nat.mod_mod, Nat.add_mod_mod, Nat.add_mod_mod, Nat.add_comm])
theorem tF_mul' (a b : Nat) : tF (a * b) = tF a * tF b := (tF_eq (by unfold fmul; rw [Nat.mod_mod])).trans (tF_mul a b)
theorem tF0 : tF 0 = 0 := rfl
theorem tF1 : tF 1 = 1 := rfl
theorem tF_zero {a : Nat} (h : tF a = 0) : P25 ∣ a := Nat.dvd_of_mod_eq_zero (tF_inj (b := 0) h)
theorem tF_zero' {a : Nat} (h : P25 ∣ a) : tF a = 0 := tF_eq (b := 0) (Nat.mod_eq_zero_of_dvd h)
/-- the inverse -/
def fI (z : _root_.Fin P25) : _root_.Fin P25 := tF (finv z.val)
theorem fpow_0 (e : Nat) (h : 0 < e) : fpow 0 e = 0 := by
  unfold fpow
  rw [Nat.zero_pow h]; rfl
theorem finv_0 : finv 0 = 0 := fpow_0 _ (by decide)
theorem fI_zero : fI 0 = 0 := by
  have := finv_0
  have e : (0 : _root_.Fin P25).val = 0 := rfl
  unfold fI
  rw [e, this]; rfl
theorem not_dvd {a : _root_.Fin P25} (h : a ≠ 0) : ¬ P25 ∣ a.val := fun hd => h (by rw [← tF_of a]; exact tF_zero' hd)
theorem fI_mul {a : _root_.Fin P25} (h : a ≠ 0) : a * fI a = 1 := by
  have hn := not_dvd h
  have e0 : a * fI a = tF (a.val * finv a.val) := by rw [tF_mul', tF_of]; rfl
  rw [e0]
  have e : a.val * finv a.val % P25 = 1 % P25 := by
    unfold finv fpow
    rw [Nat.mul_mod_mod, Nat.mul_comm, ← Nat.pow_succ, show (P25 - 2).succ = P25 - 1 by decide, fermat P25_pr hn]; rfl
  exact (tF_eq e).trans tF1
def dE : _root_.Fin P25 := tF 20800338683988658368647408995589388737092878452977063003340006470870624536394
def kE : _root_.Fin P25 := tF 121665
def hE : Nat := 28948022309329048855892746252171976963317496166410141009864396001978282409974
theorem dE_pow : pm P25 255 20800338683988658368647408995589388737092878452977063003340006470870624536394 hE = 57896044618658097711785492504343953926634992332820282019728792003956564819948 := by decide +kernel
theorem dE_nsq (s : _root_.Fin P25) : s * s ≠ dE := fun h => by
  have hs : s ≠ 0 := fun h0 => by
    rw [h0] at h
    have := congrArg Fin.val h
    exact absurd this (by decide)
  have hn := not_dvd hs
  have fe := fermat P25_pr hn
  have e1 : s.val * s.val % P25 = 20800338683988658368647408995589388737092878452977063003340006470870624536394 % P25 := by
    have := congrArg Fin.val h
    exact this
  have e2 := pm_eq P25 255 20800338683988658368647408995589388737092878452977063003340006470870624536394 hE (by decide)
  rw [dE_pow, Nat.pow_mod, ← e1, ← Nat.pow_mod, ← Nat.pow_two, ← Nat.pow_mul, show 2 * hE = P25 - 1 by decide, fe] at e2
  exact absurd e2 (by decide)
theorem FP : Fld dE where
  dom := fun a b h => by
    have : P25 ∣ a.val * b.val := tF_zero (by rw [tF_mul', tF_of, tF_of]; exact h)
    rcases P25_pr.dvd_mul this with h | h
    · exact .inl (by rw [← tF_of a]; exact tF_zero' h)
    · exact .inr (by rw [← tF_of b]; exact tF_zero' h)
  inv := fun a h => ⟨fI a, fI_mul h⟩
  two := fun a h => by
    have e : (a.val + a.val) % P25 = 0 := congrArg Fin.val h
    have : P25 ∣ 2 * a.val := Nat.dvd_of_mod_eq_zero (by rw [Nat.two_mul]; exact e)
    rcases P25_pr.dvd_mul this with h | h
    · exact absurd (Nat.le_of_dvd (by decide) h) (by decide)
    · rw [← tF_of a]; exact tF_zero' h
  one := fun h => absurd (congrArg Fin.val h) (by decide)
  nsq := dE_nsq
theorem dE_k : dE * (kE + 1) = kE := by decide +kernel
theorem kE_1 : kE + 1 ≠ 0 := by decide +kernel
/-- the base point -/
def QB : Pt P25 := ⟨tF 9771384041963202563870679428059935816164187996444183106833894008023910952347, tF 46316835694926478169428394003475163141307993866256225615783033603165251855960⟩
theorem QB_on : QB.On dE := by
  show tF 9771384041963202563870679428059935816164187996444183106833894008023910952347 * tF 9771384041963202563870679428059935816164187996444183106833894008023910952347 + tF 46316835694926478169428394003475163141307993866256225615783033603165251855960 * tF 46316835694926478169428394003475163141307993866256225615783033603165251855960 = 1 + dE * (tF 9771384041963202563870679428059935816164187996444183106833894008023910952347 * tF 9771384041963202563870679428059935816164187996444183106833894008023910952347) * (tF 46316835694926478169428394003475163141307993866256225615783033603165251855960 * tF 46316835694926478169428394003475163141307993866256225615783033603165251855960)
  decide +kernel
theorem QB_y : ¬ QB.y = 1 := by
  show ¬ tF 46316835694926478169428394003475163141307993866256225615783033603165251855960 = 1
  decide +kernel
theorem QB_uo : uo QB = tF 9 := by
  have i := FP.iv (FP.sub_ne QB_y)
  have h1 : uo QB * (1 - QB.y) = 1 + QB.y := by
    unfold uo
    rw [if_neg QB_y]
    generalize iv (1 - QB.y) = w at *
    generalize QB.y = y at *
    have : (1 + y) * w * (1 - y) = (1 + y) * ((1 - y) * w) := by clear i; grobner
    rw [this, i]; clear this i; grobner
  have h2 : tF 9 * (1 - QB.y) = 1 + QB.y := by
    show tF 9 * (1 - tF 46316835694926478169428394003475163141307993866256225615783033603165251855960) = 1 + tF 46316835694926478169428394003475163141307993866256225615783033603165251855960
    decide +kernel
  exact FP.cancel h1 h2 rfl (FP.sub_ne QB_y) (FP.sub_ne QB_y)
/-- two ladders in either order, over the base point -/
theorem x_swap (A B : Nat) (hA : A * 2 < 2 ^ 255) (hB : B * 2 < 2 ^ 255) : xoK fI (A * 2) (xoK fI (B * 2) (tF 9) kE) kE = xoK fI (B * 2) (xoK fI (A * 2) (tF 9) kE) kE := by
  rw [← QB_uo]
  exact xo_swap FP dE_k kE_1 (fun z h => fI_mul h) fI_zero QB_on A B hA hB
end Go.Sx

set_option linter.unusedVariables false
set_option maxRecDepth 100000
namespace Go.Sx
open Go.Proofs
/-- the two ladders hold the same numbers -/
structure R4 (U : Nat) (w : W5) (s : L4 P25) : Prop where
  e1 : tF w.x1 = tF U
  e2 : tF w.x2 = s.x2
  f2 : tF w.z2 = s.z2
  e3 : tF w.x3 = s.x3
  f3 : tF w.z3 = s.z3
theorem R4.step {U : Nat} {w : W5} {s : L4 P25} (h : R4 U w s) : R4 U w.step (s.step (tF U) kE) := by
  obtain ⟨e1, e2, f2, e3, f3⟩ := h
  refine ⟨(tF_eq (Nat.mod_mod _ _)).trans e1, ?_, ?_, ?_, ?_⟩
  · unfold W5.step L4.step; dsimp only; simp only [tF_mul, tF_add, tF_sub, e2, f2]
  · unfold W5.step L4.step; dsimp only; simp only [tF_mul, tF_add, tF_sub, e2, f2]; rfl
  · unfold W5.step L4.step; dsimp only; simp only [tF_mul, tF_add, tF_sub, e2, f2, e3, f3]
  · unfold W5.step L4.step; dsimp only; simp only [tF_mul, tF_add, tF_sub, e1, e2, f2, e3, f3]
theorem R4.swap {U : Nat} {w : W5} {s : L4 P25} (h : R4 U w s) : R4 U w.swap s.swap := ⟨h.e1, h.e3, h.f3, h.e2, h.f2⟩
def bb (b : Bool) : BitVec 64 := bif b then 1#64 else 0#64
theorem bitN_bb (K i : Nat) : bitN K i = bb (decide (K / 2 ^ i % 2 = 1)) := by
  unfold bitN
  rcases Nat.mod_two_eq_zero_or_one (K / 2 ^ i) with h | h
  · rw [h]; rfl
  · rw [h]; rfl
theorem bb_xor (a b : Bool) : decide ((bb a ^^^ bb b).toNat = 1) = a.xor b := by cases a <;> cases b <;> rfl
theorem R4.lad (U K : Nat) : ∀ j, R4 U (ladJ K ⟨U, 1, 0, U, 1⟩ j).1 (lad4 K (tF U) kE j).1 ∧ (ladJ K ⟨U, 1, 0, U, 1⟩ j).2 = bb (lad4 K (tF U) kE j).2
  | 0 => ⟨⟨rfl, tF1, tF0, rfl, tF1⟩, rfl⟩
  | j + 1 => by
    obtain ⟨h1, h2⟩ := R4.lad U K j
    refine ⟨?_, bitN_bb _ _⟩
    show R4 U (W5.stp _ (bitN K (254 - j) ^^^ (ladJ K ⟨U, 1, 0, U, 1⟩ j).2)) (L4.step (tF U) kE (bif (decide (K / 2 ^ (254 - j) % 2 = 1)).xor (lad4 K (tF U) kE j).2 then (lad4 K (tF U) kE j).1.swap else (lad4 K (tF U) kE j).1))
    rw [h2, bitN_bb]
    unfold W5.stp
    rw [bb_xor]
    generalize (decide (K / 2 ^ (254 - j) % 2 = 1)).xor (lad4 K (tF U) kE j).2 = x
    cases x
    · exact h1.step
    · exact h1.swap.step
theorem fI_tF (z : Nat) : tF (finv z) = fI (tF z) := by
  unfold fI
  rw [tF_val, finv_mod]
theorem xend_xoK (U K : Nat) : tF (xend (ladJ K ⟨U, 1, 0, U, 1⟩ 255)) = xoK fI K (tF U) kE := by
  obtain ⟨h1, h2⟩ := R4.lad U K 255
  unfold xoK
  generalize ladJ K ⟨U, 1, 0, U, 1⟩ 255 = r at *
  generalize (lad4 K (tF U) kE 255) = s at *
  obtain ⟨s1, b⟩ := s
  dsimp only at h1 h2 ⊢
  cases b
  · rw [xend_0 (by rw [h2]; rfl), cond_false, tF_mul, fI_tF, h1.e2, h1.f2]
  · rw [xend_1 (by rw [h2]; rfl), cond_true, tF_mul, fI_tF, h1.e3, h1.f3]
theorem xend_lt (r : W5 × BitVec 64) : xend r < P25 := by
  unfold xend
  cases decide (r.2.toNat = 1)
  · rw [cond_false]; exact fmul_lt _ _
  · rw [cond_true]; exact fmul_lt _ _
/-- the number of a key's ladder -/
def xN (K U : Nat) : Nat := xend (ladJ K ⟨U, 1, 0, U, 1⟩ 255)
theorem xN_tF (U K : Nat) : tF (xN K U) = xoK fI K (tF U) kE := xend_xoK U K
theorem xN_lt (K U : Nat) : xN K U < P25 := xend_lt _
theorem xN_swap (A B : Nat) (hA : A * 2 < 2 ^ 255) (hB : B * 2 < 2 ^ 255) : xN (A * 2) (xN (B * 2) 9) = xN (B * 2) (xN (A * 2) 9) := by
  have h := x_swap A B hA hB
  rw [← xN_tF, ← xN_tF, ← xN_tF, ← xN_tF] at h
  have := tF_inj h
  rwa [Nat.mod_eq_of_lt (xN_lt _ _), Nat.mod_eq_of_lt (xN_lt _ _)] at this

theorem clampB_even (s : List (BitVec 8)) (h : s.length = 32) : ∃ A, leN (clampB s) = A * 2 ∧ A * 2 < 2 ^ 255 := by
  have l := clampB_length s
  rw [h] at l
  have h0 := leN_get (clampB s) 0
  have h31 := leN_get (clampB s) 31
  have hl := leN_lt (clampB s)
  rw [l] at hl
  have c0 : (clampB s).getD 0 0 = s.getD 0 0 &&& ~~~7#8 := by
    unfold clampB
    rw [List.getD_eq_getElem?_getD, List.getElem?_set_ne (by decide), List.getElem?_set_self (by rw [h]; decide)]
    rfl
  have c31 : (clampB s).getD 31 0 = s.getD 31 0 &&& 127#8 ||| 64#8 := by
    unfold clampB
    rw [List.getD_eq_getElem?_getD, List.getElem?_set_self (by rw [List.length_set, h]; decide)]
    rfl
  rw [c0] at h0
  rw [c31] at h31
  have e0 : (s.getD 0 0 &&& ~~~7#8).toNat % 2 = 0 := by
    generalize s.getD 0 0 = x
    rw [BitVec.toNat_and, show (~~~7#8 : BitVec 8).toNat = 248 by decide, ← Nat.and_one_is_mod, Nat.and_assoc]
    exact Nat.and_zero _
  have e31 : (s.getD 31 0 &&& 127#8 ||| 64#8).toNat < 2 ^ 7 := by
    generalize s.getD 31 0 = x
    rw [BitVec.toNat_or, BitVec.toNat_and]
    exact Nat.or_lt_two_pow (Nat.and_lt_two_pow _ (by decide)) (by decide)
  generalize leN (clampB s) = N at *
  refine ⟨N / 2, ?_, ?_⟩
  · omega
  · omega
def nine : List (BitVec 8) := 9#8 :: List.replicate 31 0
theorem leN_nine : leN (maskP nine) = 9 := by decide
theorem x25519_N (s p : List (BitVec 8)) : x25519 s p = bytesN 32 (xN (leN (clampB s)) (leN (maskP p))) := x25519_def s p
theorem mask_bytes {v : Nat} (h : v < P25) : leN (maskP (bytesN 32 v)) = v := by
  rw [mask_nat _ (bytesN_length 32 v), leN_bytesN]
  have : v < 57896044618658097711785492504343953926634992332820282019728792003956564819949 := h
  omega
/-- two keys in either order -/
theorem dh (a b : List (BitVec 8)) (la : a.length = 32) (lb : b.length = 32) : x25519 a (x25519 b nine) = x25519 b (x25519 a nine) := by
  obtain ⟨A, ea, ha⟩ := clampB_even a la
  obtain ⟨B, eb, hb⟩ := clampB_even b lb
  rw [x25519_N a, x25519_N b, x25519_N b, x25519_N a, leN_nine, mask_bytes (xN_lt _ _), mask_bytes (xN_lt _ _), ea, eb, xN_swap A B ha hb]
end Go.Sx

set_option linter.unusedVariables false
set_option maxRecDepth 1000000
namespace Go.Sx
open Go.Proofs
def n1 : List (BitVec 8) := 1#8 :: List.replicate 31 0
theorem nin_nine : nin = nine := rfl
end Go.Sx
