/- Counters: bytes, the lowest first, with a number added. Conditions: none; plain definitions and theorems. -/
import Derived.Test.YtioeoacjnbckhaaS8
set_option linter.unusedVariables false
namespace Go.Sx

/-- bytes, the lowest first, with n added -/
def addc : List (BitVec 8) → Nat → List (BitVec 8)
  | [], _ => []
  | b :: r, n => BitVec.ofNat 8 (b.toNat + n) :: addc r ((b.toNat + n) / 256)

theorem addc_length : ∀ (l : List (BitVec 8)) (n : Nat), (addc l n).length = l.length
  | [], _ => rfl
  | b :: r, n => by simp [addc, addc_length r]

theorem addc_zero : ∀ (l : List (BitVec 8)), addc l 0 = l
  | [] => rfl
  | b :: r => by
    have h := b.isLt
    have : (b.toNat + 0) / 256 = 0 := by omega
    simp only [addc, this, addc_zero r]
    simp

theorem addc_add : ∀ (l : List (BitVec 8)) (a b : Nat), addc (addc l a) b = addc l (a + b)
  | [], _, _ => rfl
  | x :: r, a, b => by
    simp only [addc, addc_add r]
    congr 1
    · apply BitVec.eq_of_toNat_eq
      simp only [BitVec.toNat_ofNat]
      omega
    · congr 1
      simp only [BitVec.toNat_ofNat]
      omega

/-- the counter's last eight bytes, n added -/
def cnt (c : List (BitVec 8)) (n : Nat) : List (BitVec 8) := pick c 0 8 ++ addc (pick c 8 8) n
theorem cnt_length (c : List (BitVec 8)) (n : Nat) : (cnt c n).length = 16 := by simp [cnt, pick_length, addc_length]
theorem pick_app_left (a b : List (BitVec 8)) (h : a.length = 8) : pick (a ++ b) 0 8 = a := by
  apply List.ext_getElem?
  intro i
  simp only [pick, Nat.zero_add, List.getElem?_map]
  rcases Nat.lt_or_ge i 8 with hi | hi
  · rw [List.getElem?_range hi]
    simp [List.getD, List.getElem?_append_left (show i < a.length by omega), show i < a.length by omega]
  · rw [List.getElem?_eq_none (by simpa using hi), List.getElem?_eq_none (by omega)]; rfl
theorem pick_app_right (a b : List (BitVec 8)) (h : a.length = 8) (hb : b.length = 8) : pick (a ++ b) 8 8 = b := by
  apply List.ext_getElem?
  intro i
  simp only [pick, List.getElem?_map]
  rcases Nat.lt_or_ge i 8 with hi | hi
  · rw [List.getElem?_range hi]
    simp [List.getD, h, show 8 + i - 8 = i by omega, show i < b.length by omega]
  · rw [List.getElem?_eq_none (by simpa using hi), List.getElem?_eq_none (by omega)]; rfl
theorem cnt_cnt (c : List (BitVec 8)) (a b : Nat) : cnt (cnt c a) b = cnt c (a + b) := by
  have h1 : pick (cnt c a) 0 8 = pick c 0 8 := pick_app_left _ _ (pick_length _ _ _)
  have h2 : pick (cnt c a) 8 8 = addc (pick c 8 8) a := pick_app_right _ _ (pick_length _ _ _) (by rw [addc_length, pick_length])
  show pick (cnt c a) 0 8 ++ addc (pick (cnt c a) 8 8) b = _
  rw [h1, h2, addc_add]; rfl
theorem cnt_zero (c : List (BitVec 8)) (h : c.length = 16) : cnt c 0 = c := by
  unfold cnt
  rw [addc_zero]
  apply List.ext_getElem?
  intro i
  rcases Nat.lt_or_ge i 8 with hi | hi
  · rw [List.getElem?_append_left (by rw [pick_length]; exact hi)]
    simp only [pick, Nat.zero_add, List.getElem?_map]
    rw [List.getElem?_range hi]
    simp [List.getD, show i < c.length by omega]
  · rw [List.getElem?_append_right (by rw [pick_length]; exact hi), pick_length]
    simp only [pick, List.getElem?_map]
    rcases Nat.lt_or_ge i 16 with h2 | h2
    · rw [List.getElem?_range (by omega)]
      simp [List.getD, show 8 + (i - 8) = i by omega, show i < c.length by omega]
    · rw [List.getElem?_eq_none (by simp; omega), List.getElem?_eq_none (by omega)]; rfl

/-- the spec's loop: the number that is carried, and the bytes -/
def cs (c : List (BitVec 8)) (n : Nat) : Nat → Nat × List (BitVec 8)
  | 0 => (n, c)
  | j + 1 => (((cs c n j).1 + ((cs c n j).2.getD (8 + j) 0).toNat) / 256, (cs c n j).2.set (8 + j) (BitVec.ofInt 8 (((cs c n j).1 + ((cs c n j).2.getD (8 + j) 0).toNat : Nat) : Int)))
theorem cs_length (c : List (BitVec 8)) (n : Nat) : ∀ j, (cs c n j).2.length = c.length
  | 0 => rfl
  | j + 1 => by simp [cs, cs_length c n j]
theorem cs_le (c : List (BitVec 8)) (n : Nat) : ∀ j, (cs c n j).1 ≤ n + 255
  | 0 => by simp [cs]
  | j + 1 => by
    have h := cs_le c n j
    have := ((cs c n j).2.getD (8 + j) 0).isLt
    simp only [cs]
    omega
theorem cs_cnt (c : List (BitVec 8)) (n : Nat) (h : c.length = 16) : (cs c n 8).2 = cnt c n := by
  match c, h with
  | [c0, c1, c2, c3, c4, c5, c6, c7, c8, c9, c10, c11, c12, c13, c14, c15], _ =>
    have e : ∀ m : Nat, BitVec.ofInt 8 (m : Int) = BitVec.ofNat 8 m := fun m => BitVec.ofInt_natCast 8 m
    simp only [cs, e]
    simp [cnt, pick, addc, List.range_succ, Nat.add_comm]
end Go.Sx
