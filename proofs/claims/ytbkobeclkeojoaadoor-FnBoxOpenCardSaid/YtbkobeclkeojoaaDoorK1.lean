/- Prime numbers: Fermat's little theorem, and a certificate of Pocklington's kind. Conditions: none; plain definitions and theorems, no program in sight. 2^255 - 19 is prime. Conditions: none; plain theorems, no program in sight. Points of an Edwards curve over a field: the sum of two points is complete, commutative and associative. Conditions: none; plain definitions and theorems, no program in sight. Points of an Edwards curve over a field: the sum lies on the curve; the sum is associative. Conditions: none; plain definitions and theorems, no program in sight. Points of an Edwards curve over a field: a commutative group, and multiples. Conditions: none; plain definitions and theorems, no program in sight. The Montgomery ladder and multiples of a point of an Edwards curve. Conditions: none; plain definitions and theorems, no program in sight. The Montgomery ladder, step by step: what it comes to is the first coordinate of a multiple of the point. Conditions: none; plain definitions and theorems, no program in sight. The ladder over a coordinate that is nought; two ladders one behind the other come to the same in either order. Conditions: none; plain definitions and theorems, no program in sight. Conditions: none. -/

set_option linter.unusedVariables false
namespace Go.Sx
def Pr (p : Nat) : Prop := 1 < p ∧ ∀ m, m ∣ p → m = 1 ∨ m = p

theorem Pr.coprime {p a : Nat} (hp : Pr p) (h : ¬ p ∣ a) : Nat.gcd p a = 1 := by
  rcases hp.2 _ (Nat.gcd_dvd_left p a) with e | e
  · exact e
  · exact absurd (e ▸ Nat.gcd_dvd_right p a) h
theorem Pr.dvd_mul {p a b : Nat} (hp : Pr p) (h : p ∣ a * b) : p ∣ a ∨ p ∣ b := by
  by_cases ha : p ∣ a
  · exact .inl ha
  · exact .inr (Nat.Coprime.dvd_of_dvd_mul_left (hp.coprime ha) h)

theorem bez (a b : Nat) : ∃ x y : Int, (a : Int) * x + b * y = (Nat.gcd a b : Nat) := by
  induction a, b using Nat.gcd.induction with
  | H0 n => exact ⟨0, 1, by simp⟩
  | H1 m n hm ih =>
    obtain ⟨x, y, h⟩ := ih
    refine ⟨y - (n / m : Nat) * x, x, ?_⟩
    rw [Nat.gcd_rec, ← h]
    have e : (n : Int) = (n % m : Nat) + (m : Int) * (n / m : Nat) := by
      have := Nat.mod_add_div n m
      rw [← Int.natCast_mul, ← Int.natCast_add, this]
    rw [e]
    generalize ((n % m : Nat) : Int) = u
    generalize ((n / m : Nat) : Int) = v
    rw [Int.add_mul, Int.mul_assoc, Int.mul_sub]
    omega
/-- an inverse, over natural numbers -/
theorem inv_nat {a r : Nat} (h : Nat.gcd a r = 1) (hr : 1 < r) : ∃ s, a * s % r = 1 := by
  obtain ⟨x, y, e⟩ := bez a r
  rw [h] at e
  have hr0 : (r : Int) ≠ 0 := by omega
  refine ⟨(x % r).toNat, ?_⟩
  have h0 : 0 ≤ x % (r : Int) := Int.emod_nonneg _ hr0
  have k : ((a * (x % (r : Int)).toNat % r : Nat) : Int) = 1 := by
    rw [Int.natCast_emod, Int.natCast_mul, Int.toNat_of_nonneg h0, Int.mul_emod, Int.emod_emod, ← Int.mul_emod]
    have : (a : Int) * x = 1 + r * (-y) := by rw [Int.mul_neg]; omega
    rw [this, Int.add_mul_emod_self_left]
    exact Int.emod_eq_of_lt (by decide) (by omega)
  exact Int.ofNat_inj.1 k

/-- a list's product -/
def lp : List Nat → Nat
  | [] => 1
  | x :: r => x * lp r
theorem lp_perm {l m : List Nat} (h : l.Perm m) : lp l = lp m := by
  induction h with
  | nil => rfl
  | cons x _ ih => simp only [lp, ih]
  | swap x y l => simp only [lp]; rw [Nat.mul_left_comm]
  | trans _ _ i j => exact i.trans j
theorem lp_map (a r : Nat) : ∀ l : List Nat, lp (l.map fun i => a * i % r) % r = a ^ l.length * lp l % r
  | [] => by simp [lp]
  | x :: t => by
    have ih := lp_map a r t
    simp only [List.map_cons, lp, List.length_cons]
    rw [Nat.mod_mul_mod, Nat.mul_mod, ih, ← Nat.mul_mod]
    congr 1
    rw [Nat.pow_succ]
    generalize a ^ t.length = p
    generalize lp t = q
    rw [Nat.mul_assoc, Nat.mul_assoc, Nat.mul_left_comm p, Nat.mul_left_comm x]
theorem Pr.not_lp {p : Nat} (hp : Pr p) : ∀ {l : List Nat}, (∀ x ∈ l, ¬ p ∣ x) → ¬ p ∣ lp l
  | [], _, h => by
    have := Nat.le_of_dvd (by decide) h
    have := hp.1
    simp only [lp] at *
    omega
  | x :: t, hx, h => by
    rcases hp.dvd_mul h with h1 | h1
    · exact hx x List.mem_cons_self h1
    · exact hp.not_lp (fun y hy => hx y (List.mem_cons_of_mem _ hy)) h1

theorem fermat {r a : Nat} (hr : Pr r) (ha : ¬ r ∣ a) : a ^ (r - 1) % r = 1 := by
  have r1 := hr.1
  have hc : Nat.gcd a r = 1 := by rw [Nat.gcd_comm]; exact hr.coprime ha
  obtain ⟨s, hs⟩ := inv_nat hc r1
  have hs' : ¬ r ∣ s := fun ⟨c, e⟩ => by
    rw [e, Nat.mul_left_comm, Nat.mul_mod_right] at hs; omega
  let L := List.range' 1 (r - 1)
  have mem : ∀ x, x ∈ L ↔ 1 ≤ x ∧ x < r := by
    intro x; simp only [L, List.mem_range'_1]; omega
  have nd : L.Nodup := List.nodup_range'
  have ndv : ∀ x, 1 ≤ x ∧ x < r → ¬ r ∣ x := fun x hx h => by
    have := Nat.le_of_dvd hx.1 h; omega
  have low : ∀ b, ¬ r ∣ b → ∀ x, x ∈ L → b * x % r ∈ L := by
    intro b hb x hx
    rw [mem] at hx ⊢
    refine ⟨?_, Nat.mod_lt _ (by omega)⟩
    rcases Nat.eq_zero_or_pos (b * x % r) with h | h
    · rcases hr.dvd_mul (Nat.dvd_of_mod_eq_zero h) with h | h
      · exact absurd h hb
      · exact absurd h (ndv x hx)
    · exact h
  have back : ∀ b c, b * c % r = 1 → ∀ x, x ∈ L → b * (c * x % r) % r = x := by
    intro b c hbc x hx
    rw [mem] at hx
    rw [Nat.mul_mod_mod, ← Nat.mul_assoc, Nat.mul_mod, hbc, Nat.one_mul, Nat.mod_mod, Nat.mod_eq_of_lt hx.2]
  have pm : (L.map fun i => a * i % r).Perm L := by
    refine (List.perm_ext_iff_of_nodup ?_ nd).2 (fun x => ?_)
    · refine List.pairwise_map.2 (List.Pairwise.imp_of_mem ?_ nd)
      intro x y hx hy hne e
      have := back s a (by rw [Nat.mul_comm]; exact hs)
      exact hne (by rw [← this x hx, ← this y hy, e])
    · rw [List.mem_map]
      constructor
      · rintro ⟨i, hi, rfl⟩; exact low a ha i hi
      · intro hx; exact ⟨s * x % r, low s hs' x hx, back a s hs x hx⟩
  have key := lp_map a r L
  rw [lp_perm pm] at key
  have len : L.length = r - 1 := List.length_range'
  rw [len] at key
  have hl : ¬ r ∣ lp L := hr.not_lp fun x hx => ndv x ((mem x).1 hx)
  generalize lp L = q at key hl
  have ap : ¬ r ∣ a ^ (r - 1) := by
    intro h
    have := (Nat.mod_eq_zero_of_dvd (Nat.dvd_mul_right_of_dvd h q))
    rw [this] at key
    exact hl (Nat.dvd_of_mod_eq_zero key)
  have ge : q ≤ a ^ (r - 1) * q := by
    have : 0 < a ^ (r - 1) := Nat.pos_of_ne_zero fun e => ap (e ▸ Nat.dvd_zero r)
    exact Nat.le_mul_of_pos_left q this
  have d : r ∣ a ^ (r - 1) * q - q := Nat.dvd_of_mod_eq_zero (Nat.sub_mod_eq_zero_of_mod_eq key.symm)
  have e2 : a ^ (r - 1) * q - q = (a ^ (r - 1) - 1) * q := by rw [Nat.sub_mul, Nat.one_mul]
  rw [e2] at d
  rcases hr.dvd_mul d with h | h
  · obtain ⟨c, hc⟩ := h
    have : 0 < a ^ (r - 1) := Nat.pos_of_ne_zero fun e => ap (e ▸ Nat.dvd_zero r)
    have e3 : a ^ (r - 1) = 1 + r * c := by omega
    rw [e3, Nat.add_mul_mod_self_left, Nat.mod_eq_of_lt r1]
  · exact absurd h hl

/-- every number above 1 has a prime factor -/
theorem ex_prime : ∀ n : Nat, 1 < n → ∃ r, Pr r ∧ r ∣ n := by
  intro n
  induction n using Nat.strongRecOn with
  | _ n ih =>
    intro hn
    by_cases h : ∀ m, m ∣ n → m = 1 ∨ m = n
    · exact ⟨n, ⟨hn, h⟩, Nat.dvd_refl n⟩
    · have ⟨m, hm⟩ := Classical.not_forall.1 h
      have ⟨h1, h2⟩ := Classical.not_imp.1 hm
      have h3 := not_or.1 h2
      have hle := Nat.le_of_dvd (by omega) h1
      have h0 : m ≠ 0 := fun e => by subst e; have := Nat.eq_zero_of_zero_dvd h1; omega
      obtain ⟨r, hr, hd⟩ := ih m (by omega) (by omega)
      exact ⟨r, hr, Nat.dvd_trans hd h1⟩
theorem prime_of {n : Nat} (hn : 1 < n) (h : ∀ r, Pr r → r ∣ n → n < r * r) : Pr n := by
  refine ⟨hn, fun m hm => ?_⟩
  obtain ⟨k, hk⟩ := hm
  by_cases h1 : m = 1
  · exact .inl h1
  · by_cases h2 : k = 1
    · exact .inr (by rw [hk, h2, Nat.mul_one])
    · exfalso
      have m0 : m ≠ 0 := fun e => by subst e; omega
      have k0 : k ≠ 0 := fun e => by subst e; omega
      rcases Nat.le_total m k with hl | hl
      · obtain ⟨r, hr, hd⟩ := ex_prime m (by omega)
        have := h r hr (hk ▸ Nat.dvd_mul_right_of_dvd hd k)
        have hrm := Nat.le_of_dvd (by omega) hd
        have := Nat.mul_le_mul hrm (Nat.le_trans hrm hl)
        omega
      · obtain ⟨r, hr, hd⟩ := ex_prime k (by omega)
        have := h r hr (hk ▸ Nat.dvd_mul_left_of_dvd hd m)
        have hrk := Nat.le_of_dvd (by omega) hd
        have := Nat.mul_le_mul (Nat.le_trans hrk hl) hrk
        omega
/-- trial division -/
theorem prime_small {n k : Nat} (hn : 1 < n) (hk : n < (k + 2) * (k + 2)) (h : (List.range k).all (fun i => n % (i + 2) != 0) = true) : Pr n := by
  refine prime_of hn fun r hr hd => ?_
  have r1 := hr.1
  rcases Nat.lt_or_ge r (k + 2) with hlt | hge
  · have := List.all_eq_true.1 h (r - 2) (List.mem_range.2 (by omega))
    rw [show r - 2 + 2 = r by omega, Nat.mod_eq_zero_of_dvd hd] at this
    exact absurd this (by decide)
  · exact Nat.lt_of_lt_of_le hk (Nat.mul_le_mul hge hge)

/-- the power, reduced, reckoned by halves -/
def pm (n : Nat) : Nat → Nat → Nat → Nat
  | 0, _, _ => 1 % n
  | k + 1, a, e => if e % 2 = 1 then a * pm n k (a * a % n) (e / 2) % n else pm n k (a * a % n) (e / 2)
theorem pm_eq (n : Nat) : ∀ (k a e : Nat), e < 2 ^ k → pm n k a e = a ^ e % n
  | 0, a, e, h => by
    have : e = 0 := by simpa using h
    subst this; simp [pm]
  | k + 1, a, e, h => by
    have ih := pm_eq n k (a * a % n) (e / 2) (by rw [Nat.pow_succ] at h; omega)
    have e1 : (a * a % n) ^ (e / 2) % n = a ^ (2 * (e / 2)) % n := by
      rw [← Nat.pow_mod, Nat.pow_mul, Nat.pow_two]
    unfold pm
    rw [ih, e1]
    by_cases ho : e % 2 = 1
    · rw [if_pos ho, Nat.mul_mod_mod]
      congr 1
      conv => rhs; rw [show e = 2 * (e / 2) + 1 by omega, Nat.pow_succ, Nat.mul_comm]
    · rw [if_neg ho]
      congr 2
      omega

/-- a prime factor r of n: q divides r - 1 -/
theorem cert1 {n q a m : Nat} (hq : Pr q) (hn : 1 < n) (hm : n - 1 = m * q) (h1 : a ^ (n - 1) % n = 1) (h2 : Nat.gcd (a ^ m % n + (n - 1)) n = 1) {r : Nat} (hr : Pr r) (hd : r ∣ n) : q ∣ r - 1 := by
  have r1 := hr.1
  have q1 := hq.1
  have modr : ∀ x y : Nat, x % n = y % n → x % r = y % r := fun x y h => by
    rw [← Nat.mod_mod_of_dvd x hd, ← Nat.mod_mod_of_dvd y hd, h]
  have one : a ^ (n - 1) % r = 1 := by
    have := modr (a ^ (n - 1)) 1 (by rw [h1, Nat.mod_eq_of_lt hn])
    rw [this, Nat.mod_eq_of_lt r1]
  have ra : ¬ r ∣ a := fun h => by
    have : a ^ (n - 1) % r = 0 := Nat.mod_eq_zero_of_dvd (Nat.dvd_trans h (by
      rw [show n - 1 = n - 2 + 1 by omega, Nat.pow_succ]; exact Nat.dvd_mul_left _ _))
    omega
  have fe := fermat hr ra
  apply Classical.byContradiction
  intro hno
  have hex : ∃ s t, q * s = 1 + (r - 1) * t := by
    by_cases h : r - 1 = 1
    · exact ⟨1, q - 1, by rw [h]; omega⟩
    · obtain ⟨s, hs⟩ := inv_nat (hq.coprime hno) (by omega : 1 < r - 1)
      refine ⟨s, q * s / (r - 1), ?_⟩
      have := Nat.mod_add_div (q * s) (r - 1)
      rw [hs] at this
      exact this.symm
  obtain ⟨s, t, hst⟩ := hex
  have e1 : a ^ (m * q * s) % r = 1 := by
    rw [Nat.pow_mul, ← hm, Nat.pow_mod, one, Nat.one_pow, Nat.mod_eq_of_lt r1]
  have e2 : a ^ (m * q * s) % r = a ^ m % r := by
    rw [Nat.mul_assoc, hst, Nat.mul_add, Nat.mul_one, Nat.pow_add, Nat.mul_left_comm, Nat.pow_mul, Nat.mul_mod, Nat.pow_mod (a ^ (r - 1)), fe, Nat.one_pow, Nat.mod_eq_of_lt r1, Nat.mul_one, Nat.mod_mod]
  have e3 : a ^ m % r = 1 := e2.symm.trans e1
  have d1 : r ∣ a ^ m % n + (n - 1) := by
    apply Nat.dvd_of_mod_eq_zero
    rw [Nat.add_mod, Nat.mod_mod_of_dvd _ hd, e3]
    obtain ⟨c, hc⟩ := hd
    have c0 : c ≠ 0 := fun e => by subst e; omega
    have : n - 1 = (r - 1) + r * (c - 1) := by
      rw [hc, Nat.mul_sub, Nat.mul_one]
      have : r ≤ r * c := Nat.le_mul_of_pos_right r (by omega)
      omega
    rw [this, Nat.add_mul_mod_self_left, Nat.mod_eq_of_lt (by omega : r - 1 < r), show 1 + (r - 1) = r by omega, Nat.mod_self]
  have := Nat.dvd_gcd d1 hd
  rw [h2] at this
  have := Nat.le_of_dvd (by decide) this
  omega
/-- a certificate: one prime factor of n - 1 above the root -/
theorem cert_one {n q a m k : Nat} (hq : Pr q) (hn : 1 < n) (hm : n - 1 = m * q) (hk : n - 1 < 2 ^ k) (h1 : pm n k a (n - 1) = 1) (h2 : Nat.gcd (pm n k a m + (n - 1)) n = 1) (hs : n < (q + 1) * (q + 1)) : Pr n := by
  have q1 := hq.1
  have hmk : m < 2 ^ k := Nat.lt_of_le_of_lt (by rw [hm]; exact Nat.le_mul_of_pos_right m (by omega)) hk
  rw [pm_eq n k a _ hk] at h1
  rw [pm_eq n k a _ hmk] at h2
  refine prime_of hn fun r hr hd => ?_
  have := Nat.le_of_dvd (by have := hr.1; omega) (cert1 hq hn hm h1 h2 hr hd)
  have r1 := hr.1
  exact Nat.lt_of_lt_of_le hs (Nat.mul_le_mul (by omega) (by omega))
/-- a certificate: two prime factors of n - 1 -/
theorem cert_two {n q q' a a' m m' k : Nat} (hq : Pr q) (hq' : Pr q') (hne : q ≠ q') (hn : 1 < n) (hm : n - 1 = m * q) (hm' : n - 1 = m' * q') (hk : n - 1 < 2 ^ k) (h1 : pm n k a (n - 1) = 1) (h2 : Nat.gcd (pm n k a m + (n - 1)) n = 1)
    (h1' : pm n k a' (n - 1) = 1) (h2' : Nat.gcd (pm n k a' m' + (n - 1)) n = 1) (hs : n < (q * q' + 1) * (q * q' + 1)) : Pr n := by
  have q1 := hq.1
  have q1' := hq'.1
  have hmk : m < 2 ^ k := Nat.lt_of_le_of_lt (by rw [hm]; exact Nat.le_mul_of_pos_right m (by omega)) hk
  have hmk' : m' < 2 ^ k := Nat.lt_of_le_of_lt (by rw [hm']; exact Nat.le_mul_of_pos_right m' (by omega)) hk
  rw [pm_eq n k a _ hk] at h1
  rw [pm_eq n k a _ hmk] at h2
  rw [pm_eq n k a' _ hk] at h1'
  rw [pm_eq n k a' _ hmk'] at h2'
  refine prime_of hn fun r hr hd => ?_
  have d1 := cert1 hq hn hm h1 h2 hr hd
  have d2 := cert1 hq' hn hm' h1' h2' hr hd
  have cp : Nat.Coprime q q' := hq.coprime fun h => by
    rcases hq'.2 q h with e | e
    · omega
    · exact hne e
  have r1 := hr.1
  have := Nat.le_of_dvd (by omega) (Nat.Coprime.mul_dvd_of_dvd_of_dvd cp d1 d2)
  exact Nat.lt_of_lt_of_le hs (Nat.mul_le_mul (by omega) (by omega))
end Go.Sx

set_option linter.unusedVariables false
namespace Go.Sx
theorem pr0 : Pr 127 := prime_small (k := 11) (by decide) (by decide) (by decide +kernel)
theorem pr1 : Pr 4153 := prime_small (k := 64) (by decide) (by decide) (by decide +kernel)
theorem pr2 : Pr 430751 := prime_small (k := 656) (by decide) (by decide) (by decide +kernel)
theorem pr3 : Pr 569003 := prime_small (k := 754) (by decide) (by decide) (by decide +kernel)
theorem pr4 : Pr 8574133 := prime_small (k := 2928) (by decide) (by decide) (by decide +kernel)
theorem pr5 : Pr 2773320623 :=
  cert_one (q := 569003) (a := 2) (m := 4874) (k := 32) pr3 (by decide) (by decide) (by decide) (by decide +kernel) (by decide +kernel) (by decide)
theorem pr6 : Pr 72106336199 :=
  cert_one (q := 2773320623) (a := 2) (m := 26) (k := 37) pr5 (by decide) (by decide) (by decide) (by decide +kernel) (by decide +kernel) (by decide)
theorem pr7 : Pr 1919519569386763 :=
  cert_two (q := 8574133) (q' := 127) (a := 2) (a' := 2) (m := 223873314) (m' := 15114327318006) (k := 51) pr4 pr0 (by decide) (by decide) (by decide) (by decide) (by decide) (by decide +kernel) (by decide +kernel) (by decide +kernel) (by decide +kernel) (by decide)
theorem pr8 : Pr 31757755568855353 :=
  cert_two (q := 430751) (q' := 4153) (a := 2) (a' := 2) (m := 73726481352) (m' := 7646943310584) (k := 55) pr2 pr1 (by decide) (by decide) (by decide) (by decide) (by decide) (by decide +kernel) (by decide +kernel) (by decide +kernel) (by decide +kernel) (by decide)
theorem pr9 : Pr 75445702479781427272750846543864801 :=
  cert_two (q := 1919519569386763) (q' := 72106336199) (a := 2) (a' := 2) (m := 39304471641247389600) (m' := 1046311689884858398375200) (k := 116) pr7 pr6 (by decide) (by decide) (by decide) (by decide) (by decide) (by decide +kernel) (by decide +kernel) (by decide +kernel) (by decide +kernel) (by decide)
theorem pr10 : Pr 74058212732561358302231226437062788676166966415465897661863160754340907 :=
  cert_two (q := 75445702479781427272750846543864801) (q' := 31757755568855353) (a := 2) (a' := 2) (m := 981609426360740691344999861639072106) (m' := 2331972502653487852620185443007392165117953542933313402) (k := 236) pr9 pr8 (by decide) (by decide) (by decide) (by decide) (by decide) (by decide +kernel) (by decide +kernel) (by decide +kernel) (by decide +kernel) (by decide)
theorem pr11 : Pr 57896044618658097711785492504343953926634992332820282019728792003956564819949 :=
  cert_one (q := 74058212732561358302231226437062788676166966415465897661863160754340907) (a := 2) (m := 781764) (k := 255) pr10 (by decide) (by decide) (by decide) (by decide +kernel) (by decide +kernel) (by decide)
theorem pr_P : Pr 57896044618658097711785492504343953926634992332820282019728792003956564819949 := pr11
end Go.Sx

set_option linter.unusedVariables false
namespace Go.Sx
structure Pt (n : Nat) where
  x : Fin n
  y : Fin n
theorem Pt.ext' {n : Nat} {P Q : Pt n} (h1 : P.x = Q.x) (h2 : P.y = Q.y) : P = Q := by
  cases P; cases Q; cases h1; cases h2; rfl
section
variable {n : Nat} [NeZero n] {d : Fin n}
structure Fld (d : Fin n) : Prop where
  dom : ∀ a b : Fin n, a * b = 0 → a = 0 ∨ b = 0
  inv : ∀ a : Fin n, a ≠ 0 → ∃ b, a * b = 1
  two : ∀ a : Fin n, a + a = 0 → a = 0
  one : (1 : Fin n) ≠ 0
  nsq : ∀ s : Fin n, s * s ≠ d

/-- on the curve -/
def On (d x y : Fin n) : Prop := x * x + y * y = 1 + d * (x * x) * (y * y)

theorem Fld.ne (F : Fld d) {a b : Fin n} (ha : a ≠ 0) (hb : b ≠ 0) : a * b ≠ 0 := fun h => by
  rcases F.dom a b h with h | h
  · exact ha h
  · exact hb h
theorem Fld.no_root (F : Fld d) {a b : Fin n} (hb : b ≠ 0) : a * a ≠ d * (b * b) := fun h => by
  obtain ⟨c, hc⟩ := F.inv b hb
  refine F.nsq (a * c) ?_
  have : a * c * (a * c) = (a * a) * (c * c) := by grind
  rw [this, h]
  have : d * (b * b) * (c * c) = d * ((b * c) * (b * c)) := by grind
  rw [this, hc]; grind
theorem Fld.cancel (F : Fld d) {a b N1 N2 D1 D2 : Fin n} (h1 : a * D1 = N1) (h2 : b * D2 = N2) (h : N1 * D2 = N2 * D1) (n1 : D1 ≠ 0) (n2 : D2 ≠ 0) : a = b := by
  have e : (a - b) * (D1 * D2) = 0 := by
    have : (a - b) * (D1 * D2) = (a * D1) * D2 - (b * D2) * D1 := by grind
    rw [this, h1, h2, h]; grind
  rcases F.dom _ _ e with h | h
  · have : a = (a - b) + b := by grind
    rw [this, h]; grind
  · exact absurd h (F.ne n1 n2)
theorem cpl0 (F : Fld d) {x1 y1 x2 y2 e : Fin n} (h1 : On d x1 y1) (h2 : On d x2 y2) (he : e * e = 1) : d * (x1 * x2 * (y1 * y2)) ≠ e := fun h => by
  unfold On at h1 h2
  have e0 : e ≠ 0 := fun h0 => by
    rw [h0] at he
    exact F.one (he.symm.trans (by grind))
  have hx : x1 * x2 * (y1 * y2) ≠ 0 := fun h0 => by rw [h0] at h; exact e0 (h.symm.trans (by grind))
  have xy : x1 * y1 ≠ 0 := fun h0 => hx (by
    have : x1 * x2 * (y1 * y2) = (x1 * y1) * (x2 * y2) := by grind
    rw [this, h0]; grind)
  have base : d * (x1 * y1) * (x1 * y1) * (x2 * x2 + y2 * y2) = x1 * x1 + y1 * y1 := by
    have : d * (x1 * y1) * (x1 * y1) * (x2 * x2 + y2 * y2) = d * (x1 * y1) * (x1 * y1) + (d * (x1 * x2 * (y1 * y2))) * (d * (x1 * x2 * (y1 * y2))) := by rw [h2]; grind
    rw [this, h, he]
    grind
  have p1 : (x1 + e * y1) * (x1 + e * y1) = d * ((x1 * y1 * (x2 + y2)) * (x1 * y1 * (x2 + y2))) := by
    have a1 : (x1 + e * y1) * (x1 + e * y1) = x1 * x1 + (e * e) * (y1 * y1) + 2 * e * (x1 * y1) := by grind
    have a2 : d * ((x1 * y1 * (x2 + y2)) * (x1 * y1 * (x2 + y2))) = d * (x1 * y1) * (x1 * y1) * (x2 * x2 + y2 * y2) + 2 * (d * (x1 * x2 * (y1 * y2))) * (x1 * y1) := by grind
    rw [a1, a2, base, h, he]; grind
  have p2 : (x1 - e * y1) * (x1 - e * y1) = d * ((x1 * y1 * (x2 - y2)) * (x1 * y1 * (x2 - y2))) := by
    have a1 : (x1 - e * y1) * (x1 - e * y1) = x1 * x1 + (e * e) * (y1 * y1) - 2 * e * (x1 * y1) := by grind
    have a2 : d * ((x1 * y1 * (x2 - y2)) * (x1 * y1 * (x2 - y2))) = d * (x1 * y1) * (x1 * y1) * (x2 * x2 + y2 * y2) - 2 * (d * (x1 * x2 * (y1 * y2))) * (x1 * y1) := by grind
    rw [a1, a2, base, h, he]; grind
  by_cases s1 : x2 + y2 = 0
  · by_cases s2 : x2 - y2 = 0
    · have : x2 = 0 := F.two x2 (by
        have : x2 + x2 = (x2 + y2) + (x2 - y2) := by grind
        rw [this, s1, s2]; grind)
      exact hx (by rw [this]; grind)
    · exact F.no_root (F.ne xy s2) p2
  · exact F.no_root (F.ne xy s1) p1
theorem cpl_p (F : Fld d) {x1 y1 x2 y2 : Fin n} (h1 : On d x1 y1) (h2 : On d x2 y2) : 1 + d * (x1 * x2 * (y1 * y2)) ≠ 0 := fun h =>
  cpl0 F h1 h2 (e := -1) (by grind) (by grind)
theorem cpl_m (F : Fld d) {x1 y1 x2 y2 : Fin n} (h1 : On d x1 y1) (h2 : On d x2 y2) : 1 - d * (x1 * x2 * (y1 * y2)) ≠ 0 := fun h =>
  cpl0 F h1 h2 (e := 1) (by grind) (by grind)

open Classical in
noncomputable def iv (a : Fin n) : Fin n := if h : ∃ b, a * b = 1 then Classical.choose h else 0
theorem Fld.iv (F : Fld d) {a : Fin n} (h : a ≠ 0) : a * iv a = 1 := by
  have := F.inv a h
  unfold Go.Sx.iv
  rw [dif_pos this]
  exact Classical.choose_spec this

def Pt.On (d : Fin n) (P : Pt n) : Prop := Go.Sx.On d P.x P.y
/-- the sum -/
noncomputable def pa (d : Fin n) (P Q : Pt n) : Pt n := ⟨(P.x * Q.y + P.y * Q.x) * iv (1 + d * (P.x * Q.x * (P.y * Q.y))), (P.y * Q.y - P.x * Q.x) * iv (1 - d * (P.x * Q.x * (P.y * Q.y)))⟩
theorem pa_x (F : Fld d) {P Q : Pt n} (hP : P.On d) (hQ : Q.On d) : (pa d P Q).x * (1 + d * (P.x * Q.x * (P.y * Q.y))) = P.x * Q.y + P.y * Q.x := by
  have := F.iv (cpl_p F hP hQ)
  show (P.x * Q.y + P.y * Q.x) * Go.Sx.iv (1 + d * (P.x * Q.x * (P.y * Q.y))) * (1 + d * (P.x * Q.x * (P.y * Q.y))) = _
  generalize Go.Sx.iv (1 + d * (P.x * Q.x * (P.y * Q.y))) = i at *
  generalize (1 + d * (P.x * Q.x * (P.y * Q.y))) = D at *
  generalize P.x * Q.y + P.y * Q.x = N at *
  have e : N * i * D = N * (D * i) := by grind
  rw [e, this]; grind
theorem pa_y (F : Fld d) {P Q : Pt n} (hP : P.On d) (hQ : Q.On d) : (pa d P Q).y * (1 - d * (P.x * Q.x * (P.y * Q.y))) = P.y * Q.y - P.x * Q.x := by
  have := F.iv (cpl_m F hP hQ)
  show (P.y * Q.y - P.x * Q.x) * Go.Sx.iv (1 - d * (P.x * Q.x * (P.y * Q.y))) * (1 - d * (P.x * Q.x * (P.y * Q.y))) = _
  generalize Go.Sx.iv (1 - d * (P.x * Q.x * (P.y * Q.y))) = i at *
  generalize (1 - d * (P.x * Q.x * (P.y * Q.y))) = D at *
  generalize P.y * Q.y - P.x * Q.x = N at *
  have e : N * i * D = N * (D * i) := by grind
  rw [e, this]; grind
theorem pa_comm (d : Fin n) (P Q : Pt n) : pa d P Q = pa d Q P := by
  have e1 : P.x * Q.y + P.y * Q.x = Q.x * P.y + Q.y * P.x := by grind
  have e2 : P.x * Q.x * (P.y * Q.y) = Q.x * P.x * (Q.y * P.y) := by grind
  have e3 : P.y * Q.y - P.x * Q.x = Q.y * P.y - Q.x * P.x := by grind
  unfold pa
  rw [e1, e2, e3]
end
end Go.Sx

set_option linter.unusedVariables false
set_option maxRecDepth 100000
namespace Go.Sx
section
variable {n : Nat} [NeZero n] {d : Fin n}
theorem on_id {x1 y1 x2 y2 : Fin n} (h1 : On d x1 y1) (h2 : On d x2 y2) :
    (x1 * y2 + y1 * x2) * (1 - d * (x1 * x2 * (y1 * y2))) * ((x1 * y2 + y1 * x2) * (1 - d * (x1 * x2 * (y1 * y2)))) + (y1 * y2 - x1 * x2) * (1 + d * (x1 * x2 * (y1 * y2))) * ((y1 * y2 - x1 * x2) * (1 + d * (x1 * x2 * (y1 * y2)))) = (1 + d * (x1 * x2 * (y1 * y2))) * (1 - d * (x1 * x2 * (y1 * y2))) * ((1 + d * (x1 * x2 * (y1 * y2))) * (1 - d * (x1 * x2 * (y1 * y2)))) + d * ((x1 * y2 + y1 * x2) * (y1 * y2 - x1 * x2)) * ((x1 * y2 + y1 * x2) * (y1 * y2 - x1 * x2)) := by
  have z1 : (x1 * x1 + y1 * y1 - 1 - d * (x1 * x1) * (y1 * y1)) = 0 := by unfold On at h1; rw [h1]; grind
  have z2 : (x2 * x2 + y2 * y2 - 1 - d * (x2 * x2) * (y2 * y2)) = 0 := by unfold On at h2; rw [h2]; grind
  have e : (x1 * y2 + y1 * x2) * (1 - d * (x1 * x2 * (y1 * y2))) * ((x1 * y2 + y1 * x2) * (1 - d * (x1 * x2 * (y1 * y2)))) + (y1 * y2 - x1 * x2) * (1 + d * (x1 * x2 * (y1 * y2))) * ((y1 * y2 - x1 * x2) * (1 + d * (x1 * x2 * (y1 * y2)))) - ((1 + d * (x1 * x2 * (y1 * y2))) * (1 - d * (x1 * x2 * (y1 * y2))) * ((1 + d * (x1 * x2 * (y1 * y2))) * (1 - d * (x1 * x2 * (y1 * y2)))) + d * ((x1 * y2 + y1 * x2) * (y1 * y2 - x1 * x2)) * ((x1 * y2 + y1 * x2) * (y1 * y2 - x1 * x2))) = (x1 * x1 * y1 * y1 * x2 * x2 * x2 * x2 * y2 * y2 * y2 * y2 * d * d * d + x1 * x1 * x2 * x2 * x2 * x2 * y2 * y2 * y2 * y2 * d * d - x1 * x1 * x2 * x2 * x2 * x2 * y2 * y2 * d - x1 * x1 * x2 * x2 * y2 * y2 * y2 * y2 * d + y1 * y1 * x2 * x2 * x2 * x2 * y2 * y2 * y2 * y2 * d * d - y1 * y1 * x2 * x2 * x2 * x2 * y2 * y2 * d - y1 * y1 * x2 * x2 * y2 * y2 * y2 * y2 * d - x2 * x2 * x2 * x2 * y2 * y2 * y2 * y2 * d * d + 2 * x2 * x2 * x2 * x2 * y2 * y2 * y2 * y2 * d - 2 * x2 * x2 * x2 * x2 * y2 * y2 + x2 * x2 * x2 * x2 - 2 * x2 * x2 * y2 * y2 * y2 * y2 - 2 * x2 * x2 * y2 * y2 * d + 4 * x2 * x2 * y2 * y2 + y2 * y2 * y2 * y2) * (x1 * x1 + y1 * y1 - 1 - d * (x1 * x1) * (y1 * y1)) + (x1 * x1 * x1 * x1 * x2 * x2 * y2 * y2 * d - 2 * x1 * x1 * x2 * x2 * y2 * y2 * d + 2 * x1 * x1 * x2 * x2 * y2 * y2 - x1 * x1 * x2 * x2 - x1 * x1 * y2 * y2 + y1 * y1 * y1 * y1 * x2 * x2 * y2 * y2 * d - 2 * y1 * y1 * x2 * x2 * y2 * y2 * d + 2 * y1 * y1 * x2 * x2 * y2 * y2 - y1 * y1 * x2 * x2 - y1 * y1 * y2 * y2 + x2 * x2 * y2 * y2 * d - 2 * x2 * x2 * y2 * y2 + x2 * x2 + y2 * y2 + 1) * (x2 * x2 + y2 * y2 - 1 - d * (x2 * x2) * (y2 * y2)) := by grind
  rw [z1, z2] at e
  generalize (x1 * y2 + y1 * x2) * (1 - d * (x1 * x2 * (y1 * y2))) * ((x1 * y2 + y1 * x2) * (1 - d * (x1 * x2 * (y1 * y2)))) + (y1 * y2 - x1 * x2) * (1 + d * (x1 * x2 * (y1 * y2))) * ((y1 * y2 - x1 * x2) * (1 + d * (x1 * x2 * (y1 * y2)))) = a at *
  generalize (1 + d * (x1 * x2 * (y1 * y2))) * (1 - d * (x1 * x2 * (y1 * y2))) * ((1 + d * (x1 * x2 * (y1 * y2))) * (1 - d * (x1 * x2 * (y1 * y2)))) + d * ((x1 * y2 + y1 * x2) * (y1 * y2 - x1 * x2)) * ((x1 * y2 + y1 * x2) * (y1 * y2 - x1 * x2)) = b at *
  have : a = (a - b) + b := by grind
  rw [this, e]; grind
theorem assoc_x {x1 y1 x2 y2 x3 y3 : Fin n} (h1 : On d x1 y1) (h2 : On d x2 y2) (h3 : On d x3 y3) :
    ((x1 * y2 + y1 * x2) * (1 - d * (x1 * x2 * (y1 * y2))) * y3 + (y1 * y2 - x1 * x2) * (1 + d * (x1 * x2 * (y1 * y2))) * x3) * ((1 + d * (x2 * x3 * (y2 * y3))) * (1 - d * (x2 * x3 * (y2 * y3))) + d * (x1 * (x2 * y3 + y2 * x3) * (y1 * (y2 * y3 - x2 * x3)))) = (x1 * ((y2 * y3 - x2 * x3) * (1 + d * (x2 * x3 * (y2 * y3)))) + y1 * ((x2 * y3 + y2 * x3) * (1 - d * (x2 * x3 * (y2 * y3))))) * ((1 + d * (x1 * x2 * (y1 * y2))) * (1 - d * (x1 * x2 * (y1 * y2))) + d * ((x1 * y2 + y1 * x2) * x3 * ((y1 * y2 - x1 * x2) * y3))) := by
  have z1 : (x1 * x1 + y1 * y1 - 1 - d * (x1 * x1) * (y1 * y1)) = 0 := by unfold On at h1; rw [h1]; grind
  have z2 : (x2 * x2 + y2 * y2 - 1 - d * (x2 * x2) * (y2 * y2)) = 0 := by unfold On at h2; rw [h2]; grind
  have z3 : (x3 * x3 + y3 * y3 - 1 - d * (x3 * x3) * (y3 * y3)) = 0 := by unfold On at h3; rw [h3]; grind
  have e : ((x1 * y2 + y1 * x2) * (1 - d * (x1 * x2 * (y1 * y2))) * y3 + (y1 * y2 - x1 * x2) * (1 + d * (x1 * x2 * (y1 * y2))) * x3) * ((1 + d * (x2 * x3 * (y2 * y3))) * (1 - d * (x2 * x3 * (y2 * y3))) + d * (x1 * (x2 * y3 + y2 * x3) * (y1 * (y2 * y3 - x2 * x3)))) - ((x1 * ((y2 * y3 - x2 * x3) * (1 + d * (x2 * x3 * (y2 * y3)))) + y1 * ((x2 * y3 + y2 * x3) * (1 - d * (x2 * x3 * (y2 * y3))))) * ((1 + d * (x1 * x2 * (y1 * y2))) * (1 - d * (x1 * x2 * (y1 * y2))) + d * ((x1 * y2 + y1 * x2) * x3 * ((y1 * y2 - x1 * x2) * y3)))) = (x1 * x2 * x2 * x2 * x2 * y2 * y2 * y2 * x3 * x3 * y3 * d * d - x1 * x2 * x2 * x2 * x2 * y2 * x3 * x3 * y3 * d - x1 * x2 * x2 * x2 * y2 * y2 * y2 * y2 * x3 * y3 * y3 * d * d - x1 * x2 * x2 * x2 * y2 * y2 * x3 * x3 * x3 * d + x1 * x2 * x2 * x2 * y2 * y2 * x3 * d + x1 * x2 * x2 * y2 * y2 * y2 * y3 * y3 * y3 * d - x1 * x2 * x2 * y2 * y2 * y2 * y3 * d + x1 * x2 * y2 * y2 * y2 * y2 * x3 * y3 * y3 * d + y1 * x2 * x2 * x2 * x2 * y2 * y2 * y2 * x3 * y3 * y3 * d * d - y1 * x2 * x2 * x2 * x2 * y2 * x3 * y3 * y3 * d + y1 * x2 * x2 * x2 * y2 * y2 * y2 * y2 * x3 * x3 * y3 * d * d + y1 * x2 * x2 * x2 * y2 * y2 * y3 * y3 * y3 * d - y1 * x2 * x2 * x2 * y2 * y2 * y3 * d + y1 * x2 * x2 * y2 * y2 * y2 * x3 * x3 * x3 * d - y1 * x2 * x2 * y2 * y2 * y2 * x3 * d - y1 * x2 * y2 * y2 * y2 * y2 * x3 * x3 * y3 * d) * (x1 * x1 + y1 * y1 - 1 - d * (x1 * x1) * (y1 * y1)) + (x1 * x1 * x1 * x2 * x2 * y2 * x3 * x3 * y3 * d - x1 * x1 * x1 * x2 * y2 * y2 * x3 * y3 * y3 * d + x1 * x1 * x1 * x2 * x3 * x3 * x3 * y3 * y3 * d - x1 * x1 * x1 * x2 * x3 * x3 * x3 - x1 * x1 * x1 * x2 * x3 * y3 * y3 + x1 * x1 * x1 * x2 * x3 - x1 * x1 * x1 * y2 * x3 * x3 * y3 * y3 * y3 * d + x1 * x1 * x1 * y2 * x3 * x3 * y3 + x1 * x1 * x1 * y2 * y3 * y3 * y3 - x1 * x1 * x1 * y2 * y3 - x1 * x1 * y1 * x2 * x2 * y2 * x3 * x3 * x3 * y3 * y3 * d * d + x1 * x1 * y1 * x2 * x2 * y2 * x3 * y3 * y3 * d - x1 * x1 * y1 * x2 * y2 * y2 * x3 * x3 * y3 * y3 * y3 * d * d + x1 * x1 * y1 * x2 * y2 * y2 * x3 * x3 * y3 * d - x1 * x1 * y1 * x2 * x3 * x3 * y3 * y3 * y3 * d + x1 * x1 * y1 * x2 * x3 * x3 * y3 + x1 * x1 * y1 * x2 * y3 * y3 * y3 - x1 * x1 * y1 * x2 * y3 - x1 * x1 * y1 * y2 * x3 * x3 * x3 * y3 * y3 * d + x1 * x1 * y1 * y2 * x3 * x3 * x3 + x1 * x1 * y1 * y2 * x3 * y3 * y3 - x1 * x1 * y1 * y2 * x3 - x1 * y1 * y1 * x2 * x2 * y2 * x3 * x3 * y3 * y3 * y3 * d * d + x1 * y1 * y1 * x2 * x2 * y2 * x3 * x3 * y3 * d + x1 * y1 * y1 * x2 * y2 * y2 * x3 * x3 * x3 * y3 * y3 * d * d - x1 * y1 * y1 * x2 * y2 * y2 * x3 * y3 * y3 * d + x1 * y1 * y1 * x2 * x3 * x3 * x3 * y3 * y3 * d - x1 * y1 * y1 * x2 * x3 * x3 * x3 - x1 * y1 * y1 * x2 * x3 * y3 * y3 + x1 * y1 * y1 * x2 * x3 - x1 * y1 * y1 * y2 * x3 * x3 * y3 * y3 * y3 * d + x1 * y1 * y1 * y2 * x3 * x3 * y3 + x1 * y1 * y1 * y2 * y3 * y3 * y3 - x1 * y1 * y1 * y2 * y3 - x1 * x2 * x2 * y2 * x3 * x3 * y3 * d + x1 * x2 * y2 * y2 * x3 * y3 * y3 * d - x1 * x2 * x3 * x3 * x3 * y3 * y3 * d + x1 * x2 * x3 * x3 * x3 + x1 * x2 * x3 * y3 * y3 - x1 * x2 * x3 + x1 * y2 * x3 * x3 * y3 * y3 * y3 * d - x1 * y2 * x3 * x3 * y3 - x1 * y2 * y3 * y3 * y3 + x1 * y2 * y3 + y1 * y1 * y1 * x2 * x2 * y2 * x3 * y3 * y3 * d + y1 * y1 * y1 * x2 * y2 * y2 * x3 * x3 * y3 * d - y1 * y1 * y1 * x2 * x3 * x3 * y3 * y3 * y3 * d + y1 * y1 * y1 * x2 * x3 * x3 * y3 + y1 * y1 * y1 * x2 * y3 * y3 * y3 - y1 * y1 * y1 * x2 * y3 - y1 * y1 * y1 * y2 * x3 * x3 * x3 * y3 * y3 * d + y1 * y1 * y1 * y2 * x3 * x3 * x3 + y1 * y1 * y1 * y2 * x3 * y3 * y3 - y1 * y1 * y1 * y2 * x3 - y1 * x2 * x2 * y2 * x3 * y3 * y3 * d - y1 * x2 * y2 * y2 * x3 * x3 * y3 * d + y1 * x2 * x3 * x3 * y3 * y3 * y3 * d - y1 * x2 * x3 * x3 * y3 - y1 * x2 * y3 * y3 * y3 + y1 * x2 * y3 + y1 * y2 * x3 * x3 * x3 * y3 * y3 * d - y1 * y2 * x3 * x3 * x3 - y1 * y2 * x3 * y3 * y3 + y1 * y2 * x3) * (x2 * x2 + y2 * y2 - 1 - d * (x2 * x2) * (y2 * y2)) + (x1 * x1 * x1 * x2 * x2 * x2 * x3 - x1 * x1 * x1 * x2 * x2 * y2 * y3 + x1 * x1 * x1 * x2 * y2 * y2 * x3 - x1 * x1 * x1 * x2 * x3 - x1 * x1 * x1 * y2 * y2 * y2 * y3 + x1 * x1 * x1 * y2 * y3 - x1 * x1 * y1 * x2 * x2 * x2 * y3 + x1 * x1 * y1 * x2 * x2 * y2 * x3 * d - x1 * x1 * y1 * x2 * x2 * y2 * x3 + x1 * x1 * y1 * x2 * y2 * y2 * y3 * d - x1 * x1 * y1 * x2 * y2 * y2 * y3 + x1 * x1 * y1 * x2 * y3 - x1 * x1 * y1 * y2 * y2 * y2 * x3 + x1 * x1 * y1 * y2 * x3 + x1 * y1 * y1 * x2 * x2 * x2 * x3 + x1 * y1 * y1 * x2 * x2 * y2 * y3 * d - x1 * y1 * y1 * x2 * x2 * y2 * y3 - x1 * y1 * y1 * x2 * y2 * y2 * x3 * d + x1 * y1 * y1 * x2 * y2 * y2 * x3 - x1 * y1 * y1 * x2 * x3 - x1 * y1 * y1 * y2 * y2 * y2 * y3 + x1 * y1 * y1 * y2 * y3 - x1 * x2 * x2 * x2 * x3 + x1 * x2 * x2 * y2 * y3 - x1 * x2 * y2 * y2 * x3 + x1 * x2 * x3 + x1 * y2 * y2 * y2 * y3 - x1 * y2 * y3 - y1 * y1 * y1 * x2 * x2 * x2 * y3 - y1 * y1 * y1 * x2 * x2 * y2 * x3 - y1 * y1 * y1 * x2 * y2 * y2 * y3 + y1 * y1 * y1 * x2 * y3 - y1 * y1 * y1 * y2 * y2 * y2 * x3 + y1 * y1 * y1 * y2 * x3 + y1 * x2 * x2 * x2 * y3 + y1 * x2 * x2 * y2 * x3 + y1 * x2 * y2 * y2 * y3 - y1 * x2 * y3 + y1 * y2 * y2 * y2 * x3 - y1 * y2 * x3) * (x3 * x3 + y3 * y3 - 1 - d * (x3 * x3) * (y3 * y3)) := by grind
  rw [z1, z2, z3] at e
  generalize ((x1 * y2 + y1 * x2) * (1 - d * (x1 * x2 * (y1 * y2))) * y3 + (y1 * y2 - x1 * x2) * (1 + d * (x1 * x2 * (y1 * y2))) * x3) * ((1 + d * (x2 * x3 * (y2 * y3))) * (1 - d * (x2 * x3 * (y2 * y3))) + d * (x1 * (x2 * y3 + y2 * x3) * (y1 * (y2 * y3 - x2 * x3)))) = a at *
  generalize (x1 * ((y2 * y3 - x2 * x3) * (1 + d * (x2 * x3 * (y2 * y3)))) + y1 * ((x2 * y3 + y2 * x3) * (1 - d * (x2 * x3 * (y2 * y3))))) * ((1 + d * (x1 * x2 * (y1 * y2))) * (1 - d * (x1 * x2 * (y1 * y2))) + d * ((x1 * y2 + y1 * x2) * x3 * ((y1 * y2 - x1 * x2) * y3))) = b at *
  have : a = (a - b) + b := by grind
  rw [this, e]; grind
theorem assoc_y {x1 y1 x2 y2 x3 y3 : Fin n} (h1 : On d x1 y1) (h2 : On d x2 y2) (h3 : On d x3 y3) :
    ((y1 * y2 - x1 * x2) * (1 + d * (x1 * x2 * (y1 * y2))) * y3 - (x1 * y2 + y1 * x2) * (1 - d * (x1 * x2 * (y1 * y2))) * x3) * ((1 + d * (x2 * x3 * (y2 * y3))) * (1 - d * (x2 * x3 * (y2 * y3))) - d * (x1 * (x2 * y3 + y2 * x3) * (y1 * (y2 * y3 - x2 * x3)))) = (y1 * ((y2 * y3 - x2 * x3) * (1 + d * (x2 * x3 * (y2 * y3)))) - x1 * ((x2 * y3 + y2 * x3) * (1 - d * (x2 * x3 * (y2 * y3))))) * ((1 + d * (x1 * x2 * (y1 * y2))) * (1 - d * (x1 * x2 * (y1 * y2))) - d * ((x1 * y2 + y1 * x2) * x3 * ((y1 * y2 - x1 * x2) * y3))) := by
  have z1 : (x1 * x1 + y1 * y1 - 1 - d * (x1 * x1) * (y1 * y1)) = 0 := by unfold On at h1; rw [h1]; grind
  have z2 : (x2 * x2 + y2 * y2 - 1 - d * (x2 * x2) * (y2 * y2)) = 0 := by unfold On at h2; rw [h2]; grind
  have z3 : (x3 * x3 + y3 * y3 - 1 - d * (x3 * x3) * (y3 * y3)) = 0 := by unfold On at h3; rw [h3]; grind
  have e : ((y1 * y2 - x1 * x2) * (1 + d * (x1 * x2 * (y1 * y2))) * y3 - (x1 * y2 + y1 * x2) * (1 - d * (x1 * x2 * (y1 * y2))) * x3) * ((1 + d * (x2 * x3 * (y2 * y3))) * (1 - d * (x2 * x3 * (y2 * y3))) - d * (x1 * (x2 * y3 + y2 * x3) * (y1 * (y2 * y3 - x2 * x3)))) - ((y1 * ((y2 * y3 - x2 * x3) * (1 + d * (x2 * x3 * (y2 * y3)))) - x1 * ((x2 * y3 + y2 * x3) * (1 - d * (x2 * x3 * (y2 * y3))))) * ((1 + d * (x1 * x2 * (y1 * y2))) * (1 - d * (x1 * x2 * (y1 * y2))) - d * ((x1 * y2 + y1 * x2) * x3 * ((y1 * y2 - x1 * x2) * y3)))) = (0 - x1 * x2 * x2 * x2 * x2 * y2 * y2 * y2 * x3 * y3 * y3 * d * d + x1 * x2 * x2 * x2 * x2 * y2 * x3 * y3 * y3 * d - x1 * x2 * x2 * x2 * y2 * y2 * y2 * y2 * x3 * x3 * y3 * d * d - x1 * x2 * x2 * x2 * y2 * y2 * y3 * y3 * y3 * d + x1 * x2 * x2 * x2 * y2 * y2 * y3 * d - x1 * x2 * x2 * y2 * y2 * y2 * x3 * x3 * x3 * d + x1 * x2 * x2 * y2 * y2 * y2 * x3 * d + x1 * x2 * y2 * y2 * y2 * y2 * x3 * x3 * y3 * d + y1 * x2 * x2 * x2 * x2 * y2 * y2 * y2 * x3 * x3 * y3 * d * d - y1 * x2 * x2 * x2 * x2 * y2 * x3 * x3 * y3 * d - y1 * x2 * x2 * x2 * y2 * y2 * y2 * y2 * x3 * y3 * y3 * d * d - y1 * x2 * x2 * x2 * y2 * y2 * x3 * x3 * x3 * d + y1 * x2 * x2 * x2 * y2 * y2 * x3 * d + y1 * x2 * x2 * y2 * y2 * y2 * y3 * y3 * y3 * d - y1 * x2 * x2 * y2 * y2 * y2 * y3 * d + y1 * x2 * y2 * y2 * y2 * y2 * x3 * y3 * y3 * d) * (x1 * x1 + y1 * y1 - 1 - d * (x1 * x1) * (y1 * y1)) + (0 - x1 * x1 * x1 * x2 * x2 * y2 * x3 * y3 * y3 * d - x1 * x1 * x1 * x2 * y2 * y2 * x3 * x3 * y3 * d + x1 * x1 * x1 * x2 * x3 * x3 * y3 * y3 * y3 * d - x1 * x1 * x1 * x2 * x3 * x3 * y3 - x1 * x1 * x1 * x2 * y3 * y3 * y3 + x1 * x1 * x1 * x2 * y3 + x1 * x1 * x1 * y2 * x3 * x3 * x3 * y3 * y3 * d - x1 * x1 * x1 * y2 * x3 * x3 * x3 - x1 * x1 * x1 * y2 * x3 * y3 * y3 + x1 * x1 * x1 * y2 * x3 - x1 * x1 * y1 * x2 * x2 * y2 * x3 * x3 * y3 * y3 * y3 * d * d + x1 * x1 * y1 * x2 * x2 * y2 * x3 * x3 * y3 * d + x1 * x1 * y1 * x2 * y2 * y2 * x3 * x3 * x3 * y3 * y3 * d * d - x1 * x1 * y1 * x2 * y2 * y2 * x3 * y3 * y3 * d + x1 * x1 * y1 * x2 * x3 * x3 * x3 * y3 * y3 * d - x1 * x1 * y1 * x2 * x3 * x3 * x3 - x1 * x1 * y1 * x2 * x3 * y3 * y3 + x1 * x1 * y1 * x2 * x3 - x1 * x1 * y1 * y2 * x3 * x3 * y3 * y3 * y3 * d + x1 * x1 * y1 * y2 * x3 * x3 * y3 + x1 * x1 * y1 * y2 * y3 * y3 * y3 - x1 * x1 * y1 * y2 * y3 + x1 * y1 * y1 * x2 * x2 * y2 * x3 * x3 * x3 * y3 * y3 * d * d - x1 * y1 * y1 * x2 * x2 * y2 * x3 * y3 * y3 * d + x1 * y1 * y1 * x2 * y2 * y2 * x3 * x3 * y3 * y3 * y3 * d * d - x1 * y1 * y1 * x2 * y2 * y2 * x3 * x3 * y3 * d + x1 * y1 * y1 * x2 * x3 * x3 * y3 * y3 * y3 * d - x1 * y1 * y1 * x2 * x3 * x3 * y3 - x1 * y1 * y1 * x2 * y3 * y3 * y3 + x1 * y1 * y1 * x2 * y3 + x1 * y1 * y1 * y2 * x3 * x3 * x3 * y3 * y3 * d - x1 * y1 * y1 * y2 * x3 * x3 * x3 - x1 * y1 * y1 * y2 * x3 * y3 * y3 + x1 * y1 * y1 * y2 * x3 + x1 * x2 * x2 * y2 * x3 * y3 * y3 * d + x1 * x2 * y2 * y2 * x3 * x3 * y3 * d - x1 * x2 * x3 * x3 * y3 * y3 * y3 * d + x1 * x2 * x3 * x3 * y3 + x1 * x2 * y3 * y3 * y3 - x1 * x2 * y3 - x1 * y2 * x3 * x3 * x3 * y3 * y3 * d + x1 * y2 * x3 * x3 * x3 + x1 * y2 * x3 * y3 * y3 - x1 * y2 * x3 + y1 * y1 * y1 * x2 * x2 * y2 * x3 * x3 * y3 * d - y1 * y1 * y1 * x2 * y2 * y2 * x3 * y3 * y3 * d + y1 * y1 * y1 * x2 * x3 * x3 * x3 * y3 * y3 * d - y1 * y1 * y1 * x2 * x3 * x3 * x3 - y1 * y1 * y1 * x2 * x3 * y3 * y3 + y1 * y1 * y1 * x2 * x3 - y1 * y1 * y1 * y2 * x3 * x3 * y3 * y3 * y3 * d + y1 * y1 * y1 * y2 * x3 * x3 * y3 + y1 * y1 * y1 * y2 * y3 * y3 * y3 - y1 * y1 * y1 * y2 * y3 - y1 * x2 * x2 * y2 * x3 * x3 * y3 * d + y1 * x2 * y2 * y2 * x3 * y3 * y3 * d - y1 * x2 * x3 * x3 * x3 * y3 * y3 * d + y1 * x2 * x3 * x3 * x3 + y1 * x2 * x3 * y3 * y3 - y1 * x2 * x3 + y1 * y2 * x3 * x3 * y3 * y3 * y3 * d - y1 * y2 * x3 * x3 * y3 - y1 * y2 * y3 * y3 * y3 + y1 * y2 * y3) * (x2 * x2 + y2 * y2 - 1 - d * (x2 * x2) * (y2 * y2)) + (x1 * x1 * x1 * x2 * x2 * x2 * y3 + x1 * x1 * x1 * x2 * x2 * y2 * x3 + x1 * x1 * x1 * x2 * y2 * y2 * y3 - x1 * x1 * x1 * x2 * y3 + x1 * x1 * x1 * y2 * y2 * y2 * x3 - x1 * x1 * x1 * y2 * x3 + x1 * x1 * y1 * x2 * x2 * x2 * x3 + x1 * x1 * y1 * x2 * x2 * y2 * y3 * d - x1 * x1 * y1 * x2 * x2 * y2 * y3 - x1 * x1 * y1 * x2 * y2 * y2 * x3 * d + x1 * x1 * y1 * x2 * y2 * y2 * x3 - x1 * x1 * y1 * x2 * x3 - x1 * x1 * y1 * y2 * y2 * y2 * y3 + x1 * x1 * y1 * y2 * y3 + x1 * y1 * y1 * x2 * x2 * x2 * y3 - x1 * y1 * y1 * x2 * x2 * y2 * x3 * d + x1 * y1 * y1 * x2 * x2 * y2 * x3 - x1 * y1 * y1 * x2 * y2 * y2 * y3 * d + x1 * y1 * y1 * x2 * y2 * y2 * y3 - x1 * y1 * y1 * x2 * y3 + x1 * y1 * y1 * y2 * y2 * y2 * x3 - x1 * y1 * y1 * y2 * x3 - x1 * x2 * x2 * x2 * y3 - x1 * x2 * x2 * y2 * x3 - x1 * x2 * y2 * y2 * y3 + x1 * x2 * y3 - x1 * y2 * y2 * y2 * x3 + x1 * y2 * x3 + y1 * y1 * y1 * x2 * x2 * x2 * x3 - y1 * y1 * y1 * x2 * x2 * y2 * y3 + y1 * y1 * y1 * x2 * y2 * y2 * x3 - y1 * y1 * y1 * x2 * x3 - y1 * y1 * y1 * y2 * y2 * y2 * y3 + y1 * y1 * y1 * y2 * y3 - y1 * x2 * x2 * x2 * x3 + y1 * x2 * x2 * y2 * y3 - y1 * x2 * y2 * y2 * x3 + y1 * x2 * x3 + y1 * y2 * y2 * y2 * y3 - y1 * y2 * y3) * (x3 * x3 + y3 * y3 - 1 - d * (x3 * x3) * (y3 * y3)) := by grind
  rw [z1, z2, z3] at e
  generalize ((y1 * y2 - x1 * x2) * (1 + d * (x1 * x2 * (y1 * y2))) * y3 - (x1 * y2 + y1 * x2) * (1 - d * (x1 * x2 * (y1 * y2))) * x3) * ((1 + d * (x2 * x3 * (y2 * y3))) * (1 - d * (x2 * x3 * (y2 * y3))) - d * (x1 * (x2 * y3 + y2 * x3) * (y1 * (y2 * y3 - x2 * x3)))) = a at *
  generalize (y1 * ((y2 * y3 - x2 * x3) * (1 + d * (x2 * x3 * (y2 * y3)))) - x1 * ((x2 * y3 + y2 * x3) * (1 - d * (x2 * x3 * (y2 * y3))))) * ((1 + d * (x1 * x2 * (y1 * y2))) * (1 - d * (x1 * x2 * (y1 * y2))) - d * ((x1 * y2 + y1 * x2) * x3 * ((y1 * y2 - x1 * x2) * y3))) = b at *
  have : a = (a - b) + b := by grind
  rw [this, e]; grind
end
end Go.Sx

set_option linter.unusedVariables false
namespace Go.Sx
section
variable {n : Nat} [NeZero n] {d : Fin n}
theorem on_lift (F : Fld d) {x y X Y Wp Wm : Fin n} (hx : x * Wp = X) (hy : y * Wm = Y) (np : Wp ≠ 0) (nm : Wm ≠ 0)
    (h : X * Wm * (X * Wm) + Y * Wp * (Y * Wp) = Wp * Wm * (Wp * Wm) + d * (X * Y) * (X * Y)) : On d x y := by
  unfold On
  subst hx hy
  have e : (x * x + y * y) * (Wp * Wm * (Wp * Wm)) = (1 + d * (x * x) * (y * y)) * (Wp * Wm * (Wp * Wm)) := by
    have e1 : (x * x + y * y) * (Wp * Wm * (Wp * Wm)) = x * Wp * Wm * (x * Wp * Wm) + y * Wm * Wp * (y * Wm * Wp) := by grind
    have e2 : (1 + d * (x * x) * (y * y)) * (Wp * Wm * (Wp * Wm)) = Wp * Wm * (Wp * Wm) + d * (x * Wp * (y * Wm)) * (x * Wp * (y * Wm)) := by grind
    rw [e1, e2, h]
  have nz := F.ne (F.ne np nm) (F.ne np nm)
  exact F.cancel e rfl rfl nz nz
theorem pa_on (F : Fld d) {P Q : Pt n} (hP : P.On d) (hQ : Q.On d) : (pa d P Q).On d :=
  on_lift F (pa_x F hP hQ) (pa_y F hP hQ) (cpl_p F hP hQ) (cpl_m F hP hQ) (on_id hP hQ)

theorem lift_x {R1 R2 T1 T2 X Y Wp Wm L : Fin n} (hx : R1 * Wp = X) (hy : R2 * Wm = Y) (h : L * (1 + d * (R1 * T1 * (R2 * T2))) = R1 * T2 + R2 * T1) :
    L * (Wp * Wm + d * (X * T1 * (Y * T2))) = X * Wm * T2 + Y * Wp * T1 := by
  subst hx hy
  have e1 : L * (Wp * Wm + d * (R1 * Wp * T1 * (R2 * Wm * T2))) = L * (1 + d * (R1 * T1 * (R2 * T2))) * (Wp * Wm) := by grind
  rw [e1, h]; grind
theorem lift_y {R1 R2 T1 T2 X Y Wp Wm L : Fin n} (hx : R1 * Wp = X) (hy : R2 * Wm = Y) (h : L * (1 - d * (R1 * T1 * (R2 * T2))) = R2 * T2 - R1 * T1) :
    L * (Wp * Wm - d * (X * T1 * (Y * T2))) = Y * Wp * T2 - X * Wm * T1 := by
  subst hx hy
  have e1 : L * (Wp * Wm - d * (R1 * Wp * T1 * (R2 * Wm * T2))) = L * (1 - d * (R1 * T1 * (R2 * T2))) * (Wp * Wm) := by grind
  rw [e1, h]; grind
theorem lift_np (F : Fld d) {R1 R2 T1 T2 X Y Wp Wm : Fin n} (hx : R1 * Wp = X) (hy : R2 * Wm = Y) (np : Wp ≠ 0) (nm : Wm ≠ 0) (h : 1 + d * (R1 * T1 * (R2 * T2)) ≠ 0) : Wp * Wm + d * (X * T1 * (Y * T2)) ≠ 0 := by
  subst hx hy
  have e1 : Wp * Wm + d * (R1 * Wp * T1 * (R2 * Wm * T2)) = (1 + d * (R1 * T1 * (R2 * T2))) * (Wp * Wm) := by grind
  rw [e1]; exact F.ne h (F.ne np nm)
theorem lift_nm (F : Fld d) {R1 R2 T1 T2 X Y Wp Wm : Fin n} (hx : R1 * Wp = X) (hy : R2 * Wm = Y) (np : Wp ≠ 0) (nm : Wm ≠ 0) (h : 1 - d * (R1 * T1 * (R2 * T2)) ≠ 0) : Wp * Wm - d * (X * T1 * (Y * T2)) ≠ 0 := by
  subst hx hy
  have e1 : Wp * Wm - d * (R1 * Wp * T1 * (R2 * Wm * T2)) = (1 - d * (R1 * T1 * (R2 * T2))) * (Wp * Wm) := by grind
  rw [e1]; exact F.ne h (F.ne np nm)

theorem pa_assoc (F : Fld d) {P Q T : Pt n} (hP : P.On d) (hQ : Q.On d) (hT : T.On d) : pa d (pa d P Q) T = pa d P (pa d Q T) := by
  have hR := pa_on F hP hQ
  have hS := pa_on F hQ hT
  have rx := pa_x F hP hQ
  have ry := pa_y F hP hQ
  have sx := pa_x F hQ hT
  have sy := pa_y F hQ hT
  have wp := cpl_p F hP hQ
  have wm := cpl_m F hP hQ
  have vp := cpl_p F hQ hT
  have vm := cpl_m F hQ hT
  have lx := lift_x rx ry (pa_x F hR hT)
  have ly := lift_y rx ry (pa_y F hR hT)
  have ln := lift_np F rx ry wp wm (cpl_p F hR hT)
  have lm := lift_nm F rx ry wp wm (cpl_m F hR hT)
  have mx := pa_x F hP hS
  have my := pa_y F hP hS
  rw [pa_comm d P] at mx my
  have cx : ∀ a b c e : Fin n, a * b * (c * e) = b * a * (e * c) := by intro a b c e; grind
  have mx' : (pa d (pa d Q T) P).x * (1 + d * ((pa d Q T).x * P.x * ((pa d Q T).y * P.y))) = (pa d Q T).x * P.y + (pa d Q T).y * P.x := by rw [cx, mx]; grind
  have my' : (pa d (pa d Q T) P).y * (1 - d * ((pa d Q T).x * P.x * ((pa d Q T).y * P.y))) = (pa d Q T).y * P.y - (pa d Q T).x * P.x := by rw [cx, my]; grind
  have nx' := lift_np F sx sy vp vm (T1 := P.x) (T2 := P.y) (by rw [cx]; exact cpl_p F hP hS)
  have ny' := lift_nm F sx sy vp vm (T1 := P.x) (T2 := P.y) (by rw [cx]; exact cpl_m F hP hS)
  have ux := lift_x sx sy mx'
  have uy := lift_y sx sy my'
  rw [pa_comm d P (pa d Q T)]
  refine Pt.ext' (F.cancel lx ux ?_ ln nx') (F.cancel ly uy ?_ lm ny')
  · have A := assoc_x (d := d) hP hQ hT
    rw [cx (P.x) (Q.x * T.y + Q.y * T.x)] at A
    rw [A]
    congr 1
    grind
  · have A := assoc_y (d := d) hP hQ hT
    rw [cx (P.x) (Q.x * T.y + Q.y * T.x)] at A
    rw [A]
    congr 1
    grind

/-- the point that adds nothing -/
def O0 : Pt n := ⟨0, 1⟩
theorem O0_on (d : Fin n) : (O0 : Pt n).On d := by
  show (0 : Fin n) * 0 + 1 * 1 = 1 + d * (0 * 0) * (1 * 1); grind
theorem pa_O0 (F : Fld d) {P : Pt n} (hP : P.On d) : pa d P O0 = P := by
  have h1 := pa_x F hP (O0_on d)
  have h2 := pa_y F hP (O0_on d)
  refine Pt.ext' ?_ ?_
  · have : ∀ a b c : Fin n, a * (1 + d * (b * 0 * (c * 1))) = b * 1 + c * 0 → a = b := by intro a b c h; grind
    exact this _ _ _ h1
  · have : ∀ a b c : Fin n, a * (1 - d * (b * 0 * (c * 1))) = c * 1 - b * 0 → a = c := by intro a b c h; grind
    exact this _ _ _ h2
theorem ng_id {a b : Fin n} (h : a * a + b * b = 1 + d * (a * a) * (b * b)) : (1 : Fin n) * (1 - d * (a * -a * (b * b))) = b * b - a * -a := by
  have e : b * b - a * -a = a * a + b * b := by clear h; grind
  rw [e, h]; clear e h; grind
def ng (P : Pt n) : Pt n := ⟨-P.x, P.y⟩
theorem ng_on {P : Pt n} (hP : P.On d) : (ng P).On d := by
  have h : P.x * P.x + P.y * P.y = 1 + d * (P.x * P.x) * (P.y * P.y) := hP
  show -P.x * -P.x + P.y * P.y = 1 + d * (-P.x * -P.x) * (P.y * P.y)
  grind
theorem pa_ng (F : Fld d) {P : Pt n} (hP : P.On d) : pa d P (ng P) = O0 := by
  have h1 := pa_x F hP (ng_on hP)
  have h2 := pa_y F hP (ng_on hP)
  have n1 := cpl_p F hP (ng_on hP)
  have n2 := cpl_m F hP (ng_on hP)
  have h : P.x * P.x + P.y * P.y = 1 + d * (P.x * P.x) * (P.y * P.y) := hP
  have r1 : (0 : Fin n) * (1 + d * (P.x * (ng P).x * (P.y * (ng P).y))) = P.x * (ng P).y + P.y * (ng P).x := by
    show (0 : Fin n) * (1 + d * (P.x * -P.x * (P.y * P.y))) = P.x * P.y + P.y * -P.x; grind
  have r2 : (1 : Fin n) * (1 - d * (P.x * (ng P).x * (P.y * (ng P).y))) = P.y * (ng P).y - P.x * (ng P).x := by
    exact ng_id h
  exact Pt.ext' (F.cancel h1 r1 rfl n1 n1) (F.cancel h2 r2 rfl n2 n2)
/-- multiples -/
noncomputable def mu_ (d : Fin n) : Nat → Pt n → Pt n
  | 0, _ => O0
  | k + 1, P => pa d (mu_ d k P) P
theorem mu_on (F : Fld d) {P : Pt n} (hP : P.On d) : ∀ k, (mu_ d k P).On d
  | 0 => O0_on d
  | k + 1 => pa_on F (mu_on F hP k) hP
theorem mu_add (F : Fld d) {P : Pt n} (hP : P.On d) (a : Nat) : ∀ b, mu_ d (a + b) P = pa d (mu_ d a P) (mu_ d b P)
  | 0 => (pa_O0 F (mu_on F hP a)).symm
  | b + 1 => by
    show pa d (mu_ d (a + b) P) P = pa d (mu_ d a P) (pa d (mu_ d b P) P)
    rw [mu_add F hP a b, pa_assoc F (mu_on F hP a) (mu_on F hP b) hP]
theorem mu_mul (F : Fld d) {P : Pt n} (hP : P.On d) (a : Nat) : ∀ b, mu_ d (b * a) P = mu_ d b (mu_ d a P)
  | 0 => by rw [Nat.zero_mul]; rfl
  | b + 1 => by
    rw [Nat.succ_mul, mu_add F hP, mu_mul F hP a b]; rfl
theorem mu_swap (F : Fld d) {P : Pt n} (hP : P.On d) (a b : Nat) : mu_ d a (mu_ d b P) = mu_ d b (mu_ d a P) := by
  rw [← mu_mul F hP, ← mu_mul F hP, Nat.mul_comm]
theorem mu_O0 (F : Fld d) : ∀ k, mu_ d k (O0 : Pt n) = O0
  | 0 => rfl
  | k + 1 => by
    show pa d (mu_ d k O0) O0 = O0
    rw [mu_O0 F k, pa_O0 F (O0_on d)]
end
end Go.Sx

set_option linter.unusedVariables false
set_option maxRecDepth 100000
namespace Go.Sx
section
variable {n : Nat} [NeZero n] {d k : Fin n}
/-- the ratio X : Z stands for the point's first coordinate on the other curve -/
def Rep (X Z : Fin n) (P : Pt n) : Prop := X - Z = (X + Z) * P.y ∧ X + Z ≠ 0

theorem dadd_id {x1 y1 x2 y2 : Fin n} (h1 : On d x1 y1) (h2 : On d x2 y2) :
    ((1 + y1 * y2) * (1 + y1 * y2) - (x1 * x2) * (x1 * x2) * ((1 + d * (y1 * y2)) * (1 + d * (y1 * y2)))) * ((y1 - y2) * (y1 - y2)) = ((1 - y1 * y2) * (1 - y1 * y2) - (x1 * x2) * (x1 * x2) * ((1 - d * (y1 * y2)) * (1 - d * (y1 * y2)))) * ((y1 + y2) * (y1 + y2)) := by
  have z1 : (x1 * x1 + y1 * y1 - 1 - d * (x1 * x1) * (y1 * y1)) = 0 := by unfold On at h1; rw [h1]; grind
  have z2 : (x2 * x2 + y2 * y2 - 1 - d * (x2 * x2) * (y2 * y2)) = 0 := by unfold On at h2; rw [h2]; grind
  clear h1 h2
  have e : ((1 + y1 * y2) * (1 + y1 * y2) - (x1 * x2) * (x1 * x2) * ((1 + d * (y1 * y2)) * (1 + d * (y1 * y2)))) * ((y1 - y2) * (y1 - y2)) - (((1 - y1 * y2) * (1 - y1 * y2) - (x1 * x2) * (x1 * x2) * ((1 - d * (y1 * y2)) * (1 - d * (y1 * y2)))) * ((y1 + y2) * (y1 + y2))) =
      (4 * y1 * x2 * x2 * y2 - 4 * y1 * x2 * x2 * y2 * y2 * y2 * d) * (x1 * x1 + y1 * y1 - 1 - d * (x1 * x1) * (y1 * y1)) + (4 * y1 * y2 - 4 * y1 * y1 * y1 * y2) * (x2 * x2 + y2 * y2 - 1 - d * (x2 * x2) * (y2 * y2)) := by clear z1 z2; grind
  rw [z1, z2] at e
  have f : ∀ a b c g : Fin n, a - b = c * 0 + g * 0 → a = b := by intro a b c g h; grind
  exact f _ _ _ _ e
theorem Fld.two_mul (F : Fld d) {a b : Fin n} (h : a + a = b + b) : a = b := by
  have : (a - b) + (a - b) = 0 := by
    have : (a - b) + (a - b) = (a + a) - (b + b) := by grind
    rw [this, h]; grind
  have := F.two _ this
  have e : a = (a - b) + b := by grind
  rw [e, this]; grind
theorem Fld.sq (F : Fld d) {a : Fin n} (h : a * a = 0) : a = 0 := (F.dom a a h).elim id id

theorem dadd_core (F : Fld d) {x1 y1 x2 y2 ys yd : Fin n} (h1 : On d x1 y1) (h2 : On d x2 y2) (hs : ys * (1 - d * (x1 * x2 * (y1 * y2))) = y1 * y2 - x1 * x2) (hd : yd * (1 + d * (x1 * x2 * (y1 * y2))) = y1 * y2 + x1 * x2) :
    (1 + ys) * (1 + yd) * ((y1 - y2) * (y1 - y2)) = (1 - ys) * (1 - yd) * ((y1 + y2) * (y1 + y2)) := by
  have np := cpl_p F h1 h2
  have nm := cpl_m F h1 h2
  have I := dadd_id h1 h2
  have nz := F.ne np nm
  have g1 : ∀ (D1 D2 N1 N2 q : Fin n), ys * D2 = N1 → yd * D1 = N2 → (1 + ys) * (1 + yd) * q * (D1 * D2) = (D2 + N1) * (D1 + N2) * q := by
    intro D1 D2 N1 N2 q e1 e2
    rw [← e1, ← e2]; clear e1 e2 I hs hd h1 h2 np nm nz; grind
  have g2 : ∀ (D1 D2 N1 N2 q : Fin n), ys * D2 = N1 → yd * D1 = N2 → (1 - ys) * (1 - yd) * q * (D1 * D2) = (D2 - N1) * (D1 - N2) * q := by
    intro D1 D2 N1 N2 q e1 e2
    rw [← e1, ← e2]; clear e1 e2 I hs hd h1 h2 np nm nz; grind
  refine F.cancel (g1 _ _ _ _ _ hs hd) (g2 _ _ _ _ _ hs hd) ?_ nz nz
  clear g1 g2 hs hd h1 h2
  generalize (1 + d * (x1 * x2 * (y1 * y2))) * (1 - d * (x1 * x2 * (y1 * y2))) = D at *
  have j1 : (1 - d * (x1 * x2 * (y1 * y2)) + (y1 * y2 - x1 * x2)) * (1 + d * (x1 * x2 * (y1 * y2)) + (y1 * y2 + x1 * x2)) * ((y1 - y2) * (y1 - y2)) = ((1 + y1 * y2) * (1 + y1 * y2) - (x1 * x2) * (x1 * x2) * ((1 + d * (y1 * y2)) * (1 + d * (y1 * y2)))) * ((y1 - y2) * (y1 - y2)) := by clear I np nm nz; grind
  have j2 : (1 - d * (x1 * x2 * (y1 * y2)) - (y1 * y2 - x1 * x2)) * (1 + d * (x1 * x2 * (y1 * y2)) - (y1 * y2 + x1 * x2)) * ((y1 + y2) * (y1 + y2)) = ((1 - y1 * y2) * (1 - y1 * y2) - (x1 * x2) * (x1 * x2) * ((1 - d * (y1 * y2)) * (1 - d * (y1 * y2)))) * ((y1 + y2) * (y1 + y2)) := by clear I np nm nz j1; grind
  rw [j1, j2, I]

theorem rep_of (F : Fld d) {X Z ys : Fin n} (h : X * (1 - ys) = Z * (1 + ys)) (nz : ¬ (X = 0 ∧ Z = 0)) : X - Z = (X + Z) * ys ∧ X + Z ≠ 0 := by
  have e : X - Z = (X + Z) * ys := by
    have : X - Z = X * (1 - ys) - Z * (1 + ys) + (X + Z) * ys := by clear h nz; grind
    rw [this, h]; clear this h nz; grind
  refine ⟨e, fun h0 => nz ?_⟩
  rw [h0] at e
  have e1 : X + X = 0 + 0 := by
    have : X + X = (X + Z) + (X - Z) := by clear e h0 h nz; grind
    rw [this, h0, e]; clear this e h0 h nz; grind
  have hx := F.two_mul e1
  refine ⟨hx, ?_⟩
  rw [hx] at h0
  have : Z = 0 + Z := by clear h0 e e1 h nz; grind
  rw [this, h0]

/-- the addition of two points whose difference is known -/
theorem rep_dadd (F : Fld d) {X2 Z2 X3 Z3 u : Fin n} {P R : Pt n} {ys yd : Fin n} (hP : P.On d) (hR : R.On d) (h2 : Rep X2 Z2 P) (h3 : Rep X3 Z3 R) (hu : u - 1 = (u + 1) * yd) (u0 : u ≠ 0)
    (hs : ys * (1 - d * (P.x * R.x * (P.y * R.y))) = P.y * R.y - P.x * R.x) (hd : yd * (1 + d * (P.x * R.x * (P.y * R.y))) = P.y * R.y + P.x * R.x) :
    ((X3 - Z3) * (X2 + Z2) + (X3 + Z3) * (X2 - Z2)) * ((X3 - Z3) * (X2 + Z2) + (X3 + Z3) * (X2 - Z2)) - u * (((X3 - Z3) * (X2 + Z2) - (X3 + Z3) * (X2 - Z2)) * ((X3 - Z3) * (X2 + Z2) - (X3 + Z3) * (X2 - Z2))) =
      (((X3 - Z3) * (X2 + Z2) + (X3 + Z3) * (X2 - Z2)) * ((X3 - Z3) * (X2 + Z2) + (X3 + Z3) * (X2 - Z2)) + u * (((X3 - Z3) * (X2 + Z2) - (X3 + Z3) * (X2 - Z2)) * ((X3 - Z3) * (X2 + Z2) - (X3 + Z3) * (X2 - Z2)))) * ys ∧
    ((X3 - Z3) * (X2 + Z2) + (X3 + Z3) * (X2 - Z2)) * ((X3 - Z3) * (X2 + Z2) + (X3 + Z3) * (X2 - Z2)) + u * (((X3 - Z3) * (X2 + Z2) - (X3 + Z3) * (X2 - Z2)) * ((X3 - Z3) * (X2 + Z2) - (X3 + Z3) * (X2 - Z2))) ≠ 0 := by
  obtain ⟨e2, n2⟩ := h2
  obtain ⟨e3, n3⟩ := h3
  have I := dadd_core F hP hR hs hd
  rw [e2, e3]
  have c0 := F.ne n2 n3
  generalize X2 + Z2 = A at *
  generalize X3 + Z3 = E at *
  have hP' : P.x * P.x + P.y * P.y = 1 + d * (P.x * P.x) * (P.y * P.y) := hP
  have hR' : R.x * R.x + R.y * R.y = 1 + d * (R.x * R.x) * (R.y * R.y) := hR
  generalize P.x = x1 at *
  generalize P.y = y1 at *
  generalize R.x = x2 at *
  generalize R.y = y2 at *
  have f1 : (E * y2 * A + E * (A * y1)) = A * E * (y1 + y2) := by grobner
  have f2 : (E * y2 * A - E * (A * y1)) = A * E * (y2 - y1) := by grobner
  rw [f1, f2]
  generalize A * E = c at *
  refine rep_of F ?_ ?_
  · have a1 : u + u = (u + 1) * (1 + yd) := by
      have : u + u = (u + 1) + (u - 1) := by grobner
      rw [this, hu]; grobner
    have a2 : (1 : Fin n) + 1 = (u + 1) * (1 - yd) := by
      have : (1 : Fin n) + 1 = (u + 1) - (u - 1) := by grobner
      rw [this, hu]; grobner
    apply F.two_mul
    have b1 : c * (y1 + y2) * (c * (y1 + y2)) * (1 - ys) + c * (y1 + y2) * (c * (y1 + y2)) * (1 - ys) = c * c * (1 - ys) * ((y1 + y2) * (y1 + y2)) * (1 + 1) := by grobner
    have b2 : u * (c * (y2 - y1) * (c * (y2 - y1))) * (1 + ys) + u * (c * (y2 - y1) * (c * (y2 - y1))) * (1 + ys) = c * c * (1 + ys) * ((y1 - y2) * (y1 - y2)) * (u + u) := by grobner
    rw [b1, b2, a1, a2]
    have b3 : c * c * (1 - ys) * ((y1 + y2) * (y1 + y2)) * ((u + 1) * (1 - yd)) = c * c * (u + 1) * ((1 - ys) * (1 - yd) * ((y1 + y2) * (y1 + y2))) := by grobner
    have b4 : c * c * (1 + ys) * ((y1 - y2) * (y1 - y2)) * ((u + 1) * (1 + yd)) = c * c * (u + 1) * ((1 + ys) * (1 + yd) * ((y1 - y2) * (y1 - y2))) := by grobner
    rw [b3, b4, I]
  · rintro ⟨hx, hz⟩
    have k1 : y1 + y2 = 0 := by
      rcases F.dom _ _ (F.sq hx) with h | h
      · exact absurd h c0
      · exact h
    have k2 : y2 - y1 = 0 := by
      rcases F.dom _ _ hz with h | h
      · exact absurd h u0
      · rcases F.dom _ _ (F.sq h) with h | h
        · exact absurd h c0
        · exact h
    have k3 : y2 = 0 := by
      apply F.two_mul
      have : y2 + y2 = (y1 + y2) + (y2 - y1) := by grobner
      rw [this, k1, k2]
    have k4 : y1 = 0 := by
      have : y1 = (y1 + y2) - y2 := by grobner
      rw [this, k1, k3]; grobner
    subst k3 k4
    have s1 : x1 * x1 = 1 := by
      have : x1 * x1 = x1 * x1 + 0 * 0 := by grobner
      rw [this, hP']; grobner
    have s2 : x2 * x2 = 1 := by
      have : x2 * x2 = x2 * x2 + 0 * 0 := by grobner
      rw [this, hR']; grobner
    have s3 : yd = x1 * x2 := by
      have : yd = yd * (1 + d * (x1 * x2 * (0 * 0))) := by grobner
      rw [this, hd]; grobner
    have s4 : (yd - 1) * (yd + 1) = 0 := by
      have : (yd - 1) * (yd + 1) = yd * yd - 1 := by grobner
      rw [this, s3]
      have : x1 * x2 * (x1 * x2) - 1 = (x1 * x1) * (x2 * x2) - 1 := by grobner
      rw [this, s1, s2]; grobner
    rcases F.dom _ _ s4 with h | h
    · have hy : yd = 1 := by
        have : yd = (yd - 1) + 1 := by grobner
        rw [this, h]; grobner
      rw [hy] at hu
      apply F.one
      apply F.two
      have : (1 : Fin n) + 1 = (u + 1) * 1 - (u - 1) := by grobner
      rw [this, hu]; grobner
    · have hy : yd = -1 := by
        have : yd = (yd + 1) - 1 := by grobner
        rw [this, h]; grobner
      rw [hy] at hu
      apply u0
      apply F.two
      have : u + u = (u - 1) - ((u + 1) * -1) := by grobner
      rw [this, hu]; grobner

/-- the doubling -/
theorem rep_dbl (F : Fld d) (hk : d * (k + 1) = k) (k1 : k + 1 ≠ 0) {X Z : Fin n} {P : Pt n} (hP : P.On d) (h : Rep X Z P) :
    Rep ((X + Z) * (X + Z) * ((X - Z) * (X - Z))) (((X + Z) * (X + Z) - (X - Z) * (X - Z)) * ((X + Z) * (X + Z) + k * ((X + Z) * (X + Z) - (X - Z) * (X - Z)))) (pa d P P) := by
  obtain ⟨e, n0⟩ := h
  have hy := pa_y F hP hP
  have nm := cpl_m F hP hP
  have hP' : P.x * P.x + P.y * P.y = 1 + d * (P.x * P.x) * (P.y * P.y) := hP
  unfold Rep
  rw [e]
  generalize (pa d P P).y = ys at *
  generalize X + Z = A at *
  generalize P.x = x at *
  generalize P.y = y at *
  have T : 1 - d * (x * x * (y * y)) = 1 + 1 - x * x - y * y := by
    have : 1 + 1 - x * x - y * y = 1 + 1 - (x * x + y * y) := by grobner
    rw [this, hP']; grobner
  have key : y * y = (1 + k - k * (y * y)) * (1 - x * x) := by
    have a : (1 + k - k * (y * y)) * (1 - x * x) = (k + 1) * (1 - x * x) - (k * (1 - x * x)) * (y * y) := by grobner
    have b : k * (1 - x * x) = (d * (k + 1)) * (1 - x * x) := by rw [hk]
    rw [a, b]
    have c : (k + 1) * (1 - x * x) - d * (k + 1) * (1 - x * x) * (y * y) = (k + 1) * ((1 + d * (x * x) * (y * y)) - x * x - d * (y * y)) := by grobner
    rw [c, ← hP']
    have f : (k + 1) * (x * x + y * y - x * x - d * (y * y)) = (k + 1) * (y * y) - (d * (k + 1)) * (y * y) := by grobner
    rw [f, hk]; grobner
  refine rep_of F ?_ ?_
  · have a1 : (1 - ys) * (1 - d * (x * x * (y * y))) = (1 + 1) * (1 - y * y) := by
      have : (1 - ys) * (1 - d * (x * x * (y * y))) = (1 - d * (x * x * (y * y))) - ys * (1 - d * (x * x * (y * y))) := by grobner
      rw [this, hy, T]; grobner
    have a2 : (1 + ys) * (1 - d * (x * x * (y * y))) = (1 + 1) * (1 - x * x) := by
      have : (1 + ys) * (1 - d * (x * x * (y * y))) = (1 - d * (x * x * (y * y))) + ys * (1 - d * (x * x * (y * y))) := by grobner
      rw [this, hy, T]; grobner
    generalize 1 - d * (x * x * (y * y)) = D at *
    have c1 : A * A * (A * y * (A * y)) * (1 - ys) * D = A * A * (A * y * (A * y)) * ((1 + 1) * (1 - y * y)) := by rw [← a1]; grobner
    have c2 : (A * A - A * y * (A * y)) * (A * A + k * (A * A - A * y * (A * y))) * (1 + ys) * D = (A * A - A * y * (A * y)) * (A * A + k * (A * A - A * y * (A * y))) * ((1 + 1) * (1 - x * x)) := by rw [← a2]; grobner
    refine F.cancel c1 c2 ?_ nm nm
    have d1 : A * A * (A * y * (A * y)) * ((1 + 1) * (1 - y * y)) * D = (A * A * (A * A)) * ((1 + 1) * (1 - y * y)) * D * (y * y) := by grobner
    have d2 : (A * A - A * y * (A * y)) * (A * A + k * (A * A - A * y * (A * y))) * ((1 + 1) * (1 - x * x)) * D = (A * A * (A * A)) * ((1 + 1) * (1 - y * y)) * D * ((1 + k - k * (y * y)) * (1 - x * x)) := by grobner
    rw [d1, d2, ← key]
  · rintro ⟨hx, hz⟩
    have y0 : y = 0 := by
      rcases F.dom _ _ hx with h | h
      · exact absurd (F.sq h) n0
      · rcases F.dom _ _ (F.sq h) with h | h
        · exact absurd h n0
        · exact h
    subst y0
    have : (A * A - A * 0 * (A * 0)) * (A * A + k * (A * A - A * 0 * (A * 0))) = (A * A * (A * A)) * (k + 1) := by grobner
    rw [this] at hz
    exact F.ne (F.ne (F.ne n0 n0) (F.ne n0 n0)) k1 hz
end
end Go.Sx

set_option linter.unusedVariables false
set_option maxRecDepth 100000
namespace Go.Sx
section
variable {n : Nat} [NeZero n] {d k : Fin n}
structure L4 (n : Nat) where
  x2 : Fin n
  z2 : Fin n
  x3 : Fin n
  z3 : Fin n
def L4.swap (s : L4 n) : L4 n := ⟨s.x3, s.z3, s.x2, s.z2⟩
def L4.step (u k : Fin n) (s : L4 n) : L4 n :=
  ⟨(s.x2 + s.z2) * (s.x2 + s.z2) * ((s.x2 - s.z2) * (s.x2 - s.z2)),
   ((s.x2 + s.z2) * (s.x2 + s.z2) - (s.x2 - s.z2) * (s.x2 - s.z2)) * ((s.x2 + s.z2) * (s.x2 + s.z2) + k * ((s.x2 + s.z2) * (s.x2 + s.z2) - (s.x2 - s.z2) * (s.x2 - s.z2))),
   ((s.x3 - s.z3) * (s.x2 + s.z2) + (s.x3 + s.z3) * (s.x2 - s.z2)) * ((s.x3 - s.z3) * (s.x2 + s.z2) + (s.x3 + s.z3) * (s.x2 - s.z2)),
   u * (((s.x3 - s.z3) * (s.x2 + s.z2) - (s.x3 + s.z3) * (s.x2 - s.z2)) * ((s.x3 - s.z3) * (s.x2 + s.z2) - (s.x3 + s.z3) * (s.x2 - s.z2)))⟩
/-- the ladder behind j bits of K (of 255), and the last bit -/
def lad4 (K : Nat) (u k : Fin n) : Nat → L4 n × Bool
  | 0 => (⟨1, 0, u, 1⟩, false)
  | j + 1 => ((bif (decide (K / 2 ^ (254 - j) % 2 = 1)).xor (lad4 K u k j).2 then (lad4 K u k j).1.swap else (lad4 K u k j).1).step u k, decide (K / 2 ^ (254 - j) % 2 = 1))

/-- both points stand where the last bit says -/
def Both (d : Fin n) (Q : Pt n) (m : Nat) (s : L4 n) : Bool → Prop
  | false => Rep s.x2 s.z2 (mu_ d m Q) ∧ Rep s.x3 s.z3 (mu_ d (m + 1) Q)
  | true => Rep s.x3 s.z3 (mu_ d m Q) ∧ Rep s.x2 s.z2 (mu_ d (m + 1) Q)
theorem Both.swap {Q : Pt n} {m : Nat} {s : L4 n} : ∀ {b : Bool}, Both d Q m s b → Both d Q m s.swap (!b)
  | false, h => h
  | true, h => h
theorem dif_of (F : Fld d) {P Q R : Pt n} (hP : P.On d) (hQ : Q.On d) (e : R = pa d P Q) : pa d R (ng P) = Q := by
  rw [e, pa_comm d P, pa_assoc F hQ hP (ng_on hP), pa_ng F hP, pa_O0 F hQ]
theorem yd_of (F : Fld d) {P Q R : Pt n} (hP : P.On d) (hQ : Q.On d) (e : R = pa d P Q) : Q.y * (1 + d * (P.x * R.x * (P.y * R.y))) = P.y * R.y + P.x * R.x := by
  have hR : R.On d := e ▸ pa_on F hP hQ
  have h := pa_y F hR (ng_on hP)
  rw [dif_of F hP hQ e] at h
  have a : ∀ a b c g q : Fin n, q * (1 - d * (a * -b * (c * g))) = c * g - a * -b → q * (1 + d * (b * a * (g * c))) = g * c + b * a := by intro a b c g q h; grobner
  exact a _ _ _ _ _ h
theorem step_both (F : Fld d) (hk : d * (k + 1) = k) (k1 : k + 1 ≠ 0) {u : Fin n} (u0 : u ≠ 0) {Q : Pt n} (hQ : Q.On d) (hu : u - 1 = (u + 1) * Q.y) {m : Nat} {s : L4 n} (b : Bool) (h : Both d Q m s b) :
    Both d Q (2 * m + b.toNat) (s.step u k) b := by
  have on1 := mu_on F hQ m
  have on2 := mu_on F hQ (m + 1)
  cases b with
  | false =>
    obtain ⟨h2, h3⟩ := h
    have e : mu_ d (m + 1) Q = pa d (mu_ d m Q) Q := rfl
    constructor
    · have := rep_dbl F hk k1 on1 h2
      rw [← mu_add F hQ, ← Nat.two_mul] at this
      exact this
    · have := rep_dadd F on1 on2 h2 h3 hu u0 (pa_y F on1 on2) (yd_of F on1 hQ e)
      rw [← mu_add F hQ, show m + (m + 1) = 2 * m + 0 + 1 by omega] at this
      exact this
  | true =>
    obtain ⟨h3, h2⟩ := h
    have e : mu_ d (m + 1) Q = pa d (mu_ d m Q) Q := rfl
    have cx : ∀ a b c e : Fin n, a * b * (c * e) = b * a * (e * c) := by intro a b c e; grobner
    have cy : ∀ a b c e : Fin n, a * b + c * e = b * a + e * c := by intro a b c e; grobner
    constructor
    · have yd := yd_of F on1 hQ e
      rw [cx, cy] at yd
      have := rep_dadd F on2 on1 h2 h3 hu u0 (pa_y F on2 on1) yd
      rw [← mu_add F hQ, show m + 1 + m = 2 * m + 1 by omega] at this
      exact this
    · have := rep_dbl F hk k1 on2 h2
      rw [← mu_add F hQ, show m + 1 + (m + 1) = 2 * m + 1 + 1 by omega] at this
      exact this
theorem rep_O0 (F : Fld d) : Rep (1 : Fin n) 0 O0 := by
  refine ⟨by show (1 : Fin n) - 0 = (1 + 0) * 1; grobner, fun h => F.one ?_⟩
  have : (1 : Fin n) = 1 + 0 := by grobner
  rw [this, h]
theorem rep_Q (F : Fld d) {u : Fin n} {Q : Pt n} (hu : u - 1 = (u + 1) * Q.y) : Rep u 1 Q := by
  refine ⟨hu, fun h => F.one ?_⟩
  rw [h] at hu
  apply F.two
  have : (1 : Fin n) + 1 = (u + 1) - (u - 1) := by grobner
  rw [this, hu, h]; grobner
theorem lad4_both (F : Fld d) (hk : d * (k + 1) = k) (k1 : k + 1 ≠ 0) {u : Fin n} (u0 : u ≠ 0) {Q : Pt n} (hQ : Q.On d) (hu : u - 1 = (u + 1) * Q.y) (K : Nat) (hK : K < 2 ^ 255) :
    ∀ j, j ≤ 255 → Both d Q (K / 2 ^ (255 - j)) (lad4 K u k j).1 (lad4 K u k j).2
  | 0, _ => by
    rw [Nat.div_eq_of_lt hK]
    refine ⟨rep_O0 F, ?_⟩
    show Rep u 1 (pa d O0 Q)
    rw [pa_comm, pa_O0 F hQ]
    exact rep_Q F hu
  | j + 1, hj => by
    have ih := lad4_both F hk k1 u0 hQ hu K hK j (by omega)
    have e0 : K / 2 ^ (255 - j) = K / 2 ^ (254 - j) / 2 := by
      rw [show 255 - j = (254 - j) + 1 by omega, Nat.pow_succ, Nat.div_div_eq_div_mul]
    have e1 : K / 2 ^ (255 - (j + 1)) = 2 * (K / 2 ^ (255 - j)) + (decide (K / 2 ^ (254 - j) % 2 = 1)).toNat := by
      rw [e0, show 255 - (j + 1) = 254 - j by omega]
      generalize K / 2 ^ (254 - j) = q
      rcases Nat.mod_two_eq_zero_or_one q with h | h
      · rw [h]; simp only [Nat.zero_ne_one, decide_false, Bool.toNat_false]; omega
      · rw [h]; simp only [decide_true, Bool.toNat_true]; omega
    rw [e1]
    show Both d Q _ ((bif (decide (K / 2 ^ (254 - j) % 2 = 1)).xor (lad4 K u k j).2 then (lad4 K u k j).1.swap else (lad4 K u k j).1).step u k) (decide (K / 2 ^ (254 - j) % 2 = 1))
    apply step_both F hk k1 u0 hQ hu
    generalize decide (K / 2 ^ (254 - j) % 2 = 1) = b
    generalize hl : (lad4 K u k j).2 = l at ih ⊢
    cases b <;> cases l
    · exact ih
    · exact ih.swap
    · exact ih.swap
    · exact ih
/-- the coordinate -/
noncomputable def uo (P : Pt n) : Fin n := open Classical in if P.y = 1 then 0 else (1 + P.y) * iv (1 - P.y)
theorem Fld.sub_ne (F : Fld d) {y : Fin n} (h : ¬ y = 1) : 1 - y ≠ 0 := fun e => h (by
  have : y = 1 - (1 - y) := by grobner
  rw [this, e]; grobner)
theorem uo_rep (F : Fld d) {P : Pt n} (h : ¬ P.y = 1) : uo P - 1 = (uo P + 1) * P.y := by
  have i := F.iv (F.sub_ne h)
  unfold uo
  rw [if_neg h]
  generalize iv (1 - P.y) = w at *
  generalize P.y = y at *
  have e1 : (1 + y) * w - 1 = (1 + y) * w - (1 - y) * w := by rw [i]
  have e2 : ((1 + y) * w + 1) * y = ((1 + y) * w + (1 - y) * w) * y := by rw [i]
  rw [e1, e2]; clear e1 e2 i; grobner
theorem rep_out (F : Fld d) {X Z i : Fin n} {P : Pt n} (h : Rep X Z P) (hi : Z ≠ 0 → Z * i = 1) (h0 : Z = 0 → i = 0) : X * i = uo P := by
  obtain ⟨e, n0⟩ := h
  unfold uo
  by_cases hy : P.y = 1
  · rw [if_pos hy]
    rw [hy] at e
    have hz : Z = 0 := by
      apply F.two
      have : Z + Z = (X + Z) * 1 - (X - Z) := by grobner
      rw [this, e]; grobner
    rw [h0 hz]; grobner
  · rw [if_neg hy]
    have hz : Z ≠ 0 := fun hz => by
      subst hz
      apply hy
      have n1 : X ≠ 0 := fun hx => n0 (by rw [hx]; grobner)
      have h1 : P.y * X = X := by
        have : X = X - 0 := by grobner
        rw [this, e]; grobner
      have h2 : (1 : Fin n) * X = X := by grobner
      exact F.cancel h1 h2 rfl n1 n1
    have := F.iv (F.sub_ne hy)
    have hi' := hi hz
    have n2 := F.sub_ne hy
    have c1 : X * i * (Z * (1 - P.y)) = X * (1 - P.y) := by
      have : X * i * (Z * (1 - P.y)) = (Z * i) * (X * (1 - P.y)) := by grobner
      rw [this, hi']; grobner
    have c2 : (1 + P.y) * iv (1 - P.y) * (Z * (1 - P.y)) = Z * (1 + P.y) := by
      have e3 : (1 + P.y) * iv (1 - P.y) * (Z * (1 - P.y)) = ((1 - P.y) * iv (1 - P.y)) * (Z * (1 + P.y)) := by clear c1 hi hi' this n2 hz e; grobner
      rw [e3, this]; clear c1 hi hi' this n2 hz e e3; grobner
    have c3 : X * (1 - P.y) = Z * (1 + P.y) := by clear c1 c2 hi hi' this n2 hz; grobner
    refine F.cancel c1 c2 ?_ (F.ne hz n2) (F.ne hz n2)
    rw [c3]
end
end Go.Sx

set_option linter.unusedVariables false
set_option maxRecDepth 100000
namespace Go.Sx
section
variable {n : Nat} [NeZero n] {d k : Fin n}
theorem step_z (F : Fld d) {s : L4 n} (h : s.x2 * s.z2 = 0) : (s.step 0 k).z2 = 0 ∧ (s.step 0 k).z3 = 0 := by
  constructor
  · show ((s.x2 + s.z2) * (s.x2 + s.z2) - (s.x2 - s.z2) * (s.x2 - s.z2)) * ((s.x2 + s.z2) * (s.x2 + s.z2) + k * ((s.x2 + s.z2) * (s.x2 + s.z2) - (s.x2 - s.z2) * (s.x2 - s.z2))) = 0
    grobner
  · show (0 : Fin n) * (((s.x3 - s.z3) * (s.x2 + s.z2) - (s.x3 + s.z3) * (s.x2 - s.z2)) * ((s.x3 - s.z3) * (s.x2 + s.z2) - (s.x3 + s.z3) * (s.x2 - s.z2))) = 0
    grobner
theorem lad4_z0 (F : Fld d) (K : Nat) : ∀ j, (lad4 K (0 : Fin n) k j).1.x2 * (lad4 K (0 : Fin n) k j).1.z2 = 0 ∧ (lad4 K (0 : Fin n) k j).1.x3 * (lad4 K (0 : Fin n) k j).1.z3 = 0
  | 0 => ⟨by show (1 : Fin n) * 0 = 0; grobner, by show (0 : Fin n) * 1 = 0; grobner⟩
  | j + 1 => by
    obtain ⟨h2, h3⟩ := lad4_z0 F K j
    have : ∀ b : Bool, (bif b then (lad4 K (0 : Fin n) k j).1.swap else (lad4 K (0 : Fin n) k j).1).x2 * (bif b then (lad4 K (0 : Fin n) k j).1.swap else (lad4 K (0 : Fin n) k j).1).z2 = 0 := by
      intro b; cases b
      · exact h2
      · exact h3
    obtain ⟨a, b⟩ := step_z (k := k) F (this ((decide (K / 2 ^ (254 - j) % 2 = 1)).xor (lad4 K (0 : Fin n) k j).2))
    have m0 : ∀ x : Fin n, x * 0 = 0 := by intro x; grobner
    refine ⟨?_, ?_⟩
    · show (L4.step 0 k _).x2 * (L4.step 0 k _).z2 = 0
      rw [a, m0]
    · show (L4.step 0 k _).x3 * (L4.step 0 k _).z3 = 0
      rw [b, m0]
theorem lad4_zz (F : Fld d) (K : Nat) (j : Nat) : (lad4 K (0 : Fin n) k (j + 1)).1.z2 = 0 ∧ (lad4 K (0 : Fin n) k (j + 1)).1.z3 = 0 := by
  obtain ⟨h2, h3⟩ := lad4_z0 (k := k) F K j
  have : ∀ b : Bool, (bif b then (lad4 K (0 : Fin n) k j).1.swap else (lad4 K (0 : Fin n) k j).1).x2 * (bif b then (lad4 K (0 : Fin n) k j).1.swap else (lad4 K (0 : Fin n) k j).1).z2 = 0 := by
    intro b; cases b
    · exact h2
    · exact h3
  exact step_z (k := k) F (this ((decide (K / 2 ^ (254 - j) % 2 = 1)).xor (lad4 K (0 : Fin n) k j).2))

/-- what the ladder gives; inv: the inverse, of nought nought -/
def xoK (inv : Fin n → Fin n) (K : Nat) (u k : Fin n) : Fin n := bif (lad4 K u k 255).2 then (lad4 K u k 255).1.x3 * inv (lad4 K u k 255).1.z3 else (lad4 K u k 255).1.x2 * inv (lad4 K u k 255).1.z2

theorem x_zero (F : Fld d) {x y : Fin n} (h : On d x y) (hy : y * y = 1) : x = 0 := by
  unfold On at h
  have e : (x * x) * (1 - d) = 0 := by
    have : (x * x) * (1 - d) = (x * x + y * y) - (1 + d * (x * x) * (y * y)) + (1 - y * y) + d * (x * x) * (y * y - 1) := by clear h hy; grobner
    rw [this, h, hy]; clear this h hy; grobner
  rcases F.dom _ _ e with h1 | h1
  · exact F.sq h1
  · exfalso
    apply F.nsq 1
    have : d = 1 - (1 - d) := by clear e h hy h1; grobner
    rw [this, h1]; clear this e h hy h1; grobner
theorem uo_zero (F : Fld d) {Q : Pt n} (hQ : Q.On d) (h : uo Q = 0) : pa d Q Q = O0 := by
  have hy : Q.y * Q.y = 1 := by
    unfold uo at h
    by_cases h1 : Q.y = 1
    · rw [h1]; clear h h1; grobner
    · rw [if_neg h1] at h
      have i := F.iv (F.sub_ne h1)
      have e : 1 + Q.y = 0 := by
        have : 1 + Q.y = ((1 + Q.y) * iv (1 - Q.y)) * (1 - Q.y) := by
          have : ((1 + Q.y) * iv (1 - Q.y)) * (1 - Q.y) = (1 + Q.y) * ((1 - Q.y) * iv (1 - Q.y)) := by clear i h h1; grobner
          rw [this, i]; clear this i h h1; grobner
        rw [this, h]; clear this i h h1; grobner
      have : Q.y * Q.y = (1 + Q.y) * (Q.y - 1) + 1 := by clear i h h1 e; grobner
      rw [this, e]; clear this e i h h1; grobner
  have hx := x_zero F hQ hy
  have h1 := pa_x F hQ hQ
  have h2 := pa_y F hQ hQ
  refine Pt.ext' ?_ ?_
  · rw [hx] at h1
    have : ∀ a b : Fin n, a * (1 + d * (0 * 0 * (b * b))) = 0 * b + b * 0 → a = 0 := by intro a b h; clear h1 h2 hx hy; grobner
    exact this _ _ h1
  · rw [hx, hy] at h2
    have : ∀ a : Fin n, a * (1 - d * (0 * 0 * 1)) = 1 - 0 * 0 → a = 1 := by intro a h; clear h1 h2 hx hy; grobner
    exact this _ h2
theorem mu_even (F : Fld d) {Q : Pt n} (hQ : Q.On d) (h : uo Q = 0) (K : Nat) : mu_ d (K * 2) Q = O0 := by
  rw [mu_mul F hQ]
  have : mu_ d 2 Q = O0 := by
    show pa d (pa d O0 Q) Q = O0
    rw [pa_comm d O0, pa_O0 F hQ, uo_zero F hQ h]
  rw [this, mu_O0 F]
theorem uo_O0 : uo (O0 : Pt n) = 0 := by unfold uo; exact if_pos rfl
/-- the ladder's law -/
theorem xo_uo (F : Fld d) (hk : d * (k + 1) = k) (k1 : k + 1 ≠ 0) {inv : Fin n → Fin n} (hi : ∀ z, z ≠ 0 → z * inv z = 1) (i0 : inv 0 = 0) {Q : Pt n} (hQ : Q.On d) (K : Nat) (hK : K * 2 < 2 ^ 255) :
    xoK inv (K * 2) (uo Q) k = uo (mu_ d (K * 2) Q) := by
  by_cases h : uo Q = 0
  · rw [mu_even F hQ h, uo_O0, h]
    obtain ⟨a, b⟩ := lad4_zz (k := k) F (K * 2) 254
    have m0 : ∀ x : Fin n, x * 0 = 0 := by intro x; grobner
    unfold xoK
    rw [a, b, i0, m0, m0]
    cases (lad4 (K * 2) (0 : Fin n) k 255).2 <;> rfl
  · have hy : ¬ Q.y = 1 := fun e => h (by unfold uo; exact if_pos e)
    have B := lad4_both F hk k1 h hQ (uo_rep F hy) (K * 2) hK 255 (Nat.le_refl _)
    rw [Nat.sub_self, Nat.pow_zero, Nat.div_one] at B
    unfold xoK
    generalize (lad4 (K * 2) (uo Q) k 255).1 = s at *
    generalize (lad4 (K * 2) (uo Q) k 255).2 = l at *
    have z0 : ∀ z : Fin n, z = 0 → inv z = 0 := fun z e => by rw [e, i0]
    cases l
    · exact rep_out F B.1 (hi _) (z0 _)
    · exact rep_out F B.1 (hi _) (z0 _)
/-- two ladders in either order -/
theorem xo_swap (F : Fld d) (hk : d * (k + 1) = k) (k1 : k + 1 ≠ 0) {inv : Fin n → Fin n} (hi : ∀ z, z ≠ 0 → z * inv z = 1) (i0 : inv 0 = 0) {Q : Pt n} (hQ : Q.On d) (A B : Nat) (hA : A * 2 < 2 ^ 255) (hB : B * 2 < 2 ^ 255) :
    xoK inv (A * 2) (xoK inv (B * 2) (uo Q) k) k = xoK inv (B * 2) (xoK inv (A * 2) (uo Q) k) k := by
  rw [xo_uo F hk k1 hi i0 hQ B hB, xo_uo F hk k1 hi i0 hQ A hA, xo_uo F hk k1 hi i0 (mu_on F hQ _) A hA, xo_uo F hk k1 hi i0 (mu_on F hQ _) B hB, mu_swap F hQ]
end
end Go.Sx
