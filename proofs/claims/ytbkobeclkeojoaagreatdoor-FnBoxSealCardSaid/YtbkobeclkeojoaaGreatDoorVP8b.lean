/- poly1305.macGeneric: what is called; the states. poly1305.macGeneric.Write: its pieces. poly1305.macGeneric.Write: its contract. poly1305.macGeneric.Sum. Poly1305 by pieces: what is kept from piece to piece. Conditions: none; plain definitions and theorems. Conditions: none. -/
import Derived.Test.YtbkobeclkeojoaaGreatDoorVP4
set_option maxRecDepth 1000000
set_option linter.unusedVariables false
namespace Go.Sx
open Go.Proofs

noncomputable def HM (c : Bool) : Hook := hookC 80 (hookOf (cxb c) updCt) (hookC 81 (hookOf (cxb c) finCt) (hookC 65 (hookOf (cxb c) initCt) (H0 c)))
theorem HMok (B : Nat) (c : Bool) : HookOk P0 B 2 (HM c) := .cons (.ct (cx := cxb c) (upd_ok B)) (.cons (.ct (cx := cxb c) (fin_ok B)) (.cons (.ct (cx := cxb c) (init_ok B)) (H0ok B c)))

def wM (st : List (BitVec 64)) (buf : List (BitVec 8)) (off : Int) (m : List (BitVec 8)) : Mem := [(2, ⟨7, .d64 (lit 0 7 st), true, false, true⟩), (2 + 1, ⟨16, .d8 buf, true, false, true⟩), (2 + 2, ⟨1, .di [off], true, false, false⟩), (2 + 3, ⟨m.length, .d8 m, false, false, false⟩)]
def wSt (st : List (BitVec 64)) (buf : List (BitVec 8)) (off : Int) (m : List (BitVec 8)) (v : Sc) (nn : Int) : St := ⟨[(0, .one (.s (.p 2 0))), (1, .one (.s v)), (6, .one (.s (.i nn)))], wM st buf off m, 2 + 4⟩
def wEn (st : List (BitVec 64)) (buf : List (BitVec 8)) (off : Int) (m : List (BitVec 8)) (nn : Int) : St := ⟨[(4, .one (.s (.i nn))), (5, .one (.s .f0))], wM st buf off m, 2 + 4⟩
def wS0 (st : List (BitVec 64)) (buf : List (BitVec 8)) (k : Nat) (m : List (BitVec 8)) (v : Sc) : St := ⟨enum 0 [.one (.s (.p 2 0)), .one (.s v)], wM st buf (k : Int) m, 2 + 4⟩
noncomputable def wBody : List Code := flat (bodyOf Tryz.f66)
end Go.Sx

set_option maxRecDepth 1000000
set_option linter.unusedVariables false
namespace Go.Sx
open Go.Proofs

section
variable (B : Nat) (st : List (BitVec 64)) (buf m : List (BitVec 8)) (nn : Int) {R : Ex → St → Prop}

/-- the rest goes into the buffer -/
theorem wT2 (hb : buf.length = 16) (o n q : Nat) (h0 : 0 < n) (hn : n < 16) (hm : o + n ≤ m.length) (hR : R .r (wEn st (splice buf 0 ((m.drop o).take n)) n m nn)) : Tri P0 B (cxb false) 95 (2 + 4) (wBody.drop 7) (wSt st buf 0 m (.sl (2 + 3) o n q) nn) R := by
  have e : Nat.min n 16 = n := Nat.min_eq_left (by omega)
  refine Tri.fin (cx := cxb false) mix T0ok (HMok B false) 0 (orcL [(76, true)]) [4, 5] [2, 2 + 1, 2 + 2, 2 + 3] (2 + 4) .r (wEn st (splice buf 0 ((m.drop o).take (Nat.min n 16))) (0 + ((Nat.min n 16 : Nat) : Int)) m nn) ([decide ((0 : Int) < (↑n : Int)) = true, (0 : Nat) + (23 : Nat) - (7 : Nat) - (16 : Nat) < List.length [(0 : Int)], (0 : Nat) + (23 : Nat) - (7 : Nat) - (16 : Nat) < List.length [(0 : Int)], (0 : Int) ≤ List.getD [(0 : Int)] ((0 : Nat) + (23 : Nat) - (7 : Nat) - (16 : Nat)) (0 : Int) ∧ List.getD [(0 : Int)] ((0 : Nat) + (23 : Nat) - (7 : Nat) - (16 : Nat)) (0 : Int) ≤ (↑(16 : Nat) : Int) ∧ (↑(16 : Nat) : Int) ≤ (↑(16 : Nat) : Int), o + n ≤ List.length m ∧ Int.toNat (List.getD [(0 : Int)] ((0 : Nat) + (23 : Nat) - (7 : Nat) - (16 : Nat)) (0 : Int)) + ((0 : Nat) + (7 : Nat) - (7 : Nat)) + (Int.toNat (↑(16 : Nat) : Int) - Int.toNat (List.getD [(0 : Int)] ((0 : Nat) + (23 : Nat) - (7 : Nat) - (16 : Nat)) (0 : Int))) ≤ (16 : Nat), some (Seg.mk (1 : Nat) (SegD.di [(0 : Int)]) true false false) = some (Seg.mk (1 : Nat) (SegD.di [(0 : Int)]) true false false), rng (List.getD [(0 : Int)] ((0 : Nat) + (23 : Nat) - (7 : Nat) - (16 : Nat)) (0 : Int) + (↑(Nat.min n (Int.toNat (↑(16 : Nat) : Int) - Int.toNat (List.getD [(0 : Int)] ((0 : Nat) + (23 : Nat) - (7 : Nat) - (16 : Nat)) (0 : Int)))) : Int)), (0 : Nat) + (23 : Nat) - (7 : Nat) - (16 : Nat) + (1 : Nat) ≤ (1 : Nat)]) (by kernel_rfl) ?_ (by kernel_rfl) ?_
  · (repeat' (first | exact obNil | refine obCons ?_ ?_))
    all_goals first | exact decide_eq_true (by omega) | rfl | trivial | decide | omega | (show rng ((0 : Int) + ((Nat.min n 16 : Nat) : Int)); rw [e]; unfold rng; omega)
  · rw [e, Int.zero_add]; exact hR

theorem wT2z (o q : Nat) (hR : R .r (wEn st buf 0 m nn)) : Tri P0 B (cxb false) 95 (2 + 4) (wBody.drop 7) (wSt st buf 0 m (.sl (2 + 3) o 0 q) nn) R :=
  Tri.fin (cx := cxb false) mix T0ok (HMok B false) 0 noOrc [4, 5] [2, 2 + 1, 2 + 2, 2 + 3] (2 + 4) .r (wEn st buf 0 m nn) [] (by kernel_rfl) obNil (by kernel_rfl) hR

/-- whole blocks are taken up -/
theorem wT1 (hz : (st.getD 2 0).toNat ≤ 5) (hr0 : (st.getD 3 0).toNat < 2 ^ 60) (hr1 : (st.getD 4 0).toNat < 2 ^ 60) (o n q : Nat) (h16 : 16 ≤ n) (hq : n ≤ q) (hm : o + n ≤ m.length) (hl : m.length ≤ 4294967295)
    (h : Tri P0 B (cxb false) 95 (2 + 4) (wBody.drop 7) (wSt (setH st (uS ((m.drop o).take (n - n % 16)) st)) buf 0 m (.sl (2 + 3) (if q = n - n % 16 then o else n - n % 16 + o) (n % 16) (q - (n - n % 16))) nn) R) :
    Tri P0 B (cxb false) 95 (2 + 4) (wBody.drop 4) (wSt st buf 0 m (.sl (2 + 3) o n q) nn) R := by
  have e : Int.toNat ((n : Int) - (n : Int) % 16) = n - n % 16 := by omega
  have e2 : Int.toNat (n : Int) - Int.toNat ((n : Int) - (n : Int) % 16) = n % 16 := by omega
  have e3 : (if q = Int.toNat (0 : Int) then o else Int.toNat (0 : Int) + o) = o := by rw [if_neg (by show ¬ q = 0; omega)]; show 0 + o = o; omega
  refine Tri.step (cx := cxb false) mix T0ok (HMok B false) 3 0 (orcL [(63, true)]) [0, 1, 6] [2, 2 + 1, 2 + 2, 2 + 3] (2 + 4) (wSt (setH st (uS (List.take (Int.toNat ((n : Int) - (n : Int) % 16) - Int.toNat (0 : Int)) (List.drop (if q = Int.toNat (0 : Int) then o else Int.toNat (0 : Int) + o) m)) st)) buf 0 m
    (.sl (2 + 3) (if q = Int.toNat ((n : Int) - (n : Int) % 16) then o else Int.toNat ((n : Int) - (n : Int) % 16) + o) (Int.toNat (n : Int) - Int.toNat ((n : Int) - (n : Int) % 16)) (q - Int.toNat ((n : Int) - (n : Int) % 16))) nn) ([(0 : Int) ≤ (↑n : Int) ∧ (0 : Int) < (16 : Int), rng ((↑n : Int) - (↑n : Int) % (16 : Int)), decide ((0 : Int) < (↑n : Int) - (↑n : Int) % (16 : Int)) = true, (0 : Int) ≤ (0 : Int) ∧ (0 : Int) ≤ (↑n : Int) - (↑n : Int) % (16 : Int) ∧ (↑n : Int) - (↑n : Int) % (16 : Int) ≤ (↑q : Int), (0 : Nat) + (0 : Nat) + (7 : Nat) ≤ List.length (lit (0 : BitVec (64 : Nat)) (7 : Nat) st), (if q = Int.toNat (0 : Int) then o else Int.toNat (0 : Int) + o) + (Int.toNat ((↑n : Int) - (↑n : Int) % (16 : Int)) - Int.toNat (0 : Int)) ≤ List.length m ∧ Int.toNat ((↑n : Int) - (↑n : Int) % (16 : Int)) - Int.toNat (0 : Int) ≤ q - Int.toNat (0 : Int), List.length (setH (List.take (7 : Nat) (List.drop ((0 : Nat) + (0 : Nat)) (lit (0 : BitVec (64 : Nat)) (7 : Nat) st))) (uS (List.take (Int.toNat ((↑n : Int) - (↑n : Int) % (16 : Int)) - Int.toNat (0 : Int)) (List.drop (if q = Int.toNat (0 : Int) then o else Int.toNat (0 : Int) + o) m)) (List.take (7 : Nat) (List.drop ((0 : Nat) + (0 : Nat)) (lit (0 : BitVec (64 : Nat)) (7 : Nat) st))))) = List.length (List.take (7 : Nat) (List.drop ((0 : Nat) + (0 : Nat)) (lit (0 : BitVec (64 : Nat)) (7 : Nat) st))) ∧ List.length (List.take (Int.toNat ((↑n : Int) - (↑n : Int) % (16 : Int)) - Int.toNat (0 : Int)) (List.drop (if q = Int.toNat (0 : Int) then o else Int.toNat (0 : Int) + o) m)) = List.length (List.take (Int.toNat ((↑n : Int) - (↑n : Int) % (16 : Int)) - Int.toNat (0 : Int)) (List.drop (if q = Int.toNat (0 : Int) then o else Int.toNat (0 : Int) + o) m)) ∧ True, BitVec.toNat (List.getD (List.take (7 : Nat) (List.drop ((0 : Nat) + (0 : Nat)) (lit (0 : BitVec (64 : Nat)) (7 : Nat) st))) (2 : Nat) (0 : BitVec (64 : Nat))) ≤ (5 : Nat), BitVec.toNat (List.getD (List.take (7 : Nat) (List.drop ((0 : Nat) + (0 : Nat)) (lit (0 : BitVec (64 : Nat)) (7 : Nat) st))) (3 : Nat) (0 : BitVec (64 : Nat))) < (2 : Nat) ^ (60 : Nat), BitVec.toNat (List.getD (List.take (7 : Nat) (List.drop ((0 : Nat) + (0 : Nat)) (lit (0 : BitVec (64 : Nat)) (7 : Nat) st))) (4 : Nat) (0 : BitVec (64 : Nat))) < (2 : Nat) ^ (60 : Nat), (0 : Int) ≤ (↑n : Int) - (↑n : Int) % (16 : Int) ∧ (↑n : Int) - (↑n : Int) % (16 : Int) ≤ (↑n : Int) ∧ (↑n : Int) ≤ (↑q : Int)]) (by kernel_rfl) ?_ (by kernel_rfl) ?_
  · (repeat' (first | exact obNil | refine obCons ?_ ?_))
    all_goals first | exact decide_eq_true (by omega) | exact ⟨rfl, rfl, trivial⟩ | exact hz | exact hr0 | exact hr1 | (unfold rng; omega) | (rw [e3]; omega) | (simp [lit_length]; done) | omega
  · rw [e3, e2, e]
    exact h

theorem wT1z (o n q : Nat) (h16 : n < 16) (h : Tri P0 B (cxb false) 95 (2 + 4) (wBody.drop 7) (wSt st buf 0 m (.sl (2 + 3) o n q) nn) R) :
    Tri P0 B (cxb false) 95 (2 + 4) (wBody.drop 4) (wSt st buf 0 m (.sl (2 + 3) o n q) nn) R := by
  refine Tri.step (cx := cxb false) mix T0ok (HMok B false) 3 0 (orcL [(63, false)]) [0, 1, 6] [2, 2 + 1, 2 + 2, 2 + 3] (2 + 4) (wSt st buf 0 m (.sl (2 + 3) o n q) nn) ([(0 : Int) ≤ (↑n : Int) ∧ (0 : Int) < (16 : Int), rng ((↑n : Int) - (↑n : Int) % (16 : Int)), decide ((0 : Int) < (↑n : Int) - (↑n : Int) % (16 : Int)) = false]) (by kernel_rfl) ?_ (by kernel_rfl) h
  (repeat' (first | exact obNil | refine obCons ?_ ?_))
  all_goals first | exact decide_eq_false (by omega) | (unfold rng; omega) | omega
end

/-- what Write does, from an empty buffer -/
def mtS (st : List (BitVec 64)) (m : List (BitVec 8)) : List (BitVec 64) := if 16 ≤ m.length then setH st (uS (m.take (m.length - m.length % 16)) st) else st
def mtB (buf m : List (BitVec 8)) : List (BitVec 8) := if m.length % 16 = 0 then buf else splice buf 0 (m.drop (m.length - m.length % 16))
/-- what Write does -/
def mwS (st : List (BitVec 64)) (buf : List (BitVec 8)) (k : Nat) (m : List (BitVec 8)) : List (BitVec 64) := if k = 0 then mtS st m else if k + m.length < 16 then st else mtS (setH st (uS (splice buf k (m.take (16 - k))) st)) (m.drop (16 - k))
def mwB (buf : List (BitVec 8)) (k : Nat) (m : List (BitVec 8)) : List (BitVec 8) := if k = 0 then mtB buf m else if k + m.length < 16 then splice buf k m else mtB (splice buf k (m.take (16 - k))) (m.drop (16 - k))

section
variable (B : Nat) (st : List (BitVec 64)) (buf m : List (BitVec 8)) (nn : Int) {R : Ex → St → Prop}

theorem wTail (hb : buf.length = 16) (hz : (st.getD 2 0).toNat ≤ 5) (hr0 : (st.getD 3 0).toNat < 2 ^ 60) (hr1 : (st.getD 4 0).toNat < 2 ^ 60) (p : List (BitVec 8)) (o q : Nat) (hq : p.length ≤ q) (hp : 0 < p.length → m.drop o = p ∧ o + p.length = m.length) (hl : m.length ≤ 4294967295)
    (hR : R .r (wEn (mtS st p) (mtB buf p) ((p.length % 16 : Nat) : Int) m nn)) : Tri P0 B (cxb false) 95 (2 + 4) (wBody.drop 4) (wSt st buf 0 m (.sl (2 + 3) o p.length q) nn) R := by
  by_cases h16 : 16 ≤ p.length
  · obtain ⟨hd, ho⟩ := hp (by omega)
    refine wT1 B st buf m nn hz hr0 hr1 o p.length q h16 hq (by omega) hl ?_
    rw [hd]
    unfold mtS at hR
    rw [if_pos h16] at hR
    by_cases h0 : p.length % 16 = 0
    · rw [h0]
      refine wT2z B _ buf m nn _ _ ?_
      unfold mtB at hR
      rw [if_pos h0, h0] at hR
      exact hR
    · refine wT2 B _ buf m nn hb _ _ _ (by omega) (by omega) (by split <;> omega) ?_
      unfold mtB at hR
      rw [if_neg h0] at hR
      have e : (m.drop (if q = p.length - p.length % 16 then o else p.length - p.length % 16 + o)).take (p.length % 16) = p.drop (p.length - p.length % 16) := by
        rw [if_neg (by omega), Nat.add_comm, ← List.drop_drop, hd]
        exact List.take_of_length_le (by rw [List.length_drop]; omega)
      rw [e]; exact hR
  · refine wT1z B st buf m nn o p.length q (by omega) ?_
    unfold mtS at hR
    rw [if_neg h16] at hR
    rcases Nat.eq_zero_or_pos p.length with h0 | h0
    · unfold mtB at hR
      rw [if_pos (by omega), show p.length % 16 = 0 by omega] at hR
      rw [h0]
      exact wT2z B st buf m nn _ _ hR
    · obtain ⟨hd, ho⟩ := hp h0
      unfold mtB at hR
      rw [if_neg (by omega), Nat.mod_eq_of_lt (by omega), Nat.sub_self, List.drop_zero] at hR
      refine wT2 B st buf m nn hb o p.length q h0 (by omega) (by omega) ?_
      rw [hd, List.take_length]
      exact hR
end
end Go.Sx

set_option maxRecDepth 1000000
set_option linter.unusedVariables false
namespace Go.Sx
open Go.Proofs

theorem uS_z (m : List (BitVec 8)) (st : List (BitVec 64)) (hz : (st.getD 2 0).toNat ≤ 5) (hr0 : (st.getD 3 0).toNat < 2 ^ 60) (hr1 : (st.getD 4 0).toNat < 2 ^ 60) : (uS m st).z.toNat ≤ 5 := (updS_spec (getH st) _ _ m hz hr0 hr1).2

section
variable (B : Nat) (st : List (BitVec 64)) (buf m : List (BitVec 8)) {R : Ex → St → Prop}

theorem wAll (hb : buf.length = 16) (hz : (st.getD 2 0).toNat ≤ 5) (hr0 : (st.getD 3 0).toNat < 2 ^ 60) (hr1 : (st.getD 4 0).toNat < 2 ^ 60) (k q : Nat) (hk : k < 16) (hq : m.length ≤ q) (hl : m.length ≤ 4294967295)
    (hR : R .r (wEn (mwS st buf k m) (mwB buf k m) (((k + m.length) % 16 : Nat) : Int) m (m.length : Int))) : Tri P0 B (cxb false) 95 (2 + 4) wBody (wS0 st buf k m (.sl (2 + 3) 0 m.length q)) R := by
  rcases Nat.eq_zero_or_pos k with rfl | h0
  · refine Tri.step (cx := cxb false) mix T0ok (HMok B false) 4 0 (orcL [(15, false)]) [0, 1, 6] [2, 2 + 1, 2 + 2, 2 + 3] (2 + 4) (wSt st buf 0 m (.sl (2 + 3) 0 m.length q) (m.length : Int)) (let k : Nat := 0; [(0 : Nat) + (23 : Nat) - (7 : Nat) - (16 : Nat) < List.length [(↑k : Int)], decide ((0 : Int) < List.getD [(↑k : Int)] ((0 : Nat) + (23 : Nat) - (7 : Nat) - (16 : Nat)) (0 : Int)) = false]) (by kernel_rfl) (obCons (by decide) <| obCons (by decide) obNil) (by kernel_rfl) ?_
    refine wTail B st buf m _ hb hz hr0 hr1 m 0 q hq (fun _ => ⟨List.drop_zero, by omega⟩) hl ?_
    unfold mwS mwB at hR
    rw [if_pos rfl, if_pos rfl, Nat.zero_add] at hR
    exact hR
  · have kn : Int.toNat (k : Int) = k := by omega
    have i1 : (if (16 : Nat) = Int.toNat (List.getD [(k : Int)] ((0 : Nat) + (23 : Nat) - (7 : Nat) - (16 : Nat)) (0 : Int)) then (0 : Nat) + (7 : Nat) - (7 : Nat) else Int.toNat (List.getD [(k : Int)] ((0 : Nat) + (23 : Nat) - (7 : Nat) - (16 : Nat)) (0 : Int)) + ((0 : Nat) + (7 : Nat) - (7 : Nat))) = k := by
      rw [if_neg (by show ¬ 16 = Int.toNat (k : Int); omega)]; show Int.toNat (k : Int) + 0 = k; omega
    have i2 : Nat.min m.length (Int.toNat ((16 : Nat) : Int) - Int.toNat (List.getD [(k : Int)] ((0 : Nat) + (23 : Nat) - (7 : Nat) - (16 : Nat)) (0 : Int))) = min m.length (16 - k) := rfl
    by_cases he : k + m.length < 16
    · refine Tri.fin (cx := cxb false) mix T0ok (HMok B false) 0 (orcL [(15, true), (32, true)]) [4, 5] [2, 2 + 1, 2 + 2, 2 + 3] (2 + 4) .r (wEn st (splice buf (if (16 : Nat) = Int.toNat (List.getD [(k : Int)] ((0 : Nat) + (23 : Nat) - (7 : Nat) - (16 : Nat)) (0 : Int)) then (0 : Nat) + (7 : Nat) - (7 : Nat) else Int.toNat (List.getD [(k : Int)] ((0 : Nat) + (23 : Nat) - (7 : Nat) - (16 : Nat)) (0 : Int)) + ((0 : Nat) + (7 : Nat) - (7 : Nat))) ((m.drop 0).take (min m.length (16 - k)))) ((k : Int) + ((min m.length (16 - k) : Nat) : Int)) m (m.length : Int)) ([(0 : Nat) + (23 : Nat) - (7 : Nat) - (16 : Nat) < List.length [(↑k : Int)], decide ((0 : Int) < List.getD [(↑k : Int)] ((0 : Nat) + (23 : Nat) - (7 : Nat) - (16 : Nat)) (0 : Int)) = true, (0 : Nat) + (23 : Nat) - (7 : Nat) - (16 : Nat) < List.length [(↑k : Int)], (0 : Int) ≤ List.getD [(↑k : Int)] ((0 : Nat) + (23 : Nat) - (7 : Nat) - (16 : Nat)) (0 : Int) ∧ List.getD [(↑k : Int)] ((0 : Nat) + (23 : Nat) - (7 : Nat) - (16 : Nat)) (0 : Int) ≤ (↑(16 : Nat) : Int) ∧ (↑(16 : Nat) : Int) ≤ (↑(16 : Nat) : Int), (0 : Nat) + List.length m ≤ List.length m ∧ (if (16 : Nat) = Int.toNat (List.getD [(↑k : Int)] ((0 : Nat) + (23 : Nat) - (7 : Nat) - (16 : Nat)) (0 : Int)) then (0 : Nat) + (7 : Nat) - (7 : Nat) else Int.toNat (List.getD [(↑k : Int)] ((0 : Nat) + (23 : Nat) - (7 : Nat) - (16 : Nat)) (0 : Int)) + ((0 : Nat) + (7 : Nat) - (7 : Nat))) + (Int.toNat (↑(16 : Nat) : Int) - Int.toNat (List.getD [(↑k : Int)] ((0 : Nat) + (23 : Nat) - (7 : Nat) - (16 : Nat)) (0 : Int))) ≤ (16 : Nat), (0 : Nat) + (23 : Nat) - (7 : Nat) - (16 : Nat) < List.length [(↑k : Int)], rng (List.getD [(↑k : Int)] ((0 : Nat) + (23 : Nat) - (7 : Nat) - (16 : Nat)) (0 : Int) + (↑(Nat.min (List.length m) (Int.toNat (↑(16 : Nat) : Int) - Int.toNat (List.getD [(↑k : Int)] ((0 : Nat) + (23 : Nat) - (7 : Nat) - (16 : Nat)) (0 : Int)))) : Int)), decide (List.getD [(↑k : Int)] ((0 : Nat) + (23 : Nat) - (7 : Nat) - (16 : Nat)) (0 : Int) + (↑(Nat.min (List.length m) (Int.toNat (↑(16 : Nat) : Int) - Int.toNat (List.getD [(↑k : Int)] ((0 : Nat) + (23 : Nat) - (7 : Nat) - (16 : Nat)) (0 : Int)))) : Int) < (16 : Int)) = true, (0 : Nat) + (23 : Nat) - (7 : Nat) - (16 : Nat) < List.length [(↑k : Int)], rng (List.getD [(↑k : Int)] ((0 : Nat) + (23 : Nat) - (7 : Nat) - (16 : Nat)) (0 : Int) + (↑(Nat.min (List.length m) (Int.toNat (↑(16 : Nat) : Int) - Int.toNat (List.getD [(↑k : Int)] ((0 : Nat) + (23 : Nat) - (7 : Nat) - (16 : Nat)) (0 : Int)))) : Int)), (0 : Nat) + (23 : Nat) - (7 : Nat) - (16 : Nat) + (1 : Nat) ≤ (1 : Nat)]) (by kernel_rfl) ?_ (by kernel_rfl) ?_
      · rw [i1, i2]
        have e : min m.length (16 - k) = m.length := Nat.min_eq_left (by omega)
        rw [e]
        (repeat' (first | exact obNil | refine obCons ?_ ?_))
        all_goals first | decide | exact Nat.zero_lt_one | (refine decide_eq_true ?_; show _ < _; (first | (show (0 : Int) < (k : Int); omega) | (show (k : Int) + (m.length : Int) < 16; omega))) | (show rng ((k : Int) + (m.length : Int)); unfold rng; omega) | (show 0 ≤ (k : Int) ∧ (k : Int) ≤ 16 ∧ (16 : Int) ≤ 16; omega) | (show 0 + m.length ≤ m.length ∧ k + (16 - Int.toNat (k : Int)) ≤ 16; omega) | omega
      · have hk0 : ¬ k = 0 := by omega
        simp only [mwS, mwB, if_neg hk0, if_pos he, Nat.mod_eq_of_lt he] at hR
        rw [i1, List.drop_zero, Nat.min_eq_left (show m.length ≤ 16 - k by omega), List.take_length]
        have : (k : Int) + (m.length : Int) = ((k + m.length : Nat) : Int) := by omega
        rw [this]
        exact hR
    · refine Tri.step (cx := cxb false) mix T0ok (HMok B false) 4 0 (orcL [(15, true), (32, false)]) [0, 1, 6] [2, 2 + 1, 2 + 2, 2 + 3] (2 + 4) (wSt (setH st (uS (List.take 16 (List.drop 0 (splice buf (if (16 : Nat) = Int.toNat (List.getD [(k : Int)] ((0 : Nat) + (23 : Nat) - (7 : Nat) - (16 : Nat)) (0 : Int)) then (0 : Nat) + (7 : Nat) - (7 : Nat) else Int.toNat (List.getD [(k : Int)] ((0 : Nat) + (23 : Nat) - (7 : Nat) - (16 : Nat)) (0 : Int)) + ((0 : Nat) + (7 : Nat) - (7 : Nat))) ((m.drop 0).take (min m.length (16 - k)))))) st)) (splice buf (if (16 : Nat) = Int.toNat (List.getD [(k : Int)] ((0 : Nat) + (23 : Nat) - (7 : Nat) - (16 : Nat)) (0 : Int)) then (0 : Nat) + (7 : Nat) - (7 : Nat) else Int.toNat (List.getD [(k : Int)] ((0 : Nat) + (23 : Nat) - (7 : Nat) - (16 : Nat)) (0 : Int)) + ((0 : Nat) + (7 : Nat) - (7 : Nat))) ((m.drop 0).take (min m.length (16 - k)))) 0 m (.sl (2 + 3) (if q = min m.length (16 - k) then 0 else min m.length (16 - k) + 0) (m.length - min m.length (16 - k)) (q - min m.length (16 - k))) (m.length : Int)) ([(0 : Nat) + (23 : Nat) - (7 : Nat) - (16 : Nat) < List.length [(↑k : Int)], decide ((0 : Int) < List.getD [(↑k : Int)] ((0 : Nat) + (23 : Nat) - (7 : Nat) - (16 : Nat)) (0 : Int)) = true, (0 : Nat) + (23 : Nat) - (7 : Nat) - (16 : Nat) < List.length [(↑k : Int)], (0 : Int) ≤ List.getD [(↑k : Int)] ((0 : Nat) + (23 : Nat) - (7 : Nat) - (16 : Nat)) (0 : Int) ∧ List.getD [(↑k : Int)] ((0 : Nat) + (23 : Nat) - (7 : Nat) - (16 : Nat)) (0 : Int) ≤ (↑(16 : Nat) : Int) ∧ (↑(16 : Nat) : Int) ≤ (↑(16 : Nat) : Int), (0 : Nat) + List.length m ≤ List.length m ∧ (if (16 : Nat) = Int.toNat (List.getD [(↑k : Int)] ((0 : Nat) + (23 : Nat) - (7 : Nat) - (16 : Nat)) (0 : Int)) then (0 : Nat) + (7 : Nat) - (7 : Nat) else Int.toNat (List.getD [(↑k : Int)] ((0 : Nat) + (23 : Nat) - (7 : Nat) - (16 : Nat)) (0 : Int)) + ((0 : Nat) + (7 : Nat) - (7 : Nat))) + (Int.toNat (↑(16 : Nat) : Int) - Int.toNat (List.getD [(↑k : Int)] ((0 : Nat) + (23 : Nat) - (7 : Nat) - (16 : Nat)) (0 : Int))) ≤ (16 : Nat), (0 : Nat) + (23 : Nat) - (7 : Nat) - (16 : Nat) < List.length [(↑k : Int)], rng (List.getD [(↑k : Int)] ((0 : Nat) + (23 : Nat) - (7 : Nat) - (16 : Nat)) (0 : Int) + (↑(Nat.min (List.length m) (Int.toNat (↑(16 : Nat) : Int) - Int.toNat (List.getD [(↑k : Int)] ((0 : Nat) + (23 : Nat) - (7 : Nat) - (16 : Nat)) (0 : Int)))) : Int)), decide (List.getD [(↑k : Int)] ((0 : Nat) + (23 : Nat) - (7 : Nat) - (16 : Nat)) (0 : Int) + (↑(Nat.min (List.length m) (Int.toNat (↑(16 : Nat) : Int) - Int.toNat (List.getD [(↑k : Int)] ((0 : Nat) + (23 : Nat) - (7 : Nat) - (16 : Nat)) (0 : Int)))) : Int) < (16 : Int)) = false, (0 : Int) ≤ (↑(Nat.min (List.length m) (Int.toNat (↑(16 : Nat) : Int) - Int.toNat (List.getD [(↑k : Int)] ((0 : Nat) + (23 : Nat) - (7 : Nat) - (16 : Nat)) (0 : Int)))) : Int) ∧ (↑(Nat.min (List.length m) (Int.toNat (↑(16 : Nat) : Int) - Int.toNat (List.getD [(↑k : Int)] ((0 : Nat) + (23 : Nat) - (7 : Nat) - (16 : Nat)) (0 : Int)))) : Int) ≤ (↑(List.length m) : Int) ∧ (↑(List.length m) : Int) ≤ (↑q : Int), (0 : Nat) + (23 : Nat) - (7 : Nat) - (16 : Nat) + (1 : Nat) ≤ (1 : Nat), (0 : Int) ≤ (0 : Int) ∧ (0 : Int) ≤ (↑(16 : Nat) : Int) ∧ (↑(16 : Nat) : Int) ≤ (↑(16 : Nat) : Int), (0 : Nat) + (0 : Nat) + (7 : Nat) ≤ List.length (lit (0 : BitVec (64 : Nat)) (7 : Nat) st), Int.toNat (0 : Int) + ((0 : Nat) + (7 : Nat) - (7 : Nat)) + (Int.toNat (↑(16 : Nat) : Int) - Int.toNat (0 : Int)) ≤ List.length (splice buf (if (16 : Nat) = Int.toNat (List.getD [(↑k : Int)] ((0 : Nat) + (23 : Nat) - (7 : Nat) - (16 : Nat)) (0 : Int)) then (0 : Nat) + (7 : Nat) - (7 : Nat) else Int.toNat (List.getD [(↑k : Int)] ((0 : Nat) + (23 : Nat) - (7 : Nat) - (16 : Nat)) (0 : Int)) + ((0 : Nat) + (7 : Nat) - (7 : Nat))) (List.take (Nat.min (List.length m) (Int.toNat (↑(16 : Nat) : Int) - Int.toNat (List.getD [(↑k : Int)] ((0 : Nat) + (23 : Nat) - (7 : Nat) - (16 : Nat)) (0 : Int)))) (List.drop (0 : Nat) m))) ∧ Int.toNat (↑(16 : Nat) : Int) - Int.toNat (0 : Int) ≤ (16 : Nat) - Int.toNat (0 : Int), List.length (setH (List.take (7 : Nat) (List.drop ((0 : Nat) + (0 : Nat)) (lit (0 : BitVec (64 : Nat)) (7 : Nat) st))) (uS (List.take (Int.toNat (↑(16 : Nat) : Int) - Int.toNat (0 : Int)) (List.drop (Int.toNat (0 : Int) + ((0 : Nat) + (7 : Nat) - (7 : Nat))) (splice buf (if (16 : Nat) = Int.toNat (List.getD [(↑k : Int)] ((0 : Nat) + (23 : Nat) - (7 : Nat) - (16 : Nat)) (0 : Int)) then (0 : Nat) + (7 : Nat) - (7 : Nat) else Int.toNat (List.getD [(↑k : Int)] ((0 : Nat) + (23 : Nat) - (7 : Nat) - (16 : Nat)) (0 : Int)) + ((0 : Nat) + (7 : Nat) - (7 : Nat))) (List.take (Nat.min (List.length m) (Int.toNat (↑(16 : Nat) : Int) - Int.toNat (List.getD [(↑k : Int)] ((0 : Nat) + (23 : Nat) - (7 : Nat) - (16 : Nat)) (0 : Int)))) (List.drop (0 : Nat) m))))) (List.take (7 : Nat) (List.drop ((0 : Nat) + (0 : Nat)) (lit (0 : BitVec (64 : Nat)) (7 : Nat) st))))) = List.length (List.take (7 : Nat) (List.drop ((0 : Nat) + (0 : Nat)) (lit (0 : BitVec (64 : Nat)) (7 : Nat) st))) ∧ List.length (List.take (Int.toNat (↑(16 : Nat) : Int) - Int.toNat (0 : Int)) (List.drop (Int.toNat (0 : Int) + ((0 : Nat) + (7 : Nat) - (7 : Nat))) (splice buf (if (16 : Nat) = Int.toNat (List.getD [(↑k : Int)] ((0 : Nat) + (23 : Nat) - (7 : Nat) - (16 : Nat)) (0 : Int)) then (0 : Nat) + (7 : Nat) - (7 : Nat) else Int.toNat (List.getD [(↑k : Int)] ((0 : Nat) + (23 : Nat) - (7 : Nat) - (16 : Nat)) (0 : Int)) + ((0 : Nat) + (7 : Nat) - (7 : Nat))) (List.take (Nat.min (List.length m) (Int.toNat (↑(16 : Nat) : Int) - Int.toNat (List.getD [(↑k : Int)] ((0 : Nat) + (23 : Nat) - (7 : Nat) - (16 : Nat)) (0 : Int)))) (List.drop (0 : Nat) m))))) = List.length (List.take (Int.toNat (↑(16 : Nat) : Int) - Int.toNat (0 : Int)) (List.drop (Int.toNat (0 : Int) + ((0 : Nat) + (7 : Nat) - (7 : Nat))) (splice buf (if (16 : Nat) = Int.toNat (List.getD [(↑k : Int)] ((0 : Nat) + (23 : Nat) - (7 : Nat) - (16 : Nat)) (0 : Int)) then (0 : Nat) + (7 : Nat) - (7 : Nat) else Int.toNat (List.getD [(↑k : Int)] ((0 : Nat) + (23 : Nat) - (7 : Nat) - (16 : Nat)) (0 : Int)) + ((0 : Nat) + (7 : Nat) - (7 : Nat))) (List.take (Nat.min (List.length m) (Int.toNat (↑(16 : Nat) : Int) - Int.toNat (List.getD [(↑k : Int)] ((0 : Nat) + (23 : Nat) - (7 : Nat) - (16 : Nat)) (0 : Int)))) (List.drop (0 : Nat) m))))) ∧ True, BitVec.toNat (List.getD (List.take (7 : Nat) (List.drop ((0 : Nat) + (0 : Nat)) (lit (0 : BitVec (64 : Nat)) (7 : Nat) st))) (2 : Nat) (0 : BitVec (64 : Nat))) ≤ (5 : Nat), BitVec.toNat (List.getD (List.take (7 : Nat) (List.drop ((0 : Nat) + (0 : Nat)) (lit (0 : BitVec (64 : Nat)) (7 : Nat) st))) (3 : Nat) (0 : BitVec (64 : Nat))) < (2 : Nat) ^ (60 : Nat), BitVec.toNat (List.getD (List.take (7 : Nat) (List.drop ((0 : Nat) + (0 : Nat)) (lit (0 : BitVec (64 : Nat)) (7 : Nat) st))) (4 : Nat) (0 : BitVec (64 : Nat))) < (2 : Nat) ^ (60 : Nat)]) (by kernel_rfl) ?_ (by kernel_rfl) ?_
      · have sl : (splice buf k ((m.drop 0).take (16 - k))).length = 16 := by rw [splice_length] <;> simp [hb] <;> omega
        rw [i1, i2]
        have e : min m.length (16 - k) = 16 - k := Nat.min_eq_right (by omega)
        rw [e]
        (repeat' (first | exact obNil | refine obCons ?_ ?_))
        all_goals first | decide | exact Nat.zero_lt_one | exact hz | exact hr0 | exact hr1 | exact ⟨rfl, rfl, trivial⟩ | (refine decide_eq_true ?_; show (0 : Int) < (k : Int); omega) | (refine decide_eq_false ?_; show ¬ (k : Int) + ((16 - k : Nat) : Int) < 16; omega) | (show rng ((k : Int) + ((16 - k : Nat) : Int)); unfold rng; omega) | (show 0 ≤ (k : Int) ∧ (k : Int) ≤ 16 ∧ (16 : Int) ≤ 16; omega) | (show 0 + m.length ≤ m.length ∧ k + (16 - Int.toNat (k : Int)) ≤ 16; omega) | (show 0 + 16 ≤ (splice buf k ((m.drop 0).take (16 - k))).length ∧ _; rw [sl]; decide) | (simp [lit_length]; done) | omega
      · have sl : (splice buf k (m.take (16 - k))).length = 16 := by rw [splice_length] <;> simp [hb] <;> omega
        rw [i1, Nat.min_eq_right (show 16 - k ≤ m.length by omega), List.drop_zero, List.drop_zero, List.take_of_length_le (Nat.le_of_eq sl)]
        have hu := uS_z (splice buf k (m.take (16 - k))) st hz hr0 hr1
        have hlen : m.length - (16 - k) = (m.drop (16 - k)).length := by rw [List.length_drop]
        rw [hlen]
        refine wTail B (setH st (uS (splice buf k (m.take (16 - k))) st)) (splice buf k (m.take (16 - k))) m _ sl hu hr0 hr1 (m.drop (16 - k)) _ _ (by rw [List.length_drop]; omega) (fun h => ?_) hl ?_
        · rw [List.length_drop] at h ⊢
          rw [if_neg (by omega), Nat.add_zero]
          exact ⟨rfl, by omega⟩
        · have hk0 : ¬ k = 0 := by omega
          simp only [mwS, mwB, if_neg hk0, if_neg he] at hR
          rw [List.length_drop, show (m.length - (16 - k)) % 16 = (k + m.length) % 16 by omega]
          exact hR

theorem wNil (hb : buf.length = 16) (k : Nat) (hk : k < 16) (hR : R .r (wEn st buf (k : Int) [] 0)) : Tri P0 B (cxb false) 95 (2 + 4) wBody (wS0 st buf k [] .sl0) R := by
  rcases Nat.eq_zero_or_pos k with rfl | h0
  · refine Tri.fin (cx := cxb false) mix T0ok (HMok B false) 0 (orcL [(15, false), (63, false), (76, false)]) [4, 5] [2, 2 + 1, 2 + 2, 2 + 3] (2 + 4) .r (wEn st buf 0 [] 0) ([(0 : Nat) + (23 : Nat) - (7 : Nat) - (16 : Nat) < List.length [(↑(0 : Nat) : Int)], decide ((0 : Int) < List.getD [(↑(0 : Nat) : Int)] ((0 : Nat) + (23 : Nat) - (7 : Nat) - (16 : Nat)) (0 : Int)) = false, (0 : Int) ≤ (0 : Int) ∧ (0 : Int) < (16 : Int), rng ((0 : Int) - (0 : Int) % (16 : Int)), decide ((0 : Int) < (0 : Int) - (0 : Int) % (16 : Int)) = false, decide ((0 : Int) < (0 : Int)) = false]) (by kernel_rfl) ?_ (by kernel_rfl) hR
    (repeat' (first | exact obNil | refine obCons ?_ ?_))
    all_goals first | decide | (unfold rng; decide)
  · have i1 : (if (16 : Nat) = Int.toNat (List.getD [(k : Int)] ((0 : Nat) + (23 : Nat) - (7 : Nat) - (16 : Nat)) (0 : Int)) then (0 : Nat) + (7 : Nat) - (7 : Nat) else Int.toNat (List.getD [(k : Int)] ((0 : Nat) + (23 : Nat) - (7 : Nat) - (16 : Nat)) (0 : Int)) + ((0 : Nat) + (7 : Nat) - (7 : Nat))) = k := by
      rw [if_neg (by show ¬ 16 = Int.toNat (k : Int); omega)]; show Int.toNat (k : Int) + 0 = k; omega
    have i2 : Nat.min 0 (Int.toNat ((16 : Nat) : Int) - Int.toNat (List.getD [(k : Int)] ((0 : Nat) + (23 : Nat) - (7 : Nat) - (16 : Nat)) (0 : Int))) = 0 := Nat.zero_min _
    refine Tri.fin (cx := cxb false) mix T0ok (HMok B false) 0 (orcL [(15, true), (32, true)]) [4, 5] [2, 2 + 1, 2 + 2, 2 + 3] (2 + 4) .r (wEn st (splice buf (if (16 : Nat) = Int.toNat (List.getD [(k : Int)] ((0 : Nat) + (23 : Nat) - (7 : Nat) - (16 : Nat)) (0 : Int)) then (0 : Nat) + (7 : Nat) - (7 : Nat) else Int.toNat (List.getD [(k : Int)] ((0 : Nat) + (23 : Nat) - (7 : Nat) - (16 : Nat)) (0 : Int)) + ((0 : Nat) + (7 : Nat) - (7 : Nat))) (List.take (Nat.min 0 (Int.toNat ((16 : Nat) : Int) - Int.toNat (List.getD [(k : Int)] ((0 : Nat) + (23 : Nat) - (7 : Nat) - (16 : Nat)) (0 : Int)))) (List.drop 0 []))) ((k : Int) + ((Nat.min 0 (Int.toNat ((16 : Nat) : Int) - Int.toNat (List.getD [(k : Int)] ((0 : Nat) + (23 : Nat) - (7 : Nat) - (16 : Nat)) (0 : Int))) : Nat) : Int)) [] 0) ([(0 : Nat) + (23 : Nat) - (7 : Nat) - (16 : Nat) < List.length [(↑k : Int)], decide ((0 : Int) < List.getD [(↑k : Int)] ((0 : Nat) + (23 : Nat) - (7 : Nat) - (16 : Nat)) (0 : Int)) = true, (0 : Nat) + (23 : Nat) - (7 : Nat) - (16 : Nat) < List.length [(↑k : Int)], (0 : Int) ≤ List.getD [(↑k : Int)] ((0 : Nat) + (23 : Nat) - (7 : Nat) - (16 : Nat)) (0 : Int) ∧ List.getD [(↑k : Int)] ((0 : Nat) + (23 : Nat) - (7 : Nat) - (16 : Nat)) (0 : Int) ≤ (↑(16 : Nat) : Int) ∧ (↑(16 : Nat) : Int) ≤ (↑(16 : Nat) : Int), (0 : Nat) + (0 : Nat) ≤ List.length ([] : List (BitVec 8)) ∧ (if (16 : Nat) = Int.toNat (List.getD [(↑k : Int)] ((0 : Nat) + (23 : Nat) - (7 : Nat) - (16 : Nat)) (0 : Int)) then (0 : Nat) + (7 : Nat) - (7 : Nat) else Int.toNat (List.getD [(↑k : Int)] ((0 : Nat) + (23 : Nat) - (7 : Nat) - (16 : Nat)) (0 : Int)) + ((0 : Nat) + (7 : Nat) - (7 : Nat))) + (Int.toNat (↑(16 : Nat) : Int) - Int.toNat (List.getD [(↑k : Int)] ((0 : Nat) + (23 : Nat) - (7 : Nat) - (16 : Nat)) (0 : Int))) ≤ (16 : Nat), (0 : Nat) + (23 : Nat) - (7 : Nat) - (16 : Nat) < List.length [(↑k : Int)], rng (List.getD [(↑k : Int)] ((0 : Nat) + (23 : Nat) - (7 : Nat) - (16 : Nat)) (0 : Int) + (↑(Nat.min (0 : Nat) (Int.toNat (↑(16 : Nat) : Int) - Int.toNat (List.getD [(↑k : Int)] ((0 : Nat) + (23 : Nat) - (7 : Nat) - (16 : Nat)) (0 : Int)))) : Int)), decide (List.getD [(↑k : Int)] ((0 : Nat) + (23 : Nat) - (7 : Nat) - (16 : Nat)) (0 : Int) + (↑(Nat.min (0 : Nat) (Int.toNat (↑(16 : Nat) : Int) - Int.toNat (List.getD [(↑k : Int)] ((0 : Nat) + (23 : Nat) - (7 : Nat) - (16 : Nat)) (0 : Int)))) : Int) < (16 : Int)) = true, (0 : Nat) + (23 : Nat) - (7 : Nat) - (16 : Nat) < List.length [(↑k : Int)], rng (List.getD [(↑k : Int)] ((0 : Nat) + (23 : Nat) - (7 : Nat) - (16 : Nat)) (0 : Int) + (↑(Nat.min (0 : Nat) (Int.toNat (↑(16 : Nat) : Int) - Int.toNat (List.getD [(↑k : Int)] ((0 : Nat) + (23 : Nat) - (7 : Nat) - (16 : Nat)) (0 : Int)))) : Int)), (0 : Nat) + (23 : Nat) - (7 : Nat) - (16 : Nat) + (1 : Nat) ≤ (1 : Nat)]) (by kernel_rfl) ?_ (by kernel_rfl) ?_
    · rw [i1, i2]
      (repeat' (first | exact obNil | refine obCons ?_ ?_))
      all_goals first | decide | exact Nat.zero_lt_one | (refine decide_eq_true ?_; show _ < _; (first | (show (0 : Int) < (k : Int); omega) | (show (k : Int) + ((0 : Nat) : Int) < 16; omega))) | (show rng ((k : Int) + ((0 : Nat) : Int)); unfold rng; omega) | (show 0 ≤ (k : Int) ∧ (k : Int) ≤ 16 ∧ (16 : Int) ≤ 16; omega) | (show 0 + 0 ≤ 0 ∧ k + (16 - Int.toNat (k : Int)) ≤ 16; omega) | omega
    · rw [i1, i2]
      have e : splice buf k (List.take 0 (List.drop 0 ([] : List (BitVec 8)))) = buf := by simp [splice]
      rw [e, show (k : Int) + ((0 : Nat) : Int) = (k : Int) by omega]
      exact hR
end

theorem mtB_length (buf m : List (BitVec 8)) (hb : buf.length = 16) : (mtB buf m).length = 16 := by
  unfold mtB
  split
  · exact hb
  · rw [splice_length] <;> simp [hb] <;> omega
theorem mwB_length (buf : List (BitVec 8)) (k : Nat) (m : List (BitVec 8)) (hb : buf.length = 16) (hk : k < 16) : (mwB buf k m).length = 16 := by
  unfold mwB
  split
  · exact mtB_length buf m hb
  · split
    · rw [splice_length] <;> simp [hb] <;> omega
    · refine mtB_length _ _ ?_
      rw [splice_length] <;> simp [hb] <;> omega
theorem mtS_length (st : List (BitVec 64)) (m : List (BitVec 8)) (hs : st.length = 7) : (mtS st m).length = 7 := by
  unfold mtS; split
  · rfl
  · exact hs
theorem mwS_length (st : List (BitVec 64)) (buf : List (BitVec 8)) (k : Nat) (m : List (BitVec 8)) (hs : st.length = 7) : (mwS st buf k m).length = 7 := by
  unfold mwS
  split
  · exact mtS_length st m hs
  · split
    · exact hs
    · exact mtS_length _ _ rfl

theorem wNilFn (st : List (BitVec 64)) (buf : List (BitVec 8)) (k : Nat) (hk : k < 16) : mwS st buf k [] = st ∧ mwB buf k [] = buf ∧ (k + ([] : List (BitVec 8)).length) % 16 = k := by
  refine ⟨?_, ?_, by rw [List.length_nil, Nat.add_zero, Nat.mod_eq_of_lt hk]⟩
  · unfold mwS mtS
    split
    · rfl
    · rw [if_pos (by simpa using hk)]
  · unfold mwB mtB
    split
    · rfl
    · rw [if_pos (by simpa using hk)]; simp [splice]

def wrCt : Ct := ⟨[.whole true true, .rest true true, .rest true false, .slc false], [], fun vs ds gs => match vs, ds, gs with
  | [], [.d64 st, .d8 buf, .di [off], .d8 m], [] => bif Nat.beq st.length 7 && Nat.beq buf.length 16 then some ⟨.tup [.s (.i (m.length : Int)), .s .f0], [.d64 (lit 0 7 (mwS st buf off.toNat m)), .d8 (lit 0 16 (mwB buf off.toNat m)), .di [(((off.toNat + m.length) % 16 : Nat) : Int)], .d8 m], [],
      [(st.getD 2 0).toNat ≤ 5, (st.getD 3 0).toNat < 2 ^ 60, (st.getD 4 0).toNat < 2 ^ 60, 0 ≤ off ∧ off < 16, m.length ≤ 4294967295]⟩ else none
  | _, _, _ => none⟩

theorem wr_ok (B : Nat) : wrCt.Ok P0 B 2 66 := by
  intro vs ds gs out h hpre hn
  unfold wrCt at h
  dsimp only at h
  split at h <;> first | (cases h; done) | skip
  rename_i st buf off m
  cases hb : (Nat.beq st.length 7 && Nat.beq buf.length 16) with
  | false => rw [hb] at h; cases h
  | true =>
    rw [hb, cond_true] at h
    cases h
    simp only [Bool.and_eq_true] at hb
    have k1 := Nat.eq_of_beq_eq_true hb.1
    have k2 := Nat.eq_of_beq_eq_true hb.2
    have h1 := hpre _ List.mem_cons_self
    have h2 := hpre _ (List.mem_cons_of_mem _ List.mem_cons_self)
    have h3 := hpre _ (List.mem_cons_of_mem _ (List.mem_cons_of_mem _ List.mem_cons_self))
    have h4 := hpre _ (List.mem_cons_of_mem _ (List.mem_cons_of_mem _ (List.mem_cons_of_mem _ List.mem_cons_self)))
    have h5 := hpre _ (List.mem_cons_of_mem _ (List.mem_cons_of_mem _ (List.mem_cons_of_mem _ (List.mem_cons_of_mem _ List.mem_cons_self))))
    obtain ⟨k, rfl⟩ : ∃ k : Nat, off = (k : Int) := ⟨off.toNat, by omega⟩
    have hk : k < 16 := by omega
    rw [Int.toNat_natCast]
    have l1 := mwS_length st buf k m k1
    have l2 := mwB_length buf k m k2 hk
    simp only [wrCt, canArgs, segsOf, globs, addM, List.length_cons, List.length_nil, SegD.len, k1, k2, lit_length, Nat.add_zero, Nat.zero_add]
    rw [lit_eq l2]
    refine FnE.slice (A := fun x => [.one (.s (.p 2 0)), .one (.s x)]) (k := 2 + 3) (n := m.length) (s := ⟨m.length, .d8 m, false, false, false⟩) (fun x y ρ h => by simp [SV.den, SV0.den, h]) (by kernel_rfl) (Nat.le_refl _) (fun c hc => ?_) (fun h0 => ?_)
    · have hm : [(2, ⟨7, .d64 st, true, false, true⟩), (2 + 1, ⟨16, .d8 buf, true, false, true⟩), (2 + 2, ⟨1, .di [(k : Int)], true, false, false⟩), (2 + 3, ⟨m.length, .d8 m, false, false, false⟩)] = wM st buf (k : Int) m := by unfold wM; rw [lit_eq k1]
      rw [hm]
      refine FnE.tri (cx := cxb false) (sz := 95) (fn := Tryz.f66) (c := bodyOf Tryz.f66) T0ok (by kernel_rfl) (by kernel_rfl) (by kernel_rfl) (by kernel_rfl) (by kernel_rfl) (by kernel_rfl) (Nat.le_refl _) ?_
      refine wAll B st buf m k2 h1 h2 h3 k c hk hc h5 ⟨trivial, [2, 2 + 1, 2 + 2, 2 + 3], [], ?_, obNil⟩
      kernel_rfl
    · have hm0 : m = [] := List.eq_nil_of_length_eq_zero h0
      subst hm0
      obtain ⟨n1, n2, n3⟩ := wNilFn st buf k hk
      rw [n1, n2]
      have hm : [(2, ⟨7, .d64 st, true, false, true⟩), (2 + 1, ⟨16, .d8 buf, true, false, true⟩), (2 + 2, ⟨1, .di [(k : Int)], true, false, false⟩), (2 + 3, ⟨([] : List (BitVec 8)).length, .d8 [], false, false, false⟩)] = wM st buf (k : Int) [] := by unfold wM; rw [lit_eq k1]
      rw [hm]
      refine FnE.tri (cx := cxb false) (sz := 95) (fn := Tryz.f66) (c := bodyOf Tryz.f66) T0ok (by kernel_rfl) (by kernel_rfl) (by kernel_rfl) (by kernel_rfl) (by kernel_rfl) (by kernel_rfl) (Nat.le_refl _) ?_
      refine wNil B st buf k2 k hk ⟨trivial, [2, 2 + 1, 2 + 2, 2 + 3], [], ?_, obNil⟩
      rw [List.length_nil, show (k + 0) % 16 = k by omega]
      kernel_rfl
end Go.Sx

set_option maxRecDepth 1000000
set_option linter.unusedVariables false
namespace Go.Sx
open Go.Proofs

def sM (st : List (BitVec 64)) (buf out : List (BitVec 8)) (k : Nat) : Mem := [(2, ⟨7, .d64 (lit 0 7 st), false, false, true⟩), (2 + 1, ⟨16, .d8 buf, false, false, true⟩), (2 + 2, ⟨1, .di [(k : Int)], false, false, false⟩), (2 + 3, ⟨16, .d8 (lit 0 16 out), true, false, false⟩)]
def sS1 (st : List (BitVec 64)) (buf out : List (BitVec 8)) (k : Nat) (L : List (BitVec 64)) : St := ⟨[(1, .one (.s (.p (2 + 3) 0))), (4, .one (.s (.p (2 + 4) 0)))], sM st buf out k ++ [(2 + 4, ⟨7, .d64 (lit 0 7 L), true, false, false⟩)], 2 + 5⟩
/-- the words that Sum ends with -/
def msL (st : List (BitVec 64)) (buf : List (BitVec 8)) (k : Nat) : List (BitVec 64) := if 0 < k then setH st (uS (buf.take k) st) else st
def msO (L : List (BitVec 64)) : List (BitVec 8) := finO [L.getD 0 0, L.getD 1 0, L.getD 2 0] [L.getD 5 0, L.getD 6 0]

theorem sum2 (B : Nat) (st : List (BitVec 64)) (buf out : List (BitVec 8)) (k : Nat) (L : List (BitVec 64)) (hk : k < 16) : Tri P0 B (cxb true) 27 (2 + 4) ((flat (bodyOf Tryz.f67)).drop 3) (sS1 st buf out k L)
    (Ret (cxb true) Tryz.f67.results.toList ⟨.tup [], sM st buf (msO L) k, 2 + 4, .eff, []⟩) := by
  refine Tri.stepR (cx := cxb true) mix T0ok (HMok B true) 1 0 noOrc [] [(2, 2), (2 + 1, 2 + 1), (2 + 2, 2 + 2), (2 + 3, 2 + 3)] (2 + 4) ⟨[], sM st buf (msO L) k, 2 + 4⟩ [] (by kernel_rfl) obNil ?_
  exact Tri.ret (cx := cxb true) mix T0ok (HMok B true) 0 noOrc [] [2, 2 + 1, 2 + 2, 2 + 3] (2 + 4) ⟨[], sM st buf (msO L) k, 2 + 4⟩ [] .n (by kernel_rfl) obNil (by kernel_rfl) rfl [2, 2 + 1, 2 + 2, 2 + 3] [] (by kernel_rfl) obNil

theorem sum1 (B : Nat) (st : List (BitVec 64)) (buf out : List (BitVec 8)) (k : Nat) (hb : buf.length = 16) (hz : (st.getD 2 0).toNat ≤ 5) (hr0 : (st.getD 3 0).toNat < 2 ^ 60) (hr1 : (st.getD 4 0).toNat < 2 ^ 60) (hk : k < 16) :
    FnE P0 B 2 67 [.one (.s (.p 2 0)), .one (.s (.p (2 + 3) 0))] (sM st buf out k) (2 + 4) ⟨.tup [], sM st buf (msO (msL st buf k)) k, 2 + 4, .eff, []⟩ := by
  refine FnE.tri (cx := cxb true) (sz := 27) (fn := Tryz.f67) (c := bodyOf Tryz.f67) T0ok (by kernel_rfl) (by kernel_rfl) (by kernel_rfl) (by kernel_rfl) (by kernel_rfl) (by kernel_rfl) (Nat.le_refl _) ?_
  refine Tri.chg (cx := cxb false) rfl ?_
  have kn : Int.toNat (k : Int) = k := by omega
  rcases Nat.eq_zero_or_pos k with h0 | h0
  · refine Tri.step (cx := cxb false) mix T0ok (HMok B false) 3 0 (orcL [(13, false)]) [1, 4] [2, 2 + 1, 2 + 2, 2 + 3, 2 + 4] (2 + 5) (sS1 st buf out k st) ([(0 : Nat) + (23 : Nat) - (7 : Nat) - (16 : Nat) < List.length [(↑k : Int)], decide ((0 : Int) < List.getD [(↑k : Int)] ((0 : Nat) + (23 : Nat) - (7 : Nat) - (16 : Nat)) (0 : Int)) = false]) (by kernel_rfl) (obCons Nat.zero_lt_one <| obCons (decide_eq_false (by show ¬ (0 : Int) < (k : Int); omega)) obNil) (by kernel_rfl) ?_
    refine Tri.chg (cx := cxb true) rfl ?_
    unfold msL
    rw [if_neg (by omega)]
    exact sum2 B st buf out k st hk
  · refine Tri.step (cx := cxb false) mix T0ok (HMok B false) 3 0 (orcL [(13, true)]) [1, 4] [2, 2 + 1, 2 + 2, 2 + 3, 2 + 4] (2 + 5) (sS1 st buf out k (setH st (uS (List.take (Int.toNat (k : Int)) (List.drop 0 buf)) st))) ([(0 : Nat) + (23 : Nat) - (7 : Nat) - (16 : Nat) < List.length [(↑k : Int)], decide ((0 : Int) < List.getD [(↑k : Int)] ((0 : Nat) + (23 : Nat) - (7 : Nat) - (16 : Nat)) (0 : Int)) = true, (0 : Nat) + (23 : Nat) - (7 : Nat) - (16 : Nat) < List.length [(↑k : Int)], (0 : Int) ≤ (0 : Int) ∧ (0 : Int) ≤ List.getD [(↑k : Int)] ((0 : Nat) + (23 : Nat) - (7 : Nat) - (16 : Nat)) (0 : Int) ∧ List.getD [(↑k : Int)] ((0 : Nat) + (23 : Nat) - (7 : Nat) - (16 : Nat)) (0 : Int) ≤ (↑(16 : Nat) : Int), (0 : Nat) + (7 : Nat) ≤ List.length (lit (0 : BitVec (64 : Nat)) (7 : Nat) st), Int.toNat (0 : Int) + ((0 : Nat) + (7 : Nat) - (7 : Nat)) + (Int.toNat (List.getD [(↑k : Int)] ((0 : Nat) + (23 : Nat) - (7 : Nat) - (16 : Nat)) (0 : Int)) - Int.toNat (0 : Int)) ≤ List.length buf ∧ Int.toNat (List.getD [(↑k : Int)] ((0 : Nat) + (23 : Nat) - (7 : Nat) - (16 : Nat)) (0 : Int)) - Int.toNat (0 : Int) ≤ (16 : Nat) - Int.toNat (0 : Int), List.length (setH (List.take (7 : Nat) (List.drop (0 : Nat) (lit (0 : BitVec (64 : Nat)) (7 : Nat) st))) (uS (List.take (Int.toNat (List.getD [(↑k : Int)] ((0 : Nat) + (23 : Nat) - (7 : Nat) - (16 : Nat)) (0 : Int)) - Int.toNat (0 : Int)) (List.drop (Int.toNat (0 : Int) + ((0 : Nat) + (7 : Nat) - (7 : Nat))) buf)) (List.take (7 : Nat) (List.drop (0 : Nat) (lit (0 : BitVec (64 : Nat)) (7 : Nat) st))))) = List.length (List.take (7 : Nat) (List.drop (0 : Nat) (lit (0 : BitVec (64 : Nat)) (7 : Nat) st))) ∧ List.length (List.take (Int.toNat (List.getD [(↑k : Int)] ((0 : Nat) + (23 : Nat) - (7 : Nat) - (16 : Nat)) (0 : Int)) - Int.toNat (0 : Int)) (List.drop (Int.toNat (0 : Int) + ((0 : Nat) + (7 : Nat) - (7 : Nat))) buf)) = List.length (List.take (Int.toNat (List.getD [(↑k : Int)] ((0 : Nat) + (23 : Nat) - (7 : Nat) - (16 : Nat)) (0 : Int)) - Int.toNat (0 : Int)) (List.drop (Int.toNat (0 : Int) + ((0 : Nat) + (7 : Nat) - (7 : Nat))) buf)) ∧ True, BitVec.toNat (List.getD (List.take (7 : Nat) (List.drop (0 : Nat) (lit (0 : BitVec (64 : Nat)) (7 : Nat) st))) (2 : Nat) (0 : BitVec (64 : Nat))) ≤ (5 : Nat), BitVec.toNat (List.getD (List.take (7 : Nat) (List.drop (0 : Nat) (lit (0 : BitVec (64 : Nat)) (7 : Nat) st))) (3 : Nat) (0 : BitVec (64 : Nat))) < (2 : Nat) ^ (60 : Nat), BitVec.toNat (List.getD (List.take (7 : Nat) (List.drop (0 : Nat) (lit (0 : BitVec (64 : Nat)) (7 : Nat) st))) (4 : Nat) (0 : BitVec (64 : Nat))) < (2 : Nat) ^ (60 : Nat)]) (by kernel_rfl) ?_ (by kernel_rfl) ?_
    · (repeat' (first | exact obNil | refine obCons ?_ ?_))
      all_goals first | decide | exact Nat.zero_lt_one | exact hz | exact hr0 | exact hr1 | exact ⟨rfl, rfl, trivial⟩ | (refine decide_eq_true ?_; show (0 : Int) < (k : Int); omega) | (show (0 : Int) ≤ 0 ∧ 0 ≤ (k : Int) ∧ (k : Int) ≤ 16; omega) | (show 0 + (Int.toNat (k : Int) - 0) ≤ buf.length ∧ Int.toNat (k : Int) - 0 ≤ 16 - 0; omega) | (simp [lit_length]; done)
    · refine Tri.chg (cx := cxb true) rfl ?_
      rw [kn, List.drop_zero]
      unfold msL
      rw [if_pos h0]
      exact sum2 B st buf out k _ hk

def smCt : Ct := ⟨[.whole false true, .rest false true, .rest false false, .ptr 16 true], [], fun vs ds gs => match vs, ds, gs with
  | [], [.d64 st, .d8 buf, .di [off], .d8 out], [] => bif Nat.beq st.length 7 && (Nat.beq buf.length 16 && Nat.beq out.length 16) then some ⟨.tup [], [.d64 st, .d8 buf, .di [off], .d8 (lit 0 16 (msO (msL st buf off.toNat)))], [],
      [(st.getD 2 0).toNat ≤ 5, (st.getD 3 0).toNat < 2 ^ 60, (st.getD 4 0).toNat < 2 ^ 60, 0 ≤ off ∧ off < 16]⟩ else none
  | _, _, _ => none⟩

theorem sm_ok (B : Nat) : smCt.Ok P0 B 2 67 := by
  intro vs ds gs out h hpre hn
  unfold smCt at h
  dsimp only at h
  split at h <;> first | (cases h; done) | skip
  rename_i st buf off o
  cases hb : (Nat.beq st.length 7 && (Nat.beq buf.length 16 && Nat.beq o.length 16)) with
  | false => rw [hb] at h; cases h
  | true =>
    rw [hb, cond_true] at h
    cases h
    simp only [Bool.and_eq_true] at hb
    have k1 := Nat.eq_of_beq_eq_true hb.1
    have k2 := Nat.eq_of_beq_eq_true hb.2.1
    have k3 := Nat.eq_of_beq_eq_true hb.2.2
    have h1 := hpre _ List.mem_cons_self
    have h2 := hpre _ (List.mem_cons_of_mem _ List.mem_cons_self)
    have h3 := hpre _ (List.mem_cons_of_mem _ (List.mem_cons_of_mem _ List.mem_cons_self))
    have h4 := hpre _ (List.mem_cons_of_mem _ (List.mem_cons_of_mem _ (List.mem_cons_of_mem _ List.mem_cons_self)))
    obtain ⟨k, rfl⟩ : ∃ k : Nat, off = (k : Int) := ⟨off.toNat, by omega⟩
    rw [Int.toNat_natCast]
    have := sum1 B st buf o k k2 h1 h2 h3 (by omega)
    unfold sM at this
    rw [lit_eq k1, lit_eq k3] at this
    simp only [smCt, canArgs, segsOf, globs, addM, List.length_cons, List.length_nil, SegD.len, k1, k2, k3, lit_length, Nat.add_zero, Nat.zero_add]
    exact this
end Go.Sx

set_option linter.unusedVariables false
namespace Go.Sx

theorem and_lt (x m : BitVec 64) (b : Nat) (h : m.toNat < b) : (x &&& m).toNat < b := by
  rw [BitVec.toNat_and]
  exact Nat.lt_of_le_of_lt Nat.and_le_right h
theorem r0_lt (key : List (BitVec 8)) : ((initW key).getD 0 0).toNat < 2 ^ 60 := and_lt _ _ _ (by decide)
theorem r1_lt (key : List (BitVec 8)) : ((initW key).getD 1 0).toNat < 2 ^ 60 := and_lt _ _ _ (by decide)

theorem getD_take8 (l : List (BitVec 8)) (j i : Nat) (hi : i < 8) : ((l.drop j).take 8).getD i 0 = l.getD (j + i) 0 := by
  simp [List.getD, hi, List.getElem?_drop]
theorem getD_take8' (l : List (BitVec 8)) (i : Nat) (hi : i < 8) : (l.take 8).getD i 0 = l.getD i 0 := by
  simp [List.getD, hi]

theorem r_val (key : List (BitVec 8)) : ((initW key).getD 0 0).toNat + 2 ^ 64 * ((initW key).getD 1 0).toNat = leN (rB key) := by
  have e0 : (initW key).getD 0 0 = le64 ((rB key).take 8) := by
    show le64 (key.take 8) &&& 1152921487695413247#64 = _
    rw [mask_le64]
    simp only [getD_take8' key _ (show 0 < 8 by decide), getD_take8' key _ (show 1 < 8 by decide), getD_take8' key _ (show 2 < 8 by decide), getD_take8' key _ (show 3 < 8 by decide), getD_take8' key _ (show 4 < 8 by decide), getD_take8' key _ (show 5 < 8 by decide), getD_take8' key _ (show 6 < 8 by decide), getD_take8' key _ (show 7 < 8 by decide)]
    simp [rB, and255]
  have e1 : (initW key).getD 1 0 = le64 (((rB key).drop 8).take 8) := by
    show le64 ((key.drop 8).take 8) &&& 1152921487695413244#64 = _
    rw [mask_le64]
    simp only [getD_take8 key 8 _ (show 0 < 8 by decide), getD_take8 key 8 _ (show 1 < 8 by decide), getD_take8 key 8 _ (show 2 < 8 by decide), getD_take8 key 8 _ (show 3 < 8 by decide), getD_take8 key 8 _ (show 4 < 8 by decide), getD_take8 key 8 _ (show 5 < 8 by decide), getD_take8 key 8 _ (show 6 < 8 by decide), getD_take8 key 8 _ (show 7 < 8 by decide)]
    simp [rB, and255]
  rw [e0, e1, le64_two (rB key) rfl]

theorem s_val (key : List (BitVec 8)) (h : key.length = 32) : ((initW key).getD 2 0).toNat + 2 ^ 64 * ((initW key).getD 3 0).toNat = leN ((key.drop 16).take 16) := by
  have := le64_two' (key.drop 16) (by simp; omega)
  rw [← this, List.drop_drop]
  rfl

structure MInv (key t : List (BitVec 8)) (st : List (BitVec 64)) (buf : List (BitVec 8)) (k : Nat) : Prop where
  w0 : st.getD 3 0 = (initW key).getD 0 0
  w1 : st.getD 4 0 = (initW key).getD 1 0
  w2 : st.getD 5 0 = (initW key).getD 2 0
  w3 : st.getD 6 0 = (initW key).getD 3 0
  hl : st.length = 7
  hz : (st.getD 2 0).toNat ≤ 5
  acc : (getH st).val % P130 = pAcc (leN (rB key)) t (t.length / 16)
  hb : buf.length = 16
  hk : k = t.length % 16
  hp : buf.take k = t.drop (16 * (t.length / 16))

section
variable {key t : List (BitVec 8)} {st : List (BitVec 64)} {buf : List (BitVec 8)} {k : Nat}

theorem MInv.hr0 (I : MInv key t st buf k) : (st.getD 3 0).toNat < 2 ^ 60 := by rw [I.w0]; exact r0_lt key
theorem MInv.hr1 (I : MInv key t st buf k) : (st.getD 4 0).toNat < 2 ^ 60 := by rw [I.w1]; exact r1_lt key

/-- bytes taken up behind whole blocks -/
theorem MInv.upd (I : MInv key t st buf k) (m : List (BitVec 8)) : (uS m st).val % P130 = pFrom (leN (rB key)) (pAcc (leN (rB key)) t (t.length / 16)) m (nBlk m) ∧ (uS m st).z.toNat ≤ 5 := by
  have := updS_spec (getH st) (st.getD 3 0) (st.getD 4 0) m I.hz I.hr0 I.hr1
  rw [I.w0, I.w1, r_val, I.acc] at this
  unfold uS
  rw [I.w0, I.w1]
  exact this

theorem pAcc_take (r : Nat) (t : List (BitVec 8)) (n : Nat) (h : 16 * n ≤ t.length) : pAcc r t n = pAcc r (t.take (16 * n)) n := by
  conv => lhs; rw [← List.take_append_drop (16 * n) t]
  exact pAcc_pre r _ _ n (by simp; omega)

/-- a whole number of blocks -/
theorem MInv.zero (I : MInv key t st buf 0) (p : List (BitVec 8)) : MInv key (t ++ p) (mtS st p) (mtB buf p) (p.length % 16) := by
  have hk := I.hk
  have hn : t.length = 16 * (t.length / 16) := by omega
  have acc : (getH (mtS st p)).val % P130 = pAcc (leN (rB key)) (t ++ p) ((t ++ p).length / 16) ∧ ((mtS st p).getD 2 0).toNat ≤ 5 := by
    unfold mtS
    split
    · rename_i h16
      obtain ⟨u1, u2⟩ := I.upd (p.take (p.length - p.length % 16))
      refine ⟨?_, u2⟩
      rw [pFrom_app _ t _ _ hn] at u1
      have hl : (p.take (p.length - p.length % 16)).length = p.length - p.length % 16 := by simp
      have e1 : nBlk (p.take (p.length - p.length % 16)) = p.length / 16 := by unfold nBlk; rw [hl]; omega
      have e2 : t.length / 16 + p.length / 16 = (t ++ p).length / 16 := by rw [List.length_append]; omega
      rw [e1, e2] at u1
      have e3 : t ++ p = (t ++ p.take (p.length - p.length % 16)) ++ p.drop (p.length - p.length % 16) := by rw [List.append_assoc, List.take_append_drop]
      have e4 := pAcc_pre (leN (rB key)) (t ++ p.take (p.length - p.length % 16)) (p.drop (p.length - p.length % 16)) ((t ++ p).length / 16) (by simp only [List.length_append, hl]; omega)
      rw [← e3] at e4
      rw [e4, ← u1]
      rfl
    · rename_i h16
      refine ⟨?_, I.hz⟩
      rw [I.acc, show (t ++ p).length / 16 = t.length / 16 by rw [List.length_append]; omega, pAcc_pre _ t p _ (by omega)]
  have w : ∀ j, 3 ≤ j → (mtS st p).getD j 0 = st.getD j 0 := by
    intro j hj
    unfold mtS
    split
    · unfold setH
      match j, hj with
      | 3, _ => rfl
      | 4, _ => rfl
      | 5, _ => rfl
      | 6, _ => rfl
      | j + 7, _ => simp [List.getD, List.getElem?_eq_none (show st.length ≤ j + 7 by rw [I.hl]; omega)]
    · rfl
  refine ⟨by rw [w 3 (by omega), I.w0], by rw [w 4 (by omega), I.w1], by rw [w 5 (by omega), I.w2], by rw [w 6 (by omega), I.w3], mtS_length st p I.hl, acc.2, acc.1, mtB_length buf p I.hb, by rw [List.length_append]; omega, ?_⟩
  have e : (t ++ p).drop (16 * ((t ++ p).length / 16)) = p.drop (p.length - p.length % 16) := by
    rw [List.drop_append, List.drop_of_length_le (by rw [List.length_append]; omega), List.nil_append]
    congr 1
    rw [List.length_append]; omega
  rw [e]
  unfold mtB
  split
  · rename_i h0
    rw [h0, List.take_zero, List.drop_of_length_le (by omega)]
  · unfold splice
    rw [List.take_zero, List.nil_append, List.take_append_of_le_length (by rw [List.length_drop]; omega)]
    exact List.take_of_length_le (by rw [List.length_drop]; omega)

theorem splice_take (buf p : List (BitVec 8)) (k : Nat) (h : k ≤ buf.length) : (splice buf k p).take (k + p.length) = buf.take k ++ p := by
  unfold splice
  rw [← List.append_assoc, List.take_append_of_le_length (by simp; omega)]
  exact List.take_of_length_le (by simp; omega)

theorem MInv.write (I : MInv key t st buf k) (p : List (BitVec 8)) : MInv key (t ++ p) (mwS st buf k p) (mwB buf k p) ((k + p.length) % 16) := by
  have hk := I.hk
  have hk16 : k < 16 := by omega
  unfold mwS mwB
  split
  · rename_i h0
    subst h0
    rw [Nat.zero_add]
    exact I.zero p
  · rename_i h0
    split
    · rename_i he
      refine ⟨I.w0, I.w1, I.w2, I.w3, I.hl, I.hz, ?_, ?_, by rw [List.length_append]; omega, ?_⟩
      · rw [I.acc, show (t ++ p).length / 16 = t.length / 16 by rw [List.length_append]; omega, pAcc_pre _ t p _ (by omega)]
      · rw [splice_length _ _ _ (by rw [I.hb]; omega)]; exact I.hb
      · rw [Nat.mod_eq_of_lt he, splice_take buf p k (by rw [I.hb]; omega), I.hp]
        rw [show (t ++ p).length / 16 = t.length / 16 by rw [List.length_append]; omega, List.drop_append_of_le_length (by omega)]
    · rename_i he
      have hl16 : (p.take (16 - k)).length = 16 - k := by simp; omega
      have sl : (splice buf k (p.take (16 - k))).length = 16 := by rw [splice_length _ _ _ (by rw [I.hb, hl16]; omega)]; exact I.hb
      have hblk : splice buf k (p.take (16 - k)) = t.drop (16 * (t.length / 16)) ++ p.take (16 - k) := by
        have e := splice_take buf (p.take (16 - k)) k (by rw [I.hb]; omega)
        rw [hl16, List.take_of_length_le (l := splice buf k (p.take (16 - k))) (by rw [sl]; omega)] at e
        rw [e, I.hp]
      obtain ⟨u1, u2⟩ := I.upd (splice buf k (p.take (16 - k)))
      have hn1 : nBlk (splice buf k (p.take (16 - k))) = 1 := by unfold nBlk; rw [sl]
      have tl : (t.take (16 * (t.length / 16))).length = 16 * (t.length / 16) := by simp; omega
      rw [pAcc_take _ t _ (by omega), hn1, pFrom_app _ _ _ _ tl, hblk, ← List.append_assoc, List.take_append_drop] at u1
      have J : MInv key (t ++ p.take (16 - k)) (setH st (uS (splice buf k (p.take (16 - k))) st)) (splice buf k (p.take (16 - k))) 0 := by
        refine ⟨I.w0, I.w1, I.w2, I.w3, rfl, u2, ?_, sl, by rw [List.length_append, hl16]; omega, ?_⟩
        · rw [show (t ++ p.take (16 - k)).length / 16 = t.length / 16 + 1 by rw [List.length_append, hl16]; omega, ← u1, ← hblk]
          rfl
        · rw [List.take_zero, List.drop_of_length_le (by rw [List.length_append, hl16]; omega)]
      have := J.zero (p.drop (16 - k))
      rw [List.append_assoc, List.take_append_drop, List.length_drop] at this
      rw [show (k + p.length) % 16 = (p.length - (16 - k)) % 16 by omega]
      exact this

theorem MInv.out (I : MInv key t st buf k) (hkey : key.length = 32) : msO (msL st buf k) = poly key t := by
  have hk := I.hk
  have fin : ∀ L : List (BitVec 64), L.getD 5 0 = st.getD 5 0 → L.getD 6 0 = st.getD 6 0 → (L.getD 2 0).toNat ≤ 5 → (getH L).val % P130 = pAcc (leN (rB key)) t (nBlk t) → msO L = poly key t := by
    intro L e5 e6 ez ev
    unfold msO
    rw [finO_spec [L.getD 0 0, L.getD 1 0, L.getD 2 0] _ ez]
    unfold poly
    simp only [List.getD_cons_zero, List.getD_cons_succ]
    rw [e5, e6, I.w2, I.w3, s_val key hkey, ← ev]
    rfl
  unfold msL
  split
  · rename_i h0
    obtain ⟨u1, u2⟩ := I.upd (buf.take k)
    refine fin _ rfl rfl u2 ?_
    have hl : (buf.take k).length = k := by rw [List.length_take, I.hb]; omega
    have tl : (t.take (16 * (t.length / 16))).length = 16 * (t.length / 16) := by simp; omega
    rw [pAcc_take _ t _ (by omega), show nBlk (buf.take k) = 1 by unfold nBlk; rw [hl]; omega, pFrom_app _ _ _ _ tl, I.hp, List.take_append_drop] at u1
    rw [show nBlk t = t.length / 16 + 1 by unfold nBlk; omega, ← u1, ← I.hp]
    rfl
  · rename_i h0
    refine fin _ rfl rfl I.hz ?_
    rw [I.acc, show nBlk t = t.length / 16 by unfold nBlk; omega]

theorem MInv.init (key : List (BitVec 8)) : MInv key [] (lit 0 3 (List.replicate 7 (0 : BitVec 64)) ++ initW key) (List.replicate 16 0) 0 :=
  ⟨rfl, rfl, rfl, rfl, rfl, Nat.zero_le 5, rfl, rfl, rfl, rfl⟩
end
end Go.Sx
