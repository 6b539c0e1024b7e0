/- A drawn region: the symbolic run in the text's order, and the checks under which every order comes to the same. A drawn region: what one step of its symbolic run says, and that the bookkeeping is kept. A drawn region: the bookkeeping is kept by each step. Conditions: none; plain definitions and theorems over any program. -/
import Derived.Test.YtamohebdaifjbaaSx10
set_option linter.unusedVariables false
namespace Go.Sx
open Go.RowKit

def bit (m n : Nat) : Bool := Nat.beq (Nat.land 1 (Nat.shiftRight m n)) 1

theorem bit_eq (m n : Nat) : bit m n = m.testBit n := by
  have h : Nat.land 1 (Nat.shiftRight m n) = 1 &&& (m >>> n) := rfl
  unfold bit Nat.testBit
  rw [h, Nat.and_comm, Nat.and_one_is_mod]
  rcases Nat.mod_two_eq_zero_or_one (m >>> n) with h | h <;> rw [h] <;> rfl

theorem bit_or (x y n : Nat) : bit (Nat.lor x y) n = (bit x n || bit y n) := by
  simp only [bit_eq]
  exact Nat.testBit_or x y n

theorem bit_pow (i n : Nat) : bit (2 ^ i) n = true ↔ i = n := by
  rw [bit_eq, Nat.testBit_two_pow]
  simp

theorem bit_and (x y n : Nat) : bit (Nat.land x y) n = (bit x n && bit y n) := by
  simp only [bit_eq]
  exact Nat.testBit_and x y n

inductive Kd where
  | pure
  | head (L : List Seg)
  | eff (m : Mem)

/-- what is known of one operation of a drawn region -/
structure Inf where
  dst : Option Nat
  v : SV
  cl : Nat
  rd : List Nat
  lo : Nat
  hi : Nat
  k : Kd

abbrev Acc := List (Nat × Inf)

def clM (acc : Acc) : List Edge → Nat → Option Nat
  | [], c => some c
  | e :: r, c => bif Region.binds .any e then (bif bit c e.on then clM acc r c else match find acc e.on with
    | some inf => clM acc r (Nat.lor (Nat.lor c (2 ^ e.on)) inf.cl)
    | none => none) else clM acc r c

def lookT (t0 : TM) (cl d : Nat) : Acc → Option SV
  | [] => find t0 d
  | (j, inf) :: r => match inf.dst with
    | some d' => bif Nat.beq d' d then (bif bit cl j then some inf.v else none) else lookT t0 cl d r
    | none => lookT t0 cl d r

def resT (acc : Acc) (t0 : TM) (cl : Nat) : List Nat → Option TM
  | [] => some []
  | d :: r => match lookT t0 cl d acc, resT acc t0 cl r with
    | some v, some t => some ((d, v) :: t)
    | _, _ => none

def freshD (d : Nat) : Acc → Bool
  | [] => true
  | (_, inf) :: r => match inf.dst with
    | some d' => bif Nat.beq d' d then false else freshD d r
    | none => freshD d r

def readersIn (cl d : Nat) : Acc → Bool
  | [] => true
  | (j, inf) :: r => bif inf.rd.any (Nat.beq d) then bif bit cl j then readersIn cl d r else false else readersIn cl d r

def dstOk (sz : Nat) (acc : Acc) (t0 : TM) (cl : Nat) : Option Nat → Bool
  | none => true
  | some d => bif Nat.blt d sz then (bif freshD d acc then (match find t0 d with
    | none => true
    | some _ => readersIn cl d acc) else false) else false

def memH (m0 : Mem) (f : Nat → Bool) : Acc → Mem
  | [] => m0
  | (j, inf) :: r => match inf.k with
    | .head L => bif f j then addM inf.lo L (memH m0 f r) else memH m0 f r
    | _ => memH m0 f r

def lv (nx0 : Nat) (acc : Acc) (f : Nat → Bool) (k : Nat) : Bool :=
  Nat.blt k nx0 || acc.any fun x => f x.1 && (Nat.ble x.2.lo k && Nat.blt k x.2.hi)

def lv1 (nx0 : Nat) (acc : Acc) (f : Nat → Bool) (lo hi : Nat) (k : Nat) : Bool :=
  lv nx0 acc f k || (Nat.ble lo k && Nat.blt k hi)

def okL (p : Nat → Bool) : List Seg → Bool
  | [] => true
  | [s] => s.d.on p && !s.nxt
  | s :: r => s.d.on p && okL p r

def readsOf (ops : List Oper) (o : Oper) : List Nat :=
  (match o.guard with
  | some (j, _) => (match ops[j]? with
    | some oj => (match oj.dst with
      | some d => [d]
      | none => [])
    | none => [])
  | none => []) ++ o.op.operands.toList.filterMap fun x => match x with
    | .tmp t => some t
    | _ => none

section
variable (cx : Cx) (H : Hook) (sz : Nat) (orc : Orc) (ops : List Oper) (t0 : TM) (m0 : Mem) (nx0 : Nat)

def headD (acc : Acc) (nx em cl : Nat) (full : Mem) (t : TM) (o : Oper) : Option (Inf × Mem × List Prop) :=
  bif Nat.beq em 0 then (match opM cx H t (memH m0 (bit cl) acc) nx o.op with
    | some e => match e.c with
      | .read => bif e.v.on (lv1 nx0 acc (bit cl) nx nx) then some (⟨o.dst, e.v, cl, readsOf ops o, nx, nx, .head []⟩, full, e.ob) else none
      | .new L => bif e.v.on (lv1 nx0 acc (bit cl) nx (nx + L.length)) && okL (lv1 nx0 acc (bit cl) nx (nx + L.length)) L then some (⟨o.dst, e.v, cl, readsOf ops o, nx, nx + L.length, .head L⟩, addM nx L full, e.ob) else none
      | _ => none
    | none => none) else none

def effD (acc : Acc) (nx hm cl : Nat) (full : Mem) (t : TM) (o : Oper) : Option (Inf × Mem × List Prop) :=
  bif Nat.beq (Nat.land cl hm) hm then (match opM cx H t full nx o.op with
    | some e => bif e.v.on (lv1 nx0 acc (bit cl) nx e.nx) && Nat.ble nx e.nx then some (⟨o.dst, e.v, cl, readsOf ops o, nx, e.nx, .eff e.m⟩, e.m, e.ob) else none
    | none => none) else none

def workD (acc : Acc) (nx hm em cl : Nat) (full : Mem) (t : TM) (o : Oper) : Option (Inf × Mem × List Prop) :=
  match pureX cx t (memH m0 (bit cl) acc) o.op with
  | some (v, ob) => bif v.on (lv1 nx0 acc (bit cl) nx nx) then some (⟨o.dst, v, cl, readsOf ops o, nx, nx, .pure⟩, full, ob) else none
  | none => match headD cx H ops m0 nx0 acc nx em cl full t o with
    | some r => some r
    | none => effD cx H ops nx0 acc nx hm cl full t o

def stepD (acc : Acc) (i nx hm em : Nat) (full : Mem) (o : Oper) : Option (Inf × Mem × List Prop) :=
  bif o.after.toList.all (fun e => !Region.binds .any e || Nat.blt e.on i) then (match clM acc o.after.toList 0 with
    | none => none
    | some cl => bif dstOk sz acc t0 cl o.dst then (match resT acc t0 cl (readsOf ops o) with
      | none => none
      | some t => match wantX orc t ops o with
        | none => none
        | some (false, ob) => some (⟨o.dst, undefS, cl, readsOf ops o, nx, nx, .pure⟩, full, ob)
        | some (true, ob) => match workD cx H ops m0 nx0 acc nx hm em cl full t o with
          | some (inf, full', ob') => some (inf, full', ob ++ ob')
          | none => none) else none) else none

/-- a load that may come late: from a piece that was there, ahead of all effects -/
def lateD (acc : Acc) (i nx em : Nat) (o : Oper) : Option (Nat × Inf × List Prop) :=
  bif Nat.beq em 0 && o.after.toList.all (fun e => !Region.binds .any e || Nat.blt e.on i) then (match o.op with
    | .load ty x => (match clM acc o.after.toList 0 with
      | none => none
      | some cl => bif dstOk sz acc t0 cl o.dst then (match resT acc t0 cl (readsOf ops o) with
        | none => none
        | some t => match wantX orc t ops o with
          | some (true, ob) => (match evs cx t x with
            | some (.p K _) => (match find m0 K with
              | some s => (match loadM cx t [(K, s)] ty x with
                | some (v, ob') => bif v.on (lv1 nx0 acc (bit cl) nx nx) then some (K, ⟨o.dst, v, cl, readsOf ops o, nx, nx, .pure⟩, ob ++ ob') else none
                | none => none)
              | none => none)
            | _ => none)
          | _ => none) else none)
    | _ => none) else none

/-- what an effect owes to the loads that may come behind it -/
def lateObs (m0 m : Mem) (cl : Nat) : List (Nat × Nat) → List Prop
  | [] => []
  | (i, K) :: r => bif bit cl i then lateObs m0 m cl r else (find m K = find m0 K) :: lateObs m0 m cl r
def lateOb (m0 : Mem) (lt : List (Nat × Nat)) (inf : Inf) : List Prop := match inf.k with
  | .eff m => lateObs m0 m inf.cl lt
  | _ => []

def runD (lm : Bool) : List Oper → Acc → Nat → Nat → Nat → Nat → Mem → List (Nat × Nat) → Option (Acc × Nat × Mem × List Prop)
  | [], acc, i, nx, hm, em, full, lt => some (acc, nx, full, [])
  | o :: r, acc, i, nx, hm, em, full, lt => match (bif lm then lateD cx sz orc ops t0 m0 nx0 acc i nx em o else none) with
    | some (K, inf, ob) => (match runD lm r ((i, inf) :: acc) (i + 1) nx hm em full ((i, K) :: lt) with
      | some (A, nx', full'', ob') => some (A, nx', full'', ob ++ ob')
      | none => none)
    | none => match stepD cx H sz orc ops t0 m0 nx0 acc i nx hm em full o with
      | some (inf, full', ob) => match runD lm r ((i, inf) :: acc) (i + 1) inf.hi (match inf.k with
          | .pure => hm
          | _ => Nat.lor hm (2 ^ i)) (match inf.k with
          | .eff _ => Nat.lor em (2 ^ i)
          | _ => em) full' lt with
        | some (A, nx', full'', ob') => some (A, nx', full'', ob ++ (lateOb m0 lt inf ++ ob'))
        | none => none
      | none => none

def outT : Acc → TM
  | [] => t0
  | (_, inf) :: r => match inf.dst with
    | some d => (d, inf.v) :: outT r
    | none => outT r

/-- a drawn region, run -/
def drawX (s : St) : Option (St × List Prop) :=
  match runD cx H sz orc ops s.t s.m s.nx false ops [] 0 s.nx 0 0 s.m [] with
  | some (A, nx, full, ob) => some (⟨outT s.t A, full, nx⟩, ob)
  | none => match runD cx H sz orc ops s.t s.m s.nx true ops [] 0 s.nx 0 0 s.m [] with
    | some (A, nx, full, ob) => some (⟨outT s.t A, full, nx⟩, ob)
    | none => none

end

/-! ### What the bookkeeping says -/

def MemH (m0 : Mem) (acc : Acc) (f : Nat → Bool) (M : Mem) : Prop :=
  (∀ j inf L k, find acc j = some inf → f j = true → inf.k = .head L → inf.lo ≤ k → k < inf.hi → find M k = L[k - inf.lo]?) ∧
  (∀ k, (∀ j inf L, find acc j = some inf → f j = true → inf.k = .head L → ¬ (inf.lo ≤ k ∧ k < inf.hi)) → find M k = find m0 k)

def NoEff (acc : Acc) : Prop := ∀ j inf m, find acc j = some inf → inf.k ≠ .eff m

structure DI (t0 : TM) (m0 : Mem) (nx0 sz : Nat) (acc : Acc) (i nx hm em : Nat) (full : Mem) : Prop where
  dom : ∀ j inf, find acc j = some inf → j < i
  tot : ∀ j, j < i → ∃ inf, find acc j = some inf
  mem : ∀ x, x ∈ acc → find acc x.1 = some x.2
  le : nx0 ≤ nx
  rng : ∀ j inf, find acc j = some inf → nx0 ≤ inf.lo ∧ inf.lo ≤ inf.hi ∧ inf.hi ≤ nx
  ord : ∀ j j' inf inf', find acc j = some inf → find acc j' = some inf' → j < j' → inf.hi ≤ inf'.lo
  cov : ∀ k, nx0 ≤ k → k < nx → ∃ j inf, find acc j = some inf ∧ inf.lo ≤ k ∧ k < inf.hi
  pur : ∀ j inf, find acc j = some inf → inf.k = .pure → inf.lo = inf.hi
  hdl : ∀ j inf L, find acc j = some inf → inf.k = .head L → inf.hi = inf.lo + L.length
  hmb : ∀ j inf, find acc j = some inf → inf.k ≠ .pure → bit hm j = true
  em0 : em = 0 → NoEff acc
  ohe : ∀ j j' inf inf' L m, find acc j = some inf → find acc j' = some inf' → inf.k = .head L → inf'.k = .eff m → j < j'
  ehm : ∀ j j' inf inf' m, find acc j = some inf → find acc j' = some inf' → inf.k = .eff m → inf'.k ≠ .pure → j' < j → bit inf.cl j' = true
  full : (NoEff acc ∧ MemH m0 acc (fun _ => true) full) ∨ ∃ j inf, find acc j = some inf ∧ inf.k = .eff full ∧ ∀ j' inf' m, find acc j' = some inf' → inf'.k = .eff m → j' ≤ j
  clb : ∀ j inf, find acc j = some inf → ∀ j', bit inf.cl j' = true → j' < j
  dst : ∀ j j' inf inf' d, find acc j = some inf → find acc j' = some inf' → inf.dst = some d → inf'.dst = some d → j = j'
  dsz : ∀ j inf d, find acc j = some inf → inf.dst = some d → d < sz
  rdr : ∀ j j' inf inf' d v, find acc j = some inf → find acc j' = some inf' → inf.dst = some d → d ∈ inf'.rd → find t0 d = some v → j' < j → bit inf.cl j' = true
  von : ∀ j inf, find acc j = some inf → inf.v.on (lv1 nx0 acc (bit inf.cl) inf.lo inf.hi) = true
  lon : ∀ j inf L n s, find acc j = some inf → inf.k = .head L → L[n]? = some s → s.d.on (lv1 nx0 acc (bit inf.cl) inf.lo inf.hi) = true ∧ (s.nxt = true → n + 1 < L.length)

theorem find_mem {α : Type} : ∀ (l : List (Nat × α)) (k : Nat) (v : α), find l k = some v → (k, v) ∈ l
  | [], k, v, h => by cases h
  | (k', v') :: r, k, v, h => by
    rw [find_cons] at h
    by_cases e : k' = k
    · rw [if_pos e] at h; cases h; subst e; exact List.mem_cons_self
    · rw [if_neg e] at h; exact List.mem_cons_of_mem _ (find_mem r k v h)

theorem lv_iff {nx0 : Nat} {acc : Acc} {f : Nat → Bool} {k : Nat} : lv nx0 acc f k = true ↔ k < nx0 ∨ ∃ x ∈ acc, f x.1 = true ∧ x.2.lo ≤ k ∧ k < x.2.hi := by
  unfold lv
  simp only [Bool.or_eq_true, blt_iff, List.any_eq_true, Bool.and_eq_true, Nat.ble_eq]

theorem lv1_iff {nx0 : Nat} {acc : Acc} {f : Nat → Bool} {lo hi k : Nat} : lv1 nx0 acc f lo hi k = true ↔ lv nx0 acc f k = true ∨ (lo ≤ k ∧ k < hi) := by
  unfold lv1
  simp only [Bool.or_eq_true, Bool.and_eq_true, Nat.ble_eq, blt_iff]

theorem okL_spec {p : Nat → Bool} : ∀ (L : List Seg), okL p L = true → ∀ n s, L[n]? = some s → s.d.on p = true ∧ (s.nxt = true → n + 1 < L.length)
  | [], _, n, s, hs => by simp at hs
  | [s0], h, n, s, hs => by
    simp only [okL, Bool.and_eq_true, Bool.not_eq_true'] at h
    cases n with
    | zero => simp only [List.getElem?_cons_zero, Option.some.injEq] at hs; subst hs; exact ⟨h.1, fun e => by rw [h.2] at e; cases e⟩
    | succ n => simp at hs
  | s0 :: s1 :: r, h, n, s, hs => by
    simp only [okL, Bool.and_eq_true] at h
    cases n with
    | zero => simp only [List.getElem?_cons_zero, Option.some.injEq] at hs; subst hs; exact ⟨h.1, fun _ => by simp⟩
    | succ n =>
      simp only [List.getElem?_cons_succ] at hs
      obtain ⟨a, b⟩ := okL_spec (s1 :: r) h.2 n s hs
      exact ⟨a, fun e => by have := b e; simp at this ⊢; omega⟩

theorem clM_spec (acc : Acc) : ∀ (l : List Edge) (c c' : Nat), clM acc l c = some c' → ∀ j, bit c' j = true → bit c j = true ∨ ∃ e ∈ l, Region.binds .any e = true ∧ (e.on = j ∨ ∃ inf, find acc e.on = some inf ∧ bit inf.cl j = true)
  | [], c, c', h, j, hj => by cases h; exact .inl hj
  | e :: r, c, c', h, j, hj => by
    simp only [clM] at h
    cases hb : Region.binds .any e with
    | false =>
      rw [hb, cond_false] at h
      rcases clM_spec acc r c c' h j hj with h1 | ⟨e', he, r1⟩
      · exact .inl h1
      · exact .inr ⟨e', List.mem_cons_of_mem _ he, r1⟩
    | true =>
      rw [hb, cond_true] at h
      cases hc : bit c e.on with
      | true =>
        rw [hc, cond_true] at h
        rcases clM_spec acc r c c' h j hj with h1 | ⟨e', he, r1⟩
        · exact .inl h1
        · exact .inr ⟨e', List.mem_cons_of_mem _ he, r1⟩
      | false =>
        rw [hc, cond_false] at h
        split at h
        · rename_i inf hinf
          rcases clM_spec acc r _ c' h j hj with h1 | ⟨e', he, r1⟩
          · rw [bit_or, bit_or, Bool.or_eq_true, Bool.or_eq_true] at h1
            rcases h1 with (h1 | h1) | h1
            · exact .inl h1
            · exact .inr ⟨e, List.mem_cons_self, hb, .inl ((bit_pow _ _).1 h1)⟩
            · exact .inr ⟨e, List.mem_cons_self, hb, .inr ⟨inf, hinf, h1⟩⟩
          · exact .inr ⟨e', List.mem_cons_of_mem _ he, r1⟩
        · cases h

theorem lookT_spec (t0 : TM) (cl d : Nat) : ∀ (acc : Acc) (v : SV), lookT t0 cl d acc = some v → (∃ x ∈ acc, x.2.dst = some d ∧ bit cl x.1 = true ∧ x.2.v = v) ∨ (find t0 d = some v ∧ ∀ x ∈ acc, x.2.dst ≠ some d)
  | [], v, h => .inr ⟨h, by simp⟩
  | (j, inf) :: r, v, h => by
    simp only [lookT] at h
    split at h
    · rename_i d' hd
      cases hb : Nat.beq d' d with
      | true =>
        rw [hb, cond_true] at h
        have e := Nat.eq_of_beq_eq_true hb
        subst e
        cases hc : bit cl j with
        | true => rw [hc, cond_true] at h; cases h; exact .inl ⟨_, List.mem_cons_self, hd, hc, rfl⟩
        | false => rw [hc] at h; cases h
      | false =>
        rw [hb, cond_false] at h
        rcases lookT_spec t0 cl d r v h with ⟨x, hx, r1⟩ | ⟨h1, h2⟩
        · exact .inl ⟨x, List.mem_cons_of_mem _ hx, r1⟩
        · refine .inr ⟨h1, fun x hx => ?_⟩
          rcases List.mem_cons.1 hx with rfl | hx
          · rw [hd]; intro e; cases e; simp at hb
          · exact h2 x hx
    · rename_i hd
      rcases lookT_spec t0 cl d r v h with ⟨x, hx, r1⟩ | ⟨h1, h2⟩
      · exact .inl ⟨x, List.mem_cons_of_mem _ hx, r1⟩
      · refine .inr ⟨h1, fun x hx => ?_⟩
        rcases List.mem_cons.1 hx with rfl | hx
        · rw [hd]; intro e; cases e
        · exact h2 x hx

theorem resT_spec (acc : Acc) (t0 : TM) (cl : Nat) : ∀ (l : List Nat) (t : TM), resT acc t0 cl l = some t → ∀ d v, find t d = some v → d ∈ l ∧ lookT t0 cl d acc = some v
  | [], t, h, d, v, hv => by cases h; cases hv
  | d0 :: r, t, h, d, v, hv => by
    simp only [resT] at h
    split at h <;> first | (cases h; done) | skip
    rename_i v0 t' h1 h2
    cases h
    rw [find_cons] at hv
    by_cases e : d0 = d
    · rw [if_pos e] at hv; cases hv; subst e; exact ⟨List.mem_cons_self, h1⟩
    · rw [if_neg e] at hv
      obtain ⟨a, b⟩ := resT_spec acc t0 cl r t' h2 d v hv
      exact ⟨List.mem_cons_of_mem _ a, b⟩

theorem freshD_spec (d : Nat) : ∀ (acc : Acc), freshD d acc = true → ∀ x ∈ acc, x.2.dst ≠ some d
  | [], _, x, hx => by simp at hx
  | (j, inf) :: r, h, x, hx => by
    simp only [freshD] at h
    split at h
    · rename_i d' hd
      cases hb : Nat.beq d' d with
      | true => rw [hb] at h; cases h
      | false =>
        rw [hb, cond_false] at h
        rcases List.mem_cons.1 hx with rfl | hx
        · rw [hd]; intro e; cases e; simp at hb
        · exact freshD_spec d r h x hx
    · rename_i hd
      rcases List.mem_cons.1 hx with rfl | hx
      · rw [hd]; intro e; cases e
      · exact freshD_spec d r h x hx

theorem readersIn_spec (cl d : Nat) : ∀ (acc : Acc), readersIn cl d acc = true → ∀ x ∈ acc, d ∈ x.2.rd → bit cl x.1 = true
  | [], _, x, hx, _ => by simp at hx
  | (j, inf) :: r, h, x, hx, hd => by
    simp only [readersIn] at h
    cases ha : inf.rd.any (Nat.beq d) with
    | true =>
      rw [ha, cond_true] at h
      cases hb : bit cl j with
      | true =>
        rw [hb, cond_true] at h
        rcases List.mem_cons.1 hx with rfl | hx
        · exact hb
        · exact readersIn_spec cl d r h x hx hd
      | false => rw [hb] at h; cases h
    | false =>
      rw [ha, cond_false] at h
      rcases List.mem_cons.1 hx with rfl | hx
      · exfalso
        have : inf.rd.any (Nat.beq d) = true := List.any_eq_true.2 ⟨d, hd, by simp⟩
        rw [ha] at this; cases this
      · exact readersIn_spec cl d r h x hx hd

end Go.Sx

set_option linter.unusedVariables false
namespace Go.Sx
open Go.RowKit

inductive SK (cx : Cx) (H : Hook) (orc : Orc) (ops : List Oper) (m0 : Mem) (nx0 : Nat) (acc : Acc) (nx hm em cl : Nat) (t : TM) (o : Oper) (inf : Inf) (full full' : Mem) (ob : List Prop) (LP : Nat → Prop) : Prop
  | skip : wantX orc t ops o = some (false, ob) → inf = ⟨o.dst, undefS, cl, readsOf ops o, nx, nx, .pure⟩ → full' = full → SK cx H orc ops m0 nx0 acc nx hm em cl t o inf full full' ob LP
  | pure (v : SV) (ob0 ob1 : List Prop) : wantX orc t ops o = some (true, ob0) → pureX cx t (memH m0 (bit cl) acc) o.op = some (v, ob1) → v.on (lv1 nx0 acc (bit cl) nx nx) = true →
      inf = ⟨o.dst, v, cl, readsOf ops o, nx, nx, .pure⟩ → full' = full → ob = ob0 ++ ob1 → SK cx H orc ops m0 nx0 acc nx hm em cl t o inf full full' ob LP
  | head (e : Ef) (L : List Seg) (ob0 : List Prop) : wantX orc t ops o = some (true, ob0) → em = 0 → opM cx H t (memH m0 (bit cl) acc) nx o.op = some e → ((e.c = .read ∧ L = []) ∨ e.c = .new L) →
      e.v.on (lv1 nx0 acc (bit cl) nx (nx + L.length)) = true → okL (lv1 nx0 acc (bit cl) nx (nx + L.length)) L = true → inf = ⟨o.dst, e.v, cl, readsOf ops o, nx, nx + L.length, .head L⟩ → full' = addM nx L full → ob = ob0 ++ e.ob →
      SK cx H orc ops m0 nx0 acc nx hm em cl t o inf full full' ob LP
  | eff (e : Ef) (ob0 : List Prop) : wantX orc t ops o = some (true, ob0) → Nat.land cl hm = hm → opM cx H t full nx o.op = some e → e.v.on (lv1 nx0 acc (bit cl) nx e.nx) = true → nx ≤ e.nx →
      inf = ⟨o.dst, e.v, cl, readsOf ops o, nx, e.nx, .eff e.m⟩ → full' = e.m → ob = ob0 ++ e.ob → SK cx H orc ops m0 nx0 acc nx hm em cl t o inf full full' ob LP
  | late (v : SV) (K oo : Nat) (g : Seg) (ty : TypeId) (x : Operand) (ob0 ob1 : List Prop) : wantX orc t ops o = some (true, ob0) → em = 0 → o.op = .load ty x → evs cx t x = some (.p K oo) → find m0 K = some g → loadM cx t [(K, g)] ty x = some (v, ob1) → v.on (lv1 nx0 acc (bit cl) nx nx) = true →
      inf = ⟨o.dst, v, cl, readsOf ops o, nx, nx, .pure⟩ → full' = full → ob = ob0 ++ ob1 → LP K → SK cx H orc ops m0 nx0 acc nx hm em cl t o inf full full' ob LP

section
variable {cx : Cx} {H : Hook} {sz : Nat} {orc : Orc} {ops : List Oper} {t0 : TM} {m0 : Mem} {nx0 : Nat}

theorem workD_spec {LP : Nat → Prop} {acc : Acc} {nx hm em cl : Nat} {full full' : Mem} {t : TM} {o : Oper} {inf : Inf} {ob ob0 : List Prop} (hw : wantX orc t ops o = some (true, ob0))
    (h : workD cx H ops m0 nx0 acc nx hm em cl full t o = some (inf, full', ob)) : SK cx H orc ops m0 nx0 acc nx hm em cl t o inf full full' (ob0 ++ ob) LP := by
  unfold workD at h
  split at h
  · rename_i v ob1 hv
    cases hb : v.on (lv1 nx0 acc (bit cl) nx nx) with
    | false => rw [hb] at h; cases h
    | true => rw [hb, cond_true] at h; cases h; exact .pure v ob0 ob hw hv hb rfl rfl rfl
  · split at h
    · rename_i r hr
      cases h
      unfold headD at hr
      cases he : Nat.beq em 0 with
      | false => rw [he] at hr; cases hr
      | true =>
        rw [he, cond_true] at hr
        have he := Nat.eq_of_beq_eq_true he
        split at hr <;> first | (cases hr; done) | skip
        rename_i e hop
        split at hr
        · rename_i hc
          cases hb : e.v.on (lv1 nx0 acc (bit cl) nx nx) with
          | false => rw [hb] at hr; cases hr
          | true => rw [hb, cond_true] at hr; cases hr; exact .head e [] ob0 hw he hop (.inl ⟨hc, rfl⟩) hb rfl rfl rfl rfl
        · rename_i L hc
          cases hb : (e.v.on (lv1 nx0 acc (bit cl) nx (nx + L.length)) && okL (lv1 nx0 acc (bit cl) nx (nx + L.length)) L) with
          | false => rw [hb] at hr; cases hr
          | true =>
            rw [hb, cond_true] at hr; cases hr
            simp only [Bool.and_eq_true] at hb
            exact .head e L ob0 hw he hop (.inr hc) hb.1 hb.2 rfl rfl rfl
        · cases hr
    · unfold effD at h
      cases he : Nat.beq (Nat.land cl hm) hm with
      | false => rw [he] at h; cases h
      | true =>
        rw [he, cond_true] at h
        have he := Nat.eq_of_beq_eq_true he
        split at h <;> first | (cases h; done) | skip
        rename_i e hop
        cases hb : (e.v.on (lv1 nx0 acc (bit cl) nx e.nx) && Nat.ble nx e.nx) with
        | false => rw [hb] at h; cases h
        | true =>
          rw [hb, cond_true] at h; cases h
          simp only [Bool.and_eq_true, Nat.ble_eq] at hb
          exact .eff e ob0 hw he hop hb.1 hb.2 rfl rfl rfl

/-- what is known of a step, of whatever kind -/
def StepOk (cx : Cx) (H : Hook) (sz : Nat) (orc : Orc) (ops : List Oper) (t0 : TM) (m0 : Mem) (nx0 : Nat) (acc : Acc) (i nx hm em : Nat) (full : Mem) (o : Oper) (inf : Inf) (full' : Mem) (ob : List Prop) (LP : Nat → Prop) : Prop :=
    (∀ e ∈ o.after, Region.binds .any e = true → e.on < i) ∧ ∃ cl t, clM acc o.after.toList 0 = some cl ∧ dstOk sz acc t0 cl o.dst = true ∧ resT acc t0 cl (readsOf ops o) = some t ∧ SK cx H orc ops m0 nx0 acc nx hm em cl t o inf full full' ob LP

theorem lateD_spec {LP : Nat → Prop} {acc : Acc} {i nx hm em K : Nat} {full : Mem} {o : Oper} {inf : Inf} {ob : List Prop} (h : lateD cx sz orc ops t0 m0 nx0 acc i nx em o = some (K, inf, ob)) (hK : LP K) :
    em = 0 ∧ inf.k = .pure ∧ inf.hi = nx ∧ StepOk cx H sz orc ops t0 m0 nx0 acc i nx hm em full o inf full ob LP := by
  unfold lateD at h
  cases ha : (Nat.beq em 0 && o.after.toList.all (fun e => !Region.binds .any e || Nat.blt e.on i)) with
  | false => rw [ha] at h; cases h
  | true =>
    rw [ha, cond_true] at h
    simp only [Bool.and_eq_true] at ha
    have h0 := Nat.eq_of_beq_eq_true ha.1
    split at h <;> first | (cases h; done) | skip
    rename_i ty x hop
    split at h <;> first | (cases h; done) | skip
    rename_i cl hcl
    cases hd : dstOk sz acc t0 cl o.dst with
    | false => rw [hd] at h; cases h
    | true =>
      rw [hd, cond_true] at h
      split at h <;> first | (cases h; done) | skip
      rename_i t ht
      split at h <;> first | (cases h; done) | skip
      rename_i ob0 hw
      split at h <;> first | (cases h; done) | skip
      rename_i K' oo he
      split at h <;> first | (cases h; done) | skip
      rename_i g hg
      split at h <;> first | (cases h; done) | skip
      rename_i v ob1 hl
      cases hv : v.on (lv1 nx0 acc (bit cl) nx nx) with
      | false => rw [hv] at h; cases h
      | true =>
        rw [hv, cond_true] at h
        cases h
        refine ⟨h0, rfl, rfl, fun e he hbe => ?_, cl, t, hcl, hd, ht, .late v K oo g ty x ob0 ob1 hw h0 hop he hg hl hv rfl rfl rfl hK⟩
        have h1 := List.all_eq_true.1 ha.2 e (Array.mem_toList_iff.2 he)
        rw [hbe, Bool.not_true, Bool.false_or] at h1
        exact blt_iff.1 h1

theorem stepD_spec {LP : Nat → Prop} {acc : Acc} {i nx hm em : Nat} {full full' : Mem} {o : Oper} {inf : Inf} {ob : List Prop} (h : stepD cx H sz orc ops t0 m0 nx0 acc i nx hm em full o = some (inf, full', ob)) :
    StepOk cx H sz orc ops t0 m0 nx0 acc i nx hm em full o inf full' ob LP := by
  unfold stepD at h
  cases ha : o.after.toList.all (fun e => !Region.binds .any e || Nat.blt e.on i) with
  | false => rw [ha] at h; cases h
  | true =>
    rw [ha, cond_true] at h
    refine ⟨fun e he hbe => ?_, ?_⟩
    · have h1 := List.all_eq_true.1 ha e (Array.mem_toList_iff.2 he)
      rw [hbe, Bool.not_true, Bool.false_or] at h1
      exact blt_iff.1 h1
    split at h <;> first | (cases h; done) | skip
    rename_i cl hcl
    cases hd : dstOk sz acc t0 cl o.dst with
    | false => rw [hd] at h; cases h
    | true =>
      rw [hd, cond_true] at h
      split at h <;> first | (cases h; done) | skip
      rename_i t ht
      split at h <;> first | (cases h; done) | skip
      · rename_i ob' hw
        cases h
        exact ⟨cl, t, hcl, hd, ht, .skip hw rfl rfl⟩
      · rename_i ob' hw
        split at h <;> first | (cases h; done) | skip
        rename_i inf' full'' ob'' hk
        cases h
        exact ⟨cl, t, hcl, hd, ht, workD_spec hw hk⟩

/-- of whatever case: the plain parts -/
theorem SK.parts {LP : Nat → Prop} {acc : Acc} {nx hm em cl : Nat} {full full' : Mem} {t : TM} {o : Oper} {inf : Inf} {ob : List Prop} (h : SK cx H orc ops m0 nx0 acc nx hm em cl t o inf full full' ob LP) :
    inf.dst = o.dst ∧ inf.cl = cl ∧ inf.rd = readsOf ops o ∧ inf.lo = nx ∧ nx ≤ inf.hi ∧ inf.v.on (lv1 nx0 acc (bit cl) nx inf.hi) = true := by
  cases h with
  | skip _ e _ => subst e; exact ⟨rfl, rfl, rfl, rfl, Nat.le_refl _, rfl⟩
  | pure v _ _ _ _ hv e _ _ => subst e; exact ⟨rfl, rfl, rfl, rfl, Nat.le_refl _, hv⟩
  | head e' L _ _ _ _ _ hv _ e _ _ => subst e; exact ⟨rfl, rfl, rfl, rfl, Nat.le_add_right _ _, hv⟩
  | eff e' _ _ _ _ hv hle e _ _ => subst e; exact ⟨rfl, rfl, rfl, rfl, hle, hv⟩
  | late v _ _ _ _ _ _ _ _ _ _ _ _ _ hv e _ _ _ => subst e; exact ⟨rfl, rfl, rfl, rfl, Nat.le_refl _, hv⟩

theorem memH_find (m0 : Mem) (f : Nat → Bool) : ∀ (acc : Acc) (k : Nat), (∃ x ∈ acc, ∃ L, f x.1 = true ∧ x.2.k = .head L ∧ x.2.lo ≤ k ∧ k < x.2.lo + L.length ∧ find (memH m0 f acc) k = L[k - x.2.lo]?) ∨
    ((∀ x ∈ acc, ∀ L, f x.1 = true → x.2.k = .head L → ¬ (x.2.lo ≤ k ∧ k < x.2.lo + L.length)) ∧ find (memH m0 f acc) k = find m0 k)
  | [], k => .inr ⟨by simp, rfl⟩
  | (j, inf) :: r, k => by
    have rest := memH_find m0 f r k
    have pass : (∀ L, f j = true → inf.k = .head L → ¬ (inf.lo ≤ k ∧ k < inf.lo + L.length)) → find (memH m0 f ((j, inf) :: r)) k = find (memH m0 f r) k →
        (∃ x ∈ (j, inf) :: r, ∃ L, f x.1 = true ∧ x.2.k = .head L ∧ x.2.lo ≤ k ∧ k < x.2.lo + L.length ∧ find (memH m0 f ((j, inf) :: r)) k = L[k - x.2.lo]?) ∨
        ((∀ x ∈ (j, inf) :: r, ∀ L, f x.1 = true → x.2.k = .head L → ¬ (x.2.lo ≤ k ∧ k < x.2.lo + L.length)) ∧ find (memH m0 f ((j, inf) :: r)) k = find m0 k) := by
      intro hn he
      rw [he]
      rcases rest with ⟨x, hx, L, r1⟩ | ⟨h1, h2⟩
      · exact .inl ⟨x, List.mem_cons_of_mem _ hx, L, r1⟩
      · refine .inr ⟨fun x hx => ?_, h2⟩
        rcases List.mem_cons.1 hx with rfl | hx
        · exact hn
        · exact h1 x hx
    cases hk : inf.k with
    | pure => exact pass (fun L _ e => by rw [hk] at e; cases e) (by simp only [memH, hk])
    | eff m => exact pass (fun L _ e => by rw [hk] at e; cases e) (by simp only [memH, hk])
    | head L =>
      cases hf : f j with
      | false => exact pass (fun L e => by rw [hf] at e; cases e) (by simp only [memH, hk, hf, cond_false])
      | true =>
        by_cases hr : inf.lo ≤ k ∧ k < inf.lo + L.length
        · refine .inl ⟨(j, inf), List.mem_cons_self, L, hf, hk, hr.1, hr.2, ?_⟩
          simp only [memH, hk, hf, cond_true]
          rw [find_addM, if_pos hr]
        · refine pass (fun L' _ e => by rw [hk] at e; cases e; exact hr) ?_
          simp only [memH, hk, hf, cond_true]
          rw [find_addM, if_neg hr]

variable {acc : Acc} {i nx hm em : Nat} {full : Mem}

theorem DI.uniq (D : DI t0 m0 nx0 sz acc i nx hm em full) {j j' k : Nat} {inf inf' : Inf} (h : find acc j = some inf) (h' : find acc j' = some inf') (a : inf.lo ≤ k ∧ k < inf.hi) (b : inf'.lo ≤ k ∧ k < inf'.hi) : j = j' := by
  rcases Nat.lt_trichotomy j j' with hj | hj | hj
  · have := D.ord j j' inf inf' h h' hj; omega
  · exact hj
  · have := D.ord j' j inf' inf h' h hj; omega

theorem DI.memH (D : DI t0 m0 nx0 sz acc i nx hm em full) (f : Nat → Bool) : MemH m0 acc f (memH m0 f acc) := by
  refine ⟨fun j inf L k hj hf hk h1 h2 => ?_, fun k hn => ?_⟩
  · rcases memH_find m0 f acc k with ⟨x, hx, L', f1, k1, l1, u1, e1⟩ | ⟨n1, _⟩
    · have hm := D.mem x hx
      have hhi := D.hdl _ _ _ hm k1
      have := D.uniq hj hm ⟨h1, h2⟩ ⟨l1, by omega⟩
      subst this
      rw [hj] at hm; cases hm
      rw [hk] at k1; cases k1
      exact e1
    · have := n1 (j, inf) (find_mem acc j inf hj) L hf hk
      have hhi := D.hdl _ _ _ hj hk
      have hq : k < inf.lo + L.length := by omega
      exact absurd ⟨h1, hq⟩ this
  · rcases memH_find m0 f acc k with ⟨x, hx, L', f1, k1, l1, u1, e1⟩ | ⟨_, e⟩
    · have hm := D.mem x hx
      have hhi := D.hdl _ _ _ hm k1
      exact absurd ⟨l1, by omega⟩ (hn x.1 x.2 L' hm f1 k1)
    · exact e

/-- the same of a longer table -/
theorem lv_cons {nx0 : Nat} {acc : Acc} {x : Nat × Inf} {f : Nat → Bool} {k : Nat} (h : lv nx0 acc f k = true) : lv nx0 (x :: acc) f k = true := by
  rw [lv_iff] at *
  rcases h with h | ⟨y, hy, r⟩
  · exact .inl h
  · exact .inr ⟨y, List.mem_cons_of_mem _ hy, r⟩

theorem lv1_cons {nx0 : Nat} {acc : Acc} {x : Nat × Inf} {f : Nat → Bool} {lo hi k : Nat} (h : lv1 nx0 acc f lo hi k = true) : lv1 nx0 (x :: acc) f lo hi k = true := by
  rw [lv1_iff] at *
  exact h.imp lv_cons id

end
end Go.Sx

set_option linter.unusedVariables false
namespace Go.Sx
open Go.RowKit

section
variable {cx : Cx} {H : Hook} {sz : Nat} {orc : Orc} {ops : List Oper} {t0 : TM} {m0 : Mem} {nx0 : Nat} {acc : Acc} {i nx hm em : Nat} {full : Mem}

def hmOf (k : Kd) (hm i : Nat) : Nat := match k with
  | .pure => hm
  | _ => Nat.lor hm (2 ^ i)
def emOf (k : Kd) (em i : Nat) : Nat := match k with
  | .eff _ => Nat.lor em (2 ^ i)
  | _ => em

theorem MemH.skip {f : Nat → Bool} {M : Mem} {inf : Inf} (h : MemH m0 acc f M) (hn : ∀ j inf, find acc j = some inf → j < i) (hk : ∀ L, inf.k ≠ .head L) : MemH m0 ((i, inf) :: acc) f M := by
  refine ⟨fun j inf' L k hj hf hk' h1 h2 => ?_, fun k hh => h.2 k fun j inf' L hj hf hk' => hh j inf' L ?_ hf hk'⟩
  · rw [find_cons] at hj
    by_cases e : i = j
    · rw [if_pos e] at hj; cases hj; exact absurd hk' (hk L)
    · rw [if_neg e] at hj; exact h.1 j inf' L k hj hf hk' h1 h2
  · rw [find_cons, if_neg]
    · exact hj
    · intro e; have := hn j inf' hj; omega

theorem MemH.add {f : Nat → Bool} {M : Mem} {inf : Inf} {L : List Seg} (h : MemH m0 acc f M) (D : DI t0 m0 nx0 sz acc i nx hm em full) (hk : inf.k = .head L) (hlo : inf.lo = nx) (hhi : inf.hi = nx + L.length) (hf : f i = true) :
    MemH m0 ((i, inf) :: acc) f (addM nx L M) := by
  have inj : ∀ j inf', find acc j = some inf' → find ((i, inf) :: acc) j = some inf' := fun j inf' hj => by
    rw [find_cons, if_neg]
    · exact hj
    · intro e; have := D.dom j inf' hj; omega
  refine ⟨fun j inf' L' k hj hf' hk' h1 h2 => ?_, fun k hh => ?_⟩
  · rw [find_addM]
    rw [find_cons] at hj
    by_cases e : i = j
    · rw [if_pos e] at hj; cases hj; rw [hk] at hk'; cases hk'
      rw [if_pos (by omega), hlo]
    · rw [if_neg e] at hj
      have := (D.rng j inf' hj).2.2
      rw [if_neg (by omega)]
      exact h.1 j inf' L' k hj hf' hk' h1 h2
  · have h1 : ¬ (nx ≤ k ∧ k < nx + L.length) := by
      have := hh i inf L (by rw [find_cons, if_pos rfl]) hf hk
      rw [hlo, hhi] at this; exact this
    rw [find_addM, if_neg h1]
    exact h.2 k fun j inf' L' hj hf' hk' => hh j inf' L' (inj j inf' hj) hf' hk'

theorem dstOk_spec {cl d : Nat} (h : dstOk sz acc t0 cl (some d) = true) : d < sz ∧ freshD d acc = true ∧ ∀ v, find t0 d = some v → readersIn cl d acc = true := by
  simp only [dstOk] at h
  cases h1 : Nat.blt d sz with
  | false => rw [h1] at h; cases h
  | true =>
    rw [h1, cond_true] at h
    cases h2 : freshD d acc with
    | false => rw [h2] at h; cases h
    | true =>
      rw [h2, cond_true] at h
      refine ⟨blt_iff.1 h1, rfl, fun v hv => ?_⟩
      rw [hv] at h
      exact h

theorem DI.step (D : DI t0 m0 nx0 sz acc i nx hm em full) {full' : Mem} {o : Oper} {inf : Inf} {ob : List Prop} {LP : Nat → Prop} (h : StepOk cx H sz orc ops t0 m0 nx0 acc i nx hm em full o inf full' ob LP) :
    DI t0 m0 nx0 sz ((i, inf) :: acc) (i + 1) inf.hi (hmOf inf.k hm i) (emOf inf.k em i) full' := by
  obtain ⟨hedge, cl, t, hcl, hdst, ht, hsk⟩ := h
  obtain ⟨pd, pc, pr, pl, ph, pv⟩ := hsk.parts
  have get : ∀ {j infj}, find ((i, inf) :: acc) j = some infj → (j = i ∧ infj = inf) ∨ (j < i ∧ find acc j = some infj) := by
    intro j infj hj
    rw [find_cons] at hj
    by_cases e : i = j
    · rw [if_pos e] at hj; cases hj; exact .inl ⟨e.symm, rfl⟩
    · rw [if_neg e] at hj; exact .inr ⟨D.dom j infj hj, hj⟩
  have new : find ((i, inf) :: acc) i = some inf := by rw [find_cons, if_pos rfl]
  have old : ∀ {j infj}, find acc j = some infj → find ((i, inf) :: acc) j = some infj := by
    intro j infj hj
    rw [find_cons, if_neg]
    · exact hj
    · intro e; have := D.dom j infj hj; omega
  have hmMono : ∀ j, bit hm j = true → bit (hmOf inf.k hm i) j = true := by
    intro j hj
    unfold hmOf
    split
    · exact hj
    · rw [bit_or, hj]; rfl
  have clNew : ∀ j', bit inf.cl j' = true → j' < i := by
    intro j' hj'
    rw [pc] at hj'
    rcases clM_spec acc _ _ _ hcl j' hj' with h0 | ⟨e, he, hbe, h1⟩
    · rw [bit_eq, Nat.zero_testBit] at h0; cases h0
    · have hlt := hedge e (Array.mem_toList_iff.1 he) hbe
      rcases h1 with rfl | ⟨inf', h2, h3⟩
      · exact hlt
      · have := D.clb _ _ h2 _ h3; omega
  have hmCl : ∀ m, inf.k = .eff m → ∀ j, bit hm j = true → bit inf.cl j = true := by
    intro m hk j hj
    cases hsk with
    | skip _ e _ => subst e; cases hk
    | pure v _ _ _ _ hv e _ _ => subst e; cases hk
    | late v _ _ _ _ _ _ _ _ _ _ _ _ _ hv e _ _ _ => subst e; cases hk
    | head e' L _ _ _ _ _ hv _ e _ _ => subst e; cases hk
    | eff e' _ _ hland _ hv hle e _ _ =>
      subst e
      have := congrArg (fun x => bit x j) hland
      simp only [bit_and, hj, Bool.and_true] at this
      exact this
  refine ⟨fun j infj hj => ?_, fun j hj => ?_, fun x hx => ?_, Nat.le_trans D.le ph, fun j infj hj => ?_, fun j j' infj infj' hj hj' hlt => ?_, fun k h1 h2 => ?_, fun j infj hj hk => ?_, fun j infj L hj hk => ?_, fun j infj hj hk => ?_,
    fun he => ?_, fun j j' infj infj' L m hj hj' hk hk' => ?_, fun j j' infj infj' m hj hj' hk hk' hlt => ?_, ?_, fun j infj hj j' hb => ?_, fun j j' infj infj' d hj hj' hd hd' => ?_, fun j infj d hj hd => ?_,
    fun j j' infj infj' d v hj hj' hd hr hf hlt => ?_, fun j infj hj => ?_, fun j infj L n s hj hk hs => ?_⟩
  · rcases get hj with ⟨rfl, _⟩ | ⟨h1, _⟩ <;> omega
  · rcases Nat.lt_or_ge j i with h1 | h1
    · obtain ⟨infj, h2⟩ := D.tot j h1; exact ⟨infj, old h2⟩
    · have : j = i := by omega
      subst this; exact ⟨inf, new⟩
  · rcases List.mem_cons.1 hx with rfl | hx
    · exact new
    · exact old (D.mem x hx)
  · rcases get hj with ⟨rfl, rfl⟩ | ⟨h1, h2⟩
    · have := D.le; exact ⟨by omega, by omega, Nat.le_refl _⟩
    · have := D.rng j infj h2; exact ⟨this.1, this.2.1, by omega⟩
  · rcases get hj with ⟨rfl, rfl⟩ | ⟨h1, h2⟩
    · rcases get hj' with ⟨rfl, rfl⟩ | ⟨h3, h4⟩ <;> omega
    · rcases get hj' with ⟨rfl, rfl⟩ | ⟨h3, h4⟩
      · have := D.rng j infj h2; omega
      · exact D.ord j j' infj infj' h2 h4 hlt
  · rcases Nat.lt_or_ge k nx with h3 | h3
    · obtain ⟨j, infj, r1, r2⟩ := D.cov k h1 h3; exact ⟨j, infj, old r1, r2⟩
    · exact ⟨i, inf, new, by omega, h2⟩
  · rcases get hj with ⟨rfl, rfl⟩ | ⟨h1, h2⟩
    · cases hsk with
      | skip _ e _ => subst e; rfl
      | pure v _ _ _ _ hv e _ _ => subst e; rfl
      | late v _ _ _ _ _ _ _ _ _ _ _ _ _ hv e _ _ _ => subst e; rfl
      | head e' L _ _ _ _ _ hv _ e _ _ => subst e; cases hk
      | eff e' _ _ hland _ hv hle e _ _ => subst e; cases hk
    · exact D.pur j infj h2 hk
  · rcases get hj with ⟨rfl, rfl⟩ | ⟨h1, h2⟩
    · cases hsk with
      | skip _ e _ => subst e; cases hk
      | pure v _ _ _ _ hv e _ _ => subst e; cases hk
      | late v _ _ _ _ _ _ _ _ _ _ _ _ _ hv e _ _ _ => subst e; cases hk
      | head e' L _ _ _ _ _ hv _ e _ _ => subst e; cases hk; rfl
      | eff e' _ _ hland _ hv hle e _ _ => subst e; cases hk
    · exact D.hdl j infj L h2 hk
  · rcases get hj with ⟨rfl, rfl⟩ | ⟨h1, h2⟩
    · unfold hmOf
      split
      · rename_i e; exact absurd e hk
      · rw [bit_or, (bit_pow j j).2 rfl, Bool.or_true]
    · exact hmMono j (D.hmb j infj h2 hk)
  · intro j infj m hj hk
    have key : ∀ m, inf.k ≠ .eff m := by
      intro m hk'
      have h1 : bit (emOf inf.k em i) i = true := by rw [hk']; simp only [emOf]; rw [bit_or, (bit_pow i i).2 rfl, Bool.or_true]
      rw [he, bit_eq, Nat.zero_testBit] at h1
      cases h1
    rcases get hj with ⟨rfl, rfl⟩ | ⟨h1, h2⟩
    · exact key m hk
    · have : em = 0 := by
        unfold emOf at he
        split at he
        · rename_i m' e; exact absurd e (key m')
        · exact he
      exact D.em0 this j infj m h2 hk
  · rcases get hj with ⟨rfl, rfl⟩ | ⟨h1, h2⟩
    · rcases get hj' with ⟨rfl, rfl⟩ | ⟨h3, h4⟩
      · rw [hk] at hk'; cases hk'
      · cases hsk with
        | skip _ e _ => subst e; cases hk
        | pure v _ _ _ _ hv e _ _ => subst e; cases hk
        | late v _ _ _ _ _ _ _ _ _ _ _ _ _ hv e _ _ _ => subst e; cases hk
        | head e' L' _ _ h0 _ _ hv _ e _ _ => exact absurd hk' (D.em0 h0 j' infj' m h4)
        | eff e' _ _ hland _ hv hle e _ _ => subst e; cases hk
    · rcases get hj' with ⟨rfl, rfl⟩ | ⟨h3, h4⟩
      · exact h1
      · exact D.ohe j j' infj infj' L m h2 h4 hk hk'
  · rcases get hj with ⟨rfl, rfl⟩ | ⟨h1, h2⟩
    · rcases get hj' with ⟨rfl, rfl⟩ | ⟨h3, h4⟩
      · omega
      · exact hmCl m hk j' (D.hmb j' infj' h4 hk')
    · rcases get hj' with ⟨rfl, rfl⟩ | ⟨h3, h4⟩
      · omega
      · exact D.ehm j j' infj infj' m h2 h4 hk hk' hlt
  · cases hsk with
    | skip _ e ef =>
      subst e ef
      rcases D.full with ⟨f1, f2⟩ | ⟨j, infj, f1, f2, f3⟩
      · refine .inl ⟨fun j infj m hj hk => ?_, f2.skip D.dom fun L e => by cases e⟩
        rcases get hj with ⟨rfl, rfl⟩ | ⟨h1, h2⟩
        · cases hk
        · exact f1 j infj m h2 hk
      · refine .inr ⟨j, infj, old f1, f2, fun j' infj' m hj' hk' => ?_⟩
        rcases get hj' with ⟨rfl, rfl⟩ | ⟨h1, h2⟩
        · cases hk'
        · exact f3 j' infj' m h2 hk'
    | pure v _ _ _ _ hv e ef _ =>
      subst e ef
      rcases D.full with ⟨f1, f2⟩ | ⟨j, infj, f1, f2, f3⟩
      · refine .inl ⟨fun j infj m hj hk => ?_, f2.skip D.dom fun L e => by cases e⟩
        rcases get hj with ⟨rfl, rfl⟩ | ⟨h1, h2⟩
        · cases hk
        · exact f1 j infj m h2 hk
      · refine .inr ⟨j, infj, old f1, f2, fun j' infj' m hj' hk' => ?_⟩
        rcases get hj' with ⟨rfl, rfl⟩ | ⟨h1, h2⟩
        · cases hk'
        · exact f3 j' infj' m h2 hk'
    | late v _ _ _ _ _ _ _ _ _ _ _ _ _ hv e ef _ _ =>
      subst e ef
      rcases D.full with ⟨f1, f2⟩ | ⟨j, infj, f1, f2, f3⟩
      · refine .inl ⟨fun j infj m hj hk => ?_, f2.skip D.dom fun L e => by cases e⟩
        rcases get hj with ⟨rfl, rfl⟩ | ⟨h1, h2⟩
        · cases hk
        · exact f1 j infj m h2 hk
      · refine .inr ⟨j, infj, old f1, f2, fun j' infj' m hj' hk' => ?_⟩
        rcases get hj' with ⟨rfl, rfl⟩ | ⟨h1, h2⟩
        · cases hk'
        · exact f3 j' infj' m h2 hk'
    | head e' L _ _ h0 _ _ hv _ e ef _ =>
      subst e ef
      rcases D.full with ⟨f1, f2⟩ | ⟨j, infj, f1, f2, f3⟩
      · refine .inl ⟨fun j infj m hj hk => ?_, f2.add D rfl rfl rfl rfl⟩
        rcases get hj with ⟨rfl, rfl⟩ | ⟨h1, h2⟩
        · cases hk
        · exact f1 j infj m h2 hk
      · exact absurd f2 (D.em0 h0 j infj _ f1)
    | eff e' _ _ hland _ hv hle e ef _ =>
      subst e ef
      refine .inr ⟨i, _, new, rfl, fun j' infj' m hj' hk' => ?_⟩
      rcases get hj' with ⟨rfl, rfl⟩ | ⟨h1, h2⟩
      · exact Nat.le_refl _
      · omega
  · rcases get hj with ⟨rfl, rfl⟩ | ⟨h1, h2⟩
    · exact clNew j' hb
    · exact D.clb j infj h2 j' hb
  · have fr : ∀ j infj, find acc j = some infj → infj.dst = some d → inf.dst = some d → False := by
      intro j infj hj hd hd'
      rw [pd] at hd'
      rw [hd'] at hdst
      exact freshD_spec d acc (dstOk_spec hdst).2.1 (j, infj) (find_mem acc j infj hj) hd
    rcases get hj with ⟨rfl, rfl⟩ | ⟨h1, h2⟩
    · rcases get hj' with ⟨rfl, rfl⟩ | ⟨h3, h4⟩
      · rfl
      · exact (fr j' infj' h4 hd' hd).elim
    · rcases get hj' with ⟨rfl, rfl⟩ | ⟨h3, h4⟩
      · exact (fr j infj h2 hd hd').elim
      · exact D.dst j j' infj infj' d h2 h4 hd hd'
  · rcases get hj with ⟨rfl, rfl⟩ | ⟨h1, h2⟩
    · rw [pd] at hd
      rw [hd] at hdst
      exact (dstOk_spec hdst).1
    · exact D.dsz j infj d h2 hd
  · rcases get hj with ⟨rfl, rfl⟩ | ⟨h1, h2⟩
    · rcases get hj' with ⟨rfl, rfl⟩ | ⟨h3, h4⟩
      · omega
      · rw [pd] at hd
        rw [hd] at hdst
        rw [pc]
        exact readersIn_spec cl d acc ((dstOk_spec hdst).2.2 v hf) (j', infj') (find_mem acc j' infj' h4) hr
    · rcases get hj' with ⟨rfl, rfl⟩ | ⟨h3, h4⟩
      · omega
      · exact D.rdr j j' infj infj' d v h2 h4 hd hr hf hlt
  · rcases get hj with ⟨rfl, rfl⟩ | ⟨h1, h2⟩
    · rw [pc, pl]
      exact SV.on_mono (fun k hk => lv1_cons hk) pv
    · exact SV.on_mono (fun k hk => lv1_cons hk) (D.von j infj h2)
  · rcases get hj with ⟨rfl, rfl⟩ | ⟨h1, h2⟩
    · cases hsk with
      | skip _ e _ => subst e; cases hk
      | pure v _ _ _ _ hv e _ _ => subst e; cases hk
      | late v _ _ _ _ _ _ _ _ _ _ _ _ _ hv e _ _ _ => subst e; cases hk
      | head e' L' _ _ _ _ _ hv hL e _ _ =>
        subst e; cases hk
        obtain ⟨a1, a2⟩ := okL_spec _ hL n s hs
        exact ⟨SegD.on_mono (fun k hk => lv1_cons hk) a1, a2⟩
      | eff e' _ _ hland _ hv hle e _ _ => subst e; cases hk
    · obtain ⟨a1, a2⟩ := D.lon j infj L n s h2 hk hs
      exact ⟨SegD.on_mono (fun k hk => lv1_cons hk) a1, a2⟩

theorem DI.nil (t0 : TM) (m0 : Mem) (nx0 sz : Nat) : DI t0 m0 nx0 sz [] 0 nx0 0 0 m0 where
  dom := fun j inf h => by cases h
  tot := fun j h => by omega
  mem := fun x h => by cases h
  le := Nat.le_refl _
  rng := fun j inf h => by cases h
  ord := fun j j' inf inf' h => by cases h
  cov := fun k h1 h2 => by omega
  pur := fun j inf h => by cases h
  hdl := fun j inf L h => by cases h
  hmb := fun j inf h => by cases h
  em0 := fun _ j inf m h => by cases h
  ohe := fun j j' inf inf' L m h => by cases h
  ehm := fun j j' inf inf' m h => by cases h
  full := .inl ⟨fun _ _ _ h => (by cases h), ⟨fun _ _ _ _ h => (by cases h), fun _ _ => rfl⟩⟩
  clb := fun j inf h => by cases h
  dst := fun j j' inf inf' d h => by cases h
  dsz := fun j inf d h => by cases h
  rdr := fun j j' inf inf' d v h => by cases h
  von := fun j inf h => by cases h
  lon := fun j inf L n s h => by cases h

theorem lateObs_spec {m0 m : Mem} {cl : Nat} : ∀ {lt : List (Nat × Nat)}, (∀ p ∈ lateObs m0 m cl lt, p) → ∀ x ∈ lt, bit cl x.1 = true ∨ find m x.2 = find m0 x.2
  | [], _, x, hx => by cases hx
  | (i, K) :: r, h, x, hx => by
    simp only [lateObs] at h
    cases hb : bit cl i with
    | true =>
      rw [hb, cond_true] at h
      rcases List.mem_cons.1 hx with rfl | hx
      · exact .inl hb
      · exact lateObs_spec h x hx
    | false =>
      rw [hb, cond_false] at h
      rcases List.mem_cons.1 hx with rfl | hx
      · exact .inr (h _ List.mem_cons_self)
      · exact lateObs_spec (fun p hp => h p (List.mem_cons_of_mem _ hp)) x hx

/-- no effect that may come ahead of load i alters what it loads -/
def LateOk (m0 : Mem) (A : Acc) (i K : Nat) : Prop := ∀ j inf m, find A j = some inf → inf.k = .eff m → bit inf.cl i = true ∨ find m K = find m0 K

/-- what the run of a row of operations says -/
theorem runD_spec {lm : Bool} : ∀ (l : List Oper) (acc : Acc) (i nx hm em : Nat) (full : Mem) (lt : List (Nat × Nat)) (A : Acc) (NX : Nat) (FU : Mem) (ob : List Prop), DI t0 m0 nx0 sz acc i nx hm em full →
    runD cx H sz orc ops t0 m0 nx0 lm l acc i nx hm em full lt = some (A, NX, FU, ob) → (∀ p ∈ ob, p) →
    (∃ hm' em', DI t0 m0 nx0 sz A (i + l.length) NX hm' em' FU) ∧ (∀ j, j < i → find A j = find acc j) ∧
    (∀ x ∈ lt, ∀ j inf m, i ≤ j → find A j = some inf → inf.k = .eff m → bit inf.cl x.1 = true ∨ find m x.2 = find m0 x.2) ∧
    ∀ n o, l[n]? = some o → ∃ acc' nx' hm' em' full' full'' inf ob', DI t0 m0 nx0 sz acc' (i + n) nx' hm' em' full' ∧ (∀ j, j < i + n → find A j = find acc' j) ∧
      StepOk cx H sz orc ops t0 m0 nx0 acc' (i + n) nx' hm' em' full' o inf full'' ob' (LateOk m0 A (i + n)) ∧ (∀ p ∈ ob', p) ∧ find A (i + n) = some inf
  | [], acc, i, nx, hm, em, full, lt, A, NX, FU, ob, D, h, hob => by
    cases h
    exact ⟨⟨hm, em, D⟩, fun _ _ => rfl, fun x _ j inf m hij hj _ => (by have := D.dom j inf hj; omega), fun n o hn => by simp at hn⟩
  | o :: r, acc, i, nx, hm, em, full, lt, A, NX, FU, ob, D, h, hob => by
    simp only [runD] at h
    split at h
    · rename_i K inf ob1 hlate
      cases lm with
      | false => cases hlate
      | true =>
        rw [cond_true] at hlate
        split at h <;> first | (cases h; done) | skip
        rename_i A' NX' FU' ob2 hrun
        cases h
        obtain ⟨h0, hkp, hhi, hst0⟩ := lateD_spec (H := H) (hm := hm) (full := full) (LP := fun _ => True) hlate trivial
        have D' := D.step hst0
        rw [hkp, hhi] at D'
        obtain ⟨⟨hm', em', D''⟩, hag, hlt, hall⟩ := runD_spec r _ _ _ _ _ _ _ _ _ _ _ D' hrun (fun p hp => hob p (by simp [hp]))
        have hLP : LateOk m0 A i K := by
          intro j infj m hj hk
          rcases Nat.lt_or_ge i j with hij | hij
          · exact hlt (i, K) List.mem_cons_self j infj m hij hj hk
          · rw [hag j (by omega), find_cons] at hj
            by_cases e : i = j
            · rw [if_pos e] at hj; cases hj; rw [hkp] at hk; cases hk
            · rw [if_neg e] at hj; exact absurd hk (D.em0 h0 j infj m hj)
        refine ⟨⟨hm', em', by rw [List.length_cons, show i + (r.length + 1) = i + 1 + r.length by omega]; exact D''⟩, fun j hj => ?_, fun x hx j infj m hij hj hk => ?_, fun n o' hn => ?_⟩
        · rw [hag j (by omega), find_cons, if_neg (by omega)]
        · rcases Nat.lt_or_ge i j with h1 | h1
          · exact hlt x (List.mem_cons_of_mem _ hx) j infj m h1 hj hk
          · have : j = i := by omega
            subst this
            rw [hag j (by omega), find_cons, if_pos rfl] at hj
            cases hj; rw [hkp] at hk; cases hk
        · cases n with
          | zero =>
            simp only [List.getElem?_cons_zero, Option.some.injEq] at hn
            subst hn
            refine ⟨acc, nx, hm, em, full, full, inf, ob1, D, fun j hj => ?_, (lateD_spec (H := H) (hm := hm) (full := full) hlate hLP).2.2.2, fun p hp => hob p (by simp [hp]), ?_⟩
            · rw [hag j (by omega), find_cons, if_neg (by omega)]
            · rw [Nat.add_zero, hag i (by omega), find_cons, if_pos rfl]
          | succ n =>
            simp only [List.getElem?_cons_succ] at hn
            have := hall n o' hn
            rw [show i + 1 + n = i + (n + 1) by omega] at this
            exact this
    · split at h <;> first | (cases h; done) | skip
      rename_i inf full' ob1 hstep
      split at h <;> first | (cases h; done) | skip
      rename_i A' NX' FU' ob2 hrun
      cases h
      have D' := D.step (stepD_spec (LP := fun _ => True) hstep)
      obtain ⟨⟨hm', em', D''⟩, hag, hlt, hall⟩ := runD_spec r _ _ _ _ _ _ _ _ _ _ _ D' hrun (fun p hp => hob p (by simp [hp]))
      refine ⟨⟨hm', em', by rw [List.length_cons, show i + (r.length + 1) = i + 1 + r.length by omega]; exact D''⟩, fun j hj => ?_, fun x hx j infj m hij hj hk => ?_, fun n o' hn => ?_⟩
      · rw [hag j (by omega), find_cons, if_neg (by omega)]
      · rcases Nat.lt_or_ge i j with h1 | h1
        · exact hlt x hx j infj m h1 hj hk
        · have : j = i := by omega
          subst this
          rw [hag j (by omega), find_cons, if_pos rfl] at hj
          cases hj
          refine lateObs_spec (lt := lt) (fun p hp => hob p ?_) x hx
          unfold lateOb
          rw [hk]
          simp [hp]
      · cases n with
        | zero =>
          simp only [List.getElem?_cons_zero, Option.some.injEq] at hn
          subst hn
          refine ⟨acc, nx, hm, em, full, full', inf, ob1, D, fun j hj => ?_, stepD_spec hstep, fun p hp => hob p (by simp [hp]), ?_⟩
          · rw [hag j (by omega), find_cons, if_neg (by omega)]
          · rw [Nat.add_zero, hag i (by omega), find_cons, if_pos rfl]
        | succ n =>
          simp only [List.getElem?_cons_succ] at hn
          have := hall n o' hn
          rw [show i + 1 + n = i + (n + 1) by omega] at this
          exact this

end
end Go.Sx
