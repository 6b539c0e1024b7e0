/- A drawn region: the symbolic run in the text's order, and the checks under which every order comes to the same. Conditions: none; plain definitions and theorems over any program. -/
import Derived.Test.YtnloecdkogckiaaDoorSx11
set_option linter.unusedVariables false
namespace Go.Sx
open Go.RowKit

def bit (m n : Nat) : Bool := Nat.beq (Nat.land 1 (Nat.shiftRight m n)) 1

theorem bit_eq (m n : Nat) : bit m n = m.testBit n := by
  have h : Nat.land 1 (Nat.shiftRight m n) = 1 &&& (m >>> n) := rfl
  unfold bit Nat.testBit
  rw [h, Nat.and_comm, Nat.and_one_is_mod]
  rcases Nat.mod_two_eq_zero_or_one (m >>> n) with h | h <;> rw [h] <;> rfl

theorem bit_or (x y n : Nat) : bit (Nat.lor x y) n = (bit x n || bit y n) := by
  simp only [bit_eq]
  exact Nat.testBit_or x y n

theorem bit_pow (i n : Nat) : bit (2 ^ i) n = true ↔ i = n := by
  rw [bit_eq, Nat.testBit_two_pow]
  simp

theorem bit_and (x y n : Nat) : bit (Nat.land x y) n = (bit x n && bit y n) := by
  simp only [bit_eq]
  exact Nat.testBit_and x y n

inductive Kd where
  | pure
  | head (L : List Seg)
  | eff (m : Mem)

/-- what is known of one operation of a drawn region -/
structure Inf where
  dst : Option Nat
  v : SV
  cl : Nat
  rd : List Nat
  lo : Nat
  hi : Nat
  k : Kd

abbrev Acc := List (Nat × Inf)

def clM (acc : Acc) : List Edge → Nat → Option Nat
  | [], c => some c
  | e :: r, c => bif Region.binds .any e then (bif bit c e.on then clM acc r c else match find acc e.on with
    | some inf => clM acc r (Nat.lor (Nat.lor c (2 ^ e.on)) inf.cl)
    | none => none) else clM acc r c

def lookT (t0 : TM) (cl d : Nat) : Acc → Option SV
  | [] => find t0 d
  | (j, inf) :: r => match inf.dst with
    | some d' => bif Nat.beq d' d then (bif bit cl j then some inf.v else none) else lookT t0 cl d r
    | none => lookT t0 cl d r

def resT (acc : Acc) (t0 : TM) (cl : Nat) : List Nat → Option TM
  | [] => some []
  | d :: r => match lookT t0 cl d acc, resT acc t0 cl r with
    | some v, some t => some ((d, v) :: t)
    | _, _ => none

def freshD (d : Nat) : Acc → Bool
  | [] => true
  | (_, inf) :: r => match inf.dst with
    | some d' => bif Nat.beq d' d then false else freshD d r
    | none => freshD d r

def readersIn (cl d : Nat) : Acc → Bool
  | [] => true
  | (j, inf) :: r => bif inf.rd.any (Nat.beq d) then bif bit cl j then readersIn cl d r else false else readersIn cl d r

def dstOk (sz : Nat) (acc : Acc) (t0 : TM) (cl : Nat) : Option Nat → Bool
  | none => true
  | some d => bif Nat.blt d sz then (bif freshD d acc then (match find t0 d with
    | none => true
    | some _ => readersIn cl d acc) else false) else false

def memH (m0 : Mem) (f : Nat → Bool) : Acc → Mem
  | [] => m0
  | (j, inf) :: r => match inf.k with
    | .head L => bif f j then addM inf.lo L (memH m0 f r) else memH m0 f r
    | _ => memH m0 f r

def lv (nx0 : Nat) (acc : Acc) (f : Nat → Bool) (k : Nat) : Bool :=
  Nat.blt k nx0 || acc.any fun x => f x.1 && (Nat.ble x.2.lo k && Nat.blt k x.2.hi)

def lv1 (nx0 : Nat) (acc : Acc) (f : Nat → Bool) (lo hi : Nat) (k : Nat) : Bool :=
  lv nx0 acc f k || (Nat.ble lo k && Nat.blt k hi)

def okL (p : Nat → Bool) : List Seg → Bool
  | [] => true
  | [s] => s.d.on p && !s.nxt
  | s :: r => s.d.on p && okL p r

def readsOf (ops : List Oper) (o : Oper) : List Nat :=
  (match o.guard with
  | some (j, _) => (match ops[j]? with
    | some oj => (match oj.dst with
      | some d => [d]
      | none => [])
    | none => [])
  | none => []) ++ o.op.operands.toList.filterMap fun x => match x with
    | .tmp t => some t
    | _ => none

section
variable (cx : Cx) (H : Hook) (sz : Nat) (orc : Orc) (ops : List Oper) (t0 : TM) (m0 : Mem) (nx0 : Nat)

def headD (acc : Acc) (nx em cl : Nat) (full : Mem) (t : TM) (o : Oper) : Option (Inf × Mem × List Prop) :=
  bif Nat.beq em 0 then (match opM cx H t (memH m0 (bit cl) acc) nx o.op with
    | some e => match e.c with
      | .read => bif e.v.on (lv1 nx0 acc (bit cl) nx nx) then some (⟨o.dst, e.v, cl, readsOf ops o, nx, nx, .head []⟩, full, e.ob) else none
      | .new L => bif e.v.on (lv1 nx0 acc (bit cl) nx (nx + L.length)) && okL (lv1 nx0 acc (bit cl) nx (nx + L.length)) L then some (⟨o.dst, e.v, cl, readsOf ops o, nx, nx + L.length, .head L⟩, addM nx L full, e.ob) else none
      | _ => none
    | none => none) else none

def effD (acc : Acc) (nx hm cl : Nat) (full : Mem) (t : TM) (o : Oper) : Option (Inf × Mem × List Prop) :=
  bif Nat.beq (Nat.land cl hm) hm then (match opM cx H t full nx o.op with
    | some e => bif e.v.on (lv1 nx0 acc (bit cl) nx e.nx) && Nat.ble nx e.nx then some (⟨o.dst, e.v, cl, readsOf ops o, nx, e.nx, .eff e.m⟩, e.m, e.ob) else none
    | none => none) else none

def workD (acc : Acc) (nx hm em cl : Nat) (full : Mem) (t : TM) (o : Oper) : Option (Inf × Mem × List Prop) :=
  match pureX cx t (memH m0 (bit cl) acc) o.op with
  | some (v, ob) => bif v.on (lv1 nx0 acc (bit cl) nx nx) then some (⟨o.dst, v, cl, readsOf ops o, nx, nx, .pure⟩, full, ob) else none
  | none => match headD cx H ops m0 nx0 acc nx em cl full t o with
    | some r => some r
    | none => effD cx H ops nx0 acc nx hm cl full t o

def stepD (acc : Acc) (i nx hm em : Nat) (full : Mem) (o : Oper) : Option (Inf × Mem × List Prop) :=
  bif o.after.toList.all (fun e => !Region.binds .any e || Nat.blt e.on i) then (match clM acc o.after.toList 0 with
    | none => none
    | some cl => bif dstOk sz acc t0 cl o.dst then (match resT acc t0 cl (readsOf ops o) with
      | none => none
      | some t => match wantX orc t ops o with
        | none => none
        | some (false, ob) => some (⟨o.dst, undefS, cl, readsOf ops o, nx, nx, .pure⟩, full, ob)
        | some (true, ob) => match workD cx H ops m0 nx0 acc nx hm em cl full t o with
          | some (inf, full', ob') => some (inf, full', ob ++ ob')
          | none => none) else none) else none

/-- a load that may come late: from a piece that was there, ahead of all effects -/
def lateD (acc : Acc) (i nx em : Nat) (o : Oper) : Option (Nat × Inf × List Prop) :=
  bif Nat.beq em 0 && o.after.toList.all (fun e => !Region.binds .any e || Nat.blt e.on i) then (match o.op with
    | .load ty x => (match clM acc o.after.toList 0 with
      | none => none
      | some cl => bif dstOk sz acc t0 cl o.dst then (match resT acc t0 cl (readsOf ops o) with
        | none => none
        | some t => match wantX orc t ops o with
          | some (true, ob) => (match evs cx t x with
            | some (.p K _) => (match find m0 K with
              | some s => (match loadM cx t [(K, s)] ty x with
                | some (v, ob') => bif v.on (lv1 nx0 acc (bit cl) nx nx) then some (K, ⟨o.dst, v, cl, readsOf ops o, nx, nx, .pure⟩, ob ++ ob') else none
                | none => none)
              | none => none)
            | _ => none)
          | _ => none) else none)
    | _ => none) else none

/-- what an effect owes to the loads that may come behind it -/
def lateObs (m0 m : Mem) (cl : Nat) : List (Nat × Nat) → List Prop
  | [] => []
  | (i, K) :: r => bif bit cl i then lateObs m0 m cl r else (find m K = find m0 K) :: lateObs m0 m cl r
def lateOb (m0 : Mem) (lt : List (Nat × Nat)) (inf : Inf) : List Prop := match inf.k with
  | .eff m => lateObs m0 m inf.cl lt
  | _ => []

def runD (lm : Bool) : List Oper → Acc → Nat → Nat → Nat → Nat → Mem → List (Nat × Nat) → Option (Acc × Nat × Mem × List Prop)
  | [], acc, i, nx, hm, em, full, lt => some (acc, nx, full, [])
  | o :: r, acc, i, nx, hm, em, full, lt => match (bif lm then lateD cx sz orc ops t0 m0 nx0 acc i nx em o else none) with
    | some (K, inf, ob) => (match runD lm r ((i, inf) :: acc) (i + 1) nx hm em full ((i, K) :: lt) with
      | some (A, nx', full'', ob') => some (A, nx', full'', ob ++ ob')
      | none => none)
    | none => match stepD cx H sz orc ops t0 m0 nx0 acc i nx hm em full o with
      | some (inf, full', ob) => match runD lm r ((i, inf) :: acc) (i + 1) inf.hi (match inf.k with
          | .pure => hm
          | _ => Nat.lor hm (2 ^ i)) (match inf.k with
          | .eff _ => Nat.lor em (2 ^ i)
          | _ => em) full' lt with
        | some (A, nx', full'', ob') => some (A, nx', full'', ob ++ (lateOb m0 lt inf ++ ob'))
        | none => none
      | none => none

def outT : Acc → TM
  | [] => t0
  | (_, inf) :: r => match inf.dst with
    | some d => (d, inf.v) :: outT r
    | none => outT r

/-- a drawn region, run -/
def drawX (s : St) : Option (St × List Prop) :=
  match runD cx H sz orc ops s.t s.m s.nx false ops [] 0 s.nx 0 0 s.m [] with
  | some (A, nx, full, ob) => some (⟨outT s.t A, full, nx⟩, ob)
  | none => match runD cx H sz orc ops s.t s.m s.nx true ops [] 0 s.nx 0 0 s.m [] with
    | some (A, nx, full, ob) => some (⟨outT s.t A, full, nx⟩, ob)
    | none => none

end

/-! ### What the bookkeeping says -/

def MemH (m0 : Mem) (acc : Acc) (f : Nat → Bool) (M : Mem) : Prop :=
  (∀ j inf L k, find acc j = some inf → f j = true → inf.k = .head L → inf.lo ≤ k → k < inf.hi → find M k = L[k - inf.lo]?) ∧
  (∀ k, (∀ j inf L, find acc j = some inf → f j = true → inf.k = .head L → ¬ (inf.lo ≤ k ∧ k < inf.hi)) → find M k = find m0 k)

def NoEff (acc : Acc) : Prop := ∀ j inf m, find acc j = some inf → inf.k ≠ .eff m

structure DI (t0 : TM) (m0 : Mem) (nx0 sz : Nat) (acc : Acc) (i nx hm em : Nat) (full : Mem) : Prop where
  dom : ∀ j inf, find acc j = some inf → j < i
  tot : ∀ j, j < i → ∃ inf, find acc j = some inf
  mem : ∀ x, x ∈ acc → find acc x.1 = some x.2
  le : nx0 ≤ nx
  rng : ∀ j inf, find acc j = some inf → nx0 ≤ inf.lo ∧ inf.lo ≤ inf.hi ∧ inf.hi ≤ nx
  ord : ∀ j j' inf inf', find acc j = some inf → find acc j' = some inf' → j < j' → inf.hi ≤ inf'.lo
  cov : ∀ k, nx0 ≤ k → k < nx → ∃ j inf, find acc j = some inf ∧ inf.lo ≤ k ∧ k < inf.hi
  pur : ∀ j inf, find acc j = some inf → inf.k = .pure → inf.lo = inf.hi
  hdl : ∀ j inf L, find acc j = some inf → inf.k = .head L → inf.hi = inf.lo + L.length
  hmb : ∀ j inf, find acc j = some inf → inf.k ≠ .pure → bit hm j = true
  em0 : em = 0 → NoEff acc
  ohe : ∀ j j' inf inf' L m, find acc j = some inf → find acc j' = some inf' → inf.k = .head L → inf'.k = .eff m → j < j'
  ehm : ∀ j j' inf inf' m, find acc j = some inf → find acc j' = some inf' → inf.k = .eff m → inf'.k ≠ .pure → j' < j → bit inf.cl j' = true
  full : (NoEff acc ∧ MemH m0 acc (fun _ => true) full) ∨ ∃ j inf, find acc j = some inf ∧ inf.k = .eff full ∧ ∀ j' inf' m, find acc j' = some inf' → inf'.k = .eff m → j' ≤ j
  clb : ∀ j inf, find acc j = some inf → ∀ j', bit inf.cl j' = true → j' < j
  dst : ∀ j j' inf inf' d, find acc j = some inf → find acc j' = some inf' → inf.dst = some d → inf'.dst = some d → j = j'
  dsz : ∀ j inf d, find acc j = some inf → inf.dst = some d → d < sz
  rdr : ∀ j j' inf inf' d v, find acc j = some inf → find acc j' = some inf' → inf.dst = some d → d ∈ inf'.rd → find t0 d = some v → j' < j → bit inf.cl j' = true
  von : ∀ j inf, find acc j = some inf → inf.v.on (lv1 nx0 acc (bit inf.cl) inf.lo inf.hi) = true
  lon : ∀ j inf L n s, find acc j = some inf → inf.k = .head L → L[n]? = some s → s.d.on (lv1 nx0 acc (bit inf.cl) inf.lo inf.hi) = true ∧ (s.nxt = true → n + 1 < L.length)

theorem find_mem {α : Type} : ∀ (l : List (Nat × α)) (k : Nat) (v : α), find l k = some v → (k, v) ∈ l
  | [], k, v, h => by cases h
  | (k', v') :: r, k, v, h => by
    rw [find_cons] at h
    by_cases e : k' = k
    · rw [if_pos e] at h; cases h; subst e; exact List.mem_cons_self
    · rw [if_neg e] at h; exact List.mem_cons_of_mem _ (find_mem r k v h)

theorem lv_iff {nx0 : Nat} {acc : Acc} {f : Nat → Bool} {k : Nat} : lv nx0 acc f k = true ↔ k < nx0 ∨ ∃ x ∈ acc, f x.1 = true ∧ x.2.lo ≤ k ∧ k < x.2.hi := by
  unfold lv
  simp only [Bool.or_eq_true, blt_iff, List.any_eq_true, Bool.and_eq_true, Nat.ble_eq]

theorem lv1_iff {nx0 : Nat} {acc : Acc} {f : Nat → Bool} {lo hi k : Nat} : lv1 nx0 acc f lo hi k = true ↔ lv nx0 acc f k = true ∨ (lo ≤ k ∧ k < hi) := by
  unfold lv1
  simp only [Bool.or_eq_true, Bool.and_eq_true, Nat.ble_eq, blt_iff]

theorem okL_spec {p : Nat → Bool} : ∀ (L : List Seg), okL p L = true → ∀ n s, L[n]? = some s → s.d.on p = true ∧ (s.nxt = true → n + 1 < L.length)
  | [], _, n, s, hs => by simp at hs
  | [s0], h, n, s, hs => by
    simp only [okL, Bool.and_eq_true, Bool.not_eq_true'] at h
    cases n with
    | zero => simp only [List.getElem?_cons_zero, Option.some.injEq] at hs; subst hs; exact ⟨h.1, fun e => by rw [h.2] at e; cases e⟩
    | succ n => simp at hs
  | s0 :: s1 :: r, h, n, s, hs => by
    simp only [okL, Bool.and_eq_true] at h
    cases n with
    | zero => simp only [List.getElem?_cons_zero, Option.some.injEq] at hs; subst hs; exact ⟨h.1, fun _ => by simp⟩
    | succ n =>
      simp only [List.getElem?_cons_succ] at hs
      obtain ⟨a, b⟩ := okL_spec (s1 :: r) h.2 n s hs
      exact ⟨a, fun e => by have := b e; simp at this ⊢; omega⟩

theorem clM_spec (acc : Acc) : ∀ (l : List Edge) (c c' : Nat), clM acc l c = some c' → ∀ j, bit c' j = true → bit c j = true ∨ ∃ e ∈ l, Region.binds .any e = true ∧ (e.on = j ∨ ∃ inf, find acc e.on = some inf ∧ bit inf.cl j = true)
  | [], c, c', h, j, hj => by cases h; exact .inl hj
  | e :: r, c, c', h, j, hj => by
    simp only [clM] at h
    cases hb : Region.binds .any e with
    | false =>
      rw [hb, cond_false] at h
      rcases clM_spec acc r c c' h j hj with h1 | ⟨e', he, r1⟩
      · exact .inl h1
      · exact .inr ⟨e', List.mem_cons_of_mem _ he, r1⟩
    | true =>
      rw [hb, cond_true] at h
      cases hc : bit c e.on with
      | true =>
        rw [hc, cond_true] at h
        rcases clM_spec acc r c c' h j hj with h1 | ⟨e', he, r1⟩
        · exact .inl h1
        · exact .inr ⟨e', List.mem_cons_of_mem _ he, r1⟩
      | false =>
        rw [hc, cond_false] at h
        split at h
        · rename_i inf hinf
          rcases clM_spec acc r _ c' h j hj with h1 | ⟨e', he, r1⟩
          · rw [bit_or, bit_or, Bool.or_eq_true, Bool.or_eq_true] at h1
            rcases h1 with (h1 | h1) | h1
            · exact .inl h1
            · exact .inr ⟨e, List.mem_cons_self, hb, .inl ((bit_pow _ _).1 h1)⟩
            · exact .inr ⟨e, List.mem_cons_self, hb, .inr ⟨inf, hinf, h1⟩⟩
          · exact .inr ⟨e', List.mem_cons_of_mem _ he, r1⟩
        · cases h

theorem lookT_spec (t0 : TM) (cl d : Nat) : ∀ (acc : Acc) (v : SV), lookT t0 cl d acc = some v → (∃ x ∈ acc, x.2.dst = some d ∧ bit cl x.1 = true ∧ x.2.v = v) ∨ (find t0 d = some v ∧ ∀ x ∈ acc, x.2.dst ≠ some d)
  | [], v, h => .inr ⟨h, by simp⟩
  | (j, inf) :: r, v, h => by
    simp only [lookT] at h
    split at h
    · rename_i d' hd
      cases hb : Nat.beq d' d with
      | true =>
        rw [hb, cond_true] at h
        have e := Nat.eq_of_beq_eq_true hb
        subst e
        cases hc : bit cl j with
        | true => rw [hc, cond_true] at h; cases h; exact .inl ⟨_, List.mem_cons_self, hd, hc, rfl⟩
        | false => rw [hc] at h; cases h
      | false =>
        rw [hb, cond_false] at h
        rcases lookT_spec t0 cl d r v h with ⟨x, hx, r1⟩ | ⟨h1, h2⟩
        · exact .inl ⟨x, List.mem_cons_of_mem _ hx, r1⟩
        · refine .inr ⟨h1, fun x hx => ?_⟩
          rcases List.mem_cons.1 hx with rfl | hx
          · rw [hd]; intro e; cases e; simp at hb
          · exact h2 x hx
    · rename_i hd
      rcases lookT_spec t0 cl d r v h with ⟨x, hx, r1⟩ | ⟨h1, h2⟩
      · exact .inl ⟨x, List.mem_cons_of_mem _ hx, r1⟩
      · refine .inr ⟨h1, fun x hx => ?_⟩
        rcases List.mem_cons.1 hx with rfl | hx
        · rw [hd]; intro e; cases e
        · exact h2 x hx

theorem resT_spec (acc : Acc) (t0 : TM) (cl : Nat) : ∀ (l : List Nat) (t : TM), resT acc t0 cl l = some t → ∀ d v, find t d = some v → d ∈ l ∧ lookT t0 cl d acc = some v
  | [], t, h, d, v, hv => by cases h; cases hv
  | d0 :: r, t, h, d, v, hv => by
    simp only [resT] at h
    split at h <;> first | (cases h; done) | skip
    rename_i v0 t' h1 h2
    cases h
    rw [find_cons] at hv
    by_cases e : d0 = d
    · rw [if_pos e] at hv; cases hv; subst e; exact ⟨List.mem_cons_self, h1⟩
    · rw [if_neg e] at hv
      obtain ⟨a, b⟩ := resT_spec acc t0 cl r t' h2 d v hv
      exact ⟨List.mem_cons_of_mem _ a, b⟩

theorem freshD_spec (d : Nat) : ∀ (acc : Acc), freshD d acc = true → ∀ x ∈ acc, x.2.dst ≠ some d
  | [], _, x, hx => by simp at hx
  | (j, inf) :: r, h, x, hx => by
    simp only [freshD] at h
    split at h
    · rename_i d' hd
      cases hb : Nat.beq d' d with
      | true => rw [hb] at h; cases h
      | false =>
        rw [hb, cond_false] at h
        rcases List.mem_cons.1 hx with rfl | hx
        · rw [hd]; intro e; cases e; simp at hb
        · exact freshD_spec d r h x hx
    · rename_i hd
      rcases List.mem_cons.1 hx with rfl | hx
      · rw [hd]; intro e; cases e
      · exact freshD_spec d r h x hx

theorem readersIn_spec (cl d : Nat) : ∀ (acc : Acc), readersIn cl d acc = true → ∀ x ∈ acc, d ∈ x.2.rd → bit cl x.1 = true
  | [], _, x, hx, _ => by simp at hx
  | (j, inf) :: r, h, x, hx, hd => by
    simp only [readersIn] at h
    cases ha : inf.rd.any (Nat.beq d) with
    | true =>
      rw [ha, cond_true] at h
      cases hb : bit cl j with
      | true =>
        rw [hb, cond_true] at h
        rcases List.mem_cons.1 hx with rfl | hx
        · exact hb
        · exact readersIn_spec cl d r h x hx hd
      | false => rw [hb] at h; cases h
    | false =>
      rw [ha, cond_false] at h
      rcases List.mem_cons.1 hx with rfl | hx
      · exfalso
        have : inf.rd.any (Nat.beq d) = true := List.any_eq_true.2 ⟨d, hd, by simp⟩
        rw [ha] at this; cases this
      · exact readersIn_spec cl d r h x hx hd

end Go.Sx
