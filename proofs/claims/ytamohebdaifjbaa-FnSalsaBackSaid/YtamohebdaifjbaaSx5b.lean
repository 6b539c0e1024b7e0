/- The symbolic run of the model's computing operations, and its soundness. Conditions: none; plain definitions and theorems over any program. -/
import Derived.Test.YtamohebdaifjbaaSx1
set_option linter.unusedVariables false
namespace Go.Sx
open Go.RowKit

/-- what is known of the keys' places whatever the world holds -/
structure StatOk (ρ : Env) (m : Mem) : Prop where
  cap : ∀ k s, find m k = some s → s.d.len ≤ (ρ k).cap
  nil : ∀ k s, find m k = some s → (ρ k).isNil = true → (ρ k).cap = 0
  next : ∀ k s, find m k = some s → s.nxt = true → (ρ (k + 1)).blk = (ρ k).blk ∧ (ρ (k + 1)).off = (ρ k).off + s.n

def tyOf (cx : Cx) (t : TypeId) : Option Ty :=
  match find cx.T t with
  | some i => some i.d
  | none => none

theorem tyOf_ok {cx : Cx} {P : Program} (hT : TysOk P cx.T) {t : TypeId} {d : Ty} (h : tyOf cx t = some d) : ∃ i, i.d = d ∧ TyOk P t i := by
  unfold tyOf at h
  split at h
  · rename_i i hi; cases h; exact ⟨i, rfl, hT t i hi⟩
  · cases h

def SegD.eqB : SegD → SegD → Option Bool
  | .d8 l, .d8 l' => some (decide (l = l'))
  | .d32 l, .d32 l' => some (decide (l = l'))
  | .d64 l, .d64 l' => some (decide (l = l'))
  | _, _ => none

/-- two operands: scalars; or two arrays of integers, held against each other -/
def binX (cx : Cx) (o : BinOp) (t : TypeId) : SV → SV → Option (SV × List Prop)
  | .one (.s x), .one (.s y) => match binS cx o (tyOf cx t) x y with
    | some (r, ob) => some (.one (.s r), ob)
    | none => none
  | .one (.ag [d]), .one (.ag [e]) => match find cx.T t with
    | some ti => bif ti.eq then (match ti.d, d.eqB e with
      | .arr n _ _ _, some b => match o with
        | .eql => need cx (d.len = n ∧ e.len = n) (.one (.s (.b b)))
        | .neq => need cx (d.len = n ∧ e.len = n) (.one (.s (.b (!b))))
        | _ => none
      | _, _ => none) else none
    | none => none
  | _, _ => none

def isConst : Operand → Bool
  | .const _ => true
  | _ => false

/-- held against nil: is the left operand nil -/
def isNilX (ty : Option Ty) (yc : Bool) : SV → SV → Option Bool
  | .one (.s x), .one (.s y) => match ty, x, y with
    | some (.slc _ _ _ _), .sl _ _ _ _, .sl0 => some false
    | some (.slc _ _ _ _), .sl0, .sl0 => some true
    | some .ifc, .f _ _, .f0 => some false
    | some .ifc, .f0, .f0 => bif yc then some true else none
    | some (.ptr _), .p _ _, .p0 => some false
    | some (.ptr _), .p0, .p0 => some true
    | _, _, _ => none
  | _, _ => none

def nilX (o : BinOp) (ty : Option Ty) (yc : Bool) (u v : SV) : Option (SV × List Prop) :=
  match isNilX ty yc u v, o with
  | some b, .eql => some (.one (.s (.b b)), [])
  | some b, .neq => some (.one (.s (.b (!b))), [])
  | _, _ => none

def unX (cx : Cx) (o : UnOp) : Sc → Option (Sc × List Prop)
  | .b x => match o with
    | .not => some (.b (!x), [])
    | _ => none
  | .u8 x => match o with
    | .xor => some (.u8 (~~~x), [])
    | _ => none
  | .u32 x => match o with
    | .xor => some (.u32 (~~~x), [])
    | _ => none
  | .u64 x => match o with
    | .xor => some (.u64 (~~~x), [])
    | _ => none
  | .i x => match o with
    | .neg => need cx (rng (0 - x)) (.i (0 - x))
    | _ => none
  | _ => none

def cvX (d : Ty) (x : Sc) : Option Sc :=
  match d, x with
  | .int .u8, .u8 x => some (.u8 x)
  | .int .u8, .u32 x => some (.u8 (x.setWidth 8))
  | .int .u8, .u64 x => some (.u8 (x.setWidth 8))
  | .int .u8, .i x => some (.u8 (BitVec.ofInt 8 x))
  | .int .u32, .u8 x => some (.u32 (x.setWidth 32))
  | .int .u32, .u32 x => some (.u32 x)
  | .int .u32, .u64 x => some (.u32 (x.setWidth 32))
  | .int .u32, .i x => some (.u32 (BitVec.ofInt 32 x))
  | .int .u64, .u8 x => some (.u64 (x.setWidth 64))
  | .int .u64, .u32 x => some (.u64 (x.setWidth 64))
  | .int .u64, .u64 x => some (.u64 x)
  | .int .u64, .i x => some (.u64 (BitVec.ofInt 64 x))
  | .int .i64, .u8 x => some (.i (x.toNat : Int))
  | .int .i64, .u32 x => some (.i (x.toNat : Int))
  | .int .i64, .u64 x => some (.i x.toInt)
  | .int .i64, .i x => some (.i (IntKind.i64.wrap x))
  | .str, .str l => some (.str l)
  | _, _ => none

/-- step over the pieces of a struct -/
def navi : Nat → Mem → Nat → Nat → Option (Nat × Nat)
  | 0, _, _, _ => none
  | f + 1, m, k, pos => match find m k with
    | some s => bif Nat.blt pos s.n then some (k, pos) else (bif s.nxt then navi f m (k + 1) (pos - s.n) else none)
    | none => none

theorem navi_spec {ρ : Env} {m : Mem} (h : StatOk ρ m) : ∀ (f k pos k' pos' : Nat), navi f m k pos = some (k', pos') →
    (ρ k').blk = (ρ k).blk ∧ (ρ k').off + pos' = (ρ k).off + pos ∧ ∃ s, find m k' = some s
  | 0, _, _, _, _, h1 => by cases h1
  | f + 1, k, pos, k', pos', h1 => by
    simp only [navi] at h1
    split at h1
    · rename_i s hs
      cases hb : Nat.blt pos s.n with
      | true =>
        rw [hb, cond_true] at h1
        cases h1
        exact ⟨rfl, rfl, s, hs⟩
      | false =>
        rw [hb, cond_false] at h1
        have hn : ¬ pos < s.n := fun hh => by rw [blt_iff.2 hh] at hb; cases hb
        cases hx : s.nxt with
        | false => rw [hx] at h1; cases h1
        | true =>
          rw [hx, cond_true] at h1
          obtain ⟨e1, e2⟩ := h.next k s hs hx
          obtain ⟨a1, a2, a3⟩ := navi_spec h f (k + 1) _ k' pos' h1
          exact ⟨a1.trans e1, by rw [a2, e2]; omega, a3⟩
    · cases h1

def optI (cx : Cx) (t : TM) (d : Int) : Option Operand → Option Int
  | none => some d
  | some x => match evs cx t x with
    | some (.i n) => some n
    | _ => none

/-- place j of a row of elements of es cells, from o on -/
def offX (o j es : Nat) : Nat := bif Nat.beq es 1 then j + o else o + j * es
theorem offX_eq (o j es : Nat) : offX o j es = o + j * es := by
  unfold offX
  cases h : Nat.beq es 1 with
  | true => rw [Nat.eq_of_beq_eq_true h, cond_true, Nat.mul_one, Nat.add_comm]
  | false => rfl

/-- a slice of a row of n places from o on, of capacity c -/
def slX (cx : Cx) (k o es c : Nat) (l h : Int) : Option (SV × List Prop) :=
  need cx (0 ≤ l ∧ l ≤ h ∧ h ≤ c) (.one (.s (.sl k (if c = l.toNat then o else offX o l.toNat es) (h.toNat - l.toNat) (c - l.toNat))))

theorem slX_eq (cx : Cx) (k o es c : Nat) (l h : Int) : slX cx k o es c l h = need cx (0 ≤ l ∧ l ≤ h ∧ h ≤ c) (.one (.s (.sl k (if c = l.toNat then o else o + l.toNat * es) (h.toNat - l.toNat) (c - l.toNat)))) := by
  unfold slX; rw [offX_eq]

def buildX : List SegD → List (Nat × SV0) → Option (List SegD)
  | z, [] => some z
  | z, (o, v) :: r => match pput z o v with
    | some z' => buildX z' r
    | none => none

def partsX (cx : Cx) (t : TM) (pl : Nat → Option (Nat × Nat)) : List (Nat × Operand) → Option (List (Nat × SV0))
  | [] => some []
  | (i, x) :: r => match pl i, ev cx t x, partsX cx t pl r with
    | some (off, sz), some (.one v), some r' => bif Nat.beq v.len sz && v.flat then some ((off, v) :: r') else none
    | _, _, _ => none

def Ty.place : Ty → Nat → Option (Nat × Nat)
  | .arr _ _ es _, i => some (i * es, es)
  | .st fs, i => match fs[i]? with
    | some (off, sz, _) => some (off, sz)
    | none => none
  | _, _ => none

def minX (a b : Int) : Int := if b < a then b else a
def maxX (a b : Int) : Int := if b > a then b else a

def biX (cx : Cx) (t : TM) (b : Builtin) (ty : Option Ty) (args : List Operand) : Option (SV × List Prop) :=
  match b, args with
  | .len, [x] => match ty, evs cx t x with
    | some (.slc _ _ _ _), some (.sl _ _ len _) => some (.one (.s (.i len)), [])
    | some (.slc _ _ _ _), some (.osl _ len) => some (.one (.s (.i len)), [])
    | some (.slc _ _ _ _), some .sl0 => some (.one (.s (.i 0)), [])
    | some .str, some (.str l) => some (.one (.s (.i l.length)), [])
    | _, _ => match ty with
      | some (.arr n _ _ _) => some (.one (.s (.i n)), [])
      | _ => none
  | .cap, [x] => match ty, evs cx t x with
    | some (.slc _ _ _ _), some (.sl _ _ _ cap) => some (.one (.s (.i cap)), [])
    | some (.slc _ _ _ _), some .sl0 => some (.one (.s (.i 0)), [])
    | _, _ => none
  | .min, [x, y] => match evs cx t x, evs cx t y with
    | some (.i a), some (.i b) => some (.one (.s (.i (minX a b))), [])
    | _, _ => none
  | .max, [x, y] => match evs cx t x, evs cx t y with
    | some (.i a), some (.i b) => some (.one (.s (.i (maxX a b))), [])
    | _, _ => none
  | _, _ => none

def opt1 : Option Sc → Option (SV × List Prop)
  | some x => some (.one (.s x), [])
  | none => none

def pureX (cx : Cx) (t : TM) (m : Mem) : Op → Option (SV × List Prop)
  | .move x => match ev cx t x with
    | some v => some (v, [])
    | none => none
  | .assign x => match ev cx t x with
    | some v => some (v, [])
    | none => none
  | .pick c x y => match evs cx t c with
    | some (.b p) => match ev cx t x, ev cx t y with
      | some (.one (.s (.b q))), some (.one (.s (.b r))) => some (.one (.s (.b (bif p then q else r))), [])
      | some (.one (.s (.b q))), some _ => need cx (p = true) (.one (.s (.b q)))
      | some _, some (.one (.s (.b r))) => need cx (p = false) (.one (.s (.b r)))
      | _, _ => none
    | _ => none
  | .nilCheck x => match evs cx t x with
    | some (.p k o) => some (.one (.s (.p k o)), [])
    | some (.f ty y) => some (.one (.s (.f ty y)), [])
    | some (.mv n (.f ty y)) => match tyOf cx ty with
      | some (.mp n' _) => some (.one (.s (.mv n (.f ty y))), [n = n'])
      | _ => none
    | _ => none
  | .makeFunc (.method n) fs cs => match fs.toList, cs.toList with
    | [x], [] => match evs cx t x with
      | some y => some (.one (.s (.mv n y)), [])
      | none => none
    | _, _ => none
  | .binOp o ty x y _ => match ev cx t x, ev cx t y with
    | some a, some b => (match nilX o (tyOf cx ty) (isConst y) a b with
      | some r => some r
      | none => binX cx o ty a b)
    | _, _ => none
  | .unOp o _ x => match evs cx t x with
    | some a => match unX cx o a with
      | some (r, ob) => some (.one (.s r), ob)
      | none => none
    | none => none
  | .convert s d x => match tyOf cx s, tyOf cx d, evs cx t x with
    | some (.int _), some ty, some a => opt1 (cvX ty a)
    | some .str, some ty, some a => opt1 (cvX ty a)
    | _, _, _ => none
  | .slice ty x lo hi mx => match tyOf cx ty, evs cx t x, mx with
    | some (.arr n _ es _), some (.p k o), none => match optI cx t 0 lo, optI cx t n hi with
      | some l, some h => slX cx k o es n l h
      | _, _ => none
    | some (.slc _ es _ _), some (.sl k o len cap), none => match optI cx t 0 lo, optI cx t len hi with
      | some l, some h => slX cx k o es cap l h
      | _, _ => none
    | some (.slc _ _ _ _), some (.osl k len), none => match lo, optI cx t len hi with
      | none, some h => match find m k with
        | some s => need cx (0 ≤ h ∧ h ≤ len ∧ h ≤ s.d.len) (.one (.s (.osl k h.toNat)))
        | none => none
      | _, _ => none
    | some (.slc _ _ _ _), some .sl0, none => match optI cx t 0 lo, optI cx t 0 hi with
      | some l, some h => need cx (0 ≤ l ∧ l ≤ h ∧ h ≤ ((0 : Nat) : Int)) (.one (.s .sl0))
      | _, _ => none
    | some .str, some (.str s), none => match optI cx t 0 lo, optI cx t s.length hi with
      | some l, some h => need cx (0 ≤ l ∧ l ≤ h ∧ h ≤ s.length) (.one (.s (.str ((s.drop l.toNat).take (h.toNat - l.toNat)))))
      | _, _ => none
    | _, _, _ => none
  | .fieldAddr ty x f => match tyOf cx ty, evs cx t x with
    | some (.st fs), some (.p k o) => match fs[f]? with
      | some (off, sz, _) => bif Nat.beq sz 0 then none else (match navi 8 m k (o + off) with
        | some (k', o') => some (.one (.s (.p k' o')), [])
        | none => none)
      | none => none
    | _, _ => none
  | .field ty x f => match tyOf cx ty, ev cx t x with
    | some (.st fs), some (.one (.ag l)) => match fs[f]? with
      | some (off, sz, false) => opt1 (pget l off)
      | some (off, sz, true) => match psub l off sz with
        | some e => some (.one (.ag [e]), [])
        | none => none
      | none => none
    | _, _ => none
  | .indexAddr ty x i => match tyOf cx ty, evs cx t x, evs cx t i with
    | some (.arr n _ es _), some (.p k o), some (.i j) => need cx (0 ≤ j ∧ j < n) (.one (.s (.p k (offX o j.toNat es))))
    | some (.slc _ es _ _), some (.sl k o len _), some (.i j) => need cx (0 ≤ j ∧ j < len) (.one (.s (.p k (offX o j.toNat es))))
    | some (.slc _ es _ _), some (.osl k len), some (.i j) => match find m k with
      | some s => need cx (0 ≤ j ∧ j < len ∧ j < s.d.len) (.one (.s (.p k (offX 0 j.toNat es))))
      | none => none
    | _, _, _ => none
  | .index ty x i => match tyOf cx ty, ev cx t x, evs cx t i with
    | some (.arr n _ es false), some (.one (.ag [d])), some (.i j) => bif Nat.beq es 1 then (match need cx (0 ≤ j ∧ j < n) (), loadX cx d j.toNat with
        | some (_, ob), some (v, ob') => some (.one (.s v), ob ++ ob')
        | _, _ => none) else none
    | some (.arr n _ es true), some (.one (.ag [d])), some (.i j) => need cx (0 ≤ j ∧ j < n) (.one (.ag [d.sub (j.toNat * es) es]))
    | _, _, _ => none
  | .extract x i => match ev cx t x with
    | some (.tup l) => match l[i]? with
      | some v => some (.one v, [])
      | none => none
    | _ => none
  | .build ty ps => match find cx.T ty with
    | some ti => match partsX cx t ti.d.place ps.toList with
      | some qs => match ti.d with
        | .arr _ _ _ _ | .st _ => match buildX ti.z qs with
          | some l => match ti.z with
            | [] => none
            | _ :: _ => some (.one (.ag l), [])
          | none => none
        | _ => none
      | none => none
    | none => none
  | .sliceToArrayPointer ty x => match tyOf cx ty, evs cx t x with
    | some (.arr n _ _ _), some (.sl k o len _) => need cx (n ≤ len) (.one (.s (.p k o)))
    | some (.arr n _ _ _), some (.osl k len) => match find m k with
      | some s => need cx (n ≤ len ∧ 0 < s.d.len) (.one (.s (.p k 0)))
      | none => none
    | _, _ => none
  | .makeInterface ty x => match tyOf cx ty, evs cx t x with
    | some (.ptr _), some v => some (.one (.s (.f ty v)), [])
    | some (.mp _ _), some v => some (.one (.s (.f ty v)), [])
    | _, _ => none
  | .call c => match c.callee with
    | .builtin b => biX cx t b (match c.argTypes[0]? with
      | some ty => tyOf cx ty
      | none => none) c.args.toList
    | _ => none
  | _ => none

/-! ### Soundness -/

section
variable {P : Program} {cx : Cx} {ρ : Env} {t : TM} {m : Mem} {nx : Nat} {a : Act}

/-- the run of an operation that computes: in every world the same value -/
def Comp (P : Program) (ρ : Env) (nx : Nat) (a : Act) (o : Oper) (v : SV) : Prop :=
  v.lt nx = true ∧ ∀ w, (execOp a.eval o).run P w = .ok (.value (v.den ρ)) w

theorem eqGuard_flat (op : BinOp) (t : TypeId) (x y : Operand) {u v : Value} (w : World) (h : ∀ c, u ≠ .agg c) (h' : u ≠ .nilIface) : (eqGuard op t x y u v).run P w = .ok () w := by
  cases op <;> simp only [eqGuard, Bool.not_true, Bool.not_false, Bool.false_eq_true, if_false, if_true] <;> first | rfl | skip
  all_goals
    cases u <;> first | exact absurd rfl (h _) | exact absurd rfl h' | rfl

theorem binS_left {o : BinOp} {ty : Option Ty} {x y r : Sc} {ob : List Prop} (h : binS cx o ty x y = some (r, ob)) : (∀ c, x.den ρ ≠ .agg c) ∧ x.den ρ ≠ .nilIface := by
  cases x <;> first | (refine ⟨fun c => ?_, ?_⟩ <;> simp [Sc.den]; done) | (simp [binS] at h; done) | skip

theorem eqB_spec {d e : SegD} {b : Bool} (h : d.eqB e = some b) {n : Nat} (hd : d.len = n) (he : e.len = n) {t el : TypeId} {k : IntKind} {i : TypeInfo} (w : World)
    (ht : P.underlying t = some (.array n el)) (hel : P.underlying el = some (.int k)) (hi : P.info? el = some i) (h1 : i.size = 1) (D : Nat) :
    (Op.equalIn (D + 2) t (.agg (d.cells ρ).toArray) (.agg (e.cells ρ).toArray)).run P w = .ok b w := by
  have key : ∀ (k' : IntKind) {N : Nat} (xs ys : List (BitVec N)), xs.length = n → ys.length = n →
      (Op.equalIn (D + 2) t (.agg (xs.map fun x => Value.int k' (x.toNat : Int)).toArray) (.agg (ys.map fun x => Value.int k' (x.toNat : Int)).toArray)).run P w = .ok (decide (xs = ys)) w := by
    intro k' N xs ys hx hy
    exact run_eqArr P w ht hel hi h1 D (fun x : BitVec N => (x.toNat : Int)) (fun x y hxy => BitVec.eq_of_toNat_eq (by have h2 : (x.toNat : Int) = y.toNat := hxy; omega)) xs ys hx hy
  cases d <;> cases e <;> simp only [SegD.eqB, Option.some.injEq, reduceCtorEq] at h <;> subst h
  case d8.d8 l l' => simpa [SegD.cells, SegD.scs, Sc.den, Function.comp_def] using key .u8 l l' hd he
  case d32.d32 l l' => simpa [SegD.cells, SegD.scs, Sc.den, Function.comp_def] using key .u32 l l' hd he
  case d64.d64 l l' => simpa [SegD.cells, SegD.scs, Sc.den, Function.comp_def] using key .u64 l l' hd he

theorem binX_comp (hT : TysOk P cx.T) {op : BinOp} {ty yt : TypeId} {x y : Operand} {u v r : SV} {ob : List Prop} {o : Oper} (ho : o.op = .binOp op ty x y yt)
    (hx : a.eval x = u.den ρ) (hy : a.eval y = v.den ρ) (h : binX cx op ty u v = some (r, ob)) (hob : ∀ q ∈ ob, q) : Comp P ρ nx a o r := by
  unfold binX at h
  split at h
  · rename_i x' y'
    split at h
    · rename_i r' ob' hr
      cases h
      have hb : tyOf cx ty = some .bool → P.underlying ty = some .bool := fun hh => by
        obtain ⟨i, hi, hok⟩ := tyOf_ok hT hh
        have := hok.desc
        rw [hi] at this
        exact this
      have key := fun w => binS_run (ρ := ρ) P w ty hb hr hob
      refine ⟨(key default).2 nx, fun w => ?_⟩
      obtain ⟨l1, l2⟩ := binS_left (ρ := ρ) hr
      have hx' : a.eval x = x'.den ρ := hx
      have hy' : a.eval y = y'.den ρ := hy
      simp [execOp, ho, hx', hy', eqGuard_flat _ _ _ _ _ l1 l2, (key w).1]
      rfl
    · cases h
  · rename_i d e
    split at h
    · rename_i ti hti
      cases hq : ti.eq with
      | false => rw [hq] at h; cases h
      | true =>
        rw [hq, cond_true] at h
        obtain ⟨g1, n', el, k, g2, g3, i, g4, g5⟩ := (hT ty ti hti).eqs hq
        have hdesc := (hT ty ti hti).desc
        split at h
        · rename_i n e' es ea b hd hb
          rw [hd] at hdesc
          have hn : n' = n := by
            have := hdesc.1
            rw [g2] at this
            injection this with this
            injection this
          subst hn
          have hx' : a.eval x = .agg (d.cells ρ).toArray := by rw [hx]; simp [SV.den, SV0.den]
          have hy' : a.eval y = .agg (e.cells ρ).toArray := by rw [hy]; simp [SV.den, SV0.den]
          split at h
          · obtain ⟨rfl, hd1, hd2⟩ := need_spec h hob
            refine ⟨rfl, fun w => ?_⟩
            simp [execOp, ho, hx', hy', run_eqGuard_agg w _ ty x y _ _ g1, run_eql_struct, eqB_spec (ρ := ρ) hb hd1 hd2 w g2 g3 g4 g5 9998]
            rfl
          · obtain ⟨rfl, hd1, hd2⟩ := need_spec h hob
            refine ⟨rfl, fun w => ?_⟩
            simp [execOp, ho, hx', hy', run_eqGuard_agg w _ ty x y _ _ g1, run_neq_struct, eqB_spec (ρ := ρ) hb hd1 hd2 w g2 g3 g4 g5 9998]
            rfl
          · cases h
        · cases h
    · cases h
  · cases h

theorem eqSlN (D : Nat) {ty e : TypeId} (h : P.underlying ty = some (.slice e)) (a : Addr) (l c l' c' : Nat) (w : World) : (Op.equalIn (D + 1) ty (.slice (some a) l c) (.slice none l' c')).run P w = .ok false w := by
  simp [Op.equalIn, run_underlying h]
theorem eqSlNN (D : Nat) {ty e : TypeId} (h : P.underlying ty = some (.slice e)) (l c l' c' : Nat) (w : World) : (Op.equalIn (D + 1) ty (.slice none l c) (.slice none l' c')).run P w = .ok true w := by
  simp [Op.equalIn, run_underlying h]
theorem eqIfN (D : Nat) {ty : TypeId} {ms : Array (String × TypeId)} (h : P.underlying ty = some (.interface ms)) (t : TypeId) (x : Value) (w : World) : (Op.equalIn (D + 1) ty (.iface t x) .nilIface).run P w = .ok false w := by
  simp [Op.equalIn, run_underlying h]
theorem eqIfNN (D : Nat) {ty : TypeId} {ms : Array (String × TypeId)} (h : P.underlying ty = some (.interface ms)) (w : World) : (Op.equalIn (D + 1) ty .nilIface .nilIface).run P w = .ok true w := by
  simp [Op.equalIn, run_underlying h]
theorem eqPtN (D : Nat) {ty e : TypeId} (h : P.underlying ty = some (.pointer e)) (a : Addr) (w : World) : (Op.equalIn (D + 1) ty (.pointer (some a)) (.pointer none)).run P w = .ok false w := by
  simp [Op.equalIn, run_underlying h]
theorem eqPtNN (D : Nat) {ty e : TypeId} (h : P.underlying ty = some (.pointer e)) (w : World) : (Op.equalIn (D + 1) ty (.pointer none) (.pointer none)).run P w = .ok true w := by
  simp [Op.equalIn, run_underlying h]

theorem nilX_comp (hT : TysOk P cx.T) {op : BinOp} {ty yt : TypeId} {x y : Operand} {u v r : SV} {ob : List Prop} {o : Oper} (ho : o.op = .binOp op ty x y yt)
    (hx : a.eval x = u.den ρ) (hy : a.eval y = v.den ρ) (h : nilX op (tyOf cx ty) (isConst y) u v = some (r, ob)) : Comp P ρ nx a o r := by
  have key : ∀ b, isNilX (tyOf cx ty) (isConst y) u v = some b → ∀ w, ((binOp .eql ty (a.eval x) (a.eval y)).run P w = .ok (.bool b) w ∧ (binOp .neq ty (a.eval x) (a.eval y)).run P w = .ok (.bool (!b)) w) ∧ (eqGuard op ty x y (a.eval x) (a.eval y)).run P w = .ok () w := by
    intro b hb w
    have fin : ∀ {u v : Value} {b : Bool}, (Op.equal ty u v).run P w = .ok b w → (match u with
        | .slice _ _ _ => True
        | .iface _ _ => True
        | .nilIface => True
        | _ => False) → ((binOp .eql ty u v).run P w = .ok (.bool b) w ∧ (binOp .neq ty u v).run P w = .ok (.bool (!b)) w) := fun {u v b} h1 h2 => by
      cases u <;> first | exact h2.elim | skip
      all_goals exact ⟨by simp [binOp, h1], by simp [binOp, h1]⟩
    have finP : ∀ {p q : Option Addr} {b : Bool}, (Op.equal ty (.pointer p) (.pointer q)).run P w = .ok b w → ((binOp .eql ty (.pointer p) (.pointer q)).run P w = .ok (.bool b) w ∧ (binOp .neq ty (.pointer p) (.pointer q)).run P w = .ok (.bool (!b)) w) := fun {p q b} h1 =>
      ⟨by simp [binOp, h1], by simp [binOp, h1]⟩
    unfold isNilX at hb
    split at hb <;> first | (cases hb; done) | skip
    rename_i p q
    have flat : ∀ {u v : Value}, (∀ c, u ≠ .agg c) → u ≠ .nilIface → (eqGuard op ty x y u v).run P w = .ok () w := fun h1 h2 => eqGuard_flat op ty x y w h1 h2
    split at hb <;> first | (cases hb; done) | skip
    · rename_i el es ea eb _ _ _ _ _ hty
      obtain ⟨i, hi, hok⟩ := tyOf_ok hT hty
      have hd := hok.desc
      rw [hi] at hd
      cases hb
      rw [hx, hy]
      exact ⟨fin (eqSlN 9999 hd.1 _ _ _ _ _ w) trivial, flat (by simp [SV.den, SV0.den, Sc.den]) (by simp [SV.den, SV0.den, Sc.den])⟩
    · rename_i el es ea eb hty
      obtain ⟨i, hi, hok⟩ := tyOf_ok hT hty
      have hd := hok.desc
      rw [hi] at hd
      cases hb
      rw [hx, hy]
      exact ⟨fin (eqSlNN 9999 hd.1 _ _ _ _ w) trivial, flat (by simp [SV.den, SV0.den, Sc.den]) (by simp [SV.den, SV0.den, Sc.den])⟩
    · rename_i hty
      obtain ⟨i, hi, hok⟩ := tyOf_ok hT hty
      have hd := hok.desc
      rw [hi] at hd
      obtain ⟨ms, hd⟩ := hd
      cases hb
      rw [hx, hy]
      exact ⟨fin (eqIfN 9999 hd _ _ w) trivial, flat (by simp [SV.den, SV0.den, Sc.den]) (by simp [SV.den, SV0.den, Sc.den])⟩
    · rename_i hty
      obtain ⟨i, hi, hok⟩ := tyOf_ok hT hty
      have hd := hok.desc
      rw [hi] at hd
      obtain ⟨ms, hd⟩ := hd
      cases hc : isConst y with
      | false => rw [hc] at hb; cases hb
      | true =>
        rw [hc] at hb
        cases hb
        rw [hx, hy]
        refine ⟨fin (eqIfNN 9999 hd w) trivial, ?_⟩
        cases y <;> first | (cases hc; done) | skip
        cases op <;> simp [eqGuard, SV.den, SV0.den, Sc.den]
    · rename_i hty
      obtain ⟨i, hi, hok⟩ := tyOf_ok hT hty
      have hd := hok.desc
      rw [hi] at hd
      cases hb
      rw [hx, hy]
      exact ⟨finP (eqPtN 9999 hd _ w), flat (by simp [SV.den, SV0.den, Sc.den]) (by simp [SV.den, SV0.den, Sc.den])⟩
    · rename_i hty
      obtain ⟨i, hi, hok⟩ := tyOf_ok hT hty
      have hd := hok.desc
      rw [hi] at hd
      cases hb
      rw [hx, hy]
      exact ⟨finP (eqPtNN 9999 hd w), flat (by simp [SV.den, SV0.den, Sc.den]) (by simp [SV.den, SV0.den, Sc.den])⟩
  unfold nilX at h
  split at h <;> first | (cases h; done) | skip
  · rename_i b hb
    cases h
    refine ⟨rfl, fun w => ?_⟩
    obtain ⟨⟨k1, k1'⟩, k2⟩ := key b hb w
    simp [execOp, ho, k2, k1, SV.den, SV0.den, Sc.den]
  · rename_i b hb
    cases h
    refine ⟨rfl, fun w => ?_⟩
    obtain ⟨⟨k1, k1'⟩, k2⟩ := key b hb w
    simp [execOp, ho, k2, k1', SV.den, SV0.den, Sc.den]

theorem unX_comp {op : UnOp} {ty : TypeId} {x : Operand} {u r : Sc} {ob : List Prop} {o : Oper} (ho : o.op = .unOp op ty x)
    (hx : a.eval x = u.den ρ) (h : unX cx op u = some (r, ob)) (hob : ∀ q ∈ ob, q) : Comp P ρ nx a o (.one (.s r)) := by
  have hxor : ∀ (k : IntKind) (hk : k.signed = false) (x : BitVec k.bits) (w : World), (Op.unary .xor (.int k (x.toNat : Int))).run P w = .ok (.int k ((~~~x).toNat : Int)) w := by
    intro k hk x w
    have hmax : BitVec.ofInt k.bits k.max = BitVec.allOnes k.bits := by
      unfold IntKind.max
      rw [hk]
      cases k <;> first | exact absurd hk (by decide) | decide
    simp only [Op.unary, hk, Bool.false_eq_true, if_false, Op.intBits, hmax, BitVec.ofInt_natCast, BitVec.ofNat_toNat, BitVec.setWidth_eq, BitVec.allOnes_xor, wrap_uns hk, Sem.run_pure]
    rw [toNat_mod]
  cases u <;> simp only [unX, reduceCtorEq] at h
  case b y =>
    split at h
    · cases h
      exact ⟨rfl, fun w => by simp [execOp, ho, hx, Sc.den, Op.unary]; rfl⟩
    · cases h
  case u8 y =>
    split at h
    · cases h
      refine ⟨rfl, fun w => ?_⟩
      have e : (Op.unary .xor (.int .u8 (y.toNat : Int))).run P w = .ok (.int .u8 ((~~~y).toNat : Int)) w := hxor .u8 rfl y w
      simp [execOp, ho, hx, SV.den, SV0.den, Sc.den, e]
    · cases h
  case u32 y =>
    split at h
    · cases h
      refine ⟨rfl, fun w => ?_⟩
      have e : (Op.unary .xor (.int .u32 (y.toNat : Int))).run P w = .ok (.int .u32 ((~~~y).toNat : Int)) w := hxor .u32 rfl y w
      simp [execOp, ho, hx, SV.den, SV0.den, Sc.den, e]
    · cases h
  case u64 y =>
    split at h
    · cases h
      refine ⟨rfl, fun w => ?_⟩
      have e : (Op.unary .xor (.int .u64 (y.toNat : Int))).run P w = .ok (.int .u64 ((~~~y).toNat : Int)) w := hxor .u64 rfl y w
      simp [execOp, ho, hx, SV.den, SV0.den, Sc.den, e]
    · cases h
  case i y =>
    split at h
    · obtain ⟨rfl, hr⟩ := need_spec h hob
      exact ⟨rfl, fun w => by simp only [execOp, ho, hx, Sc.den, Op.unary, Op.intArith, wrap_rng hr]; rfl⟩
    · cases h

theorem cvX_run {s d : TypeId} {ti : Ty} {u r : Sc} (hs : ∃ x, P.underlying s = some x) (hd : match ti with
    | .int k => P.underlying d = some (.int k)
    | .str => P.underlying d = some .string
    | _ => True) (h : cvX ti u = some r) (w : World) : (convert s d (u.den ρ)).run P w = .ok (r.den ρ) w ∧ ∀ n, r.lt n = true := by
  obtain ⟨x, hs⟩ := hs
  have go : ∀ (k : IntKind) (n : Int) (k' : IntKind), P.underlying d = some (.int k) → (convert s d (.int k' n)).run P w = .ok (.int k (k.wrap n)) w := by
    intro k n k' hd
    simp [convert, run_underlying hs, run_underlying hd, Conv.intToInt]
  have uu : ∀ (k : IntKind) (hk : k.signed = false) {N : Nat} (x : BitVec N), k.wrap (x.toNat : Int) = ((x.setWidth k.bits).toNat : Int) := by
    intro k hk N x
    rw [wrap_uns hk, BitVec.toNat_setWidth, Int.natCast_emod, pow_cast]
  have iu : ∀ (k : IntKind) (hk : k.signed = false) (x : Int), k.wrap x = ((BitVec.ofInt k.bits x).toNat : Int) := by
    intro k hk x
    rw [wrap_uns hk, BitVec.toNat_ofInt]
    have : (0 : Int) < 2 ^ k.bits := Int.pow_pos (by decide)
    rw [Int.toNat_of_nonneg (Int.emod_nonneg _ (by rw [pow_cast]; omega)), pow_cast]
  have ui : ∀ {N : Nat} (x : BitVec N), N ≤ 32 → IntKind.i64.wrap (x.toNat : Int) = (x.toNat : Int) := by
    intro N x hN
    have h1 := x.isLt
    have h2 : 2 ^ N ≤ 2 ^ 32 := Nat.pow_le_pow_right (by decide) hN
    exact wrap_rng (by unfold rng; omega)
  unfold cvX at h
  split at h <;> first | (cases h; done) | skip
  · cases h; refine ⟨?_, fun _ => rfl⟩; simp only at hd; simp only [Sc.den]; rw [go _ _ _ hd, uu .u8 rfl]; simp [IntKind.bits]
  · cases h; refine ⟨?_, fun _ => rfl⟩; simp only at hd; simp only [Sc.den]; rw [go _ _ _ hd, uu .u8 rfl]; try rfl
  · cases h; refine ⟨?_, fun _ => rfl⟩; simp only at hd; simp only [Sc.den]; rw [go _ _ _ hd, uu .u8 rfl]; try rfl
  · cases h; refine ⟨?_, fun _ => rfl⟩; simp only at hd; simp only [Sc.den]; rw [go _ _ _ hd, iu .u8 rfl]; try rfl
  · cases h; refine ⟨?_, fun _ => rfl⟩; simp only at hd; simp only [Sc.den]; rw [go _ _ _ hd, uu .u32 rfl]; try rfl
  · cases h; refine ⟨?_, fun _ => rfl⟩; simp only at hd; simp only [Sc.den]; rw [go _ _ _ hd, uu .u32 rfl]; simp [IntKind.bits]
  · cases h; refine ⟨?_, fun _ => rfl⟩; simp only at hd; simp only [Sc.den]; rw [go _ _ _ hd, uu .u32 rfl]; try rfl
  · cases h; refine ⟨?_, fun _ => rfl⟩; simp only at hd; simp only [Sc.den]; rw [go _ _ _ hd, iu .u32 rfl]; try rfl
  · cases h; refine ⟨?_, fun _ => rfl⟩; simp only at hd; simp only [Sc.den]; rw [go _ _ _ hd, uu .u64 rfl]; try rfl
  · cases h; refine ⟨?_, fun _ => rfl⟩; simp only at hd; simp only [Sc.den]; rw [go _ _ _ hd, uu .u64 rfl]; try rfl
  · cases h; refine ⟨?_, fun _ => rfl⟩; simp only at hd; simp only [Sc.den]; rw [go _ _ _ hd, uu .u64 rfl]; simp [IntKind.bits]
  · cases h; refine ⟨?_, fun _ => rfl⟩; simp only at hd; simp only [Sc.den]; rw [go _ _ _ hd, iu .u64 rfl]; try rfl
  · cases h; refine ⟨?_, fun _ => rfl⟩; simp only at hd; simp only [Sc.den]; rw [go _ _ _ hd, ui _ (by decide)]; try rfl
  · cases h; refine ⟨?_, fun _ => rfl⟩; simp only at hd; simp only [Sc.den]; rw [go _ _ _ hd, ui _ (by decide)]; try rfl
  · rename_i y
    cases h; refine ⟨?_, fun _ => rfl⟩; simp only at hd; simp only [Sc.den]; rw [go _ _ _ hd]
    congr 2
    have hy := y.isLt
    simp only [IntKind.wrap, IntKind.bits, IntKind.signed, Bool.true_and, BitVec.toInt]
    split <;> split <;> simp_all <;> omega
  · cases h; refine ⟨?_, fun _ => rfl⟩; simp only at hd; simp only [Sc.den]; rw [go _ _ _ hd]; try rfl
  · cases h; refine ⟨?_, fun _ => rfl⟩; simp only at hd; simp [convert, run_underlying hs, run_underlying hd, Sc.den]

theorem run_isAgg_of {e : TypeId} {d : TypeDesc} (h : P.underlying e = some d) (w : World) : (isAgg e).run P w = .ok (aggB d) w := by
  simp only [isAgg, Sem.run_bind, run_underlying h, Result.andThen_ok]
  cases d <;> rfl

theorem run_sizeOf_of {e : TypeId} {i : TypeInfo} (h : P.info? e = some i) (w : World) : (Go.sizeOf e).run P w = .ok i.size w := by
  simp [Go.sizeOf, run_typeInfo w h]

theorem boundsIn {x : Int} {y : Nat} {c : BoundsCode} (h : 0 ≤ x ∧ x ≤ y) (w : World) : (Instr.sliceBound (.int .i64 x) y c).run P w = .ok x.toNat w := by
  simp [Instr.sliceBound, asIntOf, h]

/-- an operand that may be missing, and the bound that stands for it -/
theorem optI_spec {ht : TmOk ρ t nx a} {hg : GlOk cx ρ nx} {d : Int} {x : Option Operand} {n : Int} (h : optI cx t d x = some n) :
    (x = none ∧ n = d) ∨ ∃ y, x = some y ∧ a.eval y = .int .i64 n := by
  cases x with
  | none => cases h; exact .inl ⟨rfl, rfl⟩
  | some y =>
    refine .inr ⟨y, rfl, ?_⟩
    simp only [optI] at h
    split at h
    · rename_i k hk
      cases h
      exact (evs_den ht hg hk).1
    · cases h

theorem run_bounds {isSl : Bool} {n c : Nat} {lo hi : Option Value} {l h : Int} (hl : (lo = none ∧ l = 0) ∨ lo = some (.int .i64 l)) (hh : (hi = none ∧ h = n) ∨ hi = some (.int .i64 h))
    (hb : 0 ≤ l ∧ l ≤ h ∧ h ≤ c) (w : World) : (Instr.sliceBounds isSl n c lo hi none).run P w = .ok (l.toNat, h.toNat, c) w := by
  have hhn : 0 ≤ h := by omega
  rcases hl with ⟨rfl, rfl⟩ | rfl <;> rcases hh with ⟨rfl, rfl⟩ | rfl <;> simp [Instr.sliceBounds]
  · have hb2 := boundsIn (P := P) (x := h) (y := c) (c := if isSl then BoundsCode.sliceAcap else BoundsCode.sliceAlen) ⟨hhn, hb.2.2⟩ w
    cases isSl <;> simp_all
  · have hb2 := boundsIn (P := P) (x := l) (y := n) (c := .sliceB) ⟨hb.1, by omega⟩ w
    simp [hb2]
  · have hb2 := boundsIn (P := P) (x := h) (y := c) (c := if isSl then BoundsCode.sliceAcap else BoundsCode.sliceAlen) ⟨hhn, hb.2.2⟩ w
    have hb3 := boundsIn (P := P) (x := l) (y := h.toNat) (c := .sliceB) ⟨hb.1, by omega⟩ w
    cases isSl <;> simp_all

theorem add_none (b o n : Nat) : (⟨b, o, none⟩ : Addr).add n = ⟨b, o + n, none⟩ := by
  unfold Addr.add
  split
  · rename_i h; subst h; rfl
  · rfl

theorem Comp.of {o : Oper} {v : SV} (h1 : v.lt nx = true) (h2 : ∀ w, (execOp a.eval o).run P w = .ok (.value (v.den ρ)) w) : Comp P ρ nx a o v := ⟨h1, h2⟩

theorem map_opt {lo : Option Operand} {l d : Int} (h : (lo = none ∧ l = d) ∨ ∃ y, lo = some y ∧ a.eval y = .int .i64 l) : (lo.map a.eval = none ∧ l = d) ∨ lo.map a.eval = some (.int .i64 l) := by
  rcases h with ⟨rfl, rfl⟩ | ⟨y, rfl, hy⟩
  · exact .inl ⟨rfl, rfl⟩
  · exact .inr (by simp [hy])

theorem slice_comp (hT : TysOk P cx.T) (ht : TmOk ρ t nx a) (hg : GlOk cx ρ nx) (hst : StatOk ρ m) {ty : TypeId} {x : Operand} {lo hi mx : Option Operand} {r : SV} {ob : List Prop} {o : Oper} (ho : o.op = .slice ty x lo hi mx)
    (h : pureX cx t m (.slice ty x lo hi mx) = some (r, ob)) (hob : ∀ q ∈ ob, q) : Comp P ρ nx a o r := by
  simp only [pureX] at h
  split at h
  · rename_i n e es ea k off hty hx
    obtain ⟨i, hi', hok⟩ := tyOf_ok hT hty
    have hd := hok.desc
    rw [hi'] at hd
    obtain ⟨hu, ⟨j, hj, hjs⟩, _⟩ := hd
    obtain ⟨ex, lx⟩ := evs_den ht hg hx
    split at h
    · rename_i l hh hl hhh
      rw [slX_eq] at h
      obtain ⟨rfl, hb⟩ := need_spec h hob
      have b1 := map_opt (a := a) (optI_spec (ht := ht) (hg := hg) hl)
      have b2 := map_opt (a := a) (optI_spec (ht := ht) (hg := hg) hhh)
      refine .of lx fun w => ?_
      have hbd := run_bounds (P := P) (isSl := false) b1 b2 hb w
      have hsz := run_sizeOf_of (P := P) hj w
      simp [execOp, ho, ex, Sc.den, Instr.sliceAt, run_underlying hu, Instr.sureAddr, hbd, hsz, hjs]
      simp only [SV.den, SV0.den, Sc.den]
      split
      · rfl
      · rw [add_none, Nat.add_assoc]
    · cases h
  · rename_i e es ea eb k off len cap hty hx
    obtain ⟨i, hi', hok⟩ := tyOf_ok hT hty
    have hd := hok.desc
    rw [hi'] at hd
    obtain ⟨hu, ⟨j, hj, hjs, _⟩, _⟩ := hd
    obtain ⟨ex, lx⟩ := evs_den ht hg hx
    split at h
    · rename_i l hh hl hhh
      rw [slX_eq] at h
      obtain ⟨rfl, hb⟩ := need_spec h hob
      have b1 := map_opt (a := a) (optI_spec (ht := ht) (hg := hg) hl)
      have b2 := map_opt (a := a) (optI_spec (ht := ht) (hg := hg) hhh)
      refine .of lx fun w => ?_
      have hbd := run_bounds (P := P) (isSl := true) b1 b2 hb w
      have hsz := run_sizeOf_of (P := P) hj w
      simp [execOp, ho, ex, Sc.den, Instr.sliceAt, Instr.slice, run_underlying hu, hbd, hsz, hjs]
      simp only [SV.den, SV0.den, Sc.den]
      split
      · rfl
      · rw [add_none, Nat.add_assoc]
    · cases h
  · rename_i e es ea eb k len hty hx
    obtain ⟨i, hi', hok⟩ := tyOf_ok hT hty
    have hd := hok.desc
    rw [hi'] at hd
    obtain ⟨hu, ⟨j, hj, hjs, _⟩, _⟩ := hd
    obtain ⟨ex, lx⟩ := evs_den ht hg hx
    split at h
    · rename_i hh hhh
      split at h <;> first | (cases h; done) | skip
      rename_i s hs
      obtain ⟨rfl, hb⟩ := need_spec h hob
      have b2 := map_opt (a := a) (optI_spec (ht := ht) (hg := hg) hhh)
      refine .of lx fun w => ?_
      have hsz := run_sizeOf_of (P := P) hj w
      have hcap : hh ≤ (ρ k).cap := by have := hst.cap k s hs; omega
      have hbd := run_bounds (P := P) (isSl := true) (lo := none) (l := 0) (c := (ρ k).cap) (.inl ⟨rfl, rfl⟩) b2 ⟨by omega, hb.1, hcap⟩ w
      simp [execOp, ho, ex, Sc.den, Instr.sliceAt, Instr.slice, run_underlying hu, hbd, hsz, hjs]
      simp only [SV.den, SV0.den, Sc.den]
      split
      · simp
      · split <;> simp [Addr.add]
    · cases h
  · rename_i e es ea eb hty hx
    obtain ⟨i, hi', hok⟩ := tyOf_ok hT hty
    have hd := hok.desc
    rw [hi'] at hd
    obtain ⟨hu, ⟨j, hj, hjs, _⟩, _⟩ := hd
    obtain ⟨ex, lx⟩ := evs_den ht hg hx
    split at h
    · rename_i l hh hl hhh
      obtain ⟨rfl, hb⟩ := need_spec h hob
      have b1 := map_opt (a := a) (optI_spec (ht := ht) (hg := hg) hl)
      have b2 := map_opt (a := a) (optI_spec (ht := ht) (hg := hg) hhh)
      refine .of rfl fun w => ?_
      have hsz := run_sizeOf_of (P := P) hj w
      have hbd := run_bounds (P := P) (isSl := true) b1 b2 hb w
      have e1 : hh.toNat - l.toNat = 0 := by omega
      simp [execOp, ho, ex, Sc.den, Instr.sliceAt, Instr.slice, run_underlying hu, hbd, hsz, hjs]
      simp only [SV.den, SV0.den, Sc.den]
      simp [e1]
    · cases h
  · rename_i s hty hx
    obtain ⟨i, hi', hok⟩ := tyOf_ok hT hty
    have hd := hok.desc
    rw [hi'] at hd
    obtain ⟨ex, lx⟩ := evs_den ht hg hx
    split at h
    · rename_i l hh hl hhh
      obtain ⟨rfl, hb⟩ := need_spec h hob
      have b1 := map_opt (a := a) (optI_spec (ht := ht) (hg := hg) hl)
      have b2 := map_opt (a := a) (optI_spec (ht := ht) (hg := hg) hhh)
      refine .of rfl fun w => ?_
      have hs : (⟨(s.map UInt8.ofBitVec).toArray⟩ : ByteArray).size = s.length := by simp [ByteArray.size]
      have hbd := run_bounds (P := P) (isSl := false) b1 b2 hb w
      simp [execOp, ho, ex, Sc.den, Instr.sliceAt, Instr.slice, run_underlying hd, hs, hbd]
      simp only [SV.den, SV0.den, Sc.den]
      congr 1
      apply ByteArray.ext
      simp [List.map_take, List.map_drop]
    · cases h
  · cases h

theorem fieldAddr_comp (hT : TysOk P cx.T) (ht : TmOk ρ t nx a) (hg : GlOk cx ρ nx) (hst : StatOk ρ m) (hkeys : ∀ k s, find m k = some s → k < nx) {ty : TypeId} {x : Operand} {f : Nat} {r : SV} {ob : List Prop} {o : Oper} (ho : o.op = .fieldAddr ty x f)
    (h : pureX cx t m (.fieldAddr ty x f) = some (r, ob)) (hob : ∀ q ∈ ob, q) : Comp P ρ nx a o r := by
  simp only [pureX] at h
  split at h <;> first | (cases h; done) | skip
  rename_i fs k off hty hx
  obtain ⟨i, hi, hok⟩ := tyOf_ok hT hty
  have hd := hok.desc
  rw [hi] at hd
  obtain ⟨F, hu, hoff, hall⟩ := hd
  obtain ⟨ex, lx⟩ := evs_den ht hg hx
  split at h <;> first | (cases h; done) | skip
  rename_i foff fsz fa hf
  cases hz : Nat.beq fsz 0 with
  | true => rw [hz] at h; cases h
  | false =>
    rw [hz, cond_false] at h
    split at h <;> first | (cases h; done) | skip
    rename_i k' o' hn
    cases h
    obtain ⟨n1, n2, s, n3⟩ := navi_spec hst _ _ _ _ _ hn
    have hF : ∃ ff, F[f]? = some ff ∧ ff.offset = foff := by
      have e1 : (F.toList.map fun f => f.offset)[f]? = some foff := by rw [hoff]; simp [hf]
      simp only [List.getElem?_map, Option.map_eq_some_iff, Array.getElem?_toList] at e1
      exact e1
    obtain ⟨ff, hff, hfo⟩ := hF
    obtain ⟨⟨j, hj, hjs⟩, _⟩ := hall f ff _ hff hf
    have hne : fsz ≠ 0 := fun e => by subst e; simp at hz
    refine .of (blt_iff.2 (hkeys k' s n3)) fun w => ?_
    have hsz := run_sizeOf_of (P := P) hj w
    simp [execOp, ho, ex, Sc.den, Instr.fieldAt, run_underlying hu, hff, Instr.sureAddr, fieldPlace, hsz, hjs, hne]
    simp only [SV.den, SV0.den, Sc.den, add_none, hfo, n1]
    rw [Nat.add_assoc, n2]

theorem drop_take_extract {α : Type} (l : List α) (o n : Nat) : (l.toArray.extract o (o + n)) = ((l.drop o).take n).toArray := by
  simp

theorem run_part_agg {e : TypeId} {d : TypeDesc} {i : TypeInfo} (hd : P.underlying e = some d) (ha : aggB d = true) (hi : P.info? e = some i) (l : List Value) (o : Nat) (w : World) :
    (part e l.toArray o).run P w = .ok (.agg ((l.drop o).take i.size).toArray) w := by
  simp [part, run_isAgg_of hd, ha, run_sizeOf_of hi]

theorem run_part_sc {e : TypeId} {d : TypeDesc} (hd : P.underlying e = some d) (ha : aggB d = false) {l : List Value} {o : Nat} {v : Value} (h : l[o]? = some v) (w : World) :
    (part e l.toArray o).run P w = .ok v w := by
  simp [part, run_isAgg_of hd, ha, h]

theorem field_comp (hT : TysOk P cx.T) (ht : TmOk ρ t nx a) (hg : GlOk cx ρ nx) {ty : TypeId} {x : Operand} {f : Nat} {r : SV} {ob : List Prop} {o : Oper} (ho : o.op = .field ty x f)
    (h : pureX cx t m (.field ty x f) = some (r, ob)) : Comp P ρ nx a o r := by
  simp only [pureX] at h
  split at h <;> first | (cases h; done) | skip
  rename_i fs l hty hx
  obtain ⟨i, hi, hok⟩ := tyOf_ok hT hty
  have hd := hok.desc
  rw [hi] at hd
  obtain ⟨F, hu, hoff, hall⟩ := hd
  obtain ⟨ex, lx⟩ := ev_den ht hg hx
  have lx' : l.all (SegD.lt nx) = true := lx
  have hF : ∀ (foff : Nat) (y : Nat × Bool), fs[f]? = some (foff, y) → ∃ ff, F[f]? = some ff ∧ ff.offset = foff := by
    intro foff y hf
    have e1 : (F.toList.map fun f => f.offset)[f]? = some foff := by rw [hoff]; simp [hf]
    simp only [List.getElem?_map, Option.map_eq_some_iff, Array.getElem?_toList] at e1
    exact e1
  have ex' : a.eval x = .agg (pcells ρ l).toArray := ex
  split at h <;> first | (cases h; done) | skip
  · rename_i foff fsz hf
    obtain ⟨ff, hff, hfo⟩ := hF _ _ hf
    obtain ⟨⟨j, hj, hjs⟩, d, hd1, hd2⟩ := hall f ff _ hff hf
    cases hp : pget l foff with
    | none => rw [hp] at h; cases h
    | some y =>
      rw [hp] at h
      cases h
      refine .of (pget_lt l foff y lx' hp) fun w => ?_
      have := run_part_sc (P := P) hd1 hd2 (pget_eq ρ l foff y hp) w
      simp [execOp, ho, ex', Instr.field, run_underlying hu, hff, asAgg, hfo, this]
      rfl
  · rename_i foff fsz hf
    obtain ⟨ff, hff, hfo⟩ := hF _ _ hf
    obtain ⟨⟨j, hj, hjs⟩, d, hd1, hd2⟩ := hall f ff _ hff hf
    split at h <;> first | (cases h; done) | skip
    rename_i e he
    cases h
    obtain ⟨p1, p2⟩ := psub_eq ρ l foff fsz e he
    refine .of (by simp [SV.lt, SV0.lt, p2 nx lx']) fun w => ?_
    have := run_part_agg (P := P) hd1 hd2 hj (pcells ρ l) foff w
    simp only [execOp, ho, ex', Instr.field, Sem.run_bind, run_underlying hu, Result.andThen_ok, hff, asAgg, Sem.run_pure, hfo, this]
    simp only [SV.den, SV0.den, List.flatMap_cons, List.flatMap_nil, List.append_nil, p1, hjs]

theorem indexAddr_comp (hT : TysOk P cx.T) (ht : TmOk ρ t nx a) (hg : GlOk cx ρ nx) (hst : StatOk ρ m) {ty : TypeId} {x i : Operand} {r : SV} {ob : List Prop} {o : Oper} (ho : o.op = .indexAddr ty x i)
    (h : pureX cx t m (.indexAddr ty x i) = some (r, ob)) (hob : ∀ q ∈ ob, q) : Comp P ρ nx a o r := by
  simp only [pureX, offX_eq, Nat.zero_add] at h
  split at h <;> first | (cases h; done) | skip
  · rename_i n e es ea k off j hty hx hi
    obtain ⟨q, hq, hok⟩ := tyOf_ok hT hty
    have hd := hok.desc
    rw [hq] at hd
    obtain ⟨hu, ⟨inf, hinf, hsz⟩, _⟩ := hd
    obtain ⟨ex, lx⟩ := evs_den ht hg hx
    obtain ⟨ei, _⟩ := evs_den ht hg hi
    obtain ⟨rfl, hb⟩ := need_spec h hob
    refine .of lx fun w => ?_
    have hs := run_sizeOf_of (P := P) hinf w
    simp [execOp, ho, ex, ei, Sc.den, Instr.indexAt, asIntOf, run_underlying hu, Instr.sureAddr, hb, hs, hsz, add_none, SV.den, SV0.den, Nat.add_assoc]
  · rename_i e es ea eb k off len cap j hty hx hi
    obtain ⟨q, hq, hok⟩ := tyOf_ok hT hty
    have hd := hok.desc
    rw [hq] at hd
    obtain ⟨hu, ⟨inf, hinf, hsz, _⟩, _⟩ := hd
    obtain ⟨ex, lx⟩ := evs_den ht hg hx
    obtain ⟨ei, _⟩ := evs_den ht hg hi
    obtain ⟨rfl, hb⟩ := need_spec h hob
    refine .of lx fun w => ?_
    have hs := run_sizeOf_of (P := P) hinf w
    simp [execOp, ho, ex, ei, Sc.den, Instr.indexAt, asIntOf, run_underlying hu, hb, hs, hsz, add_none, SV.den, SV0.den, Nat.add_assoc]
  · rename_i e es ea eb k len j hty hx hi
    obtain ⟨q, hq, hok⟩ := tyOf_ok hT hty
    have hd := hok.desc
    rw [hq] at hd
    obtain ⟨hu, ⟨inf, hinf, hsz, _⟩, _⟩ := hd
    obtain ⟨ex, lx⟩ := evs_den ht hg hx
    obtain ⟨ei, _⟩ := evs_den ht hg hi
    split at h <;> first | (cases h; done) | skip
    rename_i s hs'
    obtain ⟨rfl, hb⟩ := need_spec h hob
    have hnil : (ρ k).isNil = false := by
      cases hn : (ρ k).isNil with
      | false => rfl
      | true => have := hst.nil k s hs' hn; have := hst.cap k s hs'; omega
    refine .of lx fun w => ?_
    have hs := run_sizeOf_of (P := P) hinf w
    have hb1 : 0 ≤ j ∧ j < (len : Int) := ⟨hb.1, hb.2.1⟩
    simp [execOp, ho, ex, ei, Sc.den, Instr.indexAt, asIntOf, run_underlying hu, hnil, hb1, hs, hsz, add_none, SV.den, SV0.den]

end
end Go.Sx
