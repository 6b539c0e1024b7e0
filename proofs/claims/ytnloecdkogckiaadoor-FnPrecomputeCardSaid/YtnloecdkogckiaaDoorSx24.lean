/- A contract proved at a small memory, used at a larger one: by tables of views. Conditions: none; plain definitions and theorems over any program. -/
import Derived.Test.YtnloecdkogckiaaDoorSx23
set_option linter.unusedVariables false
namespace Go.Sx
open Go.RowKit

/-- where a piece of the small memory lies in the large one -/
inductive Vw where
  | cut (K o cap : Nat)
  | osl (K : Nat)
  | nil
  | whole (K : Nat)

def Vw.key : Vw → Nat
  | .cut K _ _ => K
  | .osl K => K
  | .nil => 0
  | .whole K => K

def Vw.off : Vw → Nat
  | .cut _ o _ => o
  | _ => 0

def Vw.loc (ρ : Env) : Vw → Loc
  | .cut K o cap => ⟨(ρ K).blk, (ρ K).off + o, cap, false⟩
  | .osl K => ρ K
  | .nil => ⟨0, 0, 0, true⟩
  | .whole K => ρ K

/-- a view and its piece -/
structure Pc where
  vw : Vw
  n : Nat
  d : SegD
  own : Bool
  nxt : Bool

def Pc.seg (p : Pc) : Seg := ⟨p.n, p.d, p.own, false, p.nxt⟩

def Pc.Fit (ng : Nat) (M : Mem) (p : Pc) : Prop :=
  p.d.len = p.n ∧ p.d.on noKey = true ∧ match p.vw with
  | .cut K o cap => p.nxt = false ∧ p.n ≤ cap ∧ (0 < p.n → ∃ S, find M K = some S ∧ o + p.n ≤ S.d.len ∧ p.d = S.d.sub o p.n ∧ (p.own = true → S.own = true ∧ S.grow = false ∧ ng ≤ K))
  | .osl K => p.nxt = false ∧ ∃ S, find M K = some S ∧ p.n ≤ S.d.len ∧ p.d = S.d.sub 0 p.n ∧ (p.own = true → S.own = true ∧ S.grow = false ∧ ng ≤ K)
  | .nil => p.nxt = false ∧ p.n = 0
  | .whole K => ∃ S, find M K = some S ∧ p.n = S.d.len ∧ p.d = S.d ∧ p.n = S.n ∧ (p.nxt = true → S.nxt = true) ∧ (p.own = true → S.own = true ∧ S.grow = false ∧ ng ≤ K)

/-- a chain of wholes -/
def Chain : List Pc → Prop
  | [] => True
  | p :: r => (p.nxt = true → ∃ q r', r = q :: r' ∧ ∃ K, p.vw = .whole K ∧ q.vw = .whole (K + 1)) ∧ Chain r

def Vw.isNil : Vw → Bool
  | .nil => true
  | _ => false

/-- two views that may touch the same cells are both only read -/
def aptB (p q : Pc) : Bool := bif p.own || q.own then (p.vw.isNil || q.vw.isNil || !Nat.beq p.vw.key q.vw.key) else true

def Apt : List Pc → Bool
  | [] => true
  | p :: r => r.all (aptB p) && Apt r

theorem aptB_spec {p q : Pc} (h : aptB p q = true) (hp : p.vw.isNil = false) (hq : q.vw.isNil = false) (e : p.vw.key = q.vw.key) : p.own = false ∧ q.own = false := by
  unfold aptB at h
  rw [hp, hq, e] at h
  have hb : Nat.beq q.vw.key q.vw.key = true := by simp
  rw [hb] at h
  cases h1 : p.own <;> cases h2 : q.own <;> rw [h1, h2] at h <;> first | exact ⟨rfl, rfl⟩ | cases h

theorem Apt.at_ : ∀ {l : List Pc}, Apt l = true → ∀ (i j : Nat) (p q : Pc), l[i]? = some p → l[j]? = some q → i ≠ j → p.vw.isNil = false → q.vw.isNil = false → p.vw.key = q.vw.key → p.own = false ∧ q.own = false
  | [], _, i, j, p, q, h, _, _, _, _, _ => by simp at h
  | x :: r, h, i, j, p, q, hi, hj, hne, h1, h2, h3 => by
    cases i with
    | zero =>
      cases j with
      | zero => exact absurd rfl hne
      | succ j =>
        simp only [List.getElem?_cons_zero, Option.some.injEq, List.getElem?_cons_succ] at hi hj
        subst hi
        simp only [Apt, Bool.and_eq_true] at h
        exact aptB_spec (List.all_eq_true.1 h.1 q (List.mem_of_getElem? hj)) h1 h2 h3
    | succ i =>
      cases j with
      | zero =>
        simp only [List.getElem?_cons_zero, Option.some.injEq, List.getElem?_cons_succ] at hi hj
        subst hj
        simp only [Apt, Bool.and_eq_true] at h
        exact (aptB_spec (List.all_eq_true.1 h.1 p (List.mem_of_getElem? hi)) h2 h1 h3.symm).symm
      | succ j =>
        simp only [List.getElem?_cons_succ] at hi hj
        simp only [Apt, Bool.and_eq_true] at h
        exact Apt.at_ h.2 i j p q hi hj (by omega) h1 h2 h3

theorem Chain.at_ : ∀ {l : List Pc}, Chain l → ∀ (i : Nat) (p : Pc), l[i]? = some p → p.nxt = true → ∃ q K, l[i + 1]? = some q ∧ p.vw = .whole K ∧ q.vw = .whole (K + 1)
  | [], _, i, p, h, _ => by simp at h
  | x :: r, h, i, p, hi, hn => by
    cases i with
    | zero =>
      simp only [List.getElem?_cons_zero, Option.some.injEq] at hi
      subst hi
      obtain ⟨q, r', e, K, h1, h2⟩ := h.1 hn
      subst e
      exact ⟨q, K, by simp, h1, h2⟩
    | succ i =>
      simp only [List.getElem?_cons_succ] at hi
      obtain ⟨q, K, h1, h2, h3⟩ := Chain.at_ h.2 i p hi hn
      exact ⟨q, K, by simpa using h1, h2, h3⟩

def locs (ng : Nat) (l : List Pc) (ρ : Env) (k : Nat) : Loc := match l[k - ng]? with
  | some p => p.vw.loc ρ
  | none => ⟨0, 0, 0, true⟩
def keys (ng : Nat) (l : List Pc) (k : Nat) : Nat := match l[k - ng]? with
  | some p => p.vw.key
  | none => 0
def offs' (ng : Nat) (l : List Pc) (k : Nat) : Nat := match l[k - ng]? with
  | some p => p.vw.off
  | none => 0

def smallM (ng : Nat) (l : List Pc) (mG : Mem) : Mem := addM ng (l.map Pc.seg) mG

theorem find_smallM {ng : Nat} {l : List Pc} {mG : Mem} {k : Nat} {s : Seg} (hG : ∀ k s, find mG k = some s → k < ng) (h : find (smallM ng l mG) k = some s) :
    (k < ng ∧ find mG k = some s) ∨ (ng ≤ k ∧ k < ng + l.length ∧ ∃ p, l[k - ng]? = some p ∧ s = p.seg) := by
  unfold smallM at h
  rw [find_addM, List.length_map] at h
  by_cases hr : ng ≤ k ∧ k < ng + l.length
  · rw [if_pos hr, List.getElem?_map, Option.map_eq_some_iff] at h
    obtain ⟨p, h1, h2⟩ := h
    exact .inr ⟨hr.1, hr.2, p, h1, h2.symm⟩
  · rw [if_neg hr] at h
    exact .inl ⟨hG k s h, h⟩

theorem sub_scs (d : SegD) (o n : Nat) : (d.sub o n).scs = (d.scs.drop o).take n := by
  cases d <;> simp [SegD.sub, SegD.scs, List.map_take, List.map_drop]

section
variable {B ng NX : Nat} {M mG : Mem} {ρ : Env} {w : World} {l : List Pc}

theorem View.of (hok : MemOk B ng ρ M NX w) (hG : ∀ k s, find mG k = some s → k < ng ∧ find M k = some s ∧ s.own = false ∧ s.d.lt ng = true ∧ s.nxt = false) (hfit : ∀ p ∈ l, p.Fit ng M) (hch : Chain l) (hap : Apt l = true) :
    View ng (ng + l.length) (smallM ng l mG) M ρ (locs ng l ρ) (keys ng l) (offs' ng l) := by
  have fs : ∀ {k s}, find (smallM ng l mG) k = some s → ng ≤ k → k < ng + l.length ∧ ∃ p, l[k - ng]? = some p ∧ s = p.seg ∧ p.Fit ng M ∧ locs ng l ρ k = p.vw.loc ρ ∧ keys ng l k = p.vw.key ∧ offs' ng l k = p.vw.off := by
    intro k s h hge
    rcases find_smallM (fun k s h => (hG k s h).1) h with ⟨h1, _⟩ | ⟨_, h2, p, h3, h4⟩
    · omega
    · exact ⟨h2, p, h3, h4, hfit p (List.mem_of_getElem? h3), by simp [locs, h3], by simp [keys, h3], by simp [offs', h3]⟩
  refine ⟨Nat.le_add_right _ _, fun k s hk hlt => ?_, fun k s hk => ?_, fun k s hk hge => ?_, fun k s hk hge => ?_, fun k s hk hge hn => ?_, fun k s hk hge hz => ?_, fun k k' s s' hk hk' hge hge' hne hz hz' he => ?_⟩
  · rcases find_smallM (fun k s h => (hG k s h).1) hk with ⟨_, h1⟩ | ⟨h1, _⟩
    · exact (hG k s h1).2
    · omega
  · rcases find_smallM (fun k s h => (hG k s h).1) hk with ⟨h1, _⟩ | ⟨_, h1, _⟩ <;> omega
  · obtain ⟨_, p, _, rfl, hf, _⟩ := fs hk hge
    exact ⟨rfl, hf.1, hf.2.1⟩
  · obtain ⟨_, p, _, rfl, ⟨f1, f2, f3⟩, e1, _⟩ := fs hk hge
    rw [e1]
    show p.n ≤ _ ∧ _
    cases hv : p.vw <;> rw [hv] at f3 <;> dsimp only at f3 <;> simp only [Vw.loc]
    · exact ⟨f3.2.1, fun h => by cases h⟩
    · obtain ⟨_, S, hS, h1, _⟩ := f3
      have hs := hok.segs _ S hS
      exact ⟨Nat.le_trans h1 hs.cap, hs.nil⟩
    · exact ⟨by omega, fun _ => trivial⟩
    · obtain ⟨S, hS, h1, _⟩ := f3
      have hs := hok.segs _ S hS
      exact ⟨by rw [h1]; exact hs.cap, hs.nil⟩
  · obtain ⟨_, p, hp, rfl, ⟨f1, f2, f3⟩, e1, _⟩ := fs hk hge
    obtain ⟨q, K, hq, hv, hv'⟩ := hch.at_ _ p hp hn
    have hl : k - ng + 1 < l.length := (List.getElem?_eq_some_iff.1 hq).1
    rw [hv] at f3
    obtain ⟨S, hS, h1, h2, h3, h4, _⟩ := f3
    have hs := (hok.segs _ S hS).next (h4 hn)
    refine ⟨by omega, ?_⟩
    have e2 : locs ng l ρ (k + 1) = q.vw.loc ρ := by simp [locs, show k + 1 - ng = k - ng + 1 by omega, hq]
    rw [e1, e2, hv, hv']
    simp only [Vw.loc]
    show _ ∧ _ = _ + p.n
    rw [h3]
    exact hs
  · obtain ⟨_, p, hp, rfl, ⟨f1, f2, f3⟩, e1, e2, e3⟩ := fs hk hge
    have hz' : 0 < p.n := hz
    have cells : ∀ (S : Seg) (o : Nat), p.d = S.d.sub o p.n → ∀ j x, p.seg.d.scs[j]? = some x → S.d.scs[o + j]? = some x := by
      intro S o hd j x hx
      have hx' : (S.d.sub o p.n).scs[j]? = some x := by rw [← hd]; exact hx
      rw [sub_scs] at hx'
      have hj : j < p.n := by
        have := (List.getElem?_eq_some_iff.1 hx').1
        simp at this; omega
      rw [List.getElem?_take_of_lt hj, List.getElem?_drop] at hx'
      exact hx'
    rw [e1, e2, e3]
    cases hv : p.vw <;> rw [hv] at f3 <;> dsimp only at f3 <;> simp only [Vw.loc, Vw.key, Vw.off]
    · obtain ⟨_, _, h3⟩ := f3
      obtain ⟨S, hS, h4, h5, h6⟩ := h3 hz'
      exact ⟨trivial, trivial, S, hS, h4, cells S _ h5, h6⟩
    · obtain ⟨_, S, hS, h4, h5, h6⟩ := f3
      exact ⟨trivial, rfl, S, hS, by show 0 + p.n ≤ _; omega, cells S 0 h5, h6⟩
    · omega
    · obtain ⟨S, hS, h1, h2, h3, h4, h6⟩ := f3
      refine ⟨trivial, rfl, S, hS, by show 0 + p.n ≤ _; omega, fun j x hx => ?_, h6⟩
      rw [Nat.zero_add, ← h2]; exact hx
  · obtain ⟨_, p, hp, rfl, ⟨_, _, f3⟩, _, e2, _⟩ := fs hk hge
    obtain ⟨_, p', hp', rfl, ⟨_, _, f3'⟩, _, e2', _⟩ := fs hk' hge'
    rw [e2, e2'] at he
    have hz1 : 0 < p.n := hz
    have hz2 : 0 < p'.n := hz'
    have n1 : p.vw.isNil = false := by
      cases hv : p.vw <;> first | rfl | skip
      rw [hv] at f3; have := f3.2; omega
    have n2 : p'.vw.isNil = false := by
      cases hv : p'.vw <;> first | rfl | skip
      rw [hv] at f3'; have := f3'.2; omega
    exact Apt.at_ hap _ _ p p' hp hp' (by omega) n1 n2 he

end
end Go.Sx
