/- Symbolic appends, texts made of bytes, views of slices; and their soundness. Conditions: none; plain definitions and theorems over any program. -/
import Derived.Test.YtnloecdkogckiaaDoorSx9
import Derived.Deep.AppendSrc
import Derived.Deep.DeepAppendWide
import Derived.Laws.BytesString
set_option linter.unusedVariables false
namespace Go.Sx
open Go.RowKit

/-! ### Pieces put together -/

def SegD.app : SegD → SegD → Option SegD
  | .d8 l, .d8 e => some (.d8 (l ++ e))
  | .d32 l, .d32 e => some (.d32 (l ++ e))
  | .d64 l, .d64 e => some (.d64 (l ++ e))
  | .di l, .di e => some (.di (l ++ e))
  | _, _ => none

theorem SegD.app_spec {d e r : SegD} (h : d.app e = some r) : r.scs = d.scs ++ e.scs ∧ r.len = d.len + e.len ∧ r.zv = d.zv ∧ (∀ k, r.lt k = true) ∧ (∀ k, d.lt k = true) ∧ e.flatB = true ∧ ∃ z, d.zv = some z := by
  unfold SegD.app at h
  split at h <;> first | (cases h; done) | skip
  all_goals (cases h; refine ⟨by simp [SegD.scs], by simp [SegD.len], rfl, fun _ => rfl, fun _ => rfl, rfl, _, rfl⟩)

def SegD.zeros : SegD → Nat → SegD
  | .d8 _, n => .d8 (List.replicate n 0)
  | .d32 _, n => .d32 (List.replicate n 0)
  | .d64 _, n => .d64 (List.replicate n 0)
  | .di _, n => .di (List.replicate n 0)
  | .dc _, n => .dc (List.replicate n (.v undef))

theorem SegD.zeros_spec {d : SegD} {z : Value} (h : d.zv = some z) (n : Nat) (ρ : Env) : (d.zeros n).cells ρ = List.replicate n z ∧ (d.zeros n).len = n := by
  cases d <;> cases h <;> simp [SegD.zeros, SegD.cells, SegD.scs, SegD.len, Sc.den]

/-- the one cell of an element's zero value is what spare cells hold -/
def zOk : SegD → SegD → Bool
  | .d8 _, .d8 [x] => Nat.beq x.toNat 0
  | .d32 _, .d32 [x] => Nat.beq x.toNat 0
  | .d64 _, .d64 [x] => Nat.beq x.toNat 0
  | .di _, .di [x] => decide (x = 0)
  | _, _ => false

theorem zOk_spec {d zd : SegD} (h : zOk d zd = true) (ρ : Env) : ∃ z, d.zv = some z ∧ zd.cells ρ = [z] := by
  unfold zOk at h
  split at h <;> first | (cases h; done) | skip
  all_goals
    refine ⟨_, rfl, ?_⟩
    simp only [SegD.cells, SegD.scs, List.map_cons, List.map_nil, Sc.den]
    first
      | rw [Nat.eq_of_beq_eq_true h]; rfl
      | rw [of_decide_eq_true h]

def delM : Mem → Nat → Mem
  | [], _ => []
  | (k', s) :: r, k => bif Nat.beq k' k then delM r k else (k', s) :: delM r k

theorem find_delM : ∀ (m : Mem) (k q : Nat), find (delM m k) q = if q = k then none else find m q
  | [], k, q => by simp [delM, find]
  | (k', s) :: r, k, q => by
    simp only [delM]
    by_cases h : k' = k
    · subst h
      simp only [Nat.beq_refl, cond_true, find_delM r k' q, find_cons]
      by_cases hq : q = k'
      · simp [hq]
      · simp [hq, Ne.symm hq]
    · have hb : Nat.beq k' k = false := by rw [← Bool.not_eq_true]; intro hh; exact h (Nat.eq_of_beq_eq_true hh)
      simp only [hb, cond_false, find_cons, find_delM r k q]
      by_cases hq : q = k
      · subst hq; simp [h]
      · simp [hq]

section
variable {P : Program} {B ng : Nat} {ρ : Env} {m : Mem} {nx : Nat} {w : World}

/-- the same pieces in another list -/
theorem PostM.eqv {NX : Nat} {M M' : Mem} {ρ' : Env} {w' : World} (h : PostM B ng ρ m nx w ρ' M NX w') (he : ∀ k, find M' k = find M k) : PostM B ng ρ m nx w ρ' M' NX w' := by
  have hs : ∀ k s, find M' k = some s → find M k = some s := fun k s hk => by rw [← he k]; exact hk
  exact ⟨h.ext, ⟨fun k s hk => h.ok.keys k s (hs k s hk), fun k s hk => h.ok.segs k s (hs k s hk), fun k k' s s' hk hk' => h.ok.dis k k' s s' (hs k s hk) (hs k' s' hk'), h.ok.base, h.ok.glob, h.ok.ng_le, fun k s hk => h.ok.wf k s (hs k s hk)⟩,
    h.frame, fun b o hb ⟨k, s, hk, r⟩ => h.sub b o hb ⟨k, s, hs k s hk, r⟩, fun b o hb ⟨k, s, hk, r⟩ => h.subR b o hb ⟨k, s, hs k s hk, r⟩, h.le⟩

def envN (nx : Nat) (ρ : Env) (loc : Loc) : Env := fun q => if q < nx then ρ q else loc
theorem envN_lo {loc : Loc} {q : Nat} (h : q < nx) : envN nx ρ loc q = ρ q := if_pos h
theorem envN_at {loc : Loc} : envN nx ρ loc nx = loc := if_neg (Nat.lt_irrefl _)

/-- a part of a piece of our own gets a key of its own; the piece is forgotten -/
theorem PostM.rekey (h : MemOk B ng ρ m nx w) {k : Nat} {s : Seg} (hk : find m k = some s) (ho : s.own = true) {o c : Nat} (hoc : o + c ≤ s.ext ρ k) (loc : Loc) (l1 : loc.blk = (ρ k).blk) (l2 : loc.off = (ρ k).off + o) (l3 : loc.cap = c)
    (l4 : loc.isNil = true → c = 0) {d : SegD} (hd : d.len = c) (hlt : d.lt nx = true) (hc : ∀ j x, d.scs[j]? = some x → w.cell? ⟨(ρ k).blk, (ρ k).off + o + j, none⟩ = some (x.den ρ)) :
    PostM B ng ρ m nx w (envN nx ρ loc) ((nx, ⟨c, d, true, false, false⟩) :: delM m k) (nx + 1) w := by
  have he : ∀ q, q < nx → envN nx ρ loc q = ρ q := fun q hq => envN_lo hq
  have hen : envN nx ρ loc nx = loc := envN_at
  have hsk := h.segs k s hk
  have old : MemOk B ng (envN nx ρ loc) m (nx + 1) w := h.env he (by omega)
  have split : ∀ q t, find ((nx, (⟨c, d, true, false, false⟩ : Seg)) :: delM m k) q = some t → (q = nx ∧ t = ⟨c, d, true, false, false⟩) ∨ (q < nx ∧ q ≠ k ∧ find m q = some t) := by
    intro q t ht
    rw [find_cons] at ht
    by_cases e : nx = q
    · rw [if_pos e] at ht; cases ht; exact .inl ⟨e.symm, rfl⟩
    · rw [if_neg e, find_delM] at ht
      by_cases e2 : q = k
      · rw [if_pos e2] at ht; cases ht
      · rw [if_neg e2] at ht; exact .inr ⟨h.keys q t ht, e2, ht⟩
  have hr : ∀ r : Env, (⟨c, d, true, false, false⟩ : Seg).reach r nx = c := fun r => by simp [Seg.reach, Seg.ext]
  have hreach : s.reach ρ k = s.ext ρ k := by simp [Seg.reach, ho]
  have ap : ∀ q t, find m q = some t → q ≠ k → Apart (envN nx ρ loc) nx ⟨c, d, true, false, false⟩ q t := by
    intro q t ht hq
    unfold Apart
    rw [hr, hen, he q (h.keys q t ht), Seg.reach_congr (he q (h.keys q t ht)), l1, l2]
    rcases h.dis k q s t hk ht (Ne.symm hq) (.inl ho) with hx | hx
    · exact .inl hx
    · refine .inr fun j j' hj hj' => ?_
      have := hx (o + j) j' (by rw [hreach]; omega) hj'
      omega
  refine ⟨he, ⟨fun q t ht => ?_, fun q t ht => ?_, fun q q' t t' ht ht' hne hoo => ?_, h.base, old.glob, old.ng_le, fun q t ht => ?_⟩, ⟨Below.refl _ _, fun _ _ _ _ => ⟨rfl, rfl⟩⟩, ?_, ?_, by omega⟩
  · rcases split q t ht with ⟨rfl, _⟩ | ⟨h1, _, _⟩ <;> omega
  · rcases split q t ht with ⟨rfl, rfl⟩ | ⟨_, _, h2⟩
    · refine ⟨fun _ hp => ?_, fun _ => hd, ?_, fun e => ?_, fun j x hx => ?_, fun _ j hj => ?_, fun e => (by cases e), fun e => (by cases e)⟩
      · rw [hen, l1]
        have hp' : 0 < c := hp
        exact hsk.ours ho (by omega)
      · rw [hen, l3]; exact Nat.le_of_eq hd
      · rw [hen] at e ⊢; rw [l3]; exact l4 e
      · rw [hen, l1, l2, hc j x hx, Sc.den_congr he (SegD.scs_lt hlt x (List.mem_of_getElem? hx))]
      · rw [hen, l1, l2, Nat.add_assoc]
        have hj' : j < c := hj
        exact hsk.room ho (o + j) (by omega)
    · exact old.segs q t h2
  · rcases split q t ht with ⟨rfl, rfl⟩ | ⟨_, h1, h2⟩ <;> rcases split q' t' ht' with ⟨rfl, rfl⟩ | ⟨_, h1', h2'⟩
    · exact absurd rfl hne
    · exact ap q' t' h2' h1'
    · rcases ap q t h2 h1 with hx | hx
      · exact .inl (Ne.symm hx)
      · exact .inr fun j j' hj hj' e => hx j' j hj' hj e.symm
    · exact old.dis q q' t t' h2 h2' hne hoo
  · rcases split q t ht with ⟨rfl, rfl⟩ | ⟨_, _, h2⟩
    · exact ⟨SegD.lt_mono (by omega) hlt, fun e => by cases e⟩
    · exact old.wf q t h2
  · rintro b o' hb ⟨q, t, ht, g1, g2, g3, g4⟩
    rcases split q t ht with ⟨rfl, rfl⟩ | ⟨_, _, h2⟩
    · rw [hen, l1] at g2
      rw [hen, l2] at g3 g4
      have g4' : o' < (ρ k).off + o + c := g4
      exact ⟨k, s, hk, ho, g2, by omega, by omega⟩
    · have e := he q (h.keys q t h2)
      rw [Seg.ext_congr e] at g4
      rw [e] at g2 g3 g4
      exact ⟨q, t, h2, g1, g2, g3, g4⟩
  · rintro b o' hb ⟨q, t, ht, g2, g3, g4⟩
    rcases split q t ht with ⟨rfl, rfl⟩ | ⟨_, _, h2⟩
    · rw [hr] at g4
      rw [hen, l1] at g2
      rw [hen, l2] at g3 g4
      exact ⟨k, s, hk, g2, by omega, by rw [hreach]; omega⟩
    · have e := he q (h.keys q t h2)
      rw [Seg.reach_congr e] at g4
      rw [e] at g2 g3 g4
      exact ⟨q, t, h2, g2, g3, g4⟩

/-- a piece of our own whose last cells are noughts may be taken for one that grows -/
theorem PostM.regrow (h : MemOk B ng ρ m nx w) {k : Nat} {s : Seg} (hk : find m k = some s) (ho : s.own = true) (hgr : s.grow = false) (hn : s.n = (ρ k).cap) {d : SegD} (hlt : d.lt nx = true) (hle : d.len ≤ s.n)
    (hc : ∀ j x, d.scs[j]? = some x → w.cell? ⟨(ρ k).blk, (ρ k).off + j, none⟩ = some (x.den ρ)) (hz : ∀ j z, d.zv = some z → d.len ≤ j → j < (ρ k).cap → w.cell? ⟨(ρ k).blk, (ρ k).off + j, none⟩ = some z) :
    PostM B ng ρ m nx w ρ ((k, ⟨0, d, true, true, false⟩) :: delM m k) nx w := by
  have hsk := h.segs k s hk
  have split : ∀ q t, find ((k, (⟨0, d, true, true, false⟩ : Seg)) :: delM m k) q = some t → (q = k ∧ t = ⟨0, d, true, true, false⟩) ∨ (q ≠ k ∧ find m q = some t) := by
    intro q t ht
    rw [find_cons] at ht
    by_cases e : k = q
    · rw [if_pos e] at ht; cases ht; exact .inl ⟨e.symm, rfl⟩
    · rw [if_neg e, find_delM, if_neg (Ne.symm e)] at ht; exact .inr ⟨Ne.symm e, ht⟩
  have hext : (⟨0, d, true, true, false⟩ : Seg).ext ρ k = s.ext ρ k := by simp [Seg.ext, hgr, hn]
  have hreach : (⟨0, d, true, true, false⟩ : Seg).reach ρ k = s.reach ρ k := by simp [Seg.reach, Seg.ext, hgr, hn, ho]
  refine ⟨fun _ _ => rfl, ⟨fun q t ht => ?_, fun q t ht => ?_, fun q q' t t' ht ht' hne hoo => ?_, h.base, h.glob, h.ng_le, fun q t ht => ?_⟩, ⟨Below.refl _ _, fun _ _ _ _ => ⟨rfl, rfl⟩⟩, ?_, ?_, Nat.le_refl _⟩
  · rcases split q t ht with ⟨rfl, rfl⟩ | ⟨_, h2⟩
    · exact h.keys _ s hk
    · exact h.keys q t h2
  · rcases split q t ht with ⟨rfl, rfl⟩ | ⟨_, h2⟩
    · refine ⟨fun _ hp => hsk.ours ho (by rw [← hext]; exact hp), fun e => (by cases e), ?_, hsk.nil, hc, fun _ j hj => hsk.room ho j (by rw [← hext]; exact hj), fun e => (by cases e), fun _ _ j z hz' h1 h2 => hz j z hz' h1 h2⟩
      show d.len ≤ _
      omega
    · exact h.segs q t h2
  · rcases split q t ht with ⟨rfl, rfl⟩ | ⟨h1, h2⟩ <;> rcases split q' t' ht' with ⟨rfl, rfl⟩ | ⟨h1', h2'⟩
    · exact absurd rfl hne
    · have := h.dis _ q' s t' hk h2' hne (.inl ho)
      unfold Apart at *; rw [hreach]; exact this
    · have := h.dis q _ t s h2 hk hne (.inr ho)
      unfold Apart at *; rw [hreach]; exact this
    · exact h.dis q q' t t' h2 h2' hne hoo
  · rcases split q t ht with ⟨rfl, rfl⟩ | ⟨_, h2⟩
    · exact ⟨hlt, fun e => by cases e⟩
    · exact h.wf q t h2
  · rintro b o' hb ⟨q, t, ht, g1, g2, g3, g4⟩
    rcases split q t ht with ⟨rfl, rfl⟩ | ⟨_, h2⟩
    · rw [hext] at g4; exact ⟨_, s, hk, ho, g2, g3, g4⟩
    · exact ⟨q, t, h2, g1, g2, g3, g4⟩
  · rintro b o' hb ⟨q, t, ht, g2, g3, g4⟩
    rcases split q t ht with ⟨rfl, rfl⟩ | ⟨_, h2⟩
    · rw [hreach] at g4; exact ⟨_, s, hk, g2, g3, g4⟩
    · exact ⟨q, t, h2, g2, g3, g4⟩

/-- a view of a piece that is only read -/
theorem PostM.view (h : MemOk B ng ρ m nx w) {k : Nat} {s : Seg} (hk : find m k = some s) (ho : s.own = false) {l n : Nat} (hl : l + n ≤ s.d.len) (loc : Loc) (l1 : 0 < n → loc.blk = (ρ k).blk ∧ loc.off = (ρ k).off + l) (l3 : n ≤ loc.cap)
    (l4 : loc.isNil = true → loc.cap = 0) : PostM B ng ρ m nx w (envN nx ρ loc) ((nx, ⟨n, s.d.sub l n, false, false, false⟩) :: m) (nx + 1) w := by
  have he : ∀ q, q < nx → envN nx ρ loc q = ρ q := fun q hq => envN_lo hq
  have hen : envN nx ρ loc nx = loc := envN_at
  have hsk := h.segs k s hk
  have hdl : (s.d.sub l n).len = n := SegD.sub_len _ _ _ hl
  have hlt : (s.d.sub l n).lt nx = true := SegD.sub_lt (h.wf k s hk).1 l n
  have old : MemOk B ng (envN nx ρ loc) m (nx + 1) w := h.env he (by omega)
  have split : ∀ q t, find ((nx, (⟨n, s.d.sub l n, false, false, false⟩ : Seg)) :: m) q = some t → (q = nx ∧ t = ⟨n, s.d.sub l n, false, false, false⟩) ∨ (q < nx ∧ find m q = some t) := by
    intro q t ht
    rw [find_cons] at ht
    by_cases e : nx = q
    · rw [if_pos e] at ht; cases ht; exact .inl ⟨e.symm, rfl⟩
    · rw [if_neg e] at ht; exact .inr ⟨h.keys q t ht, ht⟩
  have hr : ∀ r : Env, (⟨n, s.d.sub l n, false, false, false⟩ : Seg).reach r nx = n := fun r => by simp [Seg.reach, hdl]
  have hreach : s.reach ρ k = s.d.len := by simp [Seg.reach, ho]
  have ap : ∀ q t, find m q = some t → t.own = true → Apart (envN nx ρ loc) nx ⟨n, s.d.sub l n, false, false, false⟩ q t := by
    intro q t ht hto
    unfold Apart
    rw [hr, hen, he q (h.keys q t ht), Seg.reach_congr (he q (h.keys q t ht))]
    have hq : k ≠ q := fun e => by subst e; rw [hk] at ht; cases ht; rw [ho] at hto; cases hto
    by_cases h0 : 0 < n
    · obtain ⟨a1, a2⟩ := l1 h0
      rw [a1, a2]
      rcases h.dis k q s t hk ht hq (.inr hto) with hx | hx
      · exact .inl hx
      · refine .inr fun j j' hj hj' => ?_
        have := hx (l + j) j' (by rw [hreach]; omega) hj'
        omega
    · exact .inr fun j j' hj _ => by omega
  refine ⟨he, ⟨fun q t ht => ?_, fun q t ht => ?_, fun q q' t t' ht ht' hne hoo => ?_, h.base, old.glob, old.ng_le, fun q t ht => ?_⟩, ⟨Below.refl _ _, fun _ _ _ _ => ⟨rfl, rfl⟩⟩, ?_, ?_, by omega⟩
  · rcases split q t ht with ⟨rfl, _⟩ | ⟨h1, _⟩ <;> omega
  · rcases split q t ht with ⟨rfl, rfl⟩ | ⟨_, h2⟩
    · refine ⟨fun e => (by cases e), fun _ => hdl, ?_, fun e => ?_, fun j x hx => ?_, fun e => (by cases e), fun e => (by cases e), fun _ e => (by cases e)⟩
      · rw [hen]; show (s.d.sub l n).len ≤ _; rw [hdl]; exact l3
      · rw [hen] at e ⊢; exact l4 e
      · have hx' : (s.d.sub l n).scs[j]? = some x := hx
        have hj : j < n := by rw [← hdl, ← scs_length]; exact (List.getElem?_eq_some_iff.1 hx').1
        obtain ⟨a1, a2⟩ := l1 (by omega)
        rw [SegD.sub_scs, List.getElem?_take, if_pos hj, List.getElem?_drop] at hx'
        rw [hen, a1, a2, Nat.add_assoc, hsk.cell (l + j) x hx', Sc.den_congr he (SegD.scs_lt (h.wf k s hk).1 x (List.mem_of_getElem? hx'))]
    · exact old.segs q t h2
  · rcases split q t ht with ⟨rfl, rfl⟩ | ⟨_, h2⟩ <;> rcases split q' t' ht' with ⟨rfl, rfl⟩ | ⟨_, h2'⟩
    · exact absurd rfl hne
    · exact ap q' t' h2' (by rcases hoo with e | e; cases e; exact e)
    · rcases ap q t h2 (by rcases hoo with e | e; exact e; cases e) with hx | hx
      · exact .inl (Ne.symm hx)
      · exact .inr fun j j' hj hj' e => hx j' j hj' hj e.symm
    · exact old.dis q q' t t' h2 h2' hne hoo
  · rcases split q t ht with ⟨rfl, rfl⟩ | ⟨_, h2⟩
    · exact ⟨SegD.lt_mono (by omega) hlt, fun e => by cases e⟩
    · exact old.wf q t h2
  · rintro b o' hb ⟨q, t, ht, g1, g2, g3, g4⟩
    rcases split q t ht with ⟨rfl, rfl⟩ | ⟨_, h2⟩
    · cases g1
    · have e := he q (h.keys q t h2)
      rw [Seg.ext_congr e] at g4
      rw [e] at g2 g3 g4
      exact ⟨q, t, h2, g1, g2, g3, g4⟩
  · rintro b o' hb ⟨q, t, ht, g2, g3, g4⟩
    rcases split q t ht with ⟨rfl, rfl⟩ | ⟨_, h2⟩
    · rw [hr] at g4
      rw [hen] at g2 g3 g4
      obtain ⟨a1, a2⟩ := l1 (by omega)
      rw [a2] at g3 g4
      exact ⟨k, s, hk, by rw [← a1]; exact g2, by omega, by rw [hreach]; omega⟩
    · have e := he q (h.keys q t h2)
      rw [Seg.reach_congr e] at g4
      rw [e] at g2 g3 g4
      exact ⟨q, t, h2, g2, g3, g4⟩

/-- a piece of our own, from here on only read -/
theorem PostM.give (h : MemOk B ng ρ m nx w) {k : Nat} {s : Seg} (hk : find m k = some s) : PostM B ng ρ m nx w ρ ((k, { s with own := false }) :: delM m k) nx w := by
  have hsk := h.segs k s hk
  have split : ∀ q t, find ((k, { s with own := false }) :: delM m k) q = some t → (q = k ∧ t = { s with own := false }) ∨ (q ≠ k ∧ find m q = some t) := by
    intro q t ht
    rw [find_cons] at ht
    by_cases e : k = q
    · rw [if_pos e] at ht; cases ht; exact .inl ⟨e.symm, rfl⟩
    · rw [if_neg e, find_delM, if_neg (Ne.symm e)] at ht; exact .inr ⟨Ne.symm e, ht⟩
  have hreach : ({ s with own := false } : Seg).reach ρ k ≤ s.reach ρ k := by
    have := hsk.len_le_reach
    simp only [Seg.reach] at *
    simpa using this
  refine ⟨fun _ _ => rfl, ⟨fun q t ht => ?_, fun q t ht => ?_, fun q q' t t' ht ht' hne hoo => ?_, h.base, h.glob, h.ng_le, fun q t ht => ?_⟩, ⟨Below.refl _ _, fun _ _ _ _ => ⟨rfl, rfl⟩⟩, ?_, ?_, Nat.le_refl _⟩
  · rcases split q t ht with ⟨rfl, rfl⟩ | ⟨_, h2⟩
    · exact h.keys _ s hk
    · exact h.keys q t h2
  · rcases split q t ht with ⟨rfl, rfl⟩ | ⟨_, h2⟩
    · exact ⟨fun e => (by cases e), hsk.fixed, hsk.cap, hsk.nil, hsk.cell, fun e => (by cases e), hsk.next, fun _ e => (by cases e)⟩
    · exact h.segs q t h2
  · rcases split q t ht with ⟨rfl, rfl⟩ | ⟨h1, h2⟩ <;> rcases split q' t' ht' with ⟨rfl, rfl⟩ | ⟨h1', h2'⟩
    · exact absurd rfl hne
    · rcases h.dis _ q' s t' hk h2' hne (.inr (by rcases hoo with e | e; cases e; exact e)) with hx | hx
      · exact .inl hx
      · exact .inr fun j j' hj hj' => hx j j' (by omega) hj'
    · rcases h.dis q _ t s h2 hk hne (.inl (by rcases hoo with e | e; exact e; cases e)) with hx | hx
      · exact .inl hx
      · exact .inr fun j j' hj hj' => hx j j' hj (by omega)
    · exact h.dis q q' t t' h2 h2' hne hoo
  · rcases split q t ht with ⟨rfl, rfl⟩ | ⟨_, h2⟩
    · exact h.wf _ s hk
    · exact h.wf q t h2
  · rintro b o' hb ⟨q, t, ht, g1, g2, g3, g4⟩
    rcases split q t ht with ⟨rfl, rfl⟩ | ⟨_, h2⟩
    · cases g1
    · exact ⟨q, t, h2, g1, g2, g3, g4⟩
  · rintro b o' hb ⟨q, t, ht, g2, g3, g4⟩
    rcases split q t ht with ⟨rfl, rfl⟩ | ⟨_, h2⟩
    · exact ⟨_, s, hk, g2, g3, by omega⟩
    · exact ⟨q, t, h2, g2, g3, g4⟩

/-- a key for no memory at all -/
theorem PostM.nil (h : MemOk B ng ρ m nx w) (d : SegD) (hd : d.len = 0) (hlt : d.lt nx = true) : PostM B ng ρ m nx w (envN nx ρ ⟨0, 0, 0, true⟩) ((nx, ⟨0, d, true, true, false⟩) :: m) (nx + 1) w := by
  have he : ∀ q, q < nx → envN nx ρ ⟨0, 0, 0, true⟩ q = ρ q := fun q hq => envN_lo hq
  have hen : envN nx ρ ⟨0, 0, 0, true⟩ nx = ⟨0, 0, 0, true⟩ := envN_at
  have old : MemOk B ng (envN nx ρ ⟨0, 0, 0, true⟩) m (nx + 1) w := h.env he (by omega)
  have split : ∀ q t, find ((nx, (⟨0, d, true, true, false⟩ : Seg)) :: m) q = some t → (q = nx ∧ t = ⟨0, d, true, true, false⟩) ∨ (q < nx ∧ find m q = some t) := by
    intro q t ht
    rw [find_cons] at ht
    by_cases e : nx = q
    · rw [if_pos e] at ht; cases ht; exact .inl ⟨e.symm, rfl⟩
    · rw [if_neg e] at ht; exact .inr ⟨h.keys q t ht, ht⟩
  have hx : (⟨0, d, true, true, false⟩ : Seg).ext (envN nx ρ ⟨0, 0, 0, true⟩) nx = 0 := by simp [Seg.ext, hen]
  have hr : (⟨0, d, true, true, false⟩ : Seg).reach (envN nx ρ ⟨0, 0, 0, true⟩) nx = 0 := by simp [Seg.reach, hx]
  refine ⟨he, ⟨fun q t ht => ?_, fun q t ht => ?_, fun q q' t t' ht ht' hne hoo => ?_, h.base, old.glob, old.ng_le, fun q t ht => ?_⟩, ⟨Below.refl _ _, fun _ _ _ _ => ⟨rfl, rfl⟩⟩, ?_, ?_, by omega⟩
  · rcases split q t ht with ⟨rfl, _⟩ | ⟨h1, _⟩ <;> omega
  · rcases split q t ht with ⟨rfl, rfl⟩ | ⟨_, h2⟩
    · refine ⟨fun _ hp => (by rw [hx] at hp; omega), fun e => (by cases e), ?_, fun _ => by rw [hen], fun j x hxj => ?_, fun _ j hj => (by rw [hx] at hj; omega), fun e => (by cases e), fun _ _ j z _ _ hj => by rw [hen] at hj; exact absurd hj (Nat.not_lt_zero _)⟩
      · show d.len ≤ _; omega
      · have : j < d.scs.length := (List.getElem?_eq_some_iff.1 hxj).1
        rw [scs_length] at this; omega
    · exact old.segs q t h2
  · rcases split q t ht with ⟨rfl, rfl⟩ | ⟨_, h2⟩ <;> rcases split q' t' ht' with ⟨rfl, rfl⟩ | ⟨_, h2'⟩
    · exact absurd rfl hne
    · exact .inr fun j j' hj _ => by rw [hr] at hj; omega
    · exact .inr fun j j' _ hj' => by rw [hr] at hj'; omega
    · exact old.dis q q' t t' h2 h2' hne hoo
  · rcases split q t ht with ⟨rfl, rfl⟩ | ⟨_, h2⟩
    · exact ⟨SegD.lt_mono (by omega) hlt, fun e => by cases e⟩
    · exact old.wf q t h2
  · rintro b o' hb ⟨q, t, ht, g1, g2, g3, g4⟩
    rcases split q t ht with ⟨rfl, rfl⟩ | ⟨_, h2⟩
    · rw [hx] at g4; omega
    · have e := he q (h.keys q t h2)
      rw [Seg.ext_congr e] at g4
      rw [e] at g2 g3 g4
      exact ⟨q, t, h2, g1, g2, g3, g4⟩
  · rintro b o' hb ⟨q, t, ht, g2, g3, g4⟩
    rcases split q t ht with ⟨rfl, rfl⟩ | ⟨_, h2⟩
    · rw [hr] at g4; omega
    · have e := he q (h.keys q t h2)
      rw [Seg.reach_congr e] at g4
      rw [e] at g2 g3 g4
      exact ⟨q, t, h2, g2, g3, g4⟩
end
end Go.Sx
