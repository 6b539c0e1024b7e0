/- Calls within a larger memory; slices that grew, seen with their spare cells; a slice moved to a key of its own. Slices that grew, seen with their spare cells; a slice moved to a key of its own. A nil slice within a tuple, under a key of its own. Conditions: none; plain definitions and theorems over any program. -/
import Derived.Test.YtdigakgfngfnkaaSx37
set_option linter.unusedVariables false
namespace Go.Sx
open Go.RowKit

/-! ### A call within a larger memory -/
def dropK (ks : List Nat) : Mem → Mem
  | [] => []
  | (k, s) :: r => bif ks.any (Nat.beq k) then dropK ks r else (k, s) :: dropK ks r
theorem any_beq {ks : List Nat} {k : Nat} : ks.any (Nat.beq k) = true ↔ k ∈ ks := by
  rw [List.any_eq_true]
  constructor
  · rintro ⟨x, hx, h⟩; rw [Nat.eq_of_beq_eq_true h]; exact hx
  · intro h; exact ⟨k, h, Nat.beq_refl k⟩
theorem find_dropK (ks : List Nat) : ∀ (m : Mem) (q : Nat), find (dropK ks m) q = if q ∈ ks then none else find m q
  | [], q => by simp [dropK, find]
  | (k, s) :: r, q => by
    simp only [dropK]
    cases hb : ks.any (Nat.beq k) with
    | true =>
      rw [cond_true, find_dropK ks r q, find_cons]
      have hk := any_beq.1 hb
      by_cases h : q ∈ ks
      · rw [if_pos h, if_pos h]
      · rw [if_neg h, if_neg h, if_neg (fun e : k = q => h (e ▸ hk))]
    | false =>
      rw [cond_false, find_cons, find_dropK ks r q, find_cons]
      by_cases h : k = q
      · subst h
        have : k ∉ ks := fun hm => by rw [any_beq.2 hm] at hb; cases hb
        rw [if_pos rfl, if_pos rfl, if_neg this]
      · rw [if_neg h, if_neg h]
theorem find_app (m r : Mem) (q : Nat) : find (m ++ r) q = match find m q with
    | some s => some s
    | none => find r q := by
  induction m with
  | nil => rfl
  | cons p m ih =>
    obtain ⟨k, s⟩ := p
    rw [List.cons_append, find_cons, find_cons]
    by_cases h : k = q
    · rw [if_pos h, if_pos h]
    · rw [if_neg h, if_neg h, ih]
theorem find_keys {m : Mem} {q : Nat} : find m q = none ↔ q ∉ m.map (·.1) := by
  induction m with
  | nil => simp [find]
  | cons p m ih =>
    obtain ⟨k, s⟩ := p
    rw [find_cons, List.map_cons, List.mem_cons]
    by_cases h : k = q
    · rw [if_pos h]; constructor
      · intro e; cases e
      · intro e; exact absurd (.inl h.symm) e
    · rw [if_neg h, ih]
      constructor
      · rintro h1 (e | e)
        · exact h e.symm
        · exact h1 e
      · intro h1 e; exact h1 (.inr e)

/-- a call at known arguments, over a memory that holds the pieces that are named: they turn, the others stay -/
def hookFr (args0 : List SV) (m0 : Mem) (nx0 : Nat) (v : SV) (m1 : Mem) (nx1 : Nat) (args : List SV) (M : Mem) (NX : Nat) : Option Ef :=
  bif v.lt nx1 && Nat.ble nx0 nx1 then some ⟨v, m1 ++ dropK (m0.map (·.1)) M, nx1, .eff, (args = args0) :: (NX = nx0) :: m0.map fun p => find M p.1 = some p.2⟩ else none
theorem HkOk.frame {P : Program} {B ng : Nat} {f : FuncId} {args0 : List SV} {m0 : Mem} {nx0 : Nat} {v : SV} {m1 : Mem} {nx1 : Nat} (h : FnE P B ng f args0 m0 nx0 ⟨v, m1, nx1, .eff, []⟩) : HkOk P B ng f (hookFr args0 m0 nx0 v m1 nx1) := by
  intro args M NX e he hob ha
  unfold hookFr at he
  cases hb : (v.lt nx1 && Nat.ble nx0 nx1) with
  | false => rw [hb] at he; cases he
  | true =>
    rw [hb, cond_true] at he
    cases he
    simp only [Bool.and_eq_true] at hb
    have e1 : args = args0 := hob (args = args0) (by simp)
    have e3 : NX = nx0 := hob (NX = nx0) (by simp)
    subst e1 e3
    have hs : ∀ k s, find m0 k = some s → find M k = some s := fun k s hk => hob (find M k = some s) (List.mem_cons_of_mem _ (List.mem_cons_of_mem _ (List.mem_map.2 ⟨(k, s), find_memP hk, rfl⟩)))
    obtain ⟨s1, s2⟩ := h
    have hle := Nat.le_of_ble_eq_true hb.2
    refine ⟨⟨hb.1, .inl ⟨s1, fun ρ w hm => ?_⟩⟩, trivial⟩
    have hm0 : MemOk B ng ρ m0 NX w := (PostM.drop hm hs).ok
    refine (s2 ρ w hm0).mono fun en w' ⟨ρ', hen, hp⟩ => ⟨ρ', hen, ?_⟩
    have up : PostM B ng ρ M NX w ρ M nx1 w := ⟨fun _ _ => rfl, hm.env (fun _ _ => rfl) hle, ⟨Below.refl _ _, fun _ _ _ _ => ⟨rfl, rfl⟩⟩, fun _ _ _ h => h, fun _ _ _ h => h, hle⟩
    refine PostM.lay (p := fun k => Nat.blt k NX) up hs hp (Nat.le_refl _) (fun _ _ => rfl) (fun k hk => hp.ext k (blt_iff.1 hk)) (fun k hk => blt_iff.2 hk) hm.ng_le (fun k s hk => ?_) (fun k => ?_)
    · obtain ⟨w1, w2⟩ := hm.wf k s hk
      exact ⟨blt_iff.2 (hm.keys k s hk), SegD.lt_on (fun q hq => blt_iff.2 hq) w1, fun hx => blt_iff.2 (w2 hx)⟩
    · rw [find_app, find_dropK]
      cases h1 : find m1 k with
      | some s => rfl
      | none =>
        cases h2 : find m0 k with
        | some s =>
          have : k ∈ m0.map (·.1) := Classical.byContradiction fun hn => by rw [find_keys.2 hn] at h2; cases h2
          rw [if_pos this]
        | none => rw [if_neg (find_keys.1 h2)]
end Go.Sx

set_option linter.unusedVariables false
namespace Go.Sx
open Go.RowKit

section
variable {B ng nx : Nat} {m : Mem} {ρ : Env} {w : World}
/-- a part of a piece of our own gets a key of its own; the piece is forgotten -/
theorem PostM.rekeyC (h : MemOk B ng ρ m nx w) {k : Nat} {s : Seg} (hk : find m k = some s) (ho : s.own = true) {o c : Nat} (hoc : o + c ≤ s.ext ρ k) (loc : Loc) (l1 : loc.blk = (ρ k).blk) (l2 : loc.off = (ρ k).off + o) (l3 : c ≤ loc.cap)
    (l4 : loc.isNil = true → loc.cap = 0) {d : SegD} (hd : d.len = c) (hlt : d.lt nx = true) (hc : ∀ j x, d.scs[j]? = some x → w.cell? ⟨(ρ k).blk, (ρ k).off + o + j, none⟩ = some (x.den ρ)) :
    PostM B ng ρ m nx w (envN nx ρ loc) ((nx, ⟨c, d, true, false, false⟩) :: delM m k) (nx + 1) w := by
  have he : ∀ q, q < nx → envN nx ρ loc q = ρ q := fun q hq => envN_lo hq
  have hen : envN nx ρ loc nx = loc := envN_at
  have hsk := h.segs k s hk
  have old : MemOk B ng (envN nx ρ loc) m (nx + 1) w := h.env he (by omega)
  have split : ∀ q t, find ((nx, (⟨c, d, true, false, false⟩ : Seg)) :: delM m k) q = some t → (q = nx ∧ t = ⟨c, d, true, false, false⟩) ∨ (q < nx ∧ q ≠ k ∧ find m q = some t) := by
    intro q t ht
    rw [find_cons] at ht
    by_cases e : nx = q
    · rw [if_pos e] at ht; cases ht; exact .inl ⟨e.symm, rfl⟩
    · rw [if_neg e, find_delM] at ht
      by_cases e2 : q = k
      · rw [if_pos e2] at ht; cases ht
      · rw [if_neg e2] at ht; exact .inr ⟨h.keys q t ht, e2, ht⟩
  have hr : ∀ r : Env, (⟨c, d, true, false, false⟩ : Seg).reach r nx = c := fun r => by simp [Seg.reach, Seg.ext]
  have hreach : s.reach ρ k = s.ext ρ k := by simp [Seg.reach, ho]
  have ap : ∀ q t, find m q = some t → q ≠ k → Apart (envN nx ρ loc) nx ⟨c, d, true, false, false⟩ q t := by
    intro q t ht hq
    unfold Apart
    rw [hr, hen, he q (h.keys q t ht), Seg.reach_congr (he q (h.keys q t ht)), l1, l2]
    rcases h.dis k q s t hk ht (Ne.symm hq) (.inl ho) with hx | hx
    · exact .inl hx
    · refine .inr fun j j' hj hj' => ?_
      have := hx (o + j) j' (by rw [hreach]; omega) hj'
      omega
  refine ⟨he, ⟨fun q t ht => ?_, fun q t ht => ?_, fun q q' t t' ht ht' hne hoo => ?_, h.base, old.glob, old.ng_le, fun q t ht => ?_⟩, ⟨Below.refl _ _, fun _ _ _ _ => ⟨rfl, rfl⟩⟩, ?_, ?_, by omega⟩
  · rcases split q t ht with ⟨rfl, _⟩ | ⟨h1, _, _⟩ <;> omega
  · rcases split q t ht with ⟨rfl, rfl⟩ | ⟨_, _, h2⟩
    · refine ⟨fun _ hp => ?_, fun _ => hd, ?_, fun e => ?_, fun j x hx => ?_, fun _ j hj => ?_, fun e => (by cases e), fun e => (by cases e)⟩
      · rw [hen, l1]
        have hp' : 0 < c := hp
        exact hsk.ours ho (by omega)
      · rw [hen]; show d.len ≤ _; rw [hd]; exact l3
      · rw [hen] at e ⊢; exact l4 e
      · rw [hen, l1, l2, hc j x hx, Sc.den_congr he (SegD.scs_lt hlt x (List.mem_of_getElem? hx))]
      · rw [hen, l1, l2, Nat.add_assoc]
        have hj' : j < c := hj
        exact hsk.room ho (o + j) (by omega)
    · exact old.segs q t h2
  · rcases split q t ht with ⟨rfl, rfl⟩ | ⟨_, h1, h2⟩ <;> rcases split q' t' ht' with ⟨rfl, rfl⟩ | ⟨_, h1', h2'⟩
    · exact absurd rfl hne
    · exact ap q' t' h2' h1'
    · rcases ap q t h2 h1 with hx | hx
      · exact .inl (Ne.symm hx)
      · exact .inr fun j j' hj hj' e => hx j' j hj' hj e.symm
    · exact old.dis q q' t t' h2 h2' hne hoo
  · rcases split q t ht with ⟨rfl, rfl⟩ | ⟨_, _, h2⟩
    · exact ⟨SegD.lt_mono (by omega) hlt, fun e => by cases e⟩
    · exact old.wf q t h2
  · rintro b o' hb ⟨q, t, ht, g1, g2, g3, g4⟩
    rcases split q t ht with ⟨rfl, rfl⟩ | ⟨_, _, h2⟩
    · rw [hen, l1] at g2
      rw [hen, l2] at g3 g4
      have g4' : o' < (ρ k).off + o + c := g4
      exact ⟨k, s, hk, ho, g2, by omega, by omega⟩
    · have e := he q (h.keys q t h2)
      rw [Seg.ext_congr e] at g4
      rw [e] at g2 g3 g4
      exact ⟨q, t, h2, g1, g2, g3, g4⟩
  · rintro b o' hb ⟨q, t, ht, g2, g3, g4⟩
    rcases split q t ht with ⟨rfl, rfl⟩ | ⟨_, _, h2⟩
    · rw [hr] at g4
      rw [hen, l1] at g2
      rw [hen, l2] at g3 g4
      exact ⟨k, s, hk, g2, by omega, by rw [hreach]; omega⟩
    · have e := he q (h.keys q t h2)
      rw [Seg.reach_congr e] at g4
      rw [e] at g2 g3 g4
      exact ⟨q, t, h2, g2, g3, g4⟩
end

section
variable {P : Program} {B : Nat} {cx : Cx} {sz : Nat} {R : Ex → St → Prop} {s : St} {code : List Code} {base : Nat}

theorem Ok.putT {sz : Nat} {ρ ρ' : Env} {t : TM} {m m' : Mem} {nx nx' : Nat} {a : Act} {w : World} (hok : Ok B cx sz ρ t m nx a w) (hp : PostM B cx.ng ρ m nx w ρ' m' nx' w) {d : Nat} {v v' : SV} (hd : find t d = some v) (hv : v'.den ρ' = v.den ρ) (hlt : v'.lt nx' = true) : Ok B cx sz ρ' ((d, v') :: t) m' nx' a w := by
  have hok2 := hok.post hp
  refine ⟨⟨fun i u hu => ?_, fun i u hu => ?_⟩, hok2.size, hok2.mem, hok2.noDefer⟩
  · rw [find_cons] at hu
    by_cases e : d = i
    · rw [if_pos e] at hu
      cases hu
      subst e
      rw [hok.tm.val d _ hd, hv]
    · rw [if_neg e] at hu; exact hok2.tm.val i u hu
  · rw [find_cons] at hu
    by_cases e : d = i
    · rw [if_pos e] at hu; cases hu; exact hlt
    · rw [if_neg e] at hu; exact hok2.tm.wf i u hu

/-- a slice that grew: nil, or with so many spare cells -/
theorem Tri.freeze {k d : Nat} {g : Seg} {l : List (BitVec 8)} (hk : find s.m k = some g) (hg : g.grow = true) (ho : g.own = true) (hd : g.d = .d8 l) (ht : find s.t d = some (.one (.s (.osl k l.length))))
    (h1 : ∀ c, l.length ≤ c → Tri P B cx sz base code ⟨(d, .one (.s (.sl s.nx 0 l.length c))) :: s.t, (s.nx, ⟨c, .d8 (l ++ List.replicate (c - l.length) 0), true, false, false⟩) :: delM s.m k, s.nx + 1⟩ R)
    (h0 : l = [] → Tri P B cx sz base code ⟨(d, .one (.s .sl0)) :: s.t, delM s.m k, s.nx⟩ R) : Tri P B cx sz base code s R := by
  intro hng hbs ρ a w hok
  have hsk := hok.mem.segs k g hk
  have hcap := hsk.cap
  rw [hd] at hcap
  have hlen : l.length ≤ (ρ k).cap := hcap
  cases hn : (ρ k).isNil with
  | true =>
    have h2 := hsk.nil hn
    have h3 : l = [] := List.eq_nil_of_length_eq_zero (by omega)
    have hp := PostM.drop hok.mem (m' := delM s.m k) fun q t hq => by
      rw [find_delM] at hq
      by_cases e : q = k
      · rw [if_pos e] at hq; cases hq
      · rw [if_neg e] at hq; exact hq
    have hok2 := hok.putT hp ht (v' := .one (.s .sl0)) (by subst h3; simp [SV.den, SV0.den, Sc.den, hn, h2]) rfl
    exact wpCs_mono (fun e a2 w2 q => Fin.of_later (hp.low hbs) (Nat.le_refl _) q) _ a w (h0 h3 hng hbs ρ a w hok2)
  | false =>
    have hext : g.ext ρ k = (ρ k).cap := by simp [Seg.ext, hg]
    have hp := PostM.rekeyC hok.mem hk ho (o := 0) (c := (ρ k).cap) (by rw [hext]; omega) (ρ k) rfl rfl (Nat.le_refl _) hsk.nil (d := .d8 (l ++ List.replicate ((ρ k).cap - l.length) 0)) (by show (l ++ List.replicate ((ρ k).cap - l.length) 0).length = _; rw [List.length_append, List.length_replicate]; omega) rfl (fun j x hx => by
      have hx' : ((l ++ List.replicate ((ρ k).cap - l.length) (0 : BitVec 8)).map Sc.u8)[j]? = some x := hx
      rw [Nat.add_zero]
      rcases Nat.lt_or_ge j l.length with hj | hj
      · refine hsk.cell j x ?_
        rw [hd]
        show (l.map Sc.u8)[j]? = some x
        rw [List.map_append, List.getElem?_append_left (by rw [List.length_map]; exact hj)] at hx'
        exact hx'
      · rw [List.map_append, List.getElem?_append_right (by rw [List.length_map]; exact hj), List.length_map, List.map_replicate, List.getElem?_replicate] at hx'
        split at hx'
        · rename_i hlt
          cases hx'
          have := hsk.zero hg ho j (.int .u8 0) (by rw [hd]; rfl) (by rw [hd]; exact hj) (by omega)
          exact this
        · cases hx')
    have hok2 := hok.putT hp ht (v' := .one (.s (.sl s.nx 0 l.length (ρ k).cap))) (by simp [SV.den, SV0.den, Sc.den, envN_at, hn]) (by simp [SV.lt, SV0.lt, Sc.lt])
    exact wpCs_mono (fun e a2 w2 q => Fin.of_later (hp.low hbs) (Nat.le_refl _) q) _ a w (h1 _ hlen hng (by show base ≤ s.nx + 1; omega) _ a w hok2)

/-- a slice of a piece of our own under a key of its own; the rest of the piece is forgotten -/
theorem Tri.thaw {k d o n c N : Nat} {D : List (BitVec 8)} (hk : find s.m k = some ⟨N, .d8 D, true, false, false⟩) (ht : find s.t d = some (.one (.s (.sl k o n c)))) (hn : o + n ≤ D.length) (hc : n ≤ c)
    (h : Tri P B cx sz base code ⟨(d, .one (.s (.osl s.nx n))) :: s.t, (s.nx, ⟨n, .d8 ((D.drop o).take n), true, false, false⟩) :: delM s.m k, s.nx + 1⟩ R) : Tri P B cx sz base code s R := by
  intro hng hbs ρ a w hok
  have hsk := hok.mem.segs k _ hk
  have hN : D.length = N := hsk.fixed rfl
  have hp := PostM.rekeyC hok.mem hk rfl (o := o) (c := n) (by show o + n ≤ (if false = true then _ else N); simp; omega) ⟨(ρ k).blk, (ρ k).off + o, c, false⟩ rfl rfl hc (fun e => by cases e) (d := .d8 ((D.drop o).take n)) (by show ((D.drop o).take n).length = n; rw [List.length_take, List.length_drop]; omega) rfl (fun j x hx => by
    have hx' : (((D.drop o).take n).map Sc.u8)[j]? = some x := hx
    rw [Nat.add_assoc]
    refine hsk.cell (o + j) x ?_
    show (D.map Sc.u8)[o + j]? = some x
    rw [List.getElem?_map] at hx' ⊢
    have hj : j < n := by
      rcases Nat.lt_or_ge j n with hj | hj
      · exact hj
      · rw [List.getElem?_eq_none (by rw [List.length_take]; omega)] at hx'; cases hx'
    rw [List.getElem?_take, if_pos hj, List.getElem?_drop] at hx'
    exact hx')
  have hok2 := hok.putT hp ht (v' := .one (.s (.osl s.nx n))) (by simp [SV.den, SV0.den, Sc.den, envN_at]) (by simp [SV.lt, SV0.lt, Sc.lt])
  exact wpCs_mono (fun e a2 w2 q => Fin.of_later (hp.low hbs) (Nat.le_refl _) q) _ a w (h hng (by show base ≤ s.nx + 1; omega) _ a w hok2)
end
end Go.Sx

set_option linter.unusedVariables false
namespace Go.Sx
open Go.RowKit

theorem PostM.nilF {B ng nx : Nat} {m : Mem} {ρ : Env} {w : World} (h : MemOk B ng ρ m nx w) (d : SegD) (hd : d.len = 0) (hlt : d.lt nx = true) : PostM B ng ρ m nx w (envN nx ρ ⟨0, 0, 0, true⟩) ((nx, ⟨0, d, true, false, false⟩) :: m) (nx + 1) w := by
  have he : ∀ q, q < nx → envN nx ρ ⟨0, 0, 0, true⟩ q = ρ q := fun q hq => envN_lo hq
  have hen : envN nx ρ ⟨0, 0, 0, true⟩ nx = ⟨0, 0, 0, true⟩ := envN_at
  have old : MemOk B ng (envN nx ρ ⟨0, 0, 0, true⟩) m (nx + 1) w := h.env he (by omega)
  have split : ∀ q t, find ((nx, (⟨0, d, true, false, false⟩ : Seg)) :: m) q = some t → (q = nx ∧ t = ⟨0, d, true, false, false⟩) ∨ (q < nx ∧ find m q = some t) := by
    intro q t ht
    rw [find_cons] at ht
    by_cases e : nx = q
    · rw [if_pos e] at ht; cases ht; exact .inl ⟨e.symm, rfl⟩
    · rw [if_neg e] at ht; exact .inr ⟨h.keys q t ht, ht⟩
  have hx : (⟨0, d, true, false, false⟩ : Seg).ext (envN nx ρ ⟨0, 0, 0, true⟩) nx = 0 := by simp [Seg.ext]
  have hr : (⟨0, d, true, false, false⟩ : Seg).reach (envN nx ρ ⟨0, 0, 0, true⟩) nx = 0 := by simp [Seg.reach, hx]
  refine ⟨he, ⟨fun q t ht => ?_, fun q t ht => ?_, fun q q' t t' ht ht' hne hoo => ?_, h.base, old.glob, old.ng_le, fun q t ht => ?_⟩, ⟨Below.refl _ _, fun _ _ _ _ => ⟨rfl, rfl⟩⟩, ?_, ?_, by omega⟩
  · rcases split q t ht with ⟨rfl, _⟩ | ⟨h1, _⟩ <;> omega
  · rcases split q t ht with ⟨rfl, rfl⟩ | ⟨_, h2⟩
    · refine ⟨fun _ hp => (by rw [hx] at hp; omega), fun _ => hd, ?_, fun _ => by rw [hen], fun j x hxj => ?_, fun _ j hj => (by rw [hx] at hj; omega), fun e => (by cases e), fun e => (by cases e)⟩
      · show d.len ≤ _; omega
      · have : j < d.scs.length := (List.getElem?_eq_some_iff.1 hxj).1
        rw [scs_length] at this; omega
    · exact old.segs q t h2
  · rcases split q t ht with ⟨rfl, rfl⟩ | ⟨_, h2⟩ <;> rcases split q' t' ht' with ⟨rfl, rfl⟩ | ⟨_, h2'⟩
    · exact absurd rfl hne
    · exact .inr fun j j' hj _ => by rw [hr] at hj; omega
    · exact .inr fun j j' _ hj' => by rw [hr] at hj'; omega
    · exact old.dis q q' t t' h2 h2' hne hoo
  · rcases split q t ht with ⟨rfl, rfl⟩ | ⟨_, h2⟩
    · exact ⟨SegD.lt_mono (by omega) hlt, fun e => by cases e⟩
    · exact old.wf q t h2
  · rintro b o' hb ⟨q, t, ht, g1, g2, g3, g4⟩
    rcases split q t ht with ⟨rfl, rfl⟩ | ⟨_, h2⟩
    · rw [hx] at g4; omega
    · have e := he q (h.keys q t h2)
      rw [Seg.ext_congr e] at g4
      rw [e] at g2 g3 g4
      exact ⟨q, t, h2, g1, g2, g3, g4⟩
  · rintro b o' hb ⟨q, t, ht, g2, g3, g4⟩
    rcases split q t ht with ⟨rfl, rfl⟩ | ⟨_, h2⟩
    · rw [hr] at g4; omega
    · have e := he q (h.keys q t h2)
      rw [Seg.reach_congr e] at g4
      rw [e] at g2 g3 g4
      exact ⟨q, t, h2, g2, g3, g4⟩
theorem FnE.nilTup {P : Program} {B ng : Nat} {f : FuncId} {args : List SV} {m m' : Mem} {nx nx' : Nat} {c c' : K4} {ob ob' : List Prop} {r : List SV0} (d : SegD) (hd : d.len = 0) (hlt : d.lt nx' = true) (hr : r.all (SV0.lt nx') = true) (h : FnE P B ng f args m nx ⟨.tup (.s .sl0 :: r), m', nx', c, ob⟩) :
    FnE P B ng f args m nx ⟨.tup (.s (.osl nx' 0) :: r), (nx', ⟨0, d, true, false, false⟩) :: m', nx' + 1, c', ob'⟩ := by
  refine ⟨h.1, fun ρ w hm => (h.2 ρ w hm).mono fun en w' ⟨ρ', he, hp⟩ => ⟨_, ?_, hp.trans (PostM.nilF hp.ok d hd hlt)⟩⟩
  rw [he]
  have e : ∀ x ∈ r, SV0.den (envN nx' ρ' ⟨0, 0, 0, true⟩) x = SV0.den ρ' x := fun x hx => SV0.den_congr (fun q hq => envN_lo hq) (List.all_eq_true.1 hr x hx)
  have e2 : r.map (SV0.den (envN nx' ρ' ⟨0, 0, 0, true⟩)) = r.map (SV0.den ρ') := List.map_congr_left e
  simp only [SV.den, List.map_cons, e2]
  simp [SV0.den, Sc.den, envN_at]
section
variable {P : Program} {B : Nat} {cx : Cx} {sz : Nat} {R : Ex → St → Prop} {s : St} {code : List Code} {base : Nat}
/-- a nil slice under a key of its own -/
theorem Tri.nilKey {d : Nat} (ht : find s.t d = some (.one (.s .sl0)))
    (h : Tri P B cx sz base code ⟨(d, .one (.s (.osl s.nx 0))) :: s.t, (s.nx, ⟨0, .d8 [], true, false, false⟩) :: s.m, s.nx + 1⟩ R) : Tri P B cx sz base code s R := by
  intro hng hbs ρ a w hok
  have hp := PostM.nilF hok.mem (.d8 []) rfl rfl
  have hok2 := hok.putT hp ht (v' := .one (.s (.osl s.nx 0))) (by simp [SV.den, SV0.den, Sc.den, envN_at]) (by simp [SV.lt, SV0.lt, Sc.lt])
  exact wpCs_mono (fun e a2 w2 q => Fin.of_later (hp.low hbs) (Nat.le_refl _) q) _ a w (h hng (by show base ≤ s.nx + 1; omega) _ a w hok2)
end
end Go.Sx
