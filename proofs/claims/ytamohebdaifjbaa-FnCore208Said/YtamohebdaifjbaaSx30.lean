/- Keys renamed between pieces of code. Calls walked into: the callee's body is run where it is called. Conditions: none; plain definitions and theorems over any program. -/
import Derived.Test.YtamohebdaifjbaaSx26
set_option linter.unusedVariables false
namespace Go.Sx
open Go.RowKit

def rnK (base : Nat) (ks : List (Nat × Nat)) (k : Nat) : Option Nat := bif Nat.blt k base then some k else find ks k

def findR : List (Nat × Nat) → Nat → Option Nat
  | [], _ => none
  | (k, q) :: r, n => bif Nat.beq q n then some k else findR r n

def rnSc (base : Nat) (ks : List (Nat × Nat)) : Sc → Option Sc
  | .p k o => match rnK base ks k with
    | some q => some (.p q o)
    | none => none
  | .sl k o len cap => match rnK base ks k with
    | some q => some (.sl q o len cap)
    | none => none
  | .osl k len => match rnK base ks k with
    | some q => some (.osl q len)
    | none => none
  | .f t x => match rnSc base ks x with
    | some y => some (.f t y)
    | none => none
  | .mv t x => match rnSc base ks x with
    | some y => some (.mv t y)
    | none => none
  | x => some x

def rnScs (base : Nat) (ks : List (Nat × Nat)) : List Sc → Option (List Sc)
  | [] => some []
  | x :: r => match rnSc base ks x, rnScs base ks r with
    | some y, some s => some (y :: s)
    | _, _ => none

def rnD (base : Nat) (ks : List (Nat × Nat)) : SegD → Option SegD
  | .dc l => match rnScs base ks l with
    | some l' => some (.dc l')
    | none => none
  | d => some d

def rnDs (base : Nat) (ks : List (Nat × Nat)) : List SegD → Option (List SegD)
  | [] => some []
  | x :: r => match rnD base ks x, rnDs base ks r with
    | some y, some s => some (y :: s)
    | _, _ => none

def rn0 (base : Nat) (ks : List (Nat × Nat)) : SV0 → Option SV0
  | .s x => match rnSc base ks x with
    | some y => some (.s y)
    | none => none
  | .ag l => match rnDs base ks l with
    | some l' => some (.ag l')
    | none => none

def rn0s (base : Nat) (ks : List (Nat × Nat)) : List SV0 → Option (List SV0)
  | [] => some []
  | x :: r => match rn0 base ks x, rn0s base ks r with
    | some y, some s => some (y :: s)
    | _, _ => none

def rnV (base : Nat) (ks : List (Nat × Nat)) : SV → Option SV
  | .one x => match rn0 base ks x with
    | some y => some (.one y)
    | none => none
  | .tup l => match rn0s base ks l with
    | some l' => some (.tup l')
    | none => none

def Rn (base : Nat) (ks : List (Nat × Nat)) (ρ ρ' : Env) : Prop := ∀ k q, rnK base ks k = some q → ρ' q = ρ k

section
variable {base : Nat} {ks : List (Nat × Nat)} {ρ ρ' : Env}

theorem rnSc_den (R : Rn base ks ρ ρ') : ∀ {x y : Sc}, rnSc base ks x = some y → y.den ρ' = x.den ρ
  | .b _, _, h | .i _, _, h | .u8 _, _, h | .u32 _, _, h | .u64 _, _, h | .p0, _, h | .sl0, _, h | .str _, _, h | .f0, _, h | .v _, _, h => by cases h; rfl
  | .p k o, y, h => by
    simp only [rnSc] at h
    split at h <;> cases h
    rename_i q hq
    simp only [Sc.den, R k q hq]
  | .sl k o len cap, y, h => by
    simp only [rnSc] at h
    split at h <;> cases h
    rename_i q hq
    simp only [Sc.den, R k q hq]
  | .osl k len, y, h => by
    simp only [rnSc] at h
    split at h <;> cases h
    rename_i q hq
    simp only [Sc.den, R k q hq]
  | .f t x, y, h => by
    simp only [rnSc] at h
    split at h <;> cases h
    rename_i z hz
    simp only [Sc.den, rnSc_den R hz]
  | .mv t x, y, h => by
    simp only [rnSc] at h
    split at h <;> cases h
    rename_i z hz
    simp only [Sc.den, rnSc_den R hz]

theorem rnScs_den (R : Rn base ks ρ ρ') : ∀ {l s : List Sc}, rnScs base ks l = some s → s.map (Sc.den ρ') = l.map (Sc.den ρ)
  | [], s, h => by cases h; rfl
  | x :: r, s, h => by
    simp only [rnScs] at h
    split at h <;> cases h
    rename_i y s1 h1 h2
    simp only [List.map_cons, rnSc_den R h1, rnScs_den R h2]

theorem rnD_cells (R : Rn base ks ρ ρ') {d d' : SegD} (h : rnD base ks d = some d') : d'.cells ρ' = d.cells ρ := by
  cases d with
  | dc l =>
    simp only [rnD] at h
    split at h <;> cases h
    rename_i l' hl
    exact rnScs_den R hl
  | _ => cases h; simp only [SegD.cells, SegD.scs, List.map_map]; rfl

theorem rnD_zv {d d' : SegD} (h : rnD base ks d = some d') : d'.zv = d.zv := by
  cases d with
  | dc l =>
    simp only [rnD] at h
    split at h <;> cases h
    rfl
  | _ => cases h; rfl

theorem rnDs_cells (R : Rn base ks ρ ρ') : ∀ {l s : List SegD}, rnDs base ks l = some s → s.flatMap (SegD.cells ρ') = l.flatMap (SegD.cells ρ)
  | [], s, h => by cases h; rfl
  | x :: r, s, h => by
    simp only [rnDs] at h
    split at h <;> cases h
    rename_i y s1 h1 h2
    simp only [List.flatMap_cons, rnD_cells R h1, rnDs_cells R h2]

theorem rn0_den (R : Rn base ks ρ ρ') {x y : SV0} (h : rn0 base ks x = some y) : y.den ρ' = x.den ρ := by
  cases x with
  | s x =>
    simp only [rn0] at h
    split at h <;> cases h
    rename_i z hz
    exact rnSc_den R hz
  | ag l =>
    simp only [rn0] at h
    split at h <;> cases h
    rename_i z hz
    simp only [SV0.den, rnDs_cells R hz]

theorem rn0s_den (R : Rn base ks ρ ρ') : ∀ {l s : List SV0}, rn0s base ks l = some s → s.map (SV0.den ρ') = l.map (SV0.den ρ)
  | [], s, h => by cases h; rfl
  | x :: r, s, h => by
    simp only [rn0s] at h
    split at h <;> cases h
    rename_i y s1 h1 h2
    simp only [List.map_cons, rn0_den R h1, rn0s_den R h2]

theorem rnV_den (R : Rn base ks ρ ρ') {x y : SV} (h : rnV base ks x = some y) : y.den ρ' = x.den ρ := by
  cases x with
  | one x =>
    simp only [rnV] at h
    split at h <;> cases h
    rename_i z hz
    exact rn0_den R hz
  | tup l =>
    simp only [rnV] at h
    split at h <;> cases h
    rename_i z hz
    simp only [SV.den, rn0s_den R hz]
end

def rnT (base : Nat) (ks : List (Nat × Nat)) (nx : Nat) (t : TM) : List Nat → Option TM
  | [] => some []
  | d :: r => match find t d with
    | some v => (match rnV base ks v, rnT base ks nx t r with
      | some u, some t' => bif u.lt nx then some ((d, u) :: t') else none
      | _, _ => none)
    | none => none

def optB : Option Nat → Nat → Bool
  | some x, n => Nat.beq x n
  | none, _ => false

theorem optB_spec {o : Option Nat} {n : Nat} (h : optB o n = true) : o = some n := by
  cases o with
  | none => cases h
  | some x => exact congrArg some (Nat.eq_of_beq_eq_true h)

/-- where key k of the base goes; which key of the base comes to q -/
def keyB (base : Nat) (ks : List (Nat × Nat)) (k q : Nat) : Bool :=
  bif Nat.blt k base then Nat.beq q k else (Nat.ble base q && (optB (find ks k) q && optB (findR ks q) k))

def rnPair (base : Nat) (ks : List (Nat × Nat)) (nx : Nat) (m : Mem) (k q : Nat) : Option Seg :=
  match find m k with
  | some g => (match rnD base ks g.d with
    | some d => bif Nat.blt q nx && (d.lt nx && (keyB base ks k q && (!g.nxt || (Nat.blt (q + 1) nx && optB (rnK base ks (k + 1)) (q + 1))))) then some { g with d := d } else none
    | none => none)
  | none => none

def rnM (base : Nat) (ks : List (Nat × Nat)) (nx : Nat) (m : Mem) : List (Nat × Nat) → Option Mem
  | [] => some []
  | (k, q) :: r => match rnPair base ks nx m k q, rnM base ks nx m r with
    | some g, some m' => some ((q, g) :: m')
    | _, _ => none

/-- a state cut down, its keys renamed -/
def ren (base : Nat) (ts : List Nat) (ks : List (Nat × Nat)) (nx : Nat) (s : St) : Option St :=
  match rnT base ks nx s.t ts, rnM base ks nx s.m ks with
  | some t, some m => bif Nat.ble base nx && ks.all (fun x => keyB base ks x.1 x.2) then some ⟨t, m, nx⟩ else none
  | _, _ => none

theorem rnT_spec {base : Nat} {ks : List (Nat × Nat)} {nx : Nat} {t : TM} : ∀ {l : List Nat} {t' : TM}, rnT base ks nx t l = some t' → ∀ d u, find t' d = some u → ∃ v, find t d = some v ∧ rnV base ks v = some u ∧ u.lt nx = true
  | [], t', h, d, u, hu => by cases h; cases hu
  | d0 :: r, t', h, d, u, hu => by
    simp only [rnT] at h
    split at h <;> first | (cases h; done) | skip
    rename_i v hv
    split at h <;> first | (cases h; done) | skip
    rename_i u0 t1 h0 h1
    cases hb : u0.lt nx with
    | false => rw [hb] at h; cases h
    | true =>
      rw [hb, cond_true] at h
      cases h
      rw [find_cons] at hu
      by_cases e : d0 = d
      · rw [if_pos e] at hu; cases hu; subst e; exact ⟨v, hv, h0, hb⟩
      · rw [if_neg e] at hu; exact rnT_spec h1 d u hu

structure PairOk (base : Nat) (ks : List (Nat × Nat)) (nx : Nat) (m : Mem) (q : Nat) (g' : Seg) (k : Nat) (g : Seg) (d : SegD) : Prop where
  at_ : find m k = some g
  key : rnK base ks k = some q
  rn : rnD base ks g.d = some d
  seg : g' = { g with d := d }
  lt : q < nx
  dlt : d.lt nx = true
  nxt : g.nxt = true → q + 1 < nx ∧ rnK base ks (k + 1) = some (q + 1)

theorem keyB_spec {base : Nat} {ks : List (Nat × Nat)} {k q : Nat} (h : keyB base ks k q = true) : rnK base ks k = some q ∧ ((k < base ∧ q = k) ∨ (base ≤ k ∧ base ≤ q ∧ findR ks q = some k)) := by
  unfold keyB at h
  unfold rnK
  cases hb : Nat.blt k base with
  | true =>
    rw [hb, cond_true] at h
    have e := Nat.eq_of_beq_eq_true h
    exact ⟨by rw [cond_true, e], .inl ⟨blt_iff.1 hb, e⟩⟩
  | false =>
    rw [hb, cond_false] at h
    simp only [Bool.and_eq_true] at h
    have h1 : ¬ k < base := fun hk => by rw [blt_iff.2 hk] at hb; cases hb
    exact ⟨by rw [cond_false]; exact optB_spec h.2.1, .inr ⟨by omega, Nat.le_of_ble_eq_true h.1, optB_spec h.2.2⟩⟩

theorem rnPair_spec {base : Nat} {ks : List (Nat × Nat)} {nx : Nat} {m : Mem} {k q : Nat} {g' : Seg} (h : rnPair base ks nx m k q = some g') : ∃ g d, PairOk base ks nx m q g' k g d := by
  unfold rnPair at h
  split at h <;> first | (cases h; done) | skip
  rename_i g hg
  split at h <;> first | (cases h; done) | skip
  rename_i d hd
  cases hb : (Nat.blt q nx && (d.lt nx && (keyB base ks k q && (!g.nxt || (Nat.blt (q + 1) nx && optB (rnK base ks (k + 1)) (q + 1)))))) with
  | false => rw [hb] at h; cases h
  | true =>
    rw [hb, cond_true] at h
    cases h
    simp only [Bool.and_eq_true, Bool.or_eq_true, Bool.not_eq_true'] at hb
    obtain ⟨b1, b2, b3, b4⟩ := hb
    refine ⟨g, d, hg, (keyB_spec b3).1, hd, rfl, blt_iff.1 b1, b2, fun hn => ?_⟩
    rcases b4 with b4 | b4
    · rw [hn] at b4; cases b4
    · exact ⟨blt_iff.1 b4.1, optB_spec b4.2⟩

theorem rnM_spec {base : Nat} {ks : List (Nat × Nat)} {nx : Nat} {m : Mem} : ∀ {l : List (Nat × Nat)} {m' : Mem}, rnM base ks nx m l = some m' → ∀ q g', find m' q = some g' → ∃ k g d, PairOk base ks nx m q g' k g d
  | [], m', h, q, g', hg => by cases h; cases hg
  | (k0, q0) :: r, m', h, q, g', hg => by
    simp only [rnM] at h
    split at h <;> first | (cases h; done) | skip
    rename_i g0 m1 h0 h1
    cases h
    rw [find_cons] at hg
    by_cases e : q0 = q
    · rw [if_pos e] at hg; cases hg; subst e
      obtain ⟨g, d, ok⟩ := rnPair_spec h0
      exact ⟨k0, g, d, ok⟩
    · rw [if_neg e] at hg; exact rnM_spec h1 q g' hg

theorem find_memP {α : Type} : ∀ {l : List (Nat × α)} {k : Nat} {v : α}, find l k = some v → (k, v) ∈ l := fun {l k v} h => find_mem l k v h

section
variable {P : Program} {H : Hook} {B : Nat} {cx : Cx} {sz : Nat} {R : Ex → St → Prop} {s s' : St} {l : List Code} {base : Nat}

theorem ren_ok {ts : List Nat} {ks : List (Nat × Nat)} {nx : Nat} (h : ren base ts ks nx s = some s') (hng : cx.ng ≤ base) {ρ : Env} {a : Act} {w : World} (hok : Ok B cx sz ρ s.t s.m s.nx a w) :
    ∃ ρ', base ≤ s'.nx ∧ Ok B cx sz ρ' s'.t s'.m s'.nx a w ∧ PostM B cx.ng ρ s.m base w ρ' s'.m s'.nx w := by
  unfold ren at h
  split at h <;> first | (cases h; done) | skip
  rename_i t m ht hm
  cases hb : (Nat.ble base nx && ks.all (fun x => keyB base ks x.1 x.2)) with
  | false => rw [hb] at h; cases h
  | true =>
    rw [hb, cond_true] at h
    cases h
    simp only [Bool.and_eq_true] at hb
    have hbn := Nat.le_of_ble_eq_true hb.1
    let ρ' : Env := fun q => if q < base then ρ q else match findR ks q with
      | some k => ρ k
      | none => ρ q
    have lo : ∀ q, q < base → ρ' q = ρ q := fun q hq => if_pos hq
    have R : Rn base ks ρ ρ' := by
      intro k q hk
      by_cases hkb : k < base
      · simp only [rnK, blt_iff.2 hkb, cond_true, Option.some.injEq] at hk
        subst hk; exact lo k hkb
      · have hkb' : Nat.blt k base = false := by rw [← Bool.not_eq_true]; exact fun e => hkb (blt_iff.1 e)
        simp only [rnK, hkb', cond_false] at hk
        have := keyB_spec (List.all_eq_true.1 hb.2 _ (find_memP hk))
        rcases this.2 with ⟨h1, _⟩ | ⟨_, h2, h3⟩
        · exact absurd h1 hkb
        · show (if q < base then _ else _) = _
          rw [if_neg (by omega), h3]
    have spec := rnM_spec hm
    have hseg : ∀ q g' k g d, PairOk base ks nx s.m q g' k g d → g'.ext ρ' q = g.ext ρ k ∧ g'.reach ρ' q = g.reach ρ k := by
      intro q g' k g d ok
      have e := R k q ok.key
      have hl : d.len = g.d.len := by
        have := congrArg List.length (rnD_cells R ok.rn)
        rw [cells_length, cells_length] at this
        exact this
      rw [ok.seg]
      exact ⟨by simp only [Seg.ext, e], by simp only [Seg.reach, Seg.ext, e, hl]⟩
    have inj : ∀ k q q', rnK base ks k = some q → rnK base ks k = some q' → q = q' := fun k q q' h1 h2 => by rw [h1] at h2; exact Option.some.inj h2
    have hO : ∀ b o, Owns ρ' m b o → Owns ρ s.m b o := by
      rintro b o ⟨q, g', hg', h1, h2, h3, h4⟩
      obtain ⟨k, g, d, ok⟩ := spec q g' hg'
      have e := R k q ok.key
      rw [(hseg q g' k g d ok).1] at h4
      rw [e] at h2 h3 h4
      exact ⟨k, g, ok.at_, by rw [ok.seg] at h1; exact h1, h2, h3, h4⟩
    have hRe : ∀ b o, Reaches ρ' m b o → Reaches ρ s.m b o := by
      rintro b o ⟨q, g', hg', h2, h3, h4⟩
      obtain ⟨k, g, d, ok⟩ := spec q g' hg'
      have e := R k q ok.key
      rw [(hseg q g' k g d ok).2] at h4
      rw [e] at h2 h3 h4
      exact ⟨k, g, ok.at_, h2, h3, h4⟩
    have hmem : MemOk B cx.ng ρ' m nx w := by
      refine ⟨fun q g' hg' => ?_, fun q g' hg' => ?_, fun q q' g g' hg hg' hne ho => ?_, hok.mem.base, fun x hx => by rw [lo x (by omega)]; exact hok.mem.glob x hx, by omega, fun q g' hg' => ?_⟩
      · obtain ⟨k, g, d, ok⟩ := spec q g' hg'; exact ok.lt
      · obtain ⟨k, g, d, ok⟩ := spec q g' hg'
        have e := R k q ok.key
        have hs := hok.mem.segs k g ok.at_
        have hx := hseg q g' k g d ok
        have hcl := rnD_cells R ok.rn
        have hl : d.len = g.d.len := by
          have := congrArg List.length hcl
          rw [cells_length, cells_length] at this
          exact this
        have hgd : g'.d = d := by rw [ok.seg]
        have hgo : g'.own = g.own := by rw [ok.seg]
        have hgg : g'.grow = g.grow := by rw [ok.seg]
        have hgn : g'.n = g.n := by rw [ok.seg]
        have hgx : g'.nxt = g.nxt := by rw [ok.seg]
        refine ⟨fun a1 a2 => ?_, fun a1 => ?_, ?_, ?_, fun j x hx' => ?_, fun a1 j hj => ?_, fun a1 => ?_, fun a1 a2 j z hz h1 h2 => ?_⟩
        · rw [e]; exact hs.ours (hgo ▸ a1) (by rw [← hx.1]; exact a2)
        · rw [hgd, hgn, hl]; exact hs.fixed (hgg ▸ a1)
        · rw [hgd, hl, e]; exact hs.cap
        · rw [e]; exact hs.nil
        · rw [hgd] at hx'
          have h1 : (d.cells ρ')[j]? = some (x.den ρ') := by rw [SegD.cells, List.getElem?_map, hx']; rfl
          rw [hcl, SegD.cells, List.getElem?_map, Option.map_eq_some_iff] at h1
          obtain ⟨y, hy, hyx⟩ := h1
          rw [e, ← hyx]
          exact hs.cell j y hy
        · rw [e]; exact hs.room (hgo ▸ a1) j (by rw [← hx.1]; exact hj)
        · obtain ⟨_, hk1⟩ := ok.nxt (hgx ▸ a1)
          rw [R _ _ hk1, e, hgn]
          exact hs.next (hgx ▸ a1)
        · rw [hgd] at hz h1
          rw [e] at h2 ⊢
          exact hs.zero (hgg ▸ a1) (hgo ▸ a2) j z (by rw [← rnD_zv ok.rn]; exact hz) (by omega) h2
      · obtain ⟨k, g0, d, ok⟩ := spec q g hg
        obtain ⟨k', g0', d', ok'⟩ := spec q' g' hg'
        have hkk : k ≠ k' := fun e => by subst e; exact hne (inj _ _ _ ok.key ok'.key)
        have := hok.mem.dis k k' g0 g0' ok.at_ ok'.at_ hkk (by rw [ok.seg, ok'.seg] at ho; exact ho)
        unfold Apart at *
        rw [R k q ok.key, R k' q' ok'.key, (hseg _ _ _ _ _ ok).2, (hseg _ _ _ _ _ ok').2]
        exact this
      · obtain ⟨k, g, d, ok⟩ := spec q g' hg'
        rw [ok.seg]
        exact ⟨ok.dlt, fun hn => (ok.nxt hn).1⟩
    refine ⟨ρ', hbn, ⟨⟨fun d u hu => ?_, fun d u hu => ?_⟩, hok.size, hmem, hok.noDefer⟩, ⟨lo, hmem, ⟨Below.refl _ _, fun _ _ _ _ => ⟨rfl, rfl⟩⟩, fun b o _ => hO b o, fun b o _ => hRe b o, hbn⟩⟩
    · obtain ⟨v, hv, hr, _⟩ := rnT_spec ht d u hu
      rw [hok.tm.val d v hv, rnV_den R hr]
    · obtain ⟨v, hv, hr, hl⟩ := rnT_spec ht d u hu
      exact hl

/-- **KEYS RENAMED.** -/
theorem Tri.ren {ts : List Nat} {ks : List (Nat × Nat)} {nx : Nat} (hc : Sx.ren base ts ks nx s = some s') (h : Tri P B cx sz base l s' R) : Tri P B cx sz base l s R := by
  intro hng hbs ρ a w hok
  obtain ⟨ρ', h1, h2, h3⟩ := ren_ok hc hng hok
  exact wpCs_mono (fun e a2 w2 q => Fin.of_later h3 (Nat.le_refl _) q) _ a w (h hng h1 ρ' a w h2)

end
end Go.Sx

set_option linter.unusedVariables false
namespace Go.Sx
open Go.RowKit

/-- a call by what one function's hook says, or by the others' -/
def hookC (f : FuncId) (h : List SV → Mem → Nat → Option Ef) (H : Hook) : Hook := fun g args m nx => bif Nat.beq g f then h args m nx else H g args m nx

/-- one function's hook tells the truth -/
def HkOk (P : Program) (B ng : Nat) (f : FuncId) (h : List SV → Mem → Nat → Option Ef) : Prop :=
  ∀ args m nx e, h args m nx = some e → (∀ p ∈ e.ob, p) → args.all (SV.lt nx) = true → FnOk P B ng f args m nx e ∧ KOk e m nx

theorem HookOk.cons {P : Program} {B ng : Nat} {f : FuncId} {h : List SV → Mem → Nat → Option Ef} {H : Hook} (h1 : HkOk P B ng f h) (hH : HookOk P B ng H) : HookOk P B ng (hookC f h H) := by
  intro g args m nx e he hob ha
  unfold hookC at he
  cases hb : Nat.beq g f with
  | true =>
    rw [hb, cond_true] at he
    have := Nat.eq_of_beq_eq_true hb
    subst this
    exact h1 args m nx e he hob ha
  | false =>
    rw [hb, cond_false] at he
    exact hH g args m nx e he hob ha

theorem HkOk.ct {P : Program} {B : Nat} {cx : Cx} {f : FuncId} {c : Ct} (hc : c.Ok P B cx.ng f) : HkOk P B cx.ng f (hookOf cx c) :=
  fun args m nx e h hob ha => hookOf_ok hc h hob ha

/-- nothing is ours -/
def disown : Mem → Mem
  | [] => []
  | (k, s) :: r => (k, { s with own := false }) :: disown r

theorem find_disown : ∀ (m : Mem) (k : Nat), find (disown m) k = (find m k).map fun s => { s with own := false }
  | [], k => rfl
  | (k', s) :: r, k => by
    simp only [disown, find_cons]
    by_cases h : k' = k
    · simp [h]
    · simp only [h, if_false]; exact find_disown r k

theorem disown_none {ρ : Env} {m : Mem} {b o : Nat} : ¬ Owns ρ (disown m) b o := by
  rintro ⟨k, s, hk, h, _⟩
  rw [find_disown, Option.map_eq_some_iff] at hk
  obtain ⟨s0, _, rfl⟩ := hk
  cases h

section
variable {P : Program} {B ng : Nat} {ρ : Env} {m : Mem} {nx : Nat} {w : World}

theorem MemOk.disown (h : MemOk B ng ρ m nx w) : MemOk B ng ρ (disown m) nx w := by
  have get : ∀ k s, find (Sx.disown m) k = some s → ∃ s0, find m k = some s0 ∧ s = { s0 with own := false } := fun k s hk => by
    rw [find_disown, Option.map_eq_some_iff] at hk
    obtain ⟨s0, h1, h2⟩ := hk
    exact ⟨s0, h1, h2.symm⟩
  refine ⟨fun k s hk => ?_, fun k s hk => ?_, fun k k' s s' hk hk' hne ho => ?_, h.base, h.glob, h.ng_le, fun k s hk => ?_⟩
  · obtain ⟨s0, h1, rfl⟩ := get k s hk; exact h.keys k s0 h1
  · obtain ⟨s0, h1, rfl⟩ := get k s hk
    have hs := h.segs k s0 h1
    exact ⟨fun a => (by cases a), hs.fixed, hs.cap, hs.nil, hs.cell, fun a => (by cases a), hs.next, fun _ a => (by cases a)⟩
  · obtain ⟨s0, h1, rfl⟩ := get k s hk
    obtain ⟨s1, h2, rfl⟩ := get k' s' hk'
    rcases ho with ho | ho <;> cases ho
  · obtain ⟨s0, h1, rfl⟩ := get k s hk; exact h.wf k s0 h1

/-- what only reads leaves the memory -/
theorem PostM.reads {ρ' : Env} {m' : Mem} {nx' : Nat} {w' : World} (h : MemOk B ng ρ m nx w) (hp : PostM B ng ρ (Sx.disown m) nx w ρ' m' nx' w') : PostM B ng ρ m nx w ρ m nx w' := by
  have hc : ∀ b o, b < w.heap.size → w'.cell? ⟨b, o, none⟩ = w.cell? ⟨b, o, none⟩ ∧ w'.frozen? ⟨b, o, none⟩ = w.frozen? ⟨b, o, none⟩ := fun b o hb => hp.frame.cell b o hb disown_none
  refine ⟨fun _ _ => rfl, ⟨h.keys, fun k s hk => (h.segs k s hk).congr fun j hj => hc _ _ ((h.segs k s hk).lt hj), h.dis, hp.ok.base, h.glob, h.ng_le, h.wf⟩, ⟨hp.frame.below, fun b o hb _ => hc b o hb⟩, fun _ _ _ h => h, fun _ _ _ h => h, Nat.le_refl _⟩

/-- what reads and makes: its new pieces stand beside the old ones -/
theorem PostM.news {ρ' : Env} {m' : Mem} {nx' : Nat} {w' : World} {L : List Seg} (h : MemOk B ng ρ m nx w) (hp : PostM B ng ρ (Sx.disown m) nx w ρ' m' nx' w') (hn : nx' = nx + L.length)
    (hL : ∀ i s, L[i]? = some s → find m' (nx + i) = some s ∧ s.own = true) : PostM B ng ρ m nx w ρ' (addM nx L m) nx' w' := by
  have hc : ∀ b o, b < w.heap.size → w'.cell? ⟨b, o, none⟩ = w.cell? ⟨b, o, none⟩ ∧ w'.frozen? ⟨b, o, none⟩ = w.frozen? ⟨b, o, none⟩ := fun b o hb => hp.frame.cell b o hb disown_none
  have old : MemOk B ng ρ m nx w' := ⟨h.keys, fun k s hk => (h.segs k s hk).congr fun j hj => hc _ _ ((h.segs k s hk).lt hj), h.dis, hp.ok.base, h.glob, h.ng_le, h.wf⟩
  have old' : MemOk B ng ρ' m nx' w' := old.env hp.ext hp.le
  have hsplit : ∀ (k : Nat) (s : Seg), find (addM nx L m) k = some s → (∃ i, k = nx + i ∧ i < L.length ∧ find m' k = some s ∧ s.own = true) ∨ (k < nx ∧ find m k = some s) := by
    intro k s hk
    rw [find_addM] at hk
    by_cases hr : nx ≤ k ∧ k < nx + L.length
    · rw [if_pos hr] at hk
      have := hL (k - nx) s hk
      rw [show nx + (k - nx) = k by omega] at this
      exact .inl ⟨k - nx, by omega, by omega, this⟩
    · rw [if_neg hr] at hk; exact .inr ⟨h.keys k s hk, hk⟩
  have hfresh : ∀ k s j, find m' k = some s → s.own = true → j < s.ext ρ' k → w.heap.size ≤ (ρ' k).blk := by
    intro k s j hk ho hj
    rcases Nat.lt_or_ge (ρ' k).blk w.heap.size with hb | hb
    · exact absurd (hp.sub _ ((ρ' k).off + j) hb ⟨k, s, hk, ho, rfl, by omega, by omega⟩) disown_none
    · exact hb
  have hreach : ∀ k (s : Seg), s.own = true → s.reach ρ' k = s.ext ρ' k := fun k s ho => by simp [Seg.reach, ho]
  have oldlt : ∀ k s j, k < nx → find m k = some s → j < s.reach ρ' k → (ρ' k).blk < w.heap.size := by
    intro k s j hk hs hj
    have e := hp.ext k hk
    rw [Seg.reach_congr e] at hj
    rw [e]
    exact (h.segs k s hs).lt hj
  have mixed : ∀ k s k' s', find m' k = some s → s.own = true → k' < nx → find m k' = some s' → Apart ρ' k s k' s' := by
    intro k s k' s' hk ho hk' hs'
    by_cases hz : 0 < s.reach ρ' k ∧ 0 < s'.reach ρ' k'
    · refine .inl ?_
      have a := hfresh k s 0 hk ho (by rw [← hreach k s ho]; exact hz.1)
      have b := oldlt k' s' 0 hk' hs' hz.2
      omega
    · exact .inr fun j j' hj hj' => absurd ⟨Nat.lt_of_le_of_lt (Nat.zero_le j) hj, Nat.lt_of_le_of_lt (Nat.zero_le j') hj'⟩ hz
  have symm : ∀ {k s k' s'}, Apart ρ' k s k' s' → Apart ρ' k' s' k s := fun {k s k' s'} hx => by
    rcases hx with hx | hx
    · exact .inl (Ne.symm hx)
    · exact .inr fun j j' hj hj' e => hx j' j hj' hj e.symm
  refine ⟨hp.ext, ⟨fun k s hk => ?_, fun k s hk => ?_, fun k k' s s' hk hk' hne ho => ?_, hp.ok.base, hp.ok.glob, hp.ok.ng_le, fun k s hk => ?_⟩, ⟨hp.frame.below, fun b o hb _ => hc b o hb⟩, ?_, ?_, hp.le⟩
  · rcases hsplit k s hk with ⟨i, rfl, hi, h1, h2⟩ | ⟨h1, h2⟩ <;> omega
  · rcases hsplit k s hk with ⟨i, rfl, hi, h1, h2⟩ | ⟨h1, h2⟩
    · exact hp.ok.segs _ s h1
    · exact old'.segs k s h2
  · rcases hsplit k s hk with ⟨i, e, hi, h1, h2⟩ | ⟨h1, h2⟩ <;> rcases hsplit k' s' hk' with ⟨i', e', hi', h1', h2'⟩ | ⟨h1', h2'⟩
    · exact hp.ok.dis k k' s s' h1 h1' hne ho
    · exact mixed k s k' s' h1 h2 h1' h2'
    · exact symm (mixed k' s' k s h1' h2' h1 h2)
    · exact old'.dis k k' s s' h2 h2' hne ho
  · rcases hsplit k s hk with ⟨i, e, hi, h1, h2⟩ | ⟨h1, h2⟩
    · exact hp.ok.wf k s h1
    · exact old'.wf k s h2
  · rintro b o hb ⟨k, s, hk, g1, g2, g3, g4⟩
    rcases hsplit k s hk with ⟨i, e, hi, h1, h2⟩ | ⟨h1, h2⟩
    · have := hfresh k s (o - (ρ' k).off) h1 g1 (by omega)
      omega
    · have e := hp.ext k h1
      rw [Seg.ext_congr e] at g4
      rw [e] at g2 g3 g4
      exact ⟨k, s, h2, g1, g2, g3, g4⟩
  · rintro b o hb ⟨k, s, hk, g2, g3, g4⟩
    rcases hsplit k s hk with ⟨i, e, hi, h1, h2⟩ | ⟨h1, h2⟩
    · rw [hreach k s h2] at g4
      have := hfresh k s (o - (ρ' k).off) h1 h2 (by omega)
      omega
    · have e := hp.ext k h1
      rw [Seg.reach_congr e] at g4
      rw [e] at g2 g3 g4
      exact ⟨k, s, h2, g2, g3, g4⟩
end

/-- the pieces at n keys from k on, all of our own -/
def grab (m : Mem) : Nat → Nat → Option (List Seg)
  | _, 0 => some []
  | k, n + 1 => match find m k, grab m (k + 1) n with
    | some s, some r => bif s.own then some (s :: r) else none
    | _, _ => none

theorem grab_spec {m : Mem} : ∀ {n k : Nat} {L : List Seg}, grab m k n = some L → L.length = n ∧ ∀ i s, L[i]? = some s → find m (k + i) = some s ∧ s.own = true
  | 0, k, L, h => by cases h; exact ⟨rfl, fun i s hs => by simp at hs⟩
  | n + 1, k, L, h => by
    simp only [grab] at h
    split at h <;> first | (cases h; done) | skip
    rename_i s r h1 h2
    cases hb : s.own with
    | false => rw [hb] at h; cases h
    | true =>
      rw [hb, cond_true] at h
      cases h
      obtain ⟨e, h3⟩ := grab_spec h2
      refine ⟨by simp [e], fun i t ht => ?_⟩
      cases i with
      | zero => simp at ht; subst ht; exact ⟨h1, hb⟩
      | succ i =>
        have := h3 i t (by simpa using ht)
        rw [show k + (i + 1) = k + 1 + i by omega]
        exact this

inductive Md where
  | read
  | new
  | eff

/-- a function that is walked into: its text, how many rounds its loops have at most, what it does to the memory -/
structure In where
  fn : Func
  c : Code
  lim : Nat
  md : Md
  orc : Orc

structure InOk (P : Program) (f : FuncId) (e : In) : Prop where
  at_ : P.funcs[f]? = some e.fn
  body : e.fn.body = some e.c
  name : (e.fn.name == "runtime.NumGoroutine") = false

def inRun (cx : Cx) (H : Hook) (e : In) (args : List SV) (m : Mem) (nx : Nat) : Option (SV × St × List Prop) :=
  bif Nat.ble args.length e.fn.ntmps then (match execL cx H e.fn.ntmps e.lim e.orc (flat e.c) ⟨enum 0 args, m, nx⟩ with
  | some (.x _, _, _) => none
  | some (_, s, ob) => (match resX cx s.t s.m e.fn.results.toList with
    | some (v, ob2) => some (v, s, ob ++ ob2)
    | none => none)
  | none => none) else none

def inl (cx : Cx) (H : Hook) (e : In) (args : List SV) (m : Mem) (nx : Nat) : Option Ef :=
  match e.md with
  | .eff => (match inRun cx H e args m nx with
    | some (v, s, ob) => bif v.lt s.nx then some ⟨v, s.m, s.nx, .eff, ob⟩ else none
    | none => none)
  | .read => (match inRun cx H e args (disown m) nx with
    | some (v, s, ob) => bif v.lt nx then some ⟨v, m, nx, .read, ob⟩ else none
    | none => none)
  | .new => (match inRun cx H e args (disown m) nx with
    | some (v, s, ob) => (match grab s.m nx (s.nx - nx) with
      | some L => bif v.lt s.nx && Nat.beq s.nx (nx + L.length) then some ⟨v, addM nx L m, s.nx, .new L, ob⟩ else none
      | none => none)
    | none => none)

section
variable {P : Program} {cx : Cx} {H : Hook} {B : Nat}

theorem inRun_spec (hmix : P.follows .mixedOrders = true) (hT : TysOk P cx.T) (hH : HookOk P B cx.ng H) {f : FuncId} {e : In} (he : InOk P f e) {args : List SV} {m : Mem} {nx : Nat} {v : SV} {s : St} {ob : List Prop}
    (h : inRun cx H e args m nx = some (v, s, ob)) (hob : ∀ p ∈ ob, p) (ha : args.all (SV.lt nx) = true) :
    (∀ args w, (callFunc f args).run P w = .ok (.enter f args) w) ∧
    ∀ ρ w, MemOk B cx.ng ρ m nx w → Calls P f (args.map (SV.den ρ)).toArray w fun en w' => ∃ ρ', en = .returned (v.den ρ') ∧ PostM B cx.ng ρ m nx w ρ' s.m s.nx w' := by
  unfold inRun at h
  cases hlen : Nat.ble args.length e.fn.ntmps with
  | false => rw [hlen] at h; cases h
  | true =>
    rw [hlen, cond_true] at h
    have hlen' := Nat.le_of_ble_eq_true hlen
    split at h <;> first | (cases h; done) | skip
    rename_i ex s1 ob1 hnx hex
    split at h <;> first | (cases h; done) | skip
    rename_i v1 ob2 hres
    cases h
    have hob1 : ∀ p ∈ ob1, p := fun p hp => hob p (by simp [hp])
    have hob2 : ∀ p ∈ ob2, p := fun p hp => hob p (by simp [hp])
    have hn := he.name
    refine ⟨fun args w => ?_, fun ρ w hm => ?_⟩
    · simp only [beq_eq_false_iff_ne, ne_eq] at hn
      simp [callFunc, he.at_, hn, he.body]
    · refine calls_of_wp he.at_ he.body (flat_wp e.c _ _ w ?_)
      rw [show flat e.c = flat e.c ++ [] by simp]
      refine execL_wp hmix hT hH (flat e.c) [] ⟨enum 0 args, m, nx⟩ s ex ob1 ρ _ w _ hex hob1 ⟨⟨fun d u hd => ?_, fun d u hd => ?_⟩, ?_, hm, rfl⟩ fun a' w' ⟨ρ', hok', hp'⟩ => ?_
      · obtain ⟨_, hd2⟩ := enum_spec args 0 d u hd
        rw [Nat.sub_zero] at hd2
        have hlt' : d < args.length := (List.getElem?_eq_some_iff.1 hd2).1
        have hget : args[d] = u := (List.getElem?_eq_some_iff.1 hd2).2
        simp [Array.getD_eq_getD_getElem?, Array.getElem?_append, hlt', hget]
      · obtain ⟨_, hd2⟩ := enum_spec args 0 d u hd
        rw [Nat.sub_zero] at hd2
        exact List.all_eq_true.1 ha u (List.mem_of_getElem? hd2)
      · simp; omega
      · obtain ⟨r1, r2⟩ := resX_run hT hok' hres hob2
        have hfin : bodyPost P e.fn (fun en w' => ∃ ρ', en = .returned (v.den ρ') ∧ PostM B cx.ng ρ m nx w ρ' s.m s.nx w') .ret a' w' := ⟨hok'.noDefer, _, r1, ρ', rfl, hp'⟩
        cases ex with
        | n => exact hfin
        | x i => exact (hnx i rfl).elim
        | r => exact hfin

theorem HkOk.inl (hmix : P.follows .mixedOrders = true) (hT : TysOk P cx.T) (hH : HookOk P B cx.ng H) {f : FuncId} {e : In} (he : InOk P f e) : HkOk P B cx.ng f (Sx.inl cx H e) := by
  intro args m nx ef h hob ha
  unfold Sx.inl at h
  split at h
  · split at h <;> first | (cases h; done) | skip
    rename_i v s ob hr
    cases hb : v.lt s.nx with
    | false => rw [hb] at h; cases h
    | true =>
      rw [hb, cond_true] at h
      cases h
      exact ⟨⟨hb, .inl (inRun_spec hmix hT hH he hr hob ha)⟩, trivial⟩
  · split at h <;> first | (cases h; done) | skip
    rename_i v s ob hr
    cases hb : v.lt nx with
    | false => rw [hb] at h; cases h
    | true =>
      rw [hb, cond_true] at h
      cases h
      obtain ⟨h1, h2⟩ := inRun_spec hmix hT hH he hr hob ha
      refine ⟨⟨hb, .inl ⟨h1, fun ρ w hm => (h2 ρ w hm.disown).mono fun en w' ⟨ρ', e1, hp⟩ => ⟨ρ, ?_, PostM.reads hm hp⟩⟩⟩, rfl, rfl⟩
      rw [e1, SV.den_congr hp.ext hb]
  · split at h <;> first | (cases h; done) | skip
    rename_i v s ob hr
    split at h <;> first | (cases h; done) | skip
    rename_i L hL
    cases hb : (v.lt s.nx && Nat.beq s.nx (nx + L.length)) with
    | false => rw [hb] at h; cases h
    | true =>
      rw [hb, cond_true] at h
      cases h
      simp only [Bool.and_eq_true] at hb
      have hn := Nat.eq_of_beq_eq_true hb.2
      obtain ⟨h1, h2⟩ := inRun_spec hmix hT hH he hr hob ha
      refine ⟨⟨hb.1, .inl ⟨h1, fun ρ w hm => (h2 ρ w hm.disown).mono fun en w' ⟨ρ', e1, hp⟩ => ⟨ρ', e1, PostM.news hm hp hn (grab_spec hL).2⟩⟩⟩, rfl, hn⟩
end
end Go.Sx
