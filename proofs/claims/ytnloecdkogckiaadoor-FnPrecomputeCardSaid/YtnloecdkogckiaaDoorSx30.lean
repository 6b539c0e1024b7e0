/- Keys renamed between pieces of code. Conditions: none; plain definitions and theorems over any program. -/
import Derived.Test.YtnloecdkogckiaaDoorSx29
set_option linter.unusedVariables false
namespace Go.Sx
open Go.RowKit

def rnK (base : Nat) (ks : List (Nat × Nat)) (k : Nat) : Option Nat := bif Nat.blt k base then some k else find ks k

def findR : List (Nat × Nat) → Nat → Option Nat
  | [], _ => none
  | (k, q) :: r, n => bif Nat.beq q n then some k else findR r n

def rnSc (base : Nat) (ks : List (Nat × Nat)) : Sc → Option Sc
  | .p k o => match rnK base ks k with
    | some q => some (.p q o)
    | none => none
  | .sl k o len cap => match rnK base ks k with
    | some q => some (.sl q o len cap)
    | none => none
  | .osl k len => match rnK base ks k with
    | some q => some (.osl q len)
    | none => none
  | .f t x => match rnSc base ks x with
    | some y => some (.f t y)
    | none => none
  | x => some x

def rnScs (base : Nat) (ks : List (Nat × Nat)) : List Sc → Option (List Sc)
  | [] => some []
  | x :: r => match rnSc base ks x, rnScs base ks r with
    | some y, some s => some (y :: s)
    | _, _ => none

def rnD (base : Nat) (ks : List (Nat × Nat)) : SegD → Option SegD
  | .dc l => match rnScs base ks l with
    | some l' => some (.dc l')
    | none => none
  | d => some d

def rnDs (base : Nat) (ks : List (Nat × Nat)) : List SegD → Option (List SegD)
  | [] => some []
  | x :: r => match rnD base ks x, rnDs base ks r with
    | some y, some s => some (y :: s)
    | _, _ => none

def rn0 (base : Nat) (ks : List (Nat × Nat)) : SV0 → Option SV0
  | .s x => match rnSc base ks x with
    | some y => some (.s y)
    | none => none
  | .ag l => match rnDs base ks l with
    | some l' => some (.ag l')
    | none => none

def rn0s (base : Nat) (ks : List (Nat × Nat)) : List SV0 → Option (List SV0)
  | [] => some []
  | x :: r => match rn0 base ks x, rn0s base ks r with
    | some y, some s => some (y :: s)
    | _, _ => none

def rnV (base : Nat) (ks : List (Nat × Nat)) : SV → Option SV
  | .one x => match rn0 base ks x with
    | some y => some (.one y)
    | none => none
  | .tup l => match rn0s base ks l with
    | some l' => some (.tup l')
    | none => none

def Rn (base : Nat) (ks : List (Nat × Nat)) (ρ ρ' : Env) : Prop := ∀ k q, rnK base ks k = some q → ρ' q = ρ k

section
variable {base : Nat} {ks : List (Nat × Nat)} {ρ ρ' : Env}

theorem rnSc_den (R : Rn base ks ρ ρ') : ∀ {x y : Sc}, rnSc base ks x = some y → y.den ρ' = x.den ρ
  | .b _, _, h | .i _, _, h | .u8 _, _, h | .u32 _, _, h | .u64 _, _, h | .p0, _, h | .sl0, _, h | .str _, _, h | .f0, _, h | .v _, _, h => by cases h; rfl
  | .p k o, y, h => by
    simp only [rnSc] at h
    split at h <;> cases h
    rename_i q hq
    simp only [Sc.den, R k q hq]
  | .sl k o len cap, y, h => by
    simp only [rnSc] at h
    split at h <;> cases h
    rename_i q hq
    simp only [Sc.den, R k q hq]
  | .osl k len, y, h => by
    simp only [rnSc] at h
    split at h <;> cases h
    rename_i q hq
    simp only [Sc.den, R k q hq]
  | .f t x, y, h => by
    simp only [rnSc] at h
    split at h <;> cases h
    rename_i z hz
    simp only [Sc.den, rnSc_den R hz]

theorem rnScs_den (R : Rn base ks ρ ρ') : ∀ {l s : List Sc}, rnScs base ks l = some s → s.map (Sc.den ρ') = l.map (Sc.den ρ)
  | [], s, h => by cases h; rfl
  | x :: r, s, h => by
    simp only [rnScs] at h
    split at h <;> cases h
    rename_i y s1 h1 h2
    simp only [List.map_cons, rnSc_den R h1, rnScs_den R h2]

theorem rnD_cells (R : Rn base ks ρ ρ') {d d' : SegD} (h : rnD base ks d = some d') : d'.cells ρ' = d.cells ρ := by
  cases d with
  | dc l =>
    simp only [rnD] at h
    split at h <;> cases h
    rename_i l' hl
    exact rnScs_den R hl
  | _ => cases h; simp only [SegD.cells, SegD.scs, List.map_map]; rfl

theorem rnD_zv {d d' : SegD} (h : rnD base ks d = some d') : d'.zv = d.zv := by
  cases d with
  | dc l =>
    simp only [rnD] at h
    split at h <;> cases h
    rfl
  | _ => cases h; rfl

theorem rnDs_cells (R : Rn base ks ρ ρ') : ∀ {l s : List SegD}, rnDs base ks l = some s → s.flatMap (SegD.cells ρ') = l.flatMap (SegD.cells ρ)
  | [], s, h => by cases h; rfl
  | x :: r, s, h => by
    simp only [rnDs] at h
    split at h <;> cases h
    rename_i y s1 h1 h2
    simp only [List.flatMap_cons, rnD_cells R h1, rnDs_cells R h2]

theorem rn0_den (R : Rn base ks ρ ρ') {x y : SV0} (h : rn0 base ks x = some y) : y.den ρ' = x.den ρ := by
  cases x with
  | s x =>
    simp only [rn0] at h
    split at h <;> cases h
    rename_i z hz
    exact rnSc_den R hz
  | ag l =>
    simp only [rn0] at h
    split at h <;> cases h
    rename_i z hz
    simp only [SV0.den, rnDs_cells R hz]

theorem rn0s_den (R : Rn base ks ρ ρ') : ∀ {l s : List SV0}, rn0s base ks l = some s → s.map (SV0.den ρ') = l.map (SV0.den ρ)
  | [], s, h => by cases h; rfl
  | x :: r, s, h => by
    simp only [rn0s] at h
    split at h <;> cases h
    rename_i y s1 h1 h2
    simp only [List.map_cons, rn0_den R h1, rn0s_den R h2]

theorem rnV_den (R : Rn base ks ρ ρ') {x y : SV} (h : rnV base ks x = some y) : y.den ρ' = x.den ρ := by
  cases x with
  | one x =>
    simp only [rnV] at h
    split at h <;> cases h
    rename_i z hz
    exact rn0_den R hz
  | tup l =>
    simp only [rnV] at h
    split at h <;> cases h
    rename_i z hz
    simp only [SV.den, rn0s_den R hz]
end

def rnT (base : Nat) (ks : List (Nat × Nat)) (nx : Nat) (t : TM) : List Nat → Option TM
  | [] => some []
  | d :: r => match find t d with
    | some v => (match rnV base ks v, rnT base ks nx t r with
      | some u, some t' => bif u.lt nx then some ((d, u) :: t') else none
      | _, _ => none)
    | none => none

def optB : Option Nat → Nat → Bool
  | some x, n => Nat.beq x n
  | none, _ => false

theorem optB_spec {o : Option Nat} {n : Nat} (h : optB o n = true) : o = some n := by
  cases o with
  | none => cases h
  | some x => exact congrArg some (Nat.eq_of_beq_eq_true h)

/-- where key k of the base goes; which key of the base comes to q -/
def keyB (base : Nat) (ks : List (Nat × Nat)) (k q : Nat) : Bool :=
  bif Nat.blt k base then Nat.beq q k else (Nat.ble base q && (optB (find ks k) q && optB (findR ks q) k))

def rnPair (base : Nat) (ks : List (Nat × Nat)) (nx : Nat) (m : Mem) (k q : Nat) : Option Seg :=
  match find m k with
  | some g => (match rnD base ks g.d with
    | some d => bif Nat.blt q nx && (d.lt nx && (keyB base ks k q && (!g.nxt || (Nat.blt (q + 1) nx && optB (rnK base ks (k + 1)) (q + 1))))) then some { g with d := d } else none
    | none => none)
  | none => none

def rnM (base : Nat) (ks : List (Nat × Nat)) (nx : Nat) (m : Mem) : List (Nat × Nat) → Option Mem
  | [] => some []
  | (k, q) :: r => match rnPair base ks nx m k q, rnM base ks nx m r with
    | some g, some m' => some ((q, g) :: m')
    | _, _ => none

/-- a state cut down, its keys renamed -/
def ren (base : Nat) (ts : List Nat) (ks : List (Nat × Nat)) (nx : Nat) (s : St) : Option St :=
  match rnT base ks nx s.t ts, rnM base ks nx s.m ks with
  | some t, some m => bif Nat.ble base nx && ks.all (fun x => keyB base ks x.1 x.2) then some ⟨t, m, nx⟩ else none
  | _, _ => none

theorem rnT_spec {base : Nat} {ks : List (Nat × Nat)} {nx : Nat} {t : TM} : ∀ {l : List Nat} {t' : TM}, rnT base ks nx t l = some t' → ∀ d u, find t' d = some u → ∃ v, find t d = some v ∧ rnV base ks v = some u ∧ u.lt nx = true
  | [], t', h, d, u, hu => by cases h; cases hu
  | d0 :: r, t', h, d, u, hu => by
    simp only [rnT] at h
    split at h <;> first | (cases h; done) | skip
    rename_i v hv
    split at h <;> first | (cases h; done) | skip
    rename_i u0 t1 h0 h1
    cases hb : u0.lt nx with
    | false => rw [hb] at h; cases h
    | true =>
      rw [hb, cond_true] at h
      cases h
      rw [find_cons] at hu
      by_cases e : d0 = d
      · rw [if_pos e] at hu; cases hu; subst e; exact ⟨v, hv, h0, hb⟩
      · rw [if_neg e] at hu; exact rnT_spec h1 d u hu

structure PairOk (base : Nat) (ks : List (Nat × Nat)) (nx : Nat) (m : Mem) (q : Nat) (g' : Seg) (k : Nat) (g : Seg) (d : SegD) : Prop where
  at_ : find m k = some g
  key : rnK base ks k = some q
  rn : rnD base ks g.d = some d
  seg : g' = { g with d := d }
  lt : q < nx
  dlt : d.lt nx = true
  nxt : g.nxt = true → q + 1 < nx ∧ rnK base ks (k + 1) = some (q + 1)

theorem keyB_spec {base : Nat} {ks : List (Nat × Nat)} {k q : Nat} (h : keyB base ks k q = true) : rnK base ks k = some q ∧ ((k < base ∧ q = k) ∨ (base ≤ k ∧ base ≤ q ∧ findR ks q = some k)) := by
  unfold keyB at h
  unfold rnK
  cases hb : Nat.blt k base with
  | true =>
    rw [hb, cond_true] at h
    have e := Nat.eq_of_beq_eq_true h
    exact ⟨by rw [cond_true, e], .inl ⟨blt_iff.1 hb, e⟩⟩
  | false =>
    rw [hb, cond_false] at h
    simp only [Bool.and_eq_true] at h
    have h1 : ¬ k < base := fun hk => by rw [blt_iff.2 hk] at hb; cases hb
    exact ⟨by rw [cond_false]; exact optB_spec h.2.1, .inr ⟨by omega, Nat.le_of_ble_eq_true h.1, optB_spec h.2.2⟩⟩

theorem rnPair_spec {base : Nat} {ks : List (Nat × Nat)} {nx : Nat} {m : Mem} {k q : Nat} {g' : Seg} (h : rnPair base ks nx m k q = some g') : ∃ g d, PairOk base ks nx m q g' k g d := by
  unfold rnPair at h
  split at h <;> first | (cases h; done) | skip
  rename_i g hg
  split at h <;> first | (cases h; done) | skip
  rename_i d hd
  cases hb : (Nat.blt q nx && (d.lt nx && (keyB base ks k q && (!g.nxt || (Nat.blt (q + 1) nx && optB (rnK base ks (k + 1)) (q + 1)))))) with
  | false => rw [hb] at h; cases h
  | true =>
    rw [hb, cond_true] at h
    cases h
    simp only [Bool.and_eq_true, Bool.or_eq_true, Bool.not_eq_true'] at hb
    obtain ⟨b1, b2, b3, b4⟩ := hb
    refine ⟨g, d, hg, (keyB_spec b3).1, hd, rfl, blt_iff.1 b1, b2, fun hn => ?_⟩
    rcases b4 with b4 | b4
    · rw [hn] at b4; cases b4
    · exact ⟨blt_iff.1 b4.1, optB_spec b4.2⟩

theorem rnM_spec {base : Nat} {ks : List (Nat × Nat)} {nx : Nat} {m : Mem} : ∀ {l : List (Nat × Nat)} {m' : Mem}, rnM base ks nx m l = some m' → ∀ q g', find m' q = some g' → ∃ k g d, PairOk base ks nx m q g' k g d
  | [], m', h, q, g', hg => by cases h; cases hg
  | (k0, q0) :: r, m', h, q, g', hg => by
    simp only [rnM] at h
    split at h <;> first | (cases h; done) | skip
    rename_i g0 m1 h0 h1
    cases h
    rw [find_cons] at hg
    by_cases e : q0 = q
    · rw [if_pos e] at hg; cases hg; subst e
      obtain ⟨g, d, ok⟩ := rnPair_spec h0
      exact ⟨k0, g, d, ok⟩
    · rw [if_neg e] at hg; exact rnM_spec h1 q g' hg

theorem find_memP {α : Type} : ∀ {l : List (Nat × α)} {k : Nat} {v : α}, find l k = some v → (k, v) ∈ l := fun {l k v} h => find_mem l k v h

section
variable {P : Program} {H : Hook} {B : Nat} {cx : Cx} {sz : Nat} {R : Ex → St → Prop} {s s' : St} {l : List Code} {base : Nat}

theorem ren_ok {ts : List Nat} {ks : List (Nat × Nat)} {nx : Nat} (h : ren base ts ks nx s = some s') (hng : cx.ng ≤ base) {ρ : Env} {a : Act} {w : World} (hok : Ok B cx sz ρ s.t s.m s.nx a w) :
    ∃ ρ', base ≤ s'.nx ∧ Ok B cx sz ρ' s'.t s'.m s'.nx a w ∧ PostM B cx.ng ρ s.m base w ρ' s'.m s'.nx w := by
  unfold ren at h
  split at h <;> first | (cases h; done) | skip
  rename_i t m ht hm
  cases hb : (Nat.ble base nx && ks.all (fun x => keyB base ks x.1 x.2)) with
  | false => rw [hb] at h; cases h
  | true =>
    rw [hb, cond_true] at h
    cases h
    simp only [Bool.and_eq_true] at hb
    have hbn := Nat.le_of_ble_eq_true hb.1
    let ρ' : Env := fun q => if q < base then ρ q else match findR ks q with
      | some k => ρ k
      | none => ρ q
    have lo : ∀ q, q < base → ρ' q = ρ q := fun q hq => if_pos hq
    have R : Rn base ks ρ ρ' := by
      intro k q hk
      by_cases hkb : k < base
      · simp only [rnK, blt_iff.2 hkb, cond_true, Option.some.injEq] at hk
        subst hk; exact lo k hkb
      · have hkb' : Nat.blt k base = false := by rw [← Bool.not_eq_true]; exact fun e => hkb (blt_iff.1 e)
        simp only [rnK, hkb', cond_false] at hk
        have := keyB_spec (List.all_eq_true.1 hb.2 _ (find_memP hk))
        rcases this.2 with ⟨h1, _⟩ | ⟨_, h2, h3⟩
        · exact absurd h1 hkb
        · show (if q < base then _ else _) = _
          rw [if_neg (by omega), h3]
    have spec := rnM_spec hm
    have hseg : ∀ q g' k g d, PairOk base ks nx s.m q g' k g d → g'.ext ρ' q = g.ext ρ k ∧ g'.reach ρ' q = g.reach ρ k := by
      intro q g' k g d ok
      have e := R k q ok.key
      have hl : d.len = g.d.len := by
        have := congrArg List.length (rnD_cells R ok.rn)
        rw [cells_length, cells_length] at this
        exact this
      rw [ok.seg]
      exact ⟨by simp only [Seg.ext, e], by simp only [Seg.reach, Seg.ext, e, hl]⟩
    have inj : ∀ k q q', rnK base ks k = some q → rnK base ks k = some q' → q = q' := fun k q q' h1 h2 => by rw [h1] at h2; exact Option.some.inj h2
    have hO : ∀ b o, Owns ρ' m b o → Owns ρ s.m b o := by
      rintro b o ⟨q, g', hg', h1, h2, h3, h4⟩
      obtain ⟨k, g, d, ok⟩ := spec q g' hg'
      have e := R k q ok.key
      rw [(hseg q g' k g d ok).1] at h4
      rw [e] at h2 h3 h4
      exact ⟨k, g, ok.at_, by rw [ok.seg] at h1; exact h1, h2, h3, h4⟩
    have hRe : ∀ b o, Reaches ρ' m b o → Reaches ρ s.m b o := by
      rintro b o ⟨q, g', hg', h2, h3, h4⟩
      obtain ⟨k, g, d, ok⟩ := spec q g' hg'
      have e := R k q ok.key
      rw [(hseg q g' k g d ok).2] at h4
      rw [e] at h2 h3 h4
      exact ⟨k, g, ok.at_, h2, h3, h4⟩
    have hmem : MemOk B cx.ng ρ' m nx w := by
      refine ⟨fun q g' hg' => ?_, fun q g' hg' => ?_, fun q q' g g' hg hg' hne ho => ?_, hok.mem.base, fun x hx => by rw [lo x (by omega)]; exact hok.mem.glob x hx, by omega, fun q g' hg' => ?_⟩
      · obtain ⟨k, g, d, ok⟩ := spec q g' hg'; exact ok.lt
      · obtain ⟨k, g, d, ok⟩ := spec q g' hg'
        have e := R k q ok.key
        have hs := hok.mem.segs k g ok.at_
        have hx := hseg q g' k g d ok
        have hcl := rnD_cells R ok.rn
        have hl : d.len = g.d.len := by
          have := congrArg List.length hcl
          rw [cells_length, cells_length] at this
          exact this
        have hgd : g'.d = d := by rw [ok.seg]
        have hgo : g'.own = g.own := by rw [ok.seg]
        have hgg : g'.grow = g.grow := by rw [ok.seg]
        have hgn : g'.n = g.n := by rw [ok.seg]
        have hgx : g'.nxt = g.nxt := by rw [ok.seg]
        refine ⟨fun a1 a2 => ?_, fun a1 => ?_, ?_, ?_, fun j x hx' => ?_, fun a1 j hj => ?_, fun a1 => ?_, fun a1 a2 j z hz h1 h2 => ?_⟩
        · rw [e]; exact hs.ours (hgo ▸ a1) (by rw [← hx.1]; exact a2)
        · rw [hgd, hgn, hl]; exact hs.fixed (hgg ▸ a1)
        · rw [hgd, hl, e]; exact hs.cap
        · rw [e]; exact hs.nil
        · rw [hgd] at hx'
          have h1 : (d.cells ρ')[j]? = some (x.den ρ') := by rw [SegD.cells, List.getElem?_map, hx']; rfl
          rw [hcl, SegD.cells, List.getElem?_map, Option.map_eq_some_iff] at h1
          obtain ⟨y, hy, hyx⟩ := h1
          rw [e, ← hyx]
          exact hs.cell j y hy
        · rw [e]; exact hs.room (hgo ▸ a1) j (by rw [← hx.1]; exact hj)
        · obtain ⟨_, hk1⟩ := ok.nxt (hgx ▸ a1)
          rw [R _ _ hk1, e, hgn]
          exact hs.next (hgx ▸ a1)
        · rw [hgd] at hz h1
          rw [e] at h2 ⊢
          exact hs.zero (hgg ▸ a1) (hgo ▸ a2) j z (by rw [← rnD_zv ok.rn]; exact hz) (by omega) h2
      · obtain ⟨k, g0, d, ok⟩ := spec q g hg
        obtain ⟨k', g0', d', ok'⟩ := spec q' g' hg'
        have hkk : k ≠ k' := fun e => by subst e; exact hne (inj _ _ _ ok.key ok'.key)
        have := hok.mem.dis k k' g0 g0' ok.at_ ok'.at_ hkk (by rw [ok.seg, ok'.seg] at ho; exact ho)
        unfold Apart at *
        rw [R k q ok.key, R k' q' ok'.key, (hseg _ _ _ _ _ ok).2, (hseg _ _ _ _ _ ok').2]
        exact this
      · obtain ⟨k, g, d, ok⟩ := spec q g' hg'
        rw [ok.seg]
        exact ⟨ok.dlt, fun hn => (ok.nxt hn).1⟩
    refine ⟨ρ', hbn, ⟨⟨fun d u hu => ?_, fun d u hu => ?_⟩, hok.size, hmem, hok.noDefer⟩, ⟨lo, hmem, ⟨Below.refl _ _, fun _ _ _ _ => ⟨rfl, rfl⟩⟩, fun b o _ => hO b o, fun b o _ => hRe b o, hbn⟩⟩
    · obtain ⟨v, hv, hr, _⟩ := rnT_spec ht d u hu
      rw [hok.tm.val d v hv, rnV_den R hr]
    · obtain ⟨v, hv, hr, hl⟩ := rnT_spec ht d u hu
      exact hl

/-- **KEYS RENAMED.** -/
theorem Tri.ren {ts : List Nat} {ks : List (Nat × Nat)} {nx : Nat} (hc : Sx.ren base ts ks nx s = some s') (h : Tri P B cx sz base l s' R) : Tri P B cx sz base l s R := by
  intro hng hbs ρ a w hok
  obtain ⟨ρ', h1, h2, h3⟩ := ren_ok hc hng hok
  exact wpCs_mono (fun e a2 w2 q => Fin.of_later h3 (Nat.le_refl _) q) _ a w (h hng h1 ρ' a w h2)

end
end Go.Sx
