/- A drawn region: the bookkeeping is kept by each step. Conditions: none; plain definitions and theorems over any program. -/
import Derived.Test.YtnloecdkogckiaaDoorSx13
set_option linter.unusedVariables false
namespace Go.Sx
open Go.RowKit

section
variable {cx : Cx} {H : Hook} {sz : Nat} {orc : Orc} {ops : List Oper} {t0 : TM} {m0 : Mem} {nx0 : Nat} {acc : Acc} {i nx hm em : Nat} {full : Mem}

def hmOf (k : Kd) (hm i : Nat) : Nat := match k with
  | .pure => hm
  | _ => Nat.lor hm (2 ^ i)
def emOf (k : Kd) (em i : Nat) : Nat := match k with
  | .eff _ => Nat.lor em (2 ^ i)
  | _ => em

theorem MemH.skip {f : Nat → Bool} {M : Mem} {inf : Inf} (h : MemH m0 acc f M) (hn : ∀ j inf, find acc j = some inf → j < i) (hk : ∀ L, inf.k ≠ .head L) : MemH m0 ((i, inf) :: acc) f M := by
  refine ⟨fun j inf' L k hj hf hk' h1 h2 => ?_, fun k hh => h.2 k fun j inf' L hj hf hk' => hh j inf' L ?_ hf hk'⟩
  · rw [find_cons] at hj
    by_cases e : i = j
    · rw [if_pos e] at hj; cases hj; exact absurd hk' (hk L)
    · rw [if_neg e] at hj; exact h.1 j inf' L k hj hf hk' h1 h2
  · rw [find_cons, if_neg]
    · exact hj
    · intro e; have := hn j inf' hj; omega

theorem MemH.add {f : Nat → Bool} {M : Mem} {inf : Inf} {L : List Seg} (h : MemH m0 acc f M) (D : DI t0 m0 nx0 sz acc i nx hm em full) (hk : inf.k = .head L) (hlo : inf.lo = nx) (hhi : inf.hi = nx + L.length) (hf : f i = true) :
    MemH m0 ((i, inf) :: acc) f (addM nx L M) := by
  have inj : ∀ j inf', find acc j = some inf' → find ((i, inf) :: acc) j = some inf' := fun j inf' hj => by
    rw [find_cons, if_neg]
    · exact hj
    · intro e; have := D.dom j inf' hj; omega
  refine ⟨fun j inf' L' k hj hf' hk' h1 h2 => ?_, fun k hh => ?_⟩
  · rw [find_addM]
    rw [find_cons] at hj
    by_cases e : i = j
    · rw [if_pos e] at hj; cases hj; rw [hk] at hk'; cases hk'
      rw [if_pos (by omega), hlo]
    · rw [if_neg e] at hj
      have := (D.rng j inf' hj).2.2
      rw [if_neg (by omega)]
      exact h.1 j inf' L' k hj hf' hk' h1 h2
  · have h1 : ¬ (nx ≤ k ∧ k < nx + L.length) := by
      have := hh i inf L (by rw [find_cons, if_pos rfl]) hf hk
      rw [hlo, hhi] at this; exact this
    rw [find_addM, if_neg h1]
    exact h.2 k fun j inf' L' hj hf' hk' => hh j inf' L' (inj j inf' hj) hf' hk'

theorem dstOk_spec {cl d : Nat} (h : dstOk sz acc t0 cl (some d) = true) : d < sz ∧ freshD d acc = true ∧ ∀ v, find t0 d = some v → readersIn cl d acc = true := by
  simp only [dstOk] at h
  cases h1 : Nat.blt d sz with
  | false => rw [h1] at h; cases h
  | true =>
    rw [h1, cond_true] at h
    cases h2 : freshD d acc with
    | false => rw [h2] at h; cases h
    | true =>
      rw [h2, cond_true] at h
      refine ⟨blt_iff.1 h1, rfl, fun v hv => ?_⟩
      rw [hv] at h
      exact h

theorem DI.step (D : DI t0 m0 nx0 sz acc i nx hm em full) {full' : Mem} {o : Oper} {inf : Inf} {ob : List Prop} {LP : Nat → Prop} (h : StepOk cx H sz orc ops t0 m0 nx0 acc i nx hm em full o inf full' ob LP) :
    DI t0 m0 nx0 sz ((i, inf) :: acc) (i + 1) inf.hi (hmOf inf.k hm i) (emOf inf.k em i) full' := by
  obtain ⟨hedge, cl, t, hcl, hdst, ht, hsk⟩ := h
  obtain ⟨pd, pc, pr, pl, ph, pv⟩ := hsk.parts
  have get : ∀ {j infj}, find ((i, inf) :: acc) j = some infj → (j = i ∧ infj = inf) ∨ (j < i ∧ find acc j = some infj) := by
    intro j infj hj
    rw [find_cons] at hj
    by_cases e : i = j
    · rw [if_pos e] at hj; cases hj; exact .inl ⟨e.symm, rfl⟩
    · rw [if_neg e] at hj; exact .inr ⟨D.dom j infj hj, hj⟩
  have new : find ((i, inf) :: acc) i = some inf := by rw [find_cons, if_pos rfl]
  have old : ∀ {j infj}, find acc j = some infj → find ((i, inf) :: acc) j = some infj := by
    intro j infj hj
    rw [find_cons, if_neg]
    · exact hj
    · intro e; have := D.dom j infj hj; omega
  have hmMono : ∀ j, bit hm j = true → bit (hmOf inf.k hm i) j = true := by
    intro j hj
    unfold hmOf
    split
    · exact hj
    · rw [bit_or, hj]; rfl
  have clNew : ∀ j', bit inf.cl j' = true → j' < i := by
    intro j' hj'
    rw [pc] at hj'
    rcases clM_spec acc _ _ _ hcl j' hj' with h0 | ⟨e, he, hbe, h1⟩
    · rw [bit_eq, Nat.zero_testBit] at h0; cases h0
    · have hlt := hedge e (Array.mem_toList_iff.1 he) hbe
      rcases h1 with rfl | ⟨inf', h2, h3⟩
      · exact hlt
      · have := D.clb _ _ h2 _ h3; omega
  have hmCl : ∀ m, inf.k = .eff m → ∀ j, bit hm j = true → bit inf.cl j = true := by
    intro m hk j hj
    cases hsk with
    | skip _ e _ => subst e; cases hk
    | pure v _ _ _ _ hv e _ _ => subst e; cases hk
    | late v _ _ _ _ _ _ _ _ _ _ _ _ _ hv e _ _ _ => subst e; cases hk
    | head e' L _ _ _ _ _ hv _ e _ _ => subst e; cases hk
    | eff e' _ _ hland _ hv hle e _ _ =>
      subst e
      have := congrArg (fun x => bit x j) hland
      simp only [bit_and, hj, Bool.and_true] at this
      exact this
  refine ⟨fun j infj hj => ?_, fun j hj => ?_, fun x hx => ?_, Nat.le_trans D.le ph, fun j infj hj => ?_, fun j j' infj infj' hj hj' hlt => ?_, fun k h1 h2 => ?_, fun j infj hj hk => ?_, fun j infj L hj hk => ?_, fun j infj hj hk => ?_,
    fun he => ?_, fun j j' infj infj' L m hj hj' hk hk' => ?_, fun j j' infj infj' m hj hj' hk hk' hlt => ?_, ?_, fun j infj hj j' hb => ?_, fun j j' infj infj' d hj hj' hd hd' => ?_, fun j infj d hj hd => ?_,
    fun j j' infj infj' d v hj hj' hd hr hf hlt => ?_, fun j infj hj => ?_, fun j infj L n s hj hk hs => ?_⟩
  · rcases get hj with ⟨rfl, _⟩ | ⟨h1, _⟩ <;> omega
  · rcases Nat.lt_or_ge j i with h1 | h1
    · obtain ⟨infj, h2⟩ := D.tot j h1; exact ⟨infj, old h2⟩
    · have : j = i := by omega
      subst this; exact ⟨inf, new⟩
  · rcases List.mem_cons.1 hx with rfl | hx
    · exact new
    · exact old (D.mem x hx)
  · rcases get hj with ⟨rfl, rfl⟩ | ⟨h1, h2⟩
    · have := D.le; exact ⟨by omega, by omega, Nat.le_refl _⟩
    · have := D.rng j infj h2; exact ⟨this.1, this.2.1, by omega⟩
  · rcases get hj with ⟨rfl, rfl⟩ | ⟨h1, h2⟩
    · rcases get hj' with ⟨rfl, rfl⟩ | ⟨h3, h4⟩ <;> omega
    · rcases get hj' with ⟨rfl, rfl⟩ | ⟨h3, h4⟩
      · have := D.rng j infj h2; omega
      · exact D.ord j j' infj infj' h2 h4 hlt
  · rcases Nat.lt_or_ge k nx with h3 | h3
    · obtain ⟨j, infj, r1, r2⟩ := D.cov k h1 h3; exact ⟨j, infj, old r1, r2⟩
    · exact ⟨i, inf, new, by omega, h2⟩
  · rcases get hj with ⟨rfl, rfl⟩ | ⟨h1, h2⟩
    · cases hsk with
      | skip _ e _ => subst e; rfl
      | pure v _ _ _ _ hv e _ _ => subst e; rfl
      | late v _ _ _ _ _ _ _ _ _ _ _ _ _ hv e _ _ _ => subst e; rfl
      | head e' L _ _ _ _ _ hv _ e _ _ => subst e; cases hk
      | eff e' _ _ hland _ hv hle e _ _ => subst e; cases hk
    · exact D.pur j infj h2 hk
  · rcases get hj with ⟨rfl, rfl⟩ | ⟨h1, h2⟩
    · cases hsk with
      | skip _ e _ => subst e; cases hk
      | pure v _ _ _ _ hv e _ _ => subst e; cases hk
      | late v _ _ _ _ _ _ _ _ _ _ _ _ _ hv e _ _ _ => subst e; cases hk
      | head e' L _ _ _ _ _ hv _ e _ _ => subst e; cases hk; rfl
      | eff e' _ _ hland _ hv hle e _ _ => subst e; cases hk
    · exact D.hdl j infj L h2 hk
  · rcases get hj with ⟨rfl, rfl⟩ | ⟨h1, h2⟩
    · unfold hmOf
      split
      · rename_i e; exact absurd e hk
      · rw [bit_or, (bit_pow j j).2 rfl, Bool.or_true]
    · exact hmMono j (D.hmb j infj h2 hk)
  · intro j infj m hj hk
    have key : ∀ m, inf.k ≠ .eff m := by
      intro m hk'
      have h1 : bit (emOf inf.k em i) i = true := by rw [hk']; simp only [emOf]; rw [bit_or, (bit_pow i i).2 rfl, Bool.or_true]
      rw [he, bit_eq, Nat.zero_testBit] at h1
      cases h1
    rcases get hj with ⟨rfl, rfl⟩ | ⟨h1, h2⟩
    · exact key m hk
    · have : em = 0 := by
        unfold emOf at he
        split at he
        · rename_i m' e; exact absurd e (key m')
        · exact he
      exact D.em0 this j infj m h2 hk
  · rcases get hj with ⟨rfl, rfl⟩ | ⟨h1, h2⟩
    · rcases get hj' with ⟨rfl, rfl⟩ | ⟨h3, h4⟩
      · rw [hk] at hk'; cases hk'
      · cases hsk with
        | skip _ e _ => subst e; cases hk
        | pure v _ _ _ _ hv e _ _ => subst e; cases hk
        | late v _ _ _ _ _ _ _ _ _ _ _ _ _ hv e _ _ _ => subst e; cases hk
        | head e' L' _ _ h0 _ _ hv _ e _ _ => exact absurd hk' (D.em0 h0 j' infj' m h4)
        | eff e' _ _ hland _ hv hle e _ _ => subst e; cases hk
    · rcases get hj' with ⟨rfl, rfl⟩ | ⟨h3, h4⟩
      · exact h1
      · exact D.ohe j j' infj infj' L m h2 h4 hk hk'
  · rcases get hj with ⟨rfl, rfl⟩ | ⟨h1, h2⟩
    · rcases get hj' with ⟨rfl, rfl⟩ | ⟨h3, h4⟩
      · omega
      · exact hmCl m hk j' (D.hmb j' infj' h4 hk')
    · rcases get hj' with ⟨rfl, rfl⟩ | ⟨h3, h4⟩
      · omega
      · exact D.ehm j j' infj infj' m h2 h4 hk hk' hlt
  · cases hsk with
    | skip _ e ef =>
      subst e ef
      rcases D.full with ⟨f1, f2⟩ | ⟨j, infj, f1, f2, f3⟩
      · refine .inl ⟨fun j infj m hj hk => ?_, f2.skip D.dom fun L e => by cases e⟩
        rcases get hj with ⟨rfl, rfl⟩ | ⟨h1, h2⟩
        · cases hk
        · exact f1 j infj m h2 hk
      · refine .inr ⟨j, infj, old f1, f2, fun j' infj' m hj' hk' => ?_⟩
        rcases get hj' with ⟨rfl, rfl⟩ | ⟨h1, h2⟩
        · cases hk'
        · exact f3 j' infj' m h2 hk'
    | pure v _ _ _ _ hv e ef _ =>
      subst e ef
      rcases D.full with ⟨f1, f2⟩ | ⟨j, infj, f1, f2, f3⟩
      · refine .inl ⟨fun j infj m hj hk => ?_, f2.skip D.dom fun L e => by cases e⟩
        rcases get hj with ⟨rfl, rfl⟩ | ⟨h1, h2⟩
        · cases hk
        · exact f1 j infj m h2 hk
      · refine .inr ⟨j, infj, old f1, f2, fun j' infj' m hj' hk' => ?_⟩
        rcases get hj' with ⟨rfl, rfl⟩ | ⟨h1, h2⟩
        · cases hk'
        · exact f3 j' infj' m h2 hk'
    | late v _ _ _ _ _ _ _ _ _ _ _ _ _ hv e ef _ _ =>
      subst e ef
      rcases D.full with ⟨f1, f2⟩ | ⟨j, infj, f1, f2, f3⟩
      · refine .inl ⟨fun j infj m hj hk => ?_, f2.skip D.dom fun L e => by cases e⟩
        rcases get hj with ⟨rfl, rfl⟩ | ⟨h1, h2⟩
        · cases hk
        · exact f1 j infj m h2 hk
      · refine .inr ⟨j, infj, old f1, f2, fun j' infj' m hj' hk' => ?_⟩
        rcases get hj' with ⟨rfl, rfl⟩ | ⟨h1, h2⟩
        · cases hk'
        · exact f3 j' infj' m h2 hk'
    | head e' L _ _ h0 _ _ hv _ e ef _ =>
      subst e ef
      rcases D.full with ⟨f1, f2⟩ | ⟨j, infj, f1, f2, f3⟩
      · refine .inl ⟨fun j infj m hj hk => ?_, f2.add D rfl rfl rfl rfl⟩
        rcases get hj with ⟨rfl, rfl⟩ | ⟨h1, h2⟩
        · cases hk
        · exact f1 j infj m h2 hk
      · exact absurd f2 (D.em0 h0 j infj _ f1)
    | eff e' _ _ hland _ hv hle e ef _ =>
      subst e ef
      refine .inr ⟨i, _, new, rfl, fun j' infj' m hj' hk' => ?_⟩
      rcases get hj' with ⟨rfl, rfl⟩ | ⟨h1, h2⟩
      · exact Nat.le_refl _
      · omega
  · rcases get hj with ⟨rfl, rfl⟩ | ⟨h1, h2⟩
    · exact clNew j' hb
    · exact D.clb j infj h2 j' hb
  · have fr : ∀ j infj, find acc j = some infj → infj.dst = some d → inf.dst = some d → False := by
      intro j infj hj hd hd'
      rw [pd] at hd'
      rw [hd'] at hdst
      exact freshD_spec d acc (dstOk_spec hdst).2.1 (j, infj) (find_mem acc j infj hj) hd
    rcases get hj with ⟨rfl, rfl⟩ | ⟨h1, h2⟩
    · rcases get hj' with ⟨rfl, rfl⟩ | ⟨h3, h4⟩
      · rfl
      · exact (fr j' infj' h4 hd' hd).elim
    · rcases get hj' with ⟨rfl, rfl⟩ | ⟨h3, h4⟩
      · exact (fr j infj h2 hd hd').elim
      · exact D.dst j j' infj infj' d h2 h4 hd hd'
  · rcases get hj with ⟨rfl, rfl⟩ | ⟨h1, h2⟩
    · rw [pd] at hd
      rw [hd] at hdst
      exact (dstOk_spec hdst).1
    · exact D.dsz j infj d h2 hd
  · rcases get hj with ⟨rfl, rfl⟩ | ⟨h1, h2⟩
    · rcases get hj' with ⟨rfl, rfl⟩ | ⟨h3, h4⟩
      · omega
      · rw [pd] at hd
        rw [hd] at hdst
        rw [pc]
        exact readersIn_spec cl d acc ((dstOk_spec hdst).2.2 v hf) (j', infj') (find_mem acc j' infj' h4) hr
    · rcases get hj' with ⟨rfl, rfl⟩ | ⟨h3, h4⟩
      · omega
      · exact D.rdr j j' infj infj' d v h2 h4 hd hr hf hlt
  · rcases get hj with ⟨rfl, rfl⟩ | ⟨h1, h2⟩
    · rw [pc, pl]
      exact SV.on_mono (fun k hk => lv1_cons hk) pv
    · exact SV.on_mono (fun k hk => lv1_cons hk) (D.von j infj h2)
  · rcases get hj with ⟨rfl, rfl⟩ | ⟨h1, h2⟩
    · cases hsk with
      | skip _ e _ => subst e; cases hk
      | pure v _ _ _ _ hv e _ _ => subst e; cases hk
      | late v _ _ _ _ _ _ _ _ _ _ _ _ _ hv e _ _ _ => subst e; cases hk
      | head e' L' _ _ _ _ _ hv hL e _ _ =>
        subst e; cases hk
        obtain ⟨a1, a2⟩ := okL_spec _ hL n s hs
        exact ⟨SegD.on_mono (fun k hk => lv1_cons hk) a1, a2⟩
      | eff e' _ _ hland _ hv hle e _ _ => subst e; cases hk
    · obtain ⟨a1, a2⟩ := D.lon j infj L n s h2 hk hs
      exact ⟨SegD.on_mono (fun k hk => lv1_cons hk) a1, a2⟩

theorem DI.nil (t0 : TM) (m0 : Mem) (nx0 sz : Nat) : DI t0 m0 nx0 sz [] 0 nx0 0 0 m0 where
  dom := fun j inf h => by cases h
  tot := fun j h => by omega
  mem := fun x h => by cases h
  le := Nat.le_refl _
  rng := fun j inf h => by cases h
  ord := fun j j' inf inf' h => by cases h
  cov := fun k h1 h2 => by omega
  pur := fun j inf h => by cases h
  hdl := fun j inf L h => by cases h
  hmb := fun j inf h => by cases h
  em0 := fun _ j inf m h => by cases h
  ohe := fun j j' inf inf' L m h => by cases h
  ehm := fun j j' inf inf' m h => by cases h
  full := .inl ⟨fun _ _ _ h => (by cases h), ⟨fun _ _ _ _ h => (by cases h), fun _ _ => rfl⟩⟩
  clb := fun j inf h => by cases h
  dst := fun j j' inf inf' d h => by cases h
  dsz := fun j inf d h => by cases h
  rdr := fun j j' inf inf' d v h => by cases h
  von := fun j inf h => by cases h
  lon := fun j inf L n s h => by cases h

theorem lateObs_spec {m0 m : Mem} {cl : Nat} : ∀ {lt : List (Nat × Nat)}, (∀ p ∈ lateObs m0 m cl lt, p) → ∀ x ∈ lt, bit cl x.1 = true ∨ find m x.2 = find m0 x.2
  | [], _, x, hx => by cases hx
  | (i, K) :: r, h, x, hx => by
    simp only [lateObs] at h
    cases hb : bit cl i with
    | true =>
      rw [hb, cond_true] at h
      rcases List.mem_cons.1 hx with rfl | hx
      · exact .inl hb
      · exact lateObs_spec h x hx
    | false =>
      rw [hb, cond_false] at h
      rcases List.mem_cons.1 hx with rfl | hx
      · exact .inr (h _ List.mem_cons_self)
      · exact lateObs_spec (fun p hp => h p (List.mem_cons_of_mem _ hp)) x hx

/-- no effect that may come ahead of load i alters what it loads -/
def LateOk (m0 : Mem) (A : Acc) (i K : Nat) : Prop := ∀ j inf m, find A j = some inf → inf.k = .eff m → bit inf.cl i = true ∨ find m K = find m0 K

/-- what the run of a row of operations says -/
theorem runD_spec {lm : Bool} : ∀ (l : List Oper) (acc : Acc) (i nx hm em : Nat) (full : Mem) (lt : List (Nat × Nat)) (A : Acc) (NX : Nat) (FU : Mem) (ob : List Prop), DI t0 m0 nx0 sz acc i nx hm em full →
    runD cx H sz orc ops t0 m0 nx0 lm l acc i nx hm em full lt = some (A, NX, FU, ob) → (∀ p ∈ ob, p) →
    (∃ hm' em', DI t0 m0 nx0 sz A (i + l.length) NX hm' em' FU) ∧ (∀ j, j < i → find A j = find acc j) ∧
    (∀ x ∈ lt, ∀ j inf m, i ≤ j → find A j = some inf → inf.k = .eff m → bit inf.cl x.1 = true ∨ find m x.2 = find m0 x.2) ∧
    ∀ n o, l[n]? = some o → ∃ acc' nx' hm' em' full' full'' inf ob', DI t0 m0 nx0 sz acc' (i + n) nx' hm' em' full' ∧ (∀ j, j < i + n → find A j = find acc' j) ∧
      StepOk cx H sz orc ops t0 m0 nx0 acc' (i + n) nx' hm' em' full' o inf full'' ob' (LateOk m0 A (i + n)) ∧ (∀ p ∈ ob', p) ∧ find A (i + n) = some inf
  | [], acc, i, nx, hm, em, full, lt, A, NX, FU, ob, D, h, hob => by
    cases h
    exact ⟨⟨hm, em, D⟩, fun _ _ => rfl, fun x _ j inf m hij hj _ => (by have := D.dom j inf hj; omega), fun n o hn => by simp at hn⟩
  | o :: r, acc, i, nx, hm, em, full, lt, A, NX, FU, ob, D, h, hob => by
    simp only [runD] at h
    split at h
    · rename_i K inf ob1 hlate
      cases lm with
      | false => cases hlate
      | true =>
        rw [cond_true] at hlate
        split at h <;> first | (cases h; done) | skip
        rename_i A' NX' FU' ob2 hrun
        cases h
        obtain ⟨h0, hkp, hhi, hst0⟩ := lateD_spec (H := H) (hm := hm) (full := full) (LP := fun _ => True) hlate trivial
        have D' := D.step hst0
        rw [hkp, hhi] at D'
        obtain ⟨⟨hm', em', D''⟩, hag, hlt, hall⟩ := runD_spec r _ _ _ _ _ _ _ _ _ _ _ D' hrun (fun p hp => hob p (by simp [hp]))
        have hLP : LateOk m0 A i K := by
          intro j infj m hj hk
          rcases Nat.lt_or_ge i j with hij | hij
          · exact hlt (i, K) List.mem_cons_self j infj m hij hj hk
          · rw [hag j (by omega), find_cons] at hj
            by_cases e : i = j
            · rw [if_pos e] at hj; cases hj; rw [hkp] at hk; cases hk
            · rw [if_neg e] at hj; exact absurd hk (D.em0 h0 j infj m hj)
        refine ⟨⟨hm', em', by rw [List.length_cons, show i + (r.length + 1) = i + 1 + r.length by omega]; exact D''⟩, fun j hj => ?_, fun x hx j infj m hij hj hk => ?_, fun n o' hn => ?_⟩
        · rw [hag j (by omega), find_cons, if_neg (by omega)]
        · rcases Nat.lt_or_ge i j with h1 | h1
          · exact hlt x (List.mem_cons_of_mem _ hx) j infj m h1 hj hk
          · have : j = i := by omega
            subst this
            rw [hag j (by omega), find_cons, if_pos rfl] at hj
            cases hj; rw [hkp] at hk; cases hk
        · cases n with
          | zero =>
            simp only [List.getElem?_cons_zero, Option.some.injEq] at hn
            subst hn
            refine ⟨acc, nx, hm, em, full, full, inf, ob1, D, fun j hj => ?_, (lateD_spec (H := H) (hm := hm) (full := full) hlate hLP).2.2.2, fun p hp => hob p (by simp [hp]), ?_⟩
            · rw [hag j (by omega), find_cons, if_neg (by omega)]
            · rw [Nat.add_zero, hag i (by omega), find_cons, if_pos rfl]
          | succ n =>
            simp only [List.getElem?_cons_succ] at hn
            have := hall n o' hn
            rw [show i + 1 + n = i + (n + 1) by omega] at this
            exact this
    · split at h <;> first | (cases h; done) | skip
      rename_i inf full' ob1 hstep
      split at h <;> first | (cases h; done) | skip
      rename_i A' NX' FU' ob2 hrun
      cases h
      have D' := D.step (stepD_spec (LP := fun _ => True) hstep)
      obtain ⟨⟨hm', em', D''⟩, hag, hlt, hall⟩ := runD_spec r _ _ _ _ _ _ _ _ _ _ _ D' hrun (fun p hp => hob p (by simp [hp]))
      refine ⟨⟨hm', em', by rw [List.length_cons, show i + (r.length + 1) = i + 1 + r.length by omega]; exact D''⟩, fun j hj => ?_, fun x hx j infj m hij hj hk => ?_, fun n o' hn => ?_⟩
      · rw [hag j (by omega), find_cons, if_neg (by omega)]
      · rcases Nat.lt_or_ge i j with h1 | h1
        · exact hlt x hx j infj m h1 hj hk
        · have : j = i := by omega
          subst this
          rw [hag j (by omega), find_cons, if_pos rfl] at hj
          cases hj
          refine lateObs_spec (lt := lt) (fun p hp => hob p ?_) x hx
          unfold lateOb
          rw [hk]
          simp [hp]
      · cases n with
        | zero =>
          simp only [List.getElem?_cons_zero, Option.some.injEq] at hn
          subst hn
          refine ⟨acc, nx, hm, em, full, full', inf, ob1, D, fun j hj => ?_, stepD_spec hstep, fun p hp => hob p (by simp [hp]), ?_⟩
          · rw [hag j (by omega), find_cons, if_neg (by omega)]
          · rw [Nat.add_zero, hag i (by omega), find_cons, if_pos rfl]
        | succ n =>
          simp only [List.getElem?_cons_succ] at hn
          have := hall n o' hn
          rw [show i + 1 + n = i + (n + 1) by omega] at this
          exact this

end
end Go.Sx
