/- A drawn region: what is known in the middle of any order, and that each operation keeps it. A drawn region: each operation, in any order, keeps what is known. **A DRAWN REGION**: every order comes to what the text's order comes to. Conditions: none; plain definitions and theorems over any program. -/
import Derived.Test.YtamohebdaifjbaaSx12
set_option linter.unusedVariables false
namespace Go.Sx
open Go.RowKit

def StatK (ρ : Env) (k : Nat) (s : Seg) : Prop :=
  s.d.len ≤ (ρ k).cap ∧ ((ρ k).isNil = true → (ρ k).cap = 0) ∧ (s.nxt = true → (ρ (k + 1)).blk = (ρ k).blk ∧ (ρ (k + 1)).off = (ρ k).off + s.n)

theorem StatK.env {ρ ρ' : Env} {k : Nat} {s : Seg} (h : StatK ρ k s) (e : ρ' k = ρ k) (e1 : s.nxt = true → ρ' (k + 1) = ρ (k + 1)) : StatK ρ' k s := by
  refine ⟨by rw [e]; exact h.1, by rw [e]; exact h.2.1, fun hn => ?_⟩
  rw [e, e1 hn]; exact h.2.2 hn

theorem Sc.on_lt {p : Nat → Bool} {n : Nat} (h : ∀ k, p k = true → k < n) : ∀ {x : Sc}, x.on p = true → x.lt n = true
  | .b _, _ | .i _, _ | .u8 _, _ | .u32 _, _ | .u64 _, _ | .p0, _ | .sl0, _ | .str _, _ | .f0, _ | .v _, _ => rfl
  | .p k _, hx => blt_iff.2 (h k hx)
  | .sl k _ _ _, hx => blt_iff.2 (h k hx)
  | .osl k _, hx => blt_iff.2 (h k hx)
  | .f _ x, hx => Sc.on_lt h (x := x) hx
  | .mv _ x, hx => Sc.on_lt h (x := x) hx

theorem SegD.on_lt {p : Nat → Bool} {n : Nat} (h : ∀ k, p k = true → k < n) {d : SegD} (hd : d.on p = true) : d.lt n = true := by
  cases d <;> try rfl
  exact List.all_eq_true.2 fun x hx => Sc.on_lt h (List.all_eq_true.1 hd x hx)

theorem SV0.on_lt {p : Nat → Bool} {n : Nat} (h : ∀ k, p k = true → k < n) {v : SV0} (hv : v.on p = true) : v.lt n = true := by
  cases v with
  | s x => exact Sc.on_lt h (x := x) hv
  | ag l => exact List.all_eq_true.2 fun x hx => SegD.on_lt h (List.all_eq_true.1 hv x hx)

theorem SV.on_lt {p : Nat → Bool} {n : Nat} (h : ∀ k, p k = true → k < n) {v : SV} (hv : v.on p = true) : v.lt n = true := by
  cases v with
  | one x => exact SV0.on_lt h (v := x) hv
  | tup l => exact List.all_eq_true.2 fun x hx => SV0.on_lt h (List.all_eq_true.1 hv x hx)

/-- in the middle of any order: the operations of S are done -/
structure RInv (B ng sz : Nat) (t0 : TM) (m0 : Mem) (nx0 : Nat) (ρ0 : Env) (w0 : World) (A : Acc) (NX : Nat) (S : Nat → Bool) (ρ : Env) (M : Mem) (a : Act) (w : World) : Prop where
  size : a.tmps.size = sz
  noDefer : a.defers = []
  sub : ∀ j, S j = true → ∃ inf, find A j = some inf
  closed : ∀ j inf, find A j = some inf → S j = true → ∀ j', bit inf.cl j' = true → S j' = true
  tv : ∀ j inf d, find A j = some inf → S j = true → inf.dst = some d → a.tmps.getD d undef = inf.v.den ρ
  t0v : ∀ d v, find t0 d = some v → (∀ j inf, find A j = some inf → S j = true → inf.dst ≠ some d) → a.tmps.getD d undef = v.den ρ
  post : PostM B ng ρ0 m0 nx0 w0 ρ M NX w
  live : ∀ k s, find M k = some s → lv nx0 A S k = true ∧ s.d.on (lv nx0 A S) = true ∧ (s.nxt = true → lv nx0 A S (k + 1) = true)
  memh : (∀ j inf m, find A j = some inf → inf.k = .eff m → S j = false) → MemH m0 A S M
  meme : ∀ j inf m, find A j = some inf → inf.k = .eff m → S j = true → (∀ j' inf' m', find A j' = some inf' → inf'.k = .eff m' → j < j' → S j' = false) → ∀ k, find M k = find m k
  stat : ∀ j inf L k s, find A j = some inf → S j = true → inf.k = .head L → inf.lo ≤ k → L[k - inf.lo]? = some s → StatK ρ k s
  stat0 : ∀ k s, find m0 k = some s → StatK ρ k s

def addS (S : Nat → Bool) (i : Nat) (j : Nat) : Bool := S j || decide (j = i)

theorem addS_iff {S : Nat → Bool} {i j : Nat} : addS S i j = true ↔ S j = true ∨ j = i := by simp [addS]

theorem lv_mono {nx0 : Nat} {acc : Acc} {f g : Nat → Bool} (h : ∀ j, f j = true → g j = true) {k : Nat} (hk : lv nx0 acc f k = true) : lv nx0 acc g k = true := by
  rw [lv_iff] at *
  rcases hk with h1 | ⟨x, hx, h1, h2⟩
  · exact .inl h1
  · exact .inr ⟨x, hx, h _ h1, h2⟩

section
variable {P : Program} {cx : Cx} {H : Hook} {B sz : Nat} {orc : Orc} {ops : List Oper} {t0 : TM} {m0 : Mem} {nx0 : Nat} {ρ0 : Env} {w0 : World} {A : Acc} {n NX hmF emF : Nat} {FU : Mem}
  {S : Nat → Bool} {ρ : Env} {M : Mem} {a : Act} {w : World}

theorem lv1_lv {cl j k : Nat} {inf : Inf} (hj : find A j = some inf) (hS : S j = true) (hcl : ∀ j', bit cl j' = true → S j' = true) (hk : lv1 nx0 A (bit cl) inf.lo inf.hi k = true) : lv nx0 A S k = true := by
  rcases lv1_iff.1 hk with h | h
  · exact lv_mono hcl h
  · exact lv_iff.2 (.inr ⟨(j, inf), find_mem A j inf hj, hS, h.1, h.2⟩)

theorem lv_get {k : Nat} (DA : DI t0 m0 nx0 sz A n NX hmF emF FU) (h : lv nx0 A S k = true) : k < nx0 ∨ ∃ j inf, find A j = some inf ∧ S j = true ∧ inf.lo ≤ k ∧ k < inf.hi := by
  rcases lv_iff.1 h with h | ⟨x, hx, h1, h2⟩
  · exact .inl h
  · exact .inr ⟨x.1, x.2, DA.mem x hx, h1, h2⟩

theorem RInv.put (DA : DI t0 m0 nx0 sz A n NX hmF emF FU) (ht0 : ∀ d v, find t0 d = some v → v.lt nx0 = true) (hm0 : ∀ k s, find m0 k = some s → k < nx0 ∧ (s.nxt = true → k + 1 < nx0))
    (R : RInv B cx.ng sz t0 m0 nx0 ρ0 w0 A NX S ρ M a w) {i : Nat} {inf : Inf} (hi : find A i = some inf) (hSi : S i = false) (hcl : ∀ j, bit inf.cl j = true → S j = true) {ρ' : Env} {M' : Mem} {w' : World}
    (hρ : ∀ k, lv nx0 A S k = true → ρ' k = ρ k) (post' : PostM B cx.ng ρ0 m0 nx0 w0 ρ' M' NX w')
    (live' : ∀ k s, find M' k = some s → lv nx0 A (addS S i) k = true ∧ s.d.on (lv nx0 A (addS S i)) = true ∧ (s.nxt = true → lv nx0 A (addS S i) (k + 1) = true))
    (memh' : (∀ j inf m, find A j = some inf → inf.k = .eff m → addS S i j = false) → MemH m0 A (addS S i) M')
    (meme' : ∀ j inf m, find A j = some inf → inf.k = .eff m → addS S i j = true → (∀ j' inf' m', find A j' = some inf' → inf'.k = .eff m' → j < j' → addS S i j' = false) → ∀ k, find M' k = find m k)
    (stat' : ∀ L k s, inf.k = .head L → inf.lo ≤ k → L[k - inf.lo]? = some s → StatK ρ' k s) :
    RInv B cx.ng sz t0 m0 nx0 ρ0 w0 A NX (addS S i) ρ' M' (a.put inf.dst (inf.v.den ρ')) w' := by
  have old : ∀ d, inf.dst ≠ some d → (a.put inf.dst (inf.v.den ρ')).tmps.getD d undef = a.tmps.getD d undef := by
    intro d hd
    cases hdst : inf.dst with
    | none => rfl
    | some d' =>
      have : d' ≠ d := fun e => hd (by rw [hdst, e])
      simp only [Act.put, Array.getD_eq_getD_getElem?, Array.getElem?_setIfInBounds_ne this]
  refine ⟨?_, ?_, fun j hj => ?_, fun j infj hj hS j' hb => ?_, fun j infj d hj hS hd => ?_, fun d v hd hno => ?_, post', live', memh', meme', fun j infj L k s hj hS hk h1 h2 => ?_, fun k s hk => ?_⟩
  · cases inf.dst <;> simp [Act.put, R.size]
  · cases inf.dst <;> simp [Act.put, R.noDefer]
  · rcases addS_iff.1 hj with h | rfl
    · exact R.sub j h
    · exact ⟨inf, hi⟩
  · rcases addS_iff.1 hS with h | rfl
    · exact addS_iff.2 (.inl (R.closed j infj hj h j' hb))
    · rw [hi] at hj; cases hj
      exact addS_iff.2 (.inl (hcl j' hb))
  · rcases addS_iff.1 hS with h | rfl
    · have hne : inf.dst ≠ some d := fun e => by
        have := DA.dst j i infj inf d hj hi hd e
        subst this; rw [h] at hSi; cases hSi
      rw [old d hne, R.tv j infj d hj h hd]
      refine (SV.on_congr hρ (SV.on_mono (fun k hk => ?_) (DA.von j infj hj))).symm
      exact lv1_lv hj h (R.closed j infj hj h) hk
    · rw [hi] at hj; cases hj
      have hlt : d < a.tmps.size := by rw [R.size]; exact DA.dsz j inf d hi hd
      rw [hd]
      simp [Act.put, Array.getD, hlt]
  · have hne : inf.dst ≠ some d := hno i inf hi (addS_iff.2 (.inr rfl))
    rw [old d hne, R.t0v d v hd fun j infj hj hS => hno j infj hj (addS_iff.2 (.inl hS))]
    exact (SV.on_congr hρ (SV.lt_on (fun k hk => lv_iff.2 (.inl hk)) (ht0 d v hd))).symm
  · rcases addS_iff.1 hS with h | rfl
    · have hlen : k - infj.lo < L.length := (List.getElem?_eq_some_iff.1 h2).1
      have hhi := DA.hdl j infj L hj hk
      have hin : ∀ k', infj.lo ≤ k' → k' < infj.hi → lv nx0 A S k' = true := fun k' a1 a2 => lv_iff.2 (.inr ⟨(j, infj), find_mem A j infj hj, h, a1, a2⟩)
      refine (R.stat j infj L k s hj h hk h1 h2).env (hρ k (hin k h1 (by omega))) fun hn => ?_
      have := (DA.lon j infj L _ s hj hk h2).2 hn
      exact hρ _ (hin _ (by omega) (by omega))
    · rw [hi] at hj; cases hj
      exact stat' L k s hk h1 h2
  · obtain ⟨a1, a2⟩ := hm0 k s hk
    exact (R.stat0 k s hk).env (hρ k (lv_iff.2 (.inl a1))) fun hn => hρ _ (lv_iff.2 (.inl (a2 hn)))

/-- an operation that leaves the memory -/
theorem RInv.putPure (DA : DI t0 m0 nx0 sz A n NX hmF emF FU) (ht0 : ∀ d v, find t0 d = some v → v.lt nx0 = true) (hm0 : ∀ k s, find m0 k = some s → k < nx0 ∧ (s.nxt = true → k + 1 < nx0))
    (R : RInv B cx.ng sz t0 m0 nx0 ρ0 w0 A NX S ρ M a w) {i : Nat} {inf : Inf} (hi : find A i = some inf) (hSi : S i = false) (hcl : ∀ j, bit inf.cl j = true → S j = true) (hk : inf.k = .pure) :
    RInv B cx.ng sz t0 m0 nx0 ρ0 w0 A NX (addS S i) ρ M (a.put inf.dst (inf.v.den ρ)) w := by
  have up : ∀ j, S j = true → addS S i j = true := fun j h => addS_iff.2 (.inl h)
  have down : ∀ j infj, find A j = some infj → infj.k ≠ .pure → addS S i j = true → S j = true := by
    intro j infj hj hne h
    rcases addS_iff.1 h with h | rfl
    · exact h
    · rw [hi] at hj; cases hj; exact absurd hk hne
  have no : ∀ j, addS S i j = false → S j = false := fun j h => by
    cases hS : S j with
    | false => rfl
    | true => rw [up j hS] at h; cases h
  refine R.put (cx := cx) DA ht0 hm0 hi hSi hcl (fun _ _ => rfl) R.post (fun k s h => ?_) (fun h => ?_) (fun j infj m hj hk' hS hlast => ?_) (fun L k s h => by rw [hk] at h; cases h)
  · obtain ⟨a1, a2, a3⟩ := R.live k s h
    exact ⟨lv_mono up a1, SegD.on_mono (fun k hk => lv_mono up hk) a2, fun hn => lv_mono up (a3 hn)⟩
  · obtain ⟨a1, a2⟩ := R.memh fun j infj m hj hk' => no j (h j infj m hj hk')
    exact ⟨fun j infj L k hj hS hk' => a1 j infj L k hj (down j infj hj (by rw [hk']; intro e; cases e) hS) hk', fun k hh => a2 k fun j infj L hj hS hk' => hh j infj L hj (up j hS) hk'⟩
  · exact R.meme j infj m hj hk' (down j infj hj (by rw [hk']; intro e; cases e) hS) fun j' infj' m' hj' hk'' hlt => no j' (hlast j' infj' m' hj' hk'' hlt)

end
end Go.Sx

set_option linter.unusedVariables false
namespace Go.Sx
open Go.RowKit

section
variable {P : Program} {cx : Cx} {H : Hook} {B sz : Nat} {orc : Orc} {ops : List Oper} {t0 : TM} {m0 : Mem} {nx0 : Nat} {ρ0 : Env} {w0 : World} {A : Acc} {n NX hmF emF : Nat} {FU : Mem}
  {S : Nat → Bool} {ρ : Env} {M : Mem} {a : Act} {w : World} {acc : Acc} {i nx hm em : Nat} {full full' : Mem} {inf : Inf} {o : Oper} {ob : List Prop}

/-- the values that operation i looks at -/
theorem RInv.tm (DA : DI t0 m0 nx0 sz A n NX hmF emF FU) (ht0 : ∀ d v, find t0 d = some v → v.lt nx0 = true) (R : RInv B cx.ng sz t0 m0 nx0 ρ0 w0 A NX S ρ M a w) (D : DI t0 m0 nx0 sz acc i nx hm em full)
    (hag : ∀ j, j < i → find A j = find acc j) (hi : find A i = some inf) (hSi : S i = false) (hcl : ∀ j, bit inf.cl j = true → S j = true) {t : TM} (ht : resT acc t0 inf.cl inf.rd = some t) : TmOk ρ t nx a := by
  have both : ∀ d v, find t d = some v → a.tmps.getD d undef = v.den ρ ∧ v.lt nx = true := by
    intro d v hv
    obtain ⟨hrd, hl⟩ := resT_spec acc t0 inf.cl inf.rd t ht d v hv
    rcases lookT_spec t0 inf.cl d acc v hl with ⟨x, hx, hd, hb, hvv⟩ | ⟨hf, hno⟩
    · have hm := D.mem x hx
      have hlt := D.dom _ _ hm
      have hA : find A x.1 = some x.2 := by rw [hag _ hlt]; exact hm
      subst hvv
      refine ⟨R.tv _ _ d hA (hcl _ hb) hd, SV.on_lt (fun k hk => ?_) (D.von _ _ hm)⟩
      have hrng := D.rng _ _ hm
      have := D.le
      rcases lv1_iff.1 hk with h | h
      · rcases lv_iff.1 h with h | ⟨y, hy, _, h2⟩
        · omega
        · have := D.rng _ _ (D.mem y hy); omega
      · omega
    · refine ⟨R.t0v d v hf fun j infj hj hS hd => ?_, SV.lt_mono D.le (ht0 d v hf)⟩
      rcases Nat.lt_trichotomy j i with h | h | h
      · have := find_mem acc j infj (by rw [← hag j h]; exact hj)
        exact hno _ this hd
      · subst h; rw [hSi] at hS; cases hS
      · have := DA.rdr j i infj inf d v hj hi hd hrd hf h
        have := R.closed j infj hj hS i this
        rw [hSi] at this; cases this
  exact ⟨fun d v h => (both d v h).1, fun d v h => (both d v h).2⟩

/-- a part of the memory -/
theorem MemOk.part {ng : Nat} {m mm : Mem} {n1 n2 : Nat} (h : MemOk B ng ρ m n1 w) (hs : ∀ k s, find mm k = some s → find m k = some s) (hw : ∀ k s, find mm k = some s → k < n2 ∧ s.d.lt n2 = true ∧ (s.nxt = true → k + 1 < n2)) (hn : ng ≤ n2) : MemOk B ng ρ mm n2 w :=
  ⟨fun k s hk => (hw k s hk).1, fun k s hk => h.segs k s (hs k s hk), fun k k' s s' hk hk' => h.dis k k' s s' (hs k s hk) (hs k' s' hk'), h.base, h.glob, hn, fun k s hk => (hw k s hk).2⟩

theorem heads_sub (D : DI t0 m0 nx0 sz acc i nx hm em full) {cl k : Nat} {s : Seg} (h : find (memH m0 (bit cl) acc) k = some s) :
    (∃ j infj L, find acc j = some infj ∧ bit cl j = true ∧ infj.k = .head L ∧ infj.lo ≤ k ∧ k < infj.hi ∧ L[k - infj.lo]? = some s) ∨ (find m0 k = some s ∧ ∀ j infj L, find acc j = some infj → bit cl j = true → infj.k = .head L → ¬ (infj.lo ≤ k ∧ k < infj.hi)) := by
  rcases memH_find m0 (bit cl) acc k with ⟨x, hx, L, f1, k1, l1, u1, e1⟩ | ⟨n1, e⟩
  · have hm := D.mem x hx
    refine .inl ⟨x.1, x.2, L, hm, f1, k1, l1, ?_, by rw [← e1]; exact h⟩
    rw [D.hdl _ _ _ hm k1]; exact u1
  · refine .inr ⟨by rw [← e]; exact h, fun j infj L hj hb hk hr => ?_⟩
    have := D.hdl _ _ _ hj hk
    exact n1 (j, infj) (find_mem acc j infj hj) L hb hk ⟨hr.1, by have h2 := hr.2; rw [this] at h2; exact h2⟩

/-- the last effect that is done -/
theorem last_eff : ∀ (n : Nat), (∃ j inf m, j < n ∧ find A j = some inf ∧ inf.k = .eff m ∧ S j = true) → (∀ j inf, find A j = some inf → j < n) →
    ∃ j inf m, find A j = some inf ∧ inf.k = .eff m ∧ S j = true ∧ ∀ j' inf' m', find A j' = some inf' → inf'.k = .eff m' → j < j' → S j' = false := by
  have go : ∀ d N j inf m, N - j = d → j < N → find A j = some inf → inf.k = .eff m → S j = true → (∀ j inf, find A j = some inf → j < N) →
      ∃ j inf m, find A j = some inf ∧ inf.k = .eff m ∧ S j = true ∧ ∀ j' inf' m', find A j' = some inf' → inf'.k = .eff m' → j < j' → S j' = false := by
    intro d
    induction d using Nat.strongRecOn with
    | ind d ih =>
      intro N j inf m hd hj hf hk hS hb
      by_cases hex : ∃ j' inf' m', find A j' = some inf' ∧ inf'.k = .eff m' ∧ j < j' ∧ S j' = true
      · obtain ⟨j', inf', m', h1, h2, h3, h4⟩ := hex
        have := hb j' inf' h1
        exact ih (N - j') (by omega) N j' inf' m' rfl this h1 h2 h4 hb
      · refine ⟨j, inf, m, hf, hk, hS, fun j' inf' m' h1 h2 h3 => ?_⟩
        cases hS' : S j' with
        | false => rfl
        | true => exact absurd ⟨j', inf', m', h1, h2, h3, hS'⟩ hex
  intro n ⟨j, inf, m, hj, hf, hk, hS⟩ hb
  exact go _ n j inf m rfl hj hf hk hS hb

theorem RInv.step (hT : TysOk P cx.T) (hH : HookOk P B cx.ng H) (DA : DI t0 m0 nx0 sz A n NX hmF emF FU) (ht0 : ∀ d v, find t0 d = some v → v.lt nx0 = true)
    (hm0 : ∀ k s, find m0 k = some s → k < nx0 ∧ s.d.lt nx0 = true ∧ (s.nxt = true → k + 1 < nx0)) (hng : cx.ng ≤ nx0) (R : RInv B cx.ng sz t0 m0 nx0 ρ0 w0 A NX S ρ M a w) (D : DI t0 m0 nx0 sz acc i nx hm em full)
    (hag : ∀ j, j < i → find A j = find acc j) (hi : find A i = some inf) (hSi : S i = false) (hready : ∀ e ∈ o.after, Region.binds .any e = true → S e.on = true)
    (hstep : StepOk cx H sz orc ops t0 m0 nx0 acc i nx hm em full o inf full' ob (LateOk m0 A i)) (hob : ∀ p ∈ ob, p) (ho : ops[i]? = some o) {K : Act → World → Prop} {Q : Exit → Act → World → Prop}
    (hK : ∀ ρ' M' a' w', RInv B cx.ng sz t0 m0 nx0 ρ0 w0 A NX (addS S i) ρ' M' a' w' → K a' w') : wpOp P ops.toArray Q i K a w := by
  obtain ⟨hedge, cl, t, hclM, hdst, ht, hsk⟩ := hstep
  obtain ⟨pd, pc, pr, pl, ph, pv⟩ := hsk.parts
  have hm0' : ∀ k s, find m0 k = some s → k < nx0 ∧ (s.nxt = true → k + 1 < nx0) := fun k s h => ⟨(hm0 k s h).1, (hm0 k s h).2.2⟩
  have hcl : ∀ j, bit inf.cl j = true → S j = true := by
    intro j hj
    rw [pc] at hj
    rcases clM_spec acc _ _ _ hclM j hj with h0 | ⟨e, he, hb, h1⟩
    · rw [bit_eq, Nat.zero_testBit] at h0; cases h0
    · have he' := Array.mem_toList_iff.1 he
      have hS := hready e he' hb
      rcases h1 with rfl | ⟨inf', h2, h3⟩
      · exact hS
      · exact R.closed e.on inf' (by rw [hag _ (hedge e he' hb)]; exact h2) hS j h3
  have htm : TmOk ρ t nx a := R.tm DA ht0 D hag hi hSi hcl (by rw [pc, pr]; exact ht)
  have hNX : inf.hi ≤ NX := (DA.rng i inf hi).2.2
  have hgl : GlOk cx ρ nx := ⟨Nat.le_trans hng D.le, R.post.ok.glob⟩
  have hops : ops.toArray[i]? = some o := by simpa using ho
  have up : ∀ j, S j = true → addS S i j = true := fun j h => addS_iff.2 (.inl h)
  have no : ∀ j, addS S i j = false → S j = false := fun j h => by
    cases hS : S j with
    | false => rfl
    | true => rw [up j hS] at h; cases h
  have AofAcc : ∀ {j infj}, find acc j = some infj → find A j = some infj := fun {j infj} hj => by rw [hag j (D.dom j infj hj)]; exact hj
  have accLv : ∀ k, lv1 nx0 acc (bit cl) nx inf.hi k = true → lv nx0 A (addS S i) k = true := by
    intro k hk
    rcases lv1_iff.1 hk with h | h
    · rcases lv_iff.1 h with h | ⟨x, hx, h1, h2⟩
      · exact lv_iff.2 (.inl h)
      · exact lv_iff.2 (.inr ⟨x, find_mem A _ _ (AofAcc (D.mem x hx)), up _ (hcl _ (by rw [pc]; exact h1)), h2⟩)
    · exact lv_iff.2 (.inr ⟨(i, inf), find_mem A i inf hi, addS_iff.2 (.inr rfl), by rw [pl]; exact h.1, h.2⟩)
  have lvOut : ∀ k, lv nx0 A S k = true → ¬ (nx ≤ k ∧ k < inf.hi) := by
    intro k hk hr
    have := D.le
    rcases lv_get DA hk with h | ⟨j, infj, hj, hS, h1⟩
    · omega
    · have := DA.uniq hj hi h1 ⟨by rw [pl]; exact hr.1, hr.2⟩
      subst this; rw [hSi] at hS; cases hS
  unfold wpOp
  rw [hops]
  dsimp only
  cases hsk with
  | skip hw e ef =>
    have hwant := wantX_tm htm hw hob
    rw [hwant, if_neg (by simp)]
    have := R.putPure (cx := cx) DA ht0 hm0' hi hSi hcl (by rw [e])
    rw [e] at this
    exact hK _ _ _ _ this
  | pure v ob0 ob1 hw hpx hv e ef eob =>
    subst eob
    have hwant := wantX_tm htm hw fun p hp => hob p (by simp [hp])
    rw [hwant, if_pos rfl]
    left
    have hst : StatOk ρ (memH m0 (bit cl) acc) := by
      have key : ∀ k s, find (memH m0 (bit cl) acc) k = some s → StatK ρ k s := by
        intro k s hk
        rcases heads_sub D hk with ⟨j, infj, L, h1, h2, h3, h4, h5, h6⟩ | ⟨h1, _⟩
        · exact R.stat j infj L k s (AofAcc h1) (hcl _ (by rw [pc]; exact h2)) h3 h4 h6
        · exact R.stat0 k s h1
      exact ⟨fun k s hk => (key k s hk).1, fun k s hk => (key k s hk).2.1, fun k s hk => (key k s hk).2.2⟩
    have hkeys : ∀ k s, find (memH m0 (bit cl) acc) k = some s → k < nx := by
      intro k s hk
      rcases heads_sub D hk with ⟨j, infj, L, h1, h2, h3, h4, h5, h6⟩ | ⟨h1, _⟩
      · have := D.rng j infj h1; omega
      · have := (hm0 k s h1).1; have := D.le; omega
    obtain ⟨c1, c2⟩ := pure_comp (P := P) hT htm hgl hst hkeys hpx fun p hp => hob p (by simp [hp])
    refine wp_of_value (c2 w) ?_
    have := R.putPure (cx := cx) DA ht0 hm0' hi hSi hcl (by rw [e])
    rw [e] at this
    exact hK _ _ _ _ this
  | head e L ob0 hw h0 hop hc hv hL ei ef eob =>
    subst eob
    have hwant := wantX_tm htm hw fun p hp => hob p (by simp [hp])
    rw [hwant, if_pos rfl]
    left
    have hobE : ∀ p ∈ e.ob, p := fun p hp => hob p (by simp [hp])
    have hkind := opM_kind hT hH htm hgl hop hobE
    have hmnx : e.m = addM nx L (memH m0 (bit cl) acc) ∧ e.nx = nx + L.length := by
      unfold KOk at hkind
      rcases hc with ⟨hc, rfl⟩ | hc
      · rw [hc] at hkind; exact hkind
      · rw [hc] at hkind; exact hkind
    have hinfk : inf.k = .head L := by rw [ei]
    have hinfhi : inf.hi = nx + L.length := by rw [ei]
    -- no effect is done
    have hnoeff : ∀ j infj m, find A j = some infj → infj.k = .eff m → S j = false := by
      intro j infj m hj hk
      cases hS : S j with
      | false => rfl
      | true =>
        rcases Nat.lt_trichotomy j i with h | h | h
        · exact absurd hk (D.em0 h0 j infj m (by rw [← hag j h]; exact hj))
        · subst h; rw [hi] at hj; cases hj; rw [hinfk] at hk; cases hk
        · have := DA.ehm j i infj inf m hj hi hk (by rw [hinfk]; intro e; cases e) h
          have := R.closed j infj hj hS i this
          rw [hSi] at this; cases this
    obtain ⟨M1, M2⟩ := R.memh hnoeff
    have hsub : ∀ k s, find (memH m0 (bit cl) acc) k = some s → find M k = some s := by
      intro k s hk
      rcases heads_sub D hk with ⟨j, infj, L', h1, h2, h3, h4, h5, h6⟩ | ⟨h1, _⟩
      · rw [M1 j infj L' k (AofAcc h1) (hcl _ (by rw [pc]; exact h2)) h3 h4 h5]; exact h6
      · rw [M2 k fun j infj L' hj hS hk' hr => ?_]
        · exact h1
        · have := (hm0 k s h1).1
          have := DA.rng j infj hj; omega
    have hwf : ∀ k s, find (memH m0 (bit cl) acc) k = some s → k < nx ∧ s.d.lt nx = true ∧ (s.nxt = true → k + 1 < nx) := by
      intro k s hk
      have hle := D.le
      rcases heads_sub D hk with ⟨j, infj, L', h1, h2, h3, h4, h5, h6⟩ | ⟨h1, _⟩
      · have hr := D.rng j infj h1
        have hhi := D.hdl j infj L' h1 h3
        obtain ⟨a1, a2⟩ := D.lon j infj L' _ s h1 h3 h6
        refine ⟨by omega, SegD.on_lt (fun q hq => ?_) a1, fun hn => ?_⟩
        · rcases lv1_iff.1 hq with h | h
          · rcases lv_iff.1 h with h | ⟨x, hx, _, h8⟩
            · omega
            · have := D.rng _ _ (D.mem x hx); omega
          · omega
        · have := a2 hn; omega
      · obtain ⟨a1, a2, a3⟩ := hm0 k s h1
        exact ⟨by omega, SegD.lt_mono hle a2, fun hn => by have := a3 hn; omega⟩
    have hok : Ok B cx sz ρ t (memH m0 (bit cl) acc) nx a w := ⟨htm, R.size, R.post.ok.part hsub hwf (Nat.le_trans hng D.le), R.noDefer⟩
    refine opM_wp hT hH hok hop hobE fun ρ' w' hp hvlt => ?_
    rw [hmnx.1, hmnx.2] at hp
    rw [hmnx.2] at hvlt
    let ρ2 : Env := fun k => if k < nx + L.length then (if nx ≤ k then ρ' k else ρ k) else ρ k
    have e1 : ∀ k, k < nx + L.length → ρ2 k = ρ' k := by
      intro k hk
      show (if k < nx + L.length then (if nx ≤ k then ρ' k else ρ k) else ρ k) = ρ' k
      rw [if_pos hk]
      by_cases h : nx ≤ k
      · rw [if_pos h]
      · rw [if_neg h]; exact (hp.ext k (by omega)).symm
    have e2 : ∀ k, lv nx0 A S k = true → ρ2 k = ρ k := by
      intro k hk
      have := lvOut k hk
      rw [hinfhi] at this
      show (if k < nx + L.length then (if nx ≤ k then ρ' k else ρ k) else ρ k) = ρ k
      by_cases h : k < nx + L.length
      · rw [if_pos h, if_neg (by omega)]
      · rw [if_neg h]
    have post' : PostM B cx.ng ρ0 m0 nx0 w0 ρ2 (addM nx L M) NX w' := by
      refine R.post.lay (p := lv nx0 A S) hsub hp (by rw [← hinfhi]; exact hNX) e1 e2 (fun k hk => lv_iff.2 (.inl hk)) hng R.live fun k => ?_
      rw [find_addM, find_addM]
      by_cases hr : nx ≤ k ∧ k < nx + L.length
      · rw [if_pos hr, if_pos hr, List.getElem?_eq_getElem (by omega)]
      · rw [if_neg hr, if_neg hr]
        cases hf : find (memH m0 (bit cl) acc) k with
        | none => rfl
        | some s => exact hsub k s hf
    have hden : e.v.den ρ' = e.v.den ρ2 := (SV.den_congr e1 hvlt).symm
    have hfin := R.put (cx := cx) DA ht0 hm0' hi hSi hcl (ρ' := ρ2) (M' := addM nx L M) (w' := w') e2 post' ?_ ?_ ?_ ?_
    · rw [ei] at hfin
      dsimp only at hfin
      rw [hden]
      exact hK _ _ _ _ hfin
    · intro k s hk
      rw [find_addM] at hk
      by_cases hr : nx ≤ k ∧ k < nx + L.length
      · rw [if_pos hr] at hk
        obtain ⟨a1, a2⟩ := okL_spec _ hL _ s hk
        rw [← hinfhi] at a1
        refine ⟨accLv k (lv1_iff.2 (.inr ⟨hr.1, by rw [hinfhi]; exact hr.2⟩)), SegD.on_mono accLv a1, fun hn => accLv _ (lv1_iff.2 (.inr ⟨by omega, ?_⟩))⟩
        have := a2 hn
        rw [hinfhi]; omega
      · rw [if_neg hr] at hk
        obtain ⟨a1, a2, a3⟩ := R.live k s hk
        exact ⟨lv_mono up a1, SegD.on_mono (fun k hk => lv_mono up hk) a2, fun hn => lv_mono up (a3 hn)⟩
    · intro _
      refine ⟨fun j infj L' k hj hS hk' h1 h2 => ?_, fun k hh => ?_⟩
      · rw [find_addM]
        rcases addS_iff.1 hS with h | rfl
        · have hne := lvOut k (lv_iff.2 (.inr ⟨(j, infj), find_mem A j infj hj, h, h1, h2⟩))
          rw [hinfhi] at hne
          rw [if_neg hne]
          exact M1 j infj L' k hj h hk' h1 h2
        · rw [hi] at hj; cases hj
          rw [hinfk] at hk'; cases hk'
          rw [pl] at h1 ⊢
          rw [hinfhi] at h2
          rw [if_pos ⟨h1, h2⟩]
      · have h1 := hh i inf L hi (addS_iff.2 (.inr rfl)) hinfk
        rw [pl, hinfhi] at h1
        rw [find_addM, if_neg h1]
        exact M2 k fun j infj L' hj hS hk' => hh j infj L' hj (up j hS) hk'
    · intro j infj m hj hk hS
      exfalso
      rcases addS_iff.1 hS with h | rfl
      · rw [hnoeff j infj m hj hk] at h; cases h
      · rw [hi] at hj; cases hj; rw [hinfk] at hk; cases hk
    · intro L' k s hk' h1 h2
      rw [hinfk] at hk'; cases hk'
      rw [pl] at h1 h2
      have hlen := (List.getElem?_eq_some_iff.1 h2).1
      have hf : find (addM nx L M) k = some s := by rw [find_addM, if_pos ⟨h1, by omega⟩]; exact h2
      have hs := post'.ok.segs k s hf
      exact ⟨hs.cap, hs.nil, hs.next⟩
  | eff e ob0 hw hland hop hv hle ei ef eob =>
    subst eob
    have hwant := wantX_tm htm hw fun p hp => hob p (by simp [hp])
    rw [hwant, if_pos rfl]
    left
    have hobE : ∀ p ∈ e.ob, p := fun p hp => hob p (by simp [hp])
    have hinfk : inf.k = .eff e.m := by rw [ei]
    have hinfhi : inf.hi = e.nx := by rw [ei]
    have hnp : inf.k ≠ .pure := by rw [hinfk]; intro e; cases e
    -- all that is not computing, before i, is done; none after i is
    have before : ∀ j infj, find acc j = some infj → infj.k ≠ .pure → S j = true := by
      intro j infj hj hk
      refine hcl j ?_
      rw [pc]
      have := congrArg (fun x => bit x j) hland
      simp only [bit_and, D.hmb j infj hj hk, Bool.and_true] at this
      exact this
    have after : ∀ j infj, find A j = some infj → infj.k ≠ .pure → S j = true → j < i := by
      intro j infj hj hk hS
      rcases Nat.lt_trichotomy j i with h | h | h
      · exact h
      · subst h; rw [hSi] at hS; cases hS
      · exfalso
        cases hkk : infj.k with
        | pure => exact hk hkk
        | head L => have := DA.ohe j i infj inf L e.m hj hi hkk hinfk; omega
        | eff m =>
          have := DA.ehm j i infj inf m hj hi hkk hnp h
          have := R.closed j infj hj hS i this
          rw [hSi] at this; cases this
    have hfull : ∀ k, find M k = find full k := by
      rcases D.full with ⟨f1, f2, f3⟩ | ⟨j, infj, f1, f2, f3⟩
      · have hne : ∀ j infj m, find A j = some infj → infj.k = .eff m → S j = false := by
          intro j infj m hj hk
          cases hS : S j with
          | false => rfl
          | true =>
            have hlt := after j infj hj (by rw [hk]; intro e; cases e) hS
            exact absurd hk (f1 j infj m (by rw [← hag j hlt]; exact hj))
        obtain ⟨M1, M2⟩ := R.memh hne
        intro k
        by_cases hex : ∃ j infj L, find acc j = some infj ∧ infj.k = .head L ∧ infj.lo ≤ k ∧ k < infj.hi
        · obtain ⟨j, infj, L, h1, h2, h3, h4⟩ := hex
          rw [f2 j infj L k h1 rfl h2 h3 h4, M1 j infj L k (AofAcc h1) (before j infj h1 (by rw [h2]; intro e; cases e)) h2 h3 h4]
        · rw [f3 k fun j infj L hj _ hk hr => hex ⟨j, infj, L, hj, hk, hr⟩, M2 k fun j infj L hj hS hk hr => ?_]
          have hlt := after j infj hj (by rw [hk]; intro e; cases e) hS
          exact hex ⟨j, infj, L, by rw [← hag j hlt]; exact hj, hk, hr⟩
      · refine R.meme j infj full (AofAcc f1) f2 (before j infj f1 (by rw [f2]; intro e; cases e)) fun j' infj' m' hj' hk' hlt' => ?_
        cases hS : S j' with
        | false => rfl
        | true =>
          have hlt := after j' infj' hj' (by rw [hk']; intro e; cases e) hS
          have := f3 j' infj' m' (by rw [← hag j' hlt]; exact hj') hk'
          omega
    have lvLt : ∀ k, lv nx0 A S k = true → k < nx := by
      intro k hk
      have hle := D.le
      rcases lv_get DA hk with h | ⟨j, infj, hj, hS, h1, h2⟩
      · omega
      · have hnpj : infj.k ≠ .pure := fun hkp => by have := DA.pur j infj hj hkp; omega
        have hlt := after j infj hj hnpj hS
        have := D.rng j infj (by rw [← hag j hlt]; exact hj)
        omega
    have ltLv : ∀ k, k < e.nx → lv nx0 A (addS S i) k = true := by
      intro k hk
      rcases Nat.lt_or_ge k nx0 with h | h
      · exact lv_iff.2 (.inl h)
      · rcases Nat.lt_or_ge k nx with h' | h'
        · obtain ⟨j, infj, hj, h1, h2⟩ := D.cov k h h'
          have hnpj : infj.k ≠ .pure := fun hkp => by have := D.pur j infj hj hkp; omega
          exact lv_iff.2 (.inr ⟨(j, infj), find_mem A j infj (AofAcc hj), up _ (before j infj hj hnpj), h1, h2⟩)
        · exact lv_iff.2 (.inr ⟨(i, inf), find_mem A i inf hi, addS_iff.2 (.inr rfl), by rw [pl]; exact h', by rw [hinfhi]; exact hk⟩)
    have hok : Ok B cx sz ρ t full nx a w := by
      refine ⟨htm, R.size, R.post.ok.part (fun k s hk => by rw [hfull k]; exact hk) (fun k s hk => ?_) (Nat.le_trans hng D.le), R.noDefer⟩
      rw [← hfull k] at hk
      obtain ⟨a1, a2, a3⟩ := R.live k s hk
      exact ⟨lvLt k a1, SegD.on_lt lvLt a2, fun hn => lvLt _ (a3 hn)⟩
    refine opM_wp hT hH hok hop hobE fun ρ' w' hp hvlt => ?_
    let ρ2 : Env := fun k => if k < e.nx then (if nx ≤ k then ρ' k else ρ k) else ρ k
    have e1 : ∀ k, k < e.nx → ρ2 k = ρ' k := by
      intro k hk
      show (if k < e.nx then (if nx ≤ k then ρ' k else ρ k) else ρ k) = ρ' k
      rw [if_pos hk]
      by_cases h : nx ≤ k
      · rw [if_pos h]
      · rw [if_neg h]; exact (hp.ext k (by omega)).symm
    have e2 : ∀ k, lv nx0 A S k = true → ρ2 k = ρ k := by
      intro k hk
      have := lvLt k hk
      show (if k < e.nx then (if nx ≤ k then ρ' k else ρ k) else ρ k) = ρ k
      by_cases h : k < e.nx
      · rw [if_pos h, if_neg (by omega)]
      · rw [if_neg h]
    have post' : PostM B cx.ng ρ0 m0 nx0 w0 ρ2 e.m NX w' := by
      refine R.post.lay (p := lv nx0 A S) (fun k s hk => by rw [hfull k]; exact hk) hp (by rw [← hinfhi]; exact hNX) e1 e2 (fun k hk => lv_iff.2 (.inl hk)) hng R.live fun k => ?_
      cases find e.m k with
      | some s => rfl
      | none =>
        dsimp only
        cases hf : find full k with
        | some s => rfl
        | none => dsimp only; rw [hfull k, hf]
    have hden : e.v.den ρ' = e.v.den ρ2 := (SV.den_congr e1 hvlt).symm
    have hfin := R.put (cx := cx) DA ht0 hm0' hi hSi hcl (ρ' := ρ2) (M' := e.m) (w' := w') e2 post' ?_ ?_ ?_ ?_
    · rw [ei] at hfin
      dsimp only at hfin
      rw [hden]
      exact hK _ _ _ _ hfin
    · intro k s hk
      obtain ⟨a1, a2⟩ := hp.ok.wf k s hk
      exact ⟨ltLv k (hp.ok.keys k s hk), SegD.lt_on ltLv a1, fun hn => ltLv _ (a2 hn)⟩
    · intro h
      have := h i inf e.m hi hinfk
      rw [addS_iff.2 (.inr rfl)] at this; cases this
    · intro j infj m hj hk hS hlast k
      rcases addS_iff.1 hS with h | rfl
      · have hlt := after j infj hj (by rw [hk]; intro e; cases e) h
        have := hlast i inf e.m hi hinfk hlt
        rw [addS_iff.2 (.inr rfl)] at this; cases this
      · rw [hi] at hj; cases hj; rw [hinfk] at hk; cases hk; rfl
    · intro L' k s hk'
      rw [hinfk] at hk'; cases hk'

  | late v K oo g ty x ob0 ob1 hw h0 hop he hg hl hv ei ef eob hLP =>
    subst eob
    have hwant := wantX_tm htm hw fun p hp => hob p (by simp [hp])
    rw [hwant, if_pos rfl]
    left
    have hKm := hm0 K g hg
    have hMK : find M K = some g := by
      by_cases hex : ∃ j infj m, j < n ∧ find A j = some infj ∧ infj.k = .eff m ∧ S j = true
      · obtain ⟨j, infj, m, h1, h2, h3, h4⟩ := last_eff n hex DA.dom
        rw [R.meme j infj m h1 h2 h3 h4 K]
        rcases hLP j infj m h1 h2 with h5 | h5
        · have := R.closed j infj h1 h3 i h5
          rw [hSi] at this; cases this
        · rw [h5]; exact hg
      · obtain ⟨_, M2⟩ := R.memh fun j infj m hj hk => by
          cases hS : S j with
          | false => rfl
          | true => exact absurd ⟨j, infj, m, DA.dom j infj hj, hj, hk, hS⟩ hex
        rw [M2 K fun j infj L hj _ _ hr => by have := DA.rng j infj hj; omega]
        exact hg
    have one : ∀ k s, find [(K, g)] k = some s → k = K ∧ s = g := by
      intro k s hk
      rw [find_cons] at hk
      by_cases e : K = k
      · rw [if_pos e] at hk; cases hk; exact ⟨e.symm, rfl⟩
      · rw [if_neg e] at hk; cases hk
    have hle := D.le
    have hmem : MemOk B cx.ng ρ [(K, g)] nx w := R.post.ok.part (fun k s hk => by obtain ⟨rfl, rfl⟩ := one k s hk; exact hMK) (fun k s hk => by
      obtain ⟨rfl, rfl⟩ := one k s hk
      exact ⟨by omega, SegD.lt_mono hle hKm.2.1, fun hn => by have := hKm.2.2 hn; omega⟩) (Nat.le_trans hng hle)
    obtain ⟨_, k2⟩ := load_reads (P := P) (B := B) (ng := cx.ng) hT htm hgl (fun k s hk => by obtain ⟨rfl, rfl⟩ := one k s hk; exact SegD.lt_mono hle hKm.2.1) hop hl fun p hp => hob p (by simp [hp])
    refine wp_of_value (k2 w hmem) ?_
    have := R.putPure (cx := cx) DA ht0 hm0' hi hSi hcl (by rw [ei])
    rw [ei] at this
    exact hK _ _ _ _ this

end
end Go.Sx

set_option linter.unusedVariables false
namespace Go.Sx
open Go.RowKit

/-- how many of the first n are not in S -/
def left (S : Nat → Bool) : Nat → Nat
  | 0 => 0
  | n + 1 => left S n + bif S n then 0 else 1

theorem left_zero {S : Nat → Bool} : ∀ {n : Nat}, left S n = 0 → ∀ j, j < n → S j = true
  | 0, _, j, hj => by omega
  | n + 1, h, j, hj => by
    simp only [left] at h
    by_cases e : j = n
    · subst e
      cases hS : S j with
      | true => rfl
      | false => rw [hS, cond_false] at h; omega
    · have h' : left S n = 0 := by omega
      exact left_zero h' j (by omega)

theorem left_add {S : Nat → Bool} {i : Nat} (hS : S i = false) : ∀ {n : Nat}, (i < n → left (addS S i) n + 1 = left S n) ∧ (n ≤ i → left (addS S i) n = left S n)
  | 0 => ⟨fun h => by omega, fun _ => rfl⟩
  | n + 1 => by
    obtain ⟨h1, h2⟩ := left_add hS (n := n)
    refine ⟨fun h => ?_, fun h => ?_⟩
    · simp only [left]
      by_cases e : i = n
      · subst e
        have : addS S i i = true := addS_iff.2 (.inr rfl)
        rw [this, hS, cond_true, cond_false, h2 (Nat.le_refl _)]
      · have : addS S i n = S n := by simp [addS, show ¬ n = i from fun h => e h.symm]
        have := h1 (by omega)
        rw [show addS S i n = S n by simp [addS, show ¬ n = i from fun h => e h.symm]]
        omega
    · simp only [left]
      rw [h2 (by omega), show addS S i n = S n by simp [addS, show ¬ n = i by omega]]

theorem left_none : ∀ n, left (fun _ => false) n = n
  | 0 => rfl
  | n + 1 => by simp [left, left_none n]

theorem outT_spec (t0 : TM) : ∀ (acc : Acc) (d : Nat) (v : SV), find (outT t0 acc) d = some v → (∃ x ∈ acc, x.2.dst = some d ∧ x.2.v = v) ∨ (find t0 d = some v ∧ ∀ x ∈ acc, x.2.dst ≠ some d)
  | [], d, v, h => .inr ⟨h, by simp⟩
  | (j, inf) :: r, d, v, h => by
    simp only [outT] at h
    split at h
    · rename_i d' hd
      rw [find_cons] at h
      by_cases e : d' = d
      · rw [if_pos e] at h; cases h; subst e; exact .inl ⟨_, List.mem_cons_self, hd, rfl⟩
      · rw [if_neg e] at h
        rcases outT_spec t0 r d v h with ⟨x, hx, r1⟩ | ⟨h1, h2⟩
        · exact .inl ⟨x, List.mem_cons_of_mem _ hx, r1⟩
        · refine .inr ⟨h1, fun x hx => ?_⟩
          rcases List.mem_cons.1 hx with rfl | hx
          · rw [hd]; intro h; cases h; exact e rfl
          · exact h2 x hx
    · rename_i hd
      rcases outT_spec t0 r d v h with ⟨x, hx, r1⟩ | ⟨h1, h2⟩
      · exact .inl ⟨x, List.mem_cons_of_mem _ hx, r1⟩
      · refine .inr ⟨h1, fun x hx => ?_⟩
        rcases List.mem_cons.1 hx with rfl | hx
        · rw [hd]; intro h; cases h
        · exact h2 x hx

section
variable {P : Program} {cx : Cx} {H : Hook} {B sz : Nat} {orc : Orc} {ops : List Oper} {t0 : TM} {m0 : Mem} {nx0 : Nat} {ρ0 : Env} {w0 : World} {A : Acc} {n NX hmF emF : Nat} {FU : Mem}
  {S : Nat → Bool} {ρ : Env} {M : Mem} {a : Act} {w : World}

/-- the same pieces in another list -/
theorem PostM.same {ng nx NX : Nat} {m M' : Mem} {ρ' : Env} {w' : World} (h : PostM B ng ρ m nx w ρ' M NX w') (he : ∀ k, find M' k = find M k) : PostM B ng ρ m nx w ρ' M' NX w' :=
  ⟨h.ext, ⟨fun k s hk => h.ok.keys k s (by rw [← he]; exact hk), fun k s hk => h.ok.segs k s (by rw [← he]; exact hk), fun k k' s s' hk hk' => h.ok.dis k k' s s' (by rw [← he]; exact hk) (by rw [← he]; exact hk'), h.ok.base, h.ok.glob, h.ok.ng_le, fun k s hk => h.ok.wf k s (by rw [← he]; exact hk)⟩,
    h.frame, fun b o hb ⟨k, s, hk, r⟩ => h.sub b o hb ⟨k, s, by rw [← he]; exact hk, r⟩, fun b o hb ⟨k, s, hk, r⟩ => h.subR b o hb ⟨k, s, by rw [← he]; exact hk, r⟩, h.le⟩

/-- all done -/
theorem RInv.done (DA : DI t0 m0 nx0 sz A n NX hmF emF FU) (ht0 : ∀ d v, find t0 d = some v → v.lt nx0 = true) (R : RInv B cx.ng sz t0 m0 nx0 ρ0 w0 A NX S ρ M a w) (hall : ∀ j, j < n → S j = true) :
    Ok B cx sz ρ (outT t0 A) FU NX a w ∧ PostM B cx.ng ρ0 m0 nx0 w0 ρ FU NX w := by
  have hS : ∀ j inf, find A j = some inf → S j = true := fun j inf hj => hall j (DA.dom j inf hj)
  have hM : ∀ k, find FU k = find M k := by
    rcases DA.full with ⟨f1, f2, f3⟩ | ⟨j, infj, f1, f2, f3⟩
    · obtain ⟨M1, M2⟩ := R.memh fun j inf m hj hk => absurd hk (f1 j inf m hj)
      intro k
      by_cases hex : ∃ j infj L, find A j = some infj ∧ infj.k = .head L ∧ infj.lo ≤ k ∧ k < infj.hi
      · obtain ⟨j, infj, L, h1, h2, h3, h4⟩ := hex
        rw [f2 j infj L k h1 rfl h2 h3 h4, M1 j infj L k h1 (hS j infj h1) h2 h3 h4]
      · rw [f3 k fun j infj L hj _ hk hr => hex ⟨j, infj, L, hj, hk, hr⟩, M2 k fun j infj L hj _ hk hr => hex ⟨j, infj, L, hj, hk, hr⟩]
    · intro k
      refine (R.meme j infj FU f1 f2 (hS j infj f1) (fun j' inf' m' hj' hk' hlt => ?_) k).symm
      have := f3 j' inf' m' hj' hk'
      omega
  have hP := R.post.same hM
  refine ⟨⟨?_, R.size, hP.ok, R.noDefer⟩, hP⟩
  have both : ∀ d v, find (outT t0 A) d = some v → a.tmps.getD d undef = v.den ρ ∧ v.lt NX = true := by
    intro d v hv
    rcases outT_spec t0 A d v hv with ⟨x, hx, hd, hvv⟩ | ⟨hf, hno⟩
    · have hm := DA.mem x hx
      subst hvv
      refine ⟨R.tv _ _ d hm (hS _ _ hm) hd, SV.on_lt (fun k hk => ?_) (DA.von _ _ hm)⟩
      have hrng := DA.rng _ _ hm
      have := DA.le
      rcases lv1_iff.1 hk with h | h
      · rcases lv_iff.1 h with h | ⟨y, hy, _, h2⟩
        · omega
        · have := DA.rng _ _ (DA.mem y hy); omega
      · omega
    · exact ⟨R.t0v d v hf fun j inf hj _ => hno (j, inf) (find_mem A j inf hj), SV.lt_mono DA.le (ht0 d v hf)⟩
  exact ⟨fun d v h => (both d v h).1, fun d v h => (both d v h).2⟩

theorem replicate_getD (n j : Nat) : (Array.replicate n false).getD j false = false := by
  rw [Array.getD_eq_getD_getElem?, Array.getElem?_replicate]
  split <;> rfl

theorem draw_wp1 {lm : Bool} {A : Acc} {NX : Nat} {FU : Mem} (hmix : P.follows .mixedOrders = true) (hT : TysOk P cx.T) (hH : HookOk P B cx.ng H) {id : Nat} {opsA : Array Oper} {Q : Exit → Act → World → Prop} {s : St} {ob : List Prop} (hrun : runD cx H sz orc opsA.toList s.t s.m s.nx lm opsA.toList [] 0 s.nx 0 0 s.m [] = some (A, NX, FU, ob)) (hob : ∀ p ∈ ob, p)
    (hok : Ok B cx sz ρ s.t s.m s.nx a w) (hQ : ∀ a' w', Ends B cx sz ρ s.m s.nx w ⟨outT s.t A, FU, NX⟩ a' w' → Q .normal a' w') : (Code.region id opsA true).wp P Q a w := by
  obtain ⟨⟨hmF, emF, DA⟩, _, _, hall⟩ := runD_spec (cx := cx) (H := H) (orc := orc) (ops := opsA.toList) opsA.toList [] 0 s.nx 0 0 s.m [] A NX FU ob (DI.nil s.t s.m s.nx sz) hrun hob
  rw [Nat.zero_add] at DA
  have ht0 := hok.tm.wf
  have hm0 : ∀ k t, find s.m k = some t → k < s.nx ∧ t.d.lt s.nx = true ∧ (t.nxt = true → k + 1 < s.nx) := fun k t hk => ⟨hok.mem.keys k t hk, hok.mem.wf k t hk⟩
  let w1 : World := { w with drawn := w.drawn + 1 }
  have hdrawn : PostM B cx.ng ρ s.m s.nx w ρ s.m s.nx w1 := PostM.draw hok.mem
  have start : RInv B cx.ng sz s.t s.m s.nx ρ w A NX (fun j => (Array.replicate opsA.size false).getD j false) ρ s.m a w1 := by
    have hno : ∀ j, (Array.replicate opsA.size false).getD j false = false := fun j => replicate_getD _ j
    have hpost : PostM B cx.ng ρ s.m s.nx w ρ s.m NX w1 := ⟨hdrawn.ext, hdrawn.ok.env (fun _ _ => rfl) DA.le, hdrawn.frame, hdrawn.sub, hdrawn.subR, DA.le⟩
    refine ⟨hok.size, hok.noDefer, fun j hj => ?_, fun j inf _ hj => ?_, fun j inf d _ hj => ?_, fun d v hd _ => hok.tm.val d v hd, hpost, fun k t hk => ?_, fun _ => ⟨fun j inf L k _ hj => ?_, fun k _ => rfl⟩, fun j inf m _ _ hj => ?_, fun j inf L k t _ hj => ?_, fun k t hk => ?_⟩
    · rw [hno] at hj; cases hj
    · simp only [hno] at hj; cases hj
    · simp only [hno] at hj; cases hj
    · obtain ⟨a1, a2, a3⟩ := hm0 k t hk
      exact ⟨lv_iff.2 (.inl a1), SegD.lt_on (fun q hq => lv_iff.2 (.inl hq)) a2, fun hn => lv_iff.2 (.inl (a3 hn))⟩
    · simp only [hno] at hj; cases hj
    · simp only [hno] at hj; cases hj
    · simp only [hno] at hj; cases hj
    · have h1 := hok.mem.segs k t hk
      exact ⟨h1.cap, h1.nil, h1.next⟩
  refine wp_region_any hmix ?_
  have size : opsA.size = opsA.toList.length := by simp
  have main : ∀ (fuel : Nat) (listed : Array Bool) (ρ' : Env) (M : Mem) (a : Act) (w' : World), listed.size = opsA.size → left (fun j => listed.getD j false) opsA.size ≤ fuel →
      RInv B cx.ng sz s.t s.m s.nx ρ w A NX (fun j => listed.getD j false) ρ' M a w' → wpAny P .any opsA Q fuel listed a w' := by
    intro fuel
    induction fuel with
    | zero =>
      intro listed ρ' M a w' hsz hl R
      have hallS := left_zero (S := fun j => listed.getD j false) (by omega : left (fun j => listed.getD j false) opsA.size = 0)
      refine ⟨?_, ?_⟩
      · cases hr : Region.ready .any opsA listed with
        | nil => rfl
        | cons x xs =>
          exfalso
          have hx : x ∈ Region.ready .any opsA listed := by rw [hr]; exact List.mem_cons_self
          obtain ⟨h0, o, ho, _⟩ := mem_ready.1 hx
          have hlt : x < opsA.size := (Array.getElem?_eq_some_iff.1 ho).1
          have := hallS x hlt
          have hx2 : x < listed.size := by omega
          simp only [Array.getD, hx2, dif_pos] at this h0
          rw [this] at h0; cases h0
      · obtain ⟨h1, h2⟩ := R.done (cx := cx) DA ht0 (by rw [← size]; exact hallS)
        exact hQ a w' ⟨ρ', h1, h2⟩
    | succ fuel ih =>
      intro listed ρ' M a w' hsz hl R
      refine ⟨fun hr => ?_, fun i hi => ?_⟩
      · have hallS : ∀ j, j < opsA.size → listed.getD j false = true := by
          intro j
          induction j using Nat.strongRecOn with
          | ind j ihj =>
            intro hj
            cases hb : listed.getD j false with
            | true => rfl
            | false =>
              exfalso
              have hj2 : j < listed.size := by omega
              obtain ⟨acc', nx', hm', em', full', full'', inf, ob', D, hag, hst, hob', hfi⟩ := hall j opsA[j] (by simp [hj])
              rw [Nat.zero_add] at D hag hst hfi
              have hedge := hst.1
              have : j ∈ Region.ready .any opsA listed := by
                refine mem_ready.2 ⟨?_, opsA[j], by simp [hj], fun e he hbe => ihj e.on (hedge e he hbe) ?_⟩
                · simp only [Array.getD, hj2, dif_pos] at hb ⊢; exact hb
                · have := hedge e he hbe; omega
              rw [hr] at this; cases this
        obtain ⟨h1, h2⟩ := R.done (cx := cx) DA ht0 (by rw [← size]; exact hallS)
        exact hQ a w' ⟨ρ', h1, h2⟩
      · obtain ⟨h0, o, ho, hedges⟩ := mem_ready.1 hi
        have hlt : i < opsA.size := (Array.getElem?_eq_some_iff.1 ho).1
        have hi2 : i < listed.size := by omega
        have hSi : listed.getD i false = false := by simp only [Array.getD, hi2, dif_pos] at h0 ⊢; exact h0
        obtain ⟨acc', nx', hm', em', full', full'', inf, ob', D, hag, hst, hob', hfi⟩ := hall i o (by simpa using ho)
        rw [Nat.zero_add] at D hag hst hfi
        have hK : ∀ ρ'' M' a' w'', RInv B cx.ng sz s.t s.m s.nx ρ w A NX (addS (fun j => listed.getD j false) i) ρ'' M' a' w'' → wpAny P .any opsA Q fuel (listed.setIfInBounds i true) a' w'' := by
          intro ρ'' M' a' w'' R'
          have hfun : (fun j => (listed.setIfInBounds i true).getD j false) = addS (fun j => listed.getD j false) i := by
            funext j
            by_cases e : i = j
            · subst e
              rw [addS_iff.2 (.inr rfl)]
              simp [Array.getD, hi2]
            · rw [getD_set_ne false e]
              simp [addS, show ¬ j = i from fun h => e h.symm]
          refine ih _ ρ'' M' a' w'' (by simp [hsz]) ?_ (by rw [hfun]; exact R')
          rw [hfun]
          have := (left_add (S := fun j => listed.getD j false) hSi (n := opsA.size)).1 hlt
          omega
        have := R.step (K := wpAny P .any opsA Q fuel (listed.setIfInBounds i true)) (Q := Q) hT hH DA ht0 hm0 hok.mem.ng_le D hag hfi hSi (fun e he hb => hedges e he hb) hst hob' (by simpa using ho) hK
        simpa using this
  refine main _ _ ρ s.m a w1 (by simp) ?_ start
  have : (fun j => (Array.replicate opsA.size false).getD j false) = fun _ => false := by
    funext j; exact replicate_getD _ j
  rw [this, left_none]
  exact Nat.le_refl _

/-- **A DRAWN REGION.** -/
theorem draw_wp (hmix : P.follows .mixedOrders = true) (hT : TysOk P cx.T) (hH : HookOk P B cx.ng H) {id : Nat} {opsA : Array Oper} {Q : Exit → Act → World → Prop} {s s' : St} {ob : List Prop} (h : drawX cx H sz orc opsA.toList s = some (s', ob)) (hob : ∀ p ∈ ob, p)
    (hok : Ok B cx sz ρ s.t s.m s.nx a w) (hQ : ∀ a' w', Ends B cx sz ρ s.m s.nx w s' a' w' → Q .normal a' w') : (Code.region id opsA true).wp P Q a w := by
  unfold drawX at h
  split at h
  · rename_i A NX FU ob' hrun
    cases h
    exact draw_wp1 hmix hT hH hrun hob hok hQ
  · split at h <;> first | (cases h; done) | skip
    rename_i A NX FU ob' hrun
    cases h
    exact draw_wp1 hmix hT hH hrun hob hok hQ

end
end Go.Sx
