/- A drawn region: each operation, in any order, keeps what is known. Conditions: none; plain definitions and theorems over any program. -/
import Derived.Test.YtnloecdkogckiaaDoorSx15
set_option linter.unusedVariables false
namespace Go.Sx
open Go.RowKit

section
variable {P : Program} {cx : Cx} {H : Hook} {B sz : Nat} {orc : Orc} {ops : List Oper} {t0 : TM} {m0 : Mem} {nx0 : Nat} {ρ0 : Env} {w0 : World} {A : Acc} {n NX hmF emF : Nat} {FU : Mem}
  {S : Nat → Bool} {ρ : Env} {M : Mem} {a : Act} {w : World} {acc : Acc} {i nx hm em : Nat} {full full' : Mem} {inf : Inf} {o : Oper} {ob : List Prop}

/-- the values that operation i looks at -/
theorem RInv.tm (DA : DI t0 m0 nx0 sz A n NX hmF emF FU) (ht0 : ∀ d v, find t0 d = some v → v.lt nx0 = true) (R : RInv B cx.ng sz t0 m0 nx0 ρ0 w0 A NX S ρ M a w) (D : DI t0 m0 nx0 sz acc i nx hm em full)
    (hag : ∀ j, j < i → find A j = find acc j) (hi : find A i = some inf) (hSi : S i = false) (hcl : ∀ j, bit inf.cl j = true → S j = true) {t : TM} (ht : resT acc t0 inf.cl inf.rd = some t) : TmOk ρ t nx a := by
  have both : ∀ d v, find t d = some v → a.tmps.getD d undef = v.den ρ ∧ v.lt nx = true := by
    intro d v hv
    obtain ⟨hrd, hl⟩ := resT_spec acc t0 inf.cl inf.rd t ht d v hv
    rcases lookT_spec t0 inf.cl d acc v hl with ⟨x, hx, hd, hb, hvv⟩ | ⟨hf, hno⟩
    · have hm := D.mem x hx
      have hlt := D.dom _ _ hm
      have hA : find A x.1 = some x.2 := by rw [hag _ hlt]; exact hm
      subst hvv
      refine ⟨R.tv _ _ d hA (hcl _ hb) hd, SV.on_lt (fun k hk => ?_) (D.von _ _ hm)⟩
      have hrng := D.rng _ _ hm
      have := D.le
      rcases lv1_iff.1 hk with h | h
      · rcases lv_iff.1 h with h | ⟨y, hy, _, h2⟩
        · omega
        · have := D.rng _ _ (D.mem y hy); omega
      · omega
    · refine ⟨R.t0v d v hf fun j infj hj hS hd => ?_, SV.lt_mono D.le (ht0 d v hf)⟩
      rcases Nat.lt_trichotomy j i with h | h | h
      · have := find_mem acc j infj (by rw [← hag j h]; exact hj)
        exact hno _ this hd
      · subst h; rw [hSi] at hS; cases hS
      · have := DA.rdr j i infj inf d v hj hi hd hrd hf h
        have := R.closed j infj hj hS i this
        rw [hSi] at this; cases this
  exact ⟨fun d v h => (both d v h).1, fun d v h => (both d v h).2⟩

/-- a part of the memory -/
theorem MemOk.part {ng : Nat} {m mm : Mem} {n1 n2 : Nat} (h : MemOk B ng ρ m n1 w) (hs : ∀ k s, find mm k = some s → find m k = some s) (hw : ∀ k s, find mm k = some s → k < n2 ∧ s.d.lt n2 = true ∧ (s.nxt = true → k + 1 < n2)) (hn : ng ≤ n2) : MemOk B ng ρ mm n2 w :=
  ⟨fun k s hk => (hw k s hk).1, fun k s hk => h.segs k s (hs k s hk), fun k k' s s' hk hk' => h.dis k k' s s' (hs k s hk) (hs k' s' hk'), h.base, h.glob, hn, fun k s hk => (hw k s hk).2⟩

theorem heads_sub (D : DI t0 m0 nx0 sz acc i nx hm em full) {cl k : Nat} {s : Seg} (h : find (memH m0 (bit cl) acc) k = some s) :
    (∃ j infj L, find acc j = some infj ∧ bit cl j = true ∧ infj.k = .head L ∧ infj.lo ≤ k ∧ k < infj.hi ∧ L[k - infj.lo]? = some s) ∨ (find m0 k = some s ∧ ∀ j infj L, find acc j = some infj → bit cl j = true → infj.k = .head L → ¬ (infj.lo ≤ k ∧ k < infj.hi)) := by
  rcases memH_find m0 (bit cl) acc k with ⟨x, hx, L, f1, k1, l1, u1, e1⟩ | ⟨n1, e⟩
  · have hm := D.mem x hx
    refine .inl ⟨x.1, x.2, L, hm, f1, k1, l1, ?_, by rw [← e1]; exact h⟩
    rw [D.hdl _ _ _ hm k1]; exact u1
  · refine .inr ⟨by rw [← e]; exact h, fun j infj L hj hb hk hr => ?_⟩
    have := D.hdl _ _ _ hj hk
    exact n1 (j, infj) (find_mem acc j infj hj) L hb hk ⟨hr.1, by have h2 := hr.2; rw [this] at h2; exact h2⟩

/-- the last effect that is done -/
theorem last_eff : ∀ (n : Nat), (∃ j inf m, j < n ∧ find A j = some inf ∧ inf.k = .eff m ∧ S j = true) → (∀ j inf, find A j = some inf → j < n) →
    ∃ j inf m, find A j = some inf ∧ inf.k = .eff m ∧ S j = true ∧ ∀ j' inf' m', find A j' = some inf' → inf'.k = .eff m' → j < j' → S j' = false := by
  have go : ∀ d N j inf m, N - j = d → j < N → find A j = some inf → inf.k = .eff m → S j = true → (∀ j inf, find A j = some inf → j < N) →
      ∃ j inf m, find A j = some inf ∧ inf.k = .eff m ∧ S j = true ∧ ∀ j' inf' m', find A j' = some inf' → inf'.k = .eff m' → j < j' → S j' = false := by
    intro d
    induction d using Nat.strongRecOn with
    | ind d ih =>
      intro N j inf m hd hj hf hk hS hb
      by_cases hex : ∃ j' inf' m', find A j' = some inf' ∧ inf'.k = .eff m' ∧ j < j' ∧ S j' = true
      · obtain ⟨j', inf', m', h1, h2, h3, h4⟩ := hex
        have := hb j' inf' h1
        exact ih (N - j') (by omega) N j' inf' m' rfl this h1 h2 h4 hb
      · refine ⟨j, inf, m, hf, hk, hS, fun j' inf' m' h1 h2 h3 => ?_⟩
        cases hS' : S j' with
        | false => rfl
        | true => exact absurd ⟨j', inf', m', h1, h2, h3, hS'⟩ hex
  intro n ⟨j, inf, m, hj, hf, hk, hS⟩ hb
  exact go _ n j inf m rfl hj hf hk hS hb

theorem RInv.step (hT : TysOk P cx.T) (hH : HookOk P B cx.ng H) (DA : DI t0 m0 nx0 sz A n NX hmF emF FU) (ht0 : ∀ d v, find t0 d = some v → v.lt nx0 = true)
    (hm0 : ∀ k s, find m0 k = some s → k < nx0 ∧ s.d.lt nx0 = true ∧ (s.nxt = true → k + 1 < nx0)) (hng : cx.ng ≤ nx0) (R : RInv B cx.ng sz t0 m0 nx0 ρ0 w0 A NX S ρ M a w) (D : DI t0 m0 nx0 sz acc i nx hm em full)
    (hag : ∀ j, j < i → find A j = find acc j) (hi : find A i = some inf) (hSi : S i = false) (hready : ∀ e ∈ o.after, Region.binds .any e = true → S e.on = true)
    (hstep : StepOk cx H sz orc ops t0 m0 nx0 acc i nx hm em full o inf full' ob (LateOk m0 A i)) (hob : ∀ p ∈ ob, p) (ho : ops[i]? = some o) {K : Act → World → Prop} {Q : Exit → Act → World → Prop}
    (hK : ∀ ρ' M' a' w', RInv B cx.ng sz t0 m0 nx0 ρ0 w0 A NX (addS S i) ρ' M' a' w' → K a' w') : wpOp P ops.toArray Q i K a w := by
  obtain ⟨hedge, cl, t, hclM, hdst, ht, hsk⟩ := hstep
  obtain ⟨pd, pc, pr, pl, ph, pv⟩ := hsk.parts
  have hm0' : ∀ k s, find m0 k = some s → k < nx0 ∧ (s.nxt = true → k + 1 < nx0) := fun k s h => ⟨(hm0 k s h).1, (hm0 k s h).2.2⟩
  have hcl : ∀ j, bit inf.cl j = true → S j = true := by
    intro j hj
    rw [pc] at hj
    rcases clM_spec acc _ _ _ hclM j hj with h0 | ⟨e, he, hb, h1⟩
    · rw [bit_eq, Nat.zero_testBit] at h0; cases h0
    · have he' := Array.mem_toList_iff.1 he
      have hS := hready e he' hb
      rcases h1 with rfl | ⟨inf', h2, h3⟩
      · exact hS
      · exact R.closed e.on inf' (by rw [hag _ (hedge e he' hb)]; exact h2) hS j h3
  have htm : TmOk ρ t nx a := R.tm DA ht0 D hag hi hSi hcl (by rw [pc, pr]; exact ht)
  have hNX : inf.hi ≤ NX := (DA.rng i inf hi).2.2
  have hgl : GlOk cx ρ nx := ⟨Nat.le_trans hng D.le, R.post.ok.glob⟩
  have hops : ops.toArray[i]? = some o := by simpa using ho
  have up : ∀ j, S j = true → addS S i j = true := fun j h => addS_iff.2 (.inl h)
  have no : ∀ j, addS S i j = false → S j = false := fun j h => by
    cases hS : S j with
    | false => rfl
    | true => rw [up j hS] at h; cases h
  have AofAcc : ∀ {j infj}, find acc j = some infj → find A j = some infj := fun {j infj} hj => by rw [hag j (D.dom j infj hj)]; exact hj
  have accLv : ∀ k, lv1 nx0 acc (bit cl) nx inf.hi k = true → lv nx0 A (addS S i) k = true := by
    intro k hk
    rcases lv1_iff.1 hk with h | h
    · rcases lv_iff.1 h with h | ⟨x, hx, h1, h2⟩
      · exact lv_iff.2 (.inl h)
      · exact lv_iff.2 (.inr ⟨x, find_mem A _ _ (AofAcc (D.mem x hx)), up _ (hcl _ (by rw [pc]; exact h1)), h2⟩)
    · exact lv_iff.2 (.inr ⟨(i, inf), find_mem A i inf hi, addS_iff.2 (.inr rfl), by rw [pl]; exact h.1, h.2⟩)
  have lvOut : ∀ k, lv nx0 A S k = true → ¬ (nx ≤ k ∧ k < inf.hi) := by
    intro k hk hr
    have := D.le
    rcases lv_get DA hk with h | ⟨j, infj, hj, hS, h1⟩
    · omega
    · have := DA.uniq hj hi h1 ⟨by rw [pl]; exact hr.1, hr.2⟩
      subst this; rw [hSi] at hS; cases hS
  unfold wpOp
  rw [hops]
  dsimp only
  cases hsk with
  | skip hw e ef =>
    have hwant := wantX_tm htm hw hob
    rw [hwant, if_neg (by simp)]
    have := R.putPure (cx := cx) DA ht0 hm0' hi hSi hcl (by rw [e])
    rw [e] at this
    exact hK _ _ _ _ this
  | pure v ob0 ob1 hw hpx hv e ef eob =>
    subst eob
    have hwant := wantX_tm htm hw fun p hp => hob p (by simp [hp])
    rw [hwant, if_pos rfl]
    left
    have hst : StatOk ρ (memH m0 (bit cl) acc) := by
      have key : ∀ k s, find (memH m0 (bit cl) acc) k = some s → StatK ρ k s := by
        intro k s hk
        rcases heads_sub D hk with ⟨j, infj, L, h1, h2, h3, h4, h5, h6⟩ | ⟨h1, _⟩
        · exact R.stat j infj L k s (AofAcc h1) (hcl _ (by rw [pc]; exact h2)) h3 h4 h6
        · exact R.stat0 k s h1
      exact ⟨fun k s hk => (key k s hk).1, fun k s hk => (key k s hk).2.1, fun k s hk => (key k s hk).2.2⟩
    have hkeys : ∀ k s, find (memH m0 (bit cl) acc) k = some s → k < nx := by
      intro k s hk
      rcases heads_sub D hk with ⟨j, infj, L, h1, h2, h3, h4, h5, h6⟩ | ⟨h1, _⟩
      · have := D.rng j infj h1; omega
      · have := (hm0 k s h1).1; have := D.le; omega
    obtain ⟨c1, c2⟩ := pure_comp (P := P) hT htm hgl hst hkeys hpx fun p hp => hob p (by simp [hp])
    refine wp_of_value (c2 w) ?_
    have := R.putPure (cx := cx) DA ht0 hm0' hi hSi hcl (by rw [e])
    rw [e] at this
    exact hK _ _ _ _ this
  | head e L ob0 hw h0 hop hc hv hL ei ef eob =>
    subst eob
    have hwant := wantX_tm htm hw fun p hp => hob p (by simp [hp])
    rw [hwant, if_pos rfl]
    left
    have hobE : ∀ p ∈ e.ob, p := fun p hp => hob p (by simp [hp])
    have hkind := opM_kind hT hH htm hgl hop hobE
    have hmnx : e.m = addM nx L (memH m0 (bit cl) acc) ∧ e.nx = nx + L.length := by
      unfold KOk at hkind
      rcases hc with ⟨hc, rfl⟩ | hc
      · rw [hc] at hkind; exact hkind
      · rw [hc] at hkind; exact hkind
    have hinfk : inf.k = .head L := by rw [ei]
    have hinfhi : inf.hi = nx + L.length := by rw [ei]
    -- no effect is done
    have hnoeff : ∀ j infj m, find A j = some infj → infj.k = .eff m → S j = false := by
      intro j infj m hj hk
      cases hS : S j with
      | false => rfl
      | true =>
        rcases Nat.lt_trichotomy j i with h | h | h
        · exact absurd hk (D.em0 h0 j infj m (by rw [← hag j h]; exact hj))
        · subst h; rw [hi] at hj; cases hj; rw [hinfk] at hk; cases hk
        · have := DA.ehm j i infj inf m hj hi hk (by rw [hinfk]; intro e; cases e) h
          have := R.closed j infj hj hS i this
          rw [hSi] at this; cases this
    obtain ⟨M1, M2⟩ := R.memh hnoeff
    have hsub : ∀ k s, find (memH m0 (bit cl) acc) k = some s → find M k = some s := by
      intro k s hk
      rcases heads_sub D hk with ⟨j, infj, L', h1, h2, h3, h4, h5, h6⟩ | ⟨h1, _⟩
      · rw [M1 j infj L' k (AofAcc h1) (hcl _ (by rw [pc]; exact h2)) h3 h4 h5]; exact h6
      · rw [M2 k fun j infj L' hj hS hk' hr => ?_]
        · exact h1
        · have := (hm0 k s h1).1
          have := DA.rng j infj hj; omega
    have hwf : ∀ k s, find (memH m0 (bit cl) acc) k = some s → k < nx ∧ s.d.lt nx = true ∧ (s.nxt = true → k + 1 < nx) := by
      intro k s hk
      have hle := D.le
      rcases heads_sub D hk with ⟨j, infj, L', h1, h2, h3, h4, h5, h6⟩ | ⟨h1, _⟩
      · have hr := D.rng j infj h1
        have hhi := D.hdl j infj L' h1 h3
        obtain ⟨a1, a2⟩ := D.lon j infj L' _ s h1 h3 h6
        refine ⟨by omega, SegD.on_lt (fun q hq => ?_) a1, fun hn => ?_⟩
        · rcases lv1_iff.1 hq with h | h
          · rcases lv_iff.1 h with h | ⟨x, hx, _, h8⟩
            · omega
            · have := D.rng _ _ (D.mem x hx); omega
          · omega
        · have := a2 hn; omega
      · obtain ⟨a1, a2, a3⟩ := hm0 k s h1
        exact ⟨by omega, SegD.lt_mono hle a2, fun hn => by have := a3 hn; omega⟩
    have hok : Ok B cx sz ρ t (memH m0 (bit cl) acc) nx a w := ⟨htm, R.size, R.post.ok.part hsub hwf (Nat.le_trans hng D.le), R.noDefer⟩
    refine opM_wp hT hH hok hop hobE fun ρ' w' hp hvlt => ?_
    rw [hmnx.1, hmnx.2] at hp
    rw [hmnx.2] at hvlt
    let ρ2 : Env := fun k => if k < nx + L.length then (if nx ≤ k then ρ' k else ρ k) else ρ k
    have e1 : ∀ k, k < nx + L.length → ρ2 k = ρ' k := by
      intro k hk
      show (if k < nx + L.length then (if nx ≤ k then ρ' k else ρ k) else ρ k) = ρ' k
      rw [if_pos hk]
      by_cases h : nx ≤ k
      · rw [if_pos h]
      · rw [if_neg h]; exact (hp.ext k (by omega)).symm
    have e2 : ∀ k, lv nx0 A S k = true → ρ2 k = ρ k := by
      intro k hk
      have := lvOut k hk
      rw [hinfhi] at this
      show (if k < nx + L.length then (if nx ≤ k then ρ' k else ρ k) else ρ k) = ρ k
      by_cases h : k < nx + L.length
      · rw [if_pos h, if_neg (by omega)]
      · rw [if_neg h]
    have post' : PostM B cx.ng ρ0 m0 nx0 w0 ρ2 (addM nx L M) NX w' := by
      refine R.post.lay (p := lv nx0 A S) hsub hp (by rw [← hinfhi]; exact hNX) e1 e2 (fun k hk => lv_iff.2 (.inl hk)) hng R.live fun k => ?_
      rw [find_addM, find_addM]
      by_cases hr : nx ≤ k ∧ k < nx + L.length
      · rw [if_pos hr, if_pos hr, List.getElem?_eq_getElem (by omega)]
      · rw [if_neg hr, if_neg hr]
        cases hf : find (memH m0 (bit cl) acc) k with
        | none => rfl
        | some s => exact hsub k s hf
    have hden : e.v.den ρ' = e.v.den ρ2 := (SV.den_congr e1 hvlt).symm
    have hfin := R.put (cx := cx) DA ht0 hm0' hi hSi hcl (ρ' := ρ2) (M' := addM nx L M) (w' := w') e2 post' ?_ ?_ ?_ ?_
    · rw [ei] at hfin
      dsimp only at hfin
      rw [hden]
      exact hK _ _ _ _ hfin
    · intro k s hk
      rw [find_addM] at hk
      by_cases hr : nx ≤ k ∧ k < nx + L.length
      · rw [if_pos hr] at hk
        obtain ⟨a1, a2⟩ := okL_spec _ hL _ s hk
        rw [← hinfhi] at a1
        refine ⟨accLv k (lv1_iff.2 (.inr ⟨hr.1, by rw [hinfhi]; exact hr.2⟩)), SegD.on_mono accLv a1, fun hn => accLv _ (lv1_iff.2 (.inr ⟨by omega, ?_⟩))⟩
        have := a2 hn
        rw [hinfhi]; omega
      · rw [if_neg hr] at hk
        obtain ⟨a1, a2, a3⟩ := R.live k s hk
        exact ⟨lv_mono up a1, SegD.on_mono (fun k hk => lv_mono up hk) a2, fun hn => lv_mono up (a3 hn)⟩
    · intro _
      refine ⟨fun j infj L' k hj hS hk' h1 h2 => ?_, fun k hh => ?_⟩
      · rw [find_addM]
        rcases addS_iff.1 hS with h | rfl
        · have hne := lvOut k (lv_iff.2 (.inr ⟨(j, infj), find_mem A j infj hj, h, h1, h2⟩))
          rw [hinfhi] at hne
          rw [if_neg hne]
          exact M1 j infj L' k hj h hk' h1 h2
        · rw [hi] at hj; cases hj
          rw [hinfk] at hk'; cases hk'
          rw [pl] at h1 ⊢
          rw [hinfhi] at h2
          rw [if_pos ⟨h1, h2⟩]
      · have h1 := hh i inf L hi (addS_iff.2 (.inr rfl)) hinfk
        rw [pl, hinfhi] at h1
        rw [find_addM, if_neg h1]
        exact M2 k fun j infj L' hj hS hk' => hh j infj L' hj (up j hS) hk'
    · intro j infj m hj hk hS
      exfalso
      rcases addS_iff.1 hS with h | rfl
      · rw [hnoeff j infj m hj hk] at h; cases h
      · rw [hi] at hj; cases hj; rw [hinfk] at hk; cases hk
    · intro L' k s hk' h1 h2
      rw [hinfk] at hk'; cases hk'
      rw [pl] at h1 h2
      have hlen := (List.getElem?_eq_some_iff.1 h2).1
      have hf : find (addM nx L M) k = some s := by rw [find_addM, if_pos ⟨h1, by omega⟩]; exact h2
      have hs := post'.ok.segs k s hf
      exact ⟨hs.cap, hs.nil, hs.next⟩
  | eff e ob0 hw hland hop hv hle ei ef eob =>
    subst eob
    have hwant := wantX_tm htm hw fun p hp => hob p (by simp [hp])
    rw [hwant, if_pos rfl]
    left
    have hobE : ∀ p ∈ e.ob, p := fun p hp => hob p (by simp [hp])
    have hinfk : inf.k = .eff e.m := by rw [ei]
    have hinfhi : inf.hi = e.nx := by rw [ei]
    have hnp : inf.k ≠ .pure := by rw [hinfk]; intro e; cases e
    -- all that is not computing, before i, is done; none after i is
    have before : ∀ j infj, find acc j = some infj → infj.k ≠ .pure → S j = true := by
      intro j infj hj hk
      refine hcl j ?_
      rw [pc]
      have := congrArg (fun x => bit x j) hland
      simp only [bit_and, D.hmb j infj hj hk, Bool.and_true] at this
      exact this
    have after : ∀ j infj, find A j = some infj → infj.k ≠ .pure → S j = true → j < i := by
      intro j infj hj hk hS
      rcases Nat.lt_trichotomy j i with h | h | h
      · exact h
      · subst h; rw [hSi] at hS; cases hS
      · exfalso
        cases hkk : infj.k with
        | pure => exact hk hkk
        | head L => have := DA.ohe j i infj inf L e.m hj hi hkk hinfk; omega
        | eff m =>
          have := DA.ehm j i infj inf m hj hi hkk hnp h
          have := R.closed j infj hj hS i this
          rw [hSi] at this; cases this
    have hfull : ∀ k, find M k = find full k := by
      rcases D.full with ⟨f1, f2, f3⟩ | ⟨j, infj, f1, f2, f3⟩
      · have hne : ∀ j infj m, find A j = some infj → infj.k = .eff m → S j = false := by
          intro j infj m hj hk
          cases hS : S j with
          | false => rfl
          | true =>
            have hlt := after j infj hj (by rw [hk]; intro e; cases e) hS
            exact absurd hk (f1 j infj m (by rw [← hag j hlt]; exact hj))
        obtain ⟨M1, M2⟩ := R.memh hne
        intro k
        by_cases hex : ∃ j infj L, find acc j = some infj ∧ infj.k = .head L ∧ infj.lo ≤ k ∧ k < infj.hi
        · obtain ⟨j, infj, L, h1, h2, h3, h4⟩ := hex
          rw [f2 j infj L k h1 rfl h2 h3 h4, M1 j infj L k (AofAcc h1) (before j infj h1 (by rw [h2]; intro e; cases e)) h2 h3 h4]
        · rw [f3 k fun j infj L hj _ hk hr => hex ⟨j, infj, L, hj, hk, hr⟩, M2 k fun j infj L hj hS hk hr => ?_]
          have hlt := after j infj hj (by rw [hk]; intro e; cases e) hS
          exact hex ⟨j, infj, L, by rw [← hag j hlt]; exact hj, hk, hr⟩
      · refine R.meme j infj full (AofAcc f1) f2 (before j infj f1 (by rw [f2]; intro e; cases e)) fun j' infj' m' hj' hk' hlt' => ?_
        cases hS : S j' with
        | false => rfl
        | true =>
          have hlt := after j' infj' hj' (by rw [hk']; intro e; cases e) hS
          have := f3 j' infj' m' (by rw [← hag j' hlt]; exact hj') hk'
          omega
    have lvLt : ∀ k, lv nx0 A S k = true → k < nx := by
      intro k hk
      have hle := D.le
      rcases lv_get DA hk with h | ⟨j, infj, hj, hS, h1, h2⟩
      · omega
      · have hnpj : infj.k ≠ .pure := fun hkp => by have := DA.pur j infj hj hkp; omega
        have hlt := after j infj hj hnpj hS
        have := D.rng j infj (by rw [← hag j hlt]; exact hj)
        omega
    have ltLv : ∀ k, k < e.nx → lv nx0 A (addS S i) k = true := by
      intro k hk
      rcases Nat.lt_or_ge k nx0 with h | h
      · exact lv_iff.2 (.inl h)
      · rcases Nat.lt_or_ge k nx with h' | h'
        · obtain ⟨j, infj, hj, h1, h2⟩ := D.cov k h h'
          have hnpj : infj.k ≠ .pure := fun hkp => by have := D.pur j infj hj hkp; omega
          exact lv_iff.2 (.inr ⟨(j, infj), find_mem A j infj (AofAcc hj), up _ (before j infj hj hnpj), h1, h2⟩)
        · exact lv_iff.2 (.inr ⟨(i, inf), find_mem A i inf hi, addS_iff.2 (.inr rfl), by rw [pl]; exact h', by rw [hinfhi]; exact hk⟩)
    have hok : Ok B cx sz ρ t full nx a w := by
      refine ⟨htm, R.size, R.post.ok.part (fun k s hk => by rw [hfull k]; exact hk) (fun k s hk => ?_) (Nat.le_trans hng D.le), R.noDefer⟩
      rw [← hfull k] at hk
      obtain ⟨a1, a2, a3⟩ := R.live k s hk
      exact ⟨lvLt k a1, SegD.on_lt lvLt a2, fun hn => lvLt _ (a3 hn)⟩
    refine opM_wp hT hH hok hop hobE fun ρ' w' hp hvlt => ?_
    let ρ2 : Env := fun k => if k < e.nx then (if nx ≤ k then ρ' k else ρ k) else ρ k
    have e1 : ∀ k, k < e.nx → ρ2 k = ρ' k := by
      intro k hk
      show (if k < e.nx then (if nx ≤ k then ρ' k else ρ k) else ρ k) = ρ' k
      rw [if_pos hk]
      by_cases h : nx ≤ k
      · rw [if_pos h]
      · rw [if_neg h]; exact (hp.ext k (by omega)).symm
    have e2 : ∀ k, lv nx0 A S k = true → ρ2 k = ρ k := by
      intro k hk
      have := lvLt k hk
      show (if k < e.nx then (if nx ≤ k then ρ' k else ρ k) else ρ k) = ρ k
      by_cases h : k < e.nx
      · rw [if_pos h, if_neg (by omega)]
      · rw [if_neg h]
    have post' : PostM B cx.ng ρ0 m0 nx0 w0 ρ2 e.m NX w' := by
      refine R.post.lay (p := lv nx0 A S) (fun k s hk => by rw [hfull k]; exact hk) hp (by rw [← hinfhi]; exact hNX) e1 e2 (fun k hk => lv_iff.2 (.inl hk)) hng R.live fun k => ?_
      cases find e.m k with
      | some s => rfl
      | none =>
        dsimp only
        cases hf : find full k with
        | some s => rfl
        | none => dsimp only; rw [hfull k, hf]
    have hden : e.v.den ρ' = e.v.den ρ2 := (SV.den_congr e1 hvlt).symm
    have hfin := R.put (cx := cx) DA ht0 hm0' hi hSi hcl (ρ' := ρ2) (M' := e.m) (w' := w') e2 post' ?_ ?_ ?_ ?_
    · rw [ei] at hfin
      dsimp only at hfin
      rw [hden]
      exact hK _ _ _ _ hfin
    · intro k s hk
      obtain ⟨a1, a2⟩ := hp.ok.wf k s hk
      exact ⟨ltLv k (hp.ok.keys k s hk), SegD.lt_on ltLv a1, fun hn => ltLv _ (a2 hn)⟩
    · intro h
      have := h i inf e.m hi hinfk
      rw [addS_iff.2 (.inr rfl)] at this; cases this
    · intro j infj m hj hk hS hlast k
      rcases addS_iff.1 hS with h | rfl
      · have hlt := after j infj hj (by rw [hk]; intro e; cases e) h
        have := hlast i inf e.m hi hinfk hlt
        rw [addS_iff.2 (.inr rfl)] at this; cases this
      · rw [hi] at hj; cases hj; rw [hinfk] at hk; cases hk; rfl
    · intro L' k s hk'
      rw [hinfk] at hk'; cases hk'

  | late v K oo g ty x ob0 ob1 hw h0 hop he hg hl hv ei ef eob hLP =>
    subst eob
    have hwant := wantX_tm htm hw fun p hp => hob p (by simp [hp])
    rw [hwant, if_pos rfl]
    left
    have hKm := hm0 K g hg
    have hMK : find M K = some g := by
      by_cases hex : ∃ j infj m, j < n ∧ find A j = some infj ∧ infj.k = .eff m ∧ S j = true
      · obtain ⟨j, infj, m, h1, h2, h3, h4⟩ := last_eff n hex DA.dom
        rw [R.meme j infj m h1 h2 h3 h4 K]
        rcases hLP j infj m h1 h2 with h5 | h5
        · have := R.closed j infj h1 h3 i h5
          rw [hSi] at this; cases this
        · rw [h5]; exact hg
      · obtain ⟨_, M2⟩ := R.memh fun j infj m hj hk => by
          cases hS : S j with
          | false => rfl
          | true => exact absurd ⟨j, infj, m, DA.dom j infj hj, hj, hk, hS⟩ hex
        rw [M2 K fun j infj L hj _ _ hr => by have := DA.rng j infj hj; omega]
        exact hg
    have one : ∀ k s, find [(K, g)] k = some s → k = K ∧ s = g := by
      intro k s hk
      rw [find_cons] at hk
      by_cases e : K = k
      · rw [if_pos e] at hk; cases hk; exact ⟨e.symm, rfl⟩
      · rw [if_neg e] at hk; cases hk
    have hle := D.le
    have hmem : MemOk B cx.ng ρ [(K, g)] nx w := R.post.ok.part (fun k s hk => by obtain ⟨rfl, rfl⟩ := one k s hk; exact hMK) (fun k s hk => by
      obtain ⟨rfl, rfl⟩ := one k s hk
      exact ⟨by omega, SegD.lt_mono hle hKm.2.1, fun hn => by have := hKm.2.2 hn; omega⟩) (Nat.le_trans hng hle)
    obtain ⟨_, k2⟩ := load_reads (P := P) (B := B) (ng := cx.ng) hT htm hgl (fun k s hk => by obtain ⟨rfl, rfl⟩ := one k s hk; exact SegD.lt_mono hle hKm.2.1) hop hl fun p hp => hob p (by simp [hp])
    refine wp_of_value (k2 w hmem) ?_
    have := R.putPure (cx := cx) DA ht0 hm0' hi hSi hcl (by rw [ei])
    rw [ei] at this
    exact hK _ _ _ _ this

end
end Go.Sx
