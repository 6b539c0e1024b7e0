/- What keys a symbolic value names; and how a run over a part of the memory is a run over the whole, new keys lying where they like. Conditions: none; plain definitions and theorems over any program. -/
import Derived.Test.YtnloecdkogckiaaDoorSx10
set_option linter.unusedVariables false
namespace Go.Sx
open Go.RowKit

def Sc.on (p : Nat → Bool) : Sc → Bool
  | .p k _ => p k
  | .sl k _ _ _ => p k
  | .osl k _ => p k
  | .f _ x => x.on p
  | _ => true

def SegD.on (p : Nat → Bool) : SegD → Bool
  | .dc l => l.all (Sc.on p)
  | _ => true

def SV0.on (p : Nat → Bool) : SV0 → Bool
  | .s x => x.on p
  | .ag l => l.all (SegD.on p)

def SV.on (p : Nat → Bool) : SV → Bool
  | .one x => x.on p
  | .tup l => l.all (SV0.on p)

section
variable {p q : Nat → Bool} {ρ ρ' : Env}

theorem Sc.on_congr (h : ∀ k, p k = true → ρ' k = ρ k) : ∀ {x : Sc}, x.on p = true → x.den ρ' = x.den ρ
  | .b _, _ | .i _, _ | .u8 _, _ | .u32 _, _ | .u64 _, _ | .p0, _ | .sl0, _ | .str _, _ | .f0, _ | .v _, _ => rfl
  | .p k _, hx => by simp only [Sc.den]; rw [h k hx]
  | .sl k _ _ _, hx => by simp only [Sc.den]; rw [h k hx]
  | .osl k _, hx => by simp only [Sc.den]; rw [h k hx]
  | .f _ x, hx => by simp only [Sc.den]; rw [Sc.on_congr h (x := x) hx]

theorem Sc.on_mono (h : ∀ k, p k = true → q k = true) : ∀ {x : Sc}, x.on p = true → x.on q = true
  | .b _, _ | .i _, _ | .u8 _, _ | .u32 _, _ | .u64 _, _ | .p0, _ | .sl0, _ | .str _, _ | .f0, _ | .v _, _ => rfl
  | .p k _, hx => h k hx
  | .sl k _ _ _, hx => h k hx
  | .osl k _, hx => h k hx
  | .f _ x, hx => Sc.on_mono h (x := x) hx

theorem Sc.lt_on {n : Nat} (h : ∀ k, k < n → p k = true) : ∀ {x : Sc}, x.lt n = true → x.on p = true
  | .b _, _ | .i _, _ | .u8 _, _ | .u32 _, _ | .u64 _, _ | .p0, _ | .sl0, _ | .str _, _ | .f0, _ | .v _, _ => rfl
  | .p k _, hx => h k (blt_iff.1 hx)
  | .sl k _ _ _, hx => h k (blt_iff.1 hx)
  | .osl k _, hx => h k (blt_iff.1 hx)
  | .f _ x, hx => Sc.lt_on h (x := x) hx

theorem SegD.on_scs {d : SegD} (h : d.on p = true) : ∀ x ∈ d.scs, x.on p = true := by
  intro x hx
  cases d <;> simp only [SegD.scs, List.mem_map] at hx
  case dc l => exact List.all_eq_true.1 h x hx
  all_goals (obtain ⟨y, _, rfl⟩ := hx; rfl)

theorem SegD.on_mono (h : ∀ k, p k = true → q k = true) {d : SegD} (hd : d.on p = true) : d.on q = true := by
  cases d <;> try rfl
  exact List.all_eq_true.2 fun x hx => Sc.on_mono h (List.all_eq_true.1 hd x hx)

theorem SegD.lt_on {n : Nat} (h : ∀ k, k < n → p k = true) {d : SegD} (hd : d.lt n = true) : d.on p = true := by
  cases d <;> try rfl
  exact List.all_eq_true.2 fun x hx => Sc.lt_on h (List.all_eq_true.1 hd x hx)

theorem SV0.on_mono (h : ∀ k, p k = true → q k = true) {v : SV0} (hv : v.on p = true) : v.on q = true := by
  cases v with
  | s x => exact Sc.on_mono h (x := x) hv
  | ag l => exact List.all_eq_true.2 fun x hx => SegD.on_mono h (List.all_eq_true.1 hv x hx)

theorem SV.on_mono (h : ∀ k, p k = true → q k = true) {v : SV} (hv : v.on p = true) : v.on q = true := by
  cases v with
  | one x => exact SV0.on_mono h (v := x) hv
  | tup l => exact List.all_eq_true.2 fun x hx => SV0.on_mono h (List.all_eq_true.1 hv x hx)

theorem SV0.lt_on {n : Nat} (h : ∀ k, k < n → p k = true) {v : SV0} (hv : v.lt n = true) : v.on p = true := by
  cases v with
  | s x => exact Sc.lt_on h (x := x) hv
  | ag l => exact List.all_eq_true.2 fun x hx => SegD.lt_on h (List.all_eq_true.1 hv x hx)

theorem SV.lt_on {n : Nat} (h : ∀ k, k < n → p k = true) {v : SV} (hv : v.lt n = true) : v.on p = true := by
  cases v with
  | one x => exact SV0.lt_on h (v := x) hv
  | tup l => exact List.all_eq_true.2 fun x hx => SV0.lt_on h (List.all_eq_true.1 hv x hx)

theorem SegD.on_congr (h : ∀ k, p k = true → ρ' k = ρ k) {d : SegD} (hd : d.on p = true) : d.cells ρ' = d.cells ρ := by
  unfold SegD.cells
  exact List.map_congr_left fun x hx => Sc.on_congr h (SegD.on_scs hd x hx)

theorem SV0.on_congr (h : ∀ k, p k = true → ρ' k = ρ k) {v : SV0} (hv : v.on p = true) : v.den ρ' = v.den ρ := by
  cases v with
  | s x => exact Sc.on_congr h hv
  | ag l =>
    simp only [SV0.den]
    congr 2
    have : l.map (SegD.cells ρ') = l.map (SegD.cells ρ) := List.map_congr_left fun d hd => SegD.on_congr h (List.all_eq_true.1 hv d hd)
    simp only [List.flatMap, this]

theorem SV.on_congr (h : ∀ k, p k = true → ρ' k = ρ k) {v : SV} (hv : v.on p = true) : v.den ρ' = v.den ρ := by
  cases v with
  | one x => exact SV0.on_congr h hv
  | tup l =>
    simp only [SV.den]
    congr 2
    exact List.map_congr_left fun x hx => SV0.on_congr h (List.all_eq_true.1 hv x hx)

theorem SegOk.on {B k : Nat} {s : Seg} {w : World} (h : SegOk B ρ k s w) (he : ∀ k, p k = true → ρ' k = ρ k) (hk : p k = true) (hd : s.d.on p = true) (hn : s.nxt = true → p (k + 1) = true) : SegOk B ρ' k s w := by
  have e := he k hk
  refine ⟨fun a hp => by rw [Seg.ext0 e] at hp; rw [e]; exact h.ours a hp, h.fixed, by rw [e]; exact h.cap, by rw [e]; exact h.nil, fun j x hx => ?_, fun a j hj => ?_, fun a => ?_, fun hg ho j z hz h1 h2 => by rw [e] at h2 ⊢; exact h.zero hg ho j z hz h1 h2⟩
  · rw [e, h.cell j x hx, Sc.on_congr he (SegD.on_scs hd x (List.mem_of_getElem? hx))]
  · have : j < s.ext ρ k := by unfold Seg.ext at *; rw [e] at hj; exact hj
    rw [e]; exact h.room a j this
  · rw [e, he _ (hn a)]; exact h.next a

/-- **A RUN OVER A PART IS A RUN OVER THE WHOLE.** -/
theorem PostM.lay {B ng : Nat} {ρ0 ρ'' : Env} {m0 M m m' M' : Mem} {nx0 NX nx nx' : Nat} {w0 w w' : World} (h : PostM B ng ρ0 m0 nx0 w0 ρ M NX w) (hs : ∀ k s, find m k = some s → find M k = some s)
    (hp : PostM B ng ρ m nx w ρ' m' nx' w') (hN : nx' ≤ NX) (e1 : ∀ k, k < nx' → ρ'' k = ρ' k) (e2 : ∀ k, p k = true → ρ'' k = ρ k) (h0 : ∀ k, k < nx0 → p k = true) (hng : ng ≤ nx0)
    (hlive : ∀ k s, find M k = some s → p k = true ∧ s.d.on p = true ∧ (s.nxt = true → p (k + 1) = true))
    (hM' : ∀ k, find M' k = match find m' k with
      | some s => some s
      | none => match find m k with
        | some _ => none
        | none => find M k) : PostM B ng ρ0 m0 nx0 w0 ρ'' M' NX w' := by
  have inM' : ∀ k s, find m' k = some s → find M' k = some s := fun k s hk => by rw [hM' k, hk]
  have split : ∀ k s, find M' k = some s → find m' k = some s ∨ (find m' k = none ∧ find m k = none ∧ find M k = some s) := fun k s hk => by
    rw [hM' k] at hk
    split at hk
    · rename_i v hv; cases hk; exact .inl hv
    · rename_i hv
      split at hk
      · cases hk
      · rename_i hv2; exact .inr ⟨hv, hv2, hk⟩
  have small : MemOk B ng ρ'' m' nx' w' := hp.ok.env e1 (Nat.le_refl _)
  have subO : ∀ b o, b < w.heap.size → Owns ρ'' m' b o → Owns ρ m b o := fun b o hb ho => hp.sub b o hb (ho.env e1 hp.ok.keys)
  have subR : ∀ b o, b < w.heap.size → Reaches ρ'' m' b o → Reaches ρ m b o := fun b o hb ho => by
    obtain ⟨k, s, hk, r1, r2, r3⟩ := ho
    have e := e1 k (hp.ok.keys k s hk)
    rw [e] at r1 r2 r3
    rw [Seg.reach_congr e] at r3
    exact hp.subR b o hb ⟨k, s, hk, r1, r2, r3⟩
  -- a reached cell of the rest is none of m's own
  have notOwn : ∀ k s, find m k = none → find M k = some s → ∀ j, j < s.reach ρ k → ¬ Owns ρ m (ρ k).blk ((ρ k).off + j) := by
    rintro k s hn hk j hj ⟨k2, s2, hk2, o2, b2, l2, u2⟩
    have hne : k ≠ k2 := fun e => by subst e; rw [hn] at hk2; cases hk2
    rcases h.ok.dis k k2 s s2 hk (hs k2 s2 hk2) hne (.inr o2) with hx | hx
    · exact hx b2.symm
    · exact hx j ((ρ k).off + j - (ρ k2).off) hj (by simp only [Seg.reach, o2, if_true]; omega) (by omega)
  have ek : ∀ k s, find M k = some s → ρ'' k = ρ k := fun k s hk => e2 k (hlive k s hk).1
  have segR : ∀ k s, find m k = none → find M k = some s → SegOk B ρ'' k s w' := by
    intro k s hn hk
    have h1 := h.ok.segs k s hk
    have h2 : SegOk B ρ k s w' := h1.congr fun j hj => hp.frame.cell _ _ (h1.lt hj) (notOwn k s hn hk j hj)
    obtain ⟨l1, l2, l3⟩ := hlive k s hk
    exact h2.on e2 l1 l2 l3
  have mixed : ∀ k s k' s', find m' k = some s → find m k' = none → find m' k' = none → find M k' = some s' → (s.own = true ∨ s'.own = true) → (ρ'' k).blk ≠ (ρ'' k').blk ∨ ∀ j j', j < s.reach ρ'' k → j' < s'.reach ρ'' k' → (ρ'' k).off + j ≠ (ρ'' k').off + j' := by
    intro k s k' s' hk hn hn' hk' ho
    by_cases hb : (ρ'' k).blk = (ρ'' k').blk
    · refine .inr fun j j' hj hj' heq => ?_
      have e := ek k' s' hk'
      have hj'' : j' < s'.reach ρ k' := by rw [← Seg.reach_congr e]; exact hj'
      have hlt0 : (ρ k').blk < w.heap.size := (h.ok.segs k' s' hk').lt hj''
      have pos : (ρ'' k).off + j = (ρ k').off + j' := by rw [heq, e]
      have pb : (ρ'' k).blk = (ρ k').blk := by rw [hb, e]
      rcases ho with ho | ho
      · have hr : s.reach ρ'' k = s.ext ρ'' k := by simp [Seg.reach, ho]
        have : Owns ρ'' m' (ρ k').blk ((ρ k').off + j') := ⟨k, s, hk, ho, pb, by omega, by omega⟩
        exact notOwn k' s' hn hk' j' hj'' (subO _ _ hlt0 this)
      · have : Reaches ρ'' m' (ρ k').blk ((ρ k').off + j') := ⟨k, s, hk, pb, by omega, by omega⟩
        obtain ⟨k2, s2, hk2, b2, l2, u2⟩ := subR _ _ hlt0 this
        have hne : k2 ≠ k' := fun e => by subst e; rw [hn] at hk2; cases hk2
        rcases h.ok.dis k2 k' s2 s' (hs k2 s2 hk2) hk' hne (.inr ho) with hx | hx
        · exact hx b2
        · exact hx ((ρ k').off + j' - (ρ k2).off) j' (by omega) hj'' (by omega)
    · exact .inl hb
  have sz0 : w0.heap.size ≤ w.heap.size := h.frame.below.size
  -- what the step owns of an old block, the whole owned
  have up : ∀ b o, Owns ρ m b o → Owns ρ M b o := fun b o ⟨k, s, hk, r⟩ => ⟨k, s, hs k s hk, r⟩
  refine ⟨fun k hk => (e2 k (h0 k hk)).trans (h.ext k hk), ⟨fun k s hk => ?_, fun k s hk => ?_, fun k k' s s' hk hk' hne ho => ?_, small.base, small.glob, Nat.le_trans small.ng_le hN, fun k s hk => ?_⟩, ⟨h.frame.below.trans hp.frame.below, fun b o hb hn => ?_⟩, ?_, ?_, h.le⟩
  · rcases split k s hk with h1 | ⟨_, _, h1⟩
    · exact Nat.lt_of_lt_of_le (small.keys k s h1) hN
    · exact h.ok.keys k s h1
  · rcases split k s hk with h1 | ⟨_, h2, h1⟩
    · exact small.segs k s h1
    · exact segR k s h2 h1
  · rcases split k s hk with h1 | ⟨n1', n1, h1⟩ <;> rcases split k' s' hk' with h2 | ⟨n2', n2, h2⟩
    · exact small.dis k k' s s' h1 h2 hne ho
    · exact mixed k s k' s' h1 n2 n2' h2 ho
    · rcases mixed k' s' k s h2 n1 n1' h1 ho.symm with hx | hx
      · exact .inl (Ne.symm hx)
      · exact .inr fun j j' hj hj' e => hx j' j hj' hj e.symm
    · have hx := h.ok.dis k k' s s' h1 h2 hne ho
      unfold Apart at *
      rw [ek k s h1, ek k' s' h2, Seg.reach_congr (ek k s h1), Seg.reach_congr (ek k' s' h2)]
      exact hx
  · rcases split k s hk with h1 | ⟨_, _, h1⟩
    · obtain ⟨a1, a2⟩ := small.wf k s h1
      exact ⟨SegD.lt_mono hN a1, fun c => Nat.lt_of_lt_of_le (a2 c) hN⟩
    · exact h.ok.wf k s h1
  · have hn1 : ¬ Owns ρ M b o := fun ho => hn (h.sub b o hb ho)
    have a1 := h.frame.cell b o hb hn
    have a2 := hp.frame.cell b o (Nat.lt_of_lt_of_le hb sz0) fun ho => hn1 (up b o ho)
    exact ⟨a2.1.trans a1.1, a2.2.trans a1.2⟩
  · rintro b o hb ⟨k, s, hk, r1, r2, r3, r4⟩
    rcases split k s hk with h1 | ⟨_, _, h1⟩
    · exact h.sub b o hb (up b o (subO b o (Nat.lt_of_lt_of_le hb sz0) ⟨k, s, h1, r1, r2, r3, r4⟩))
    · have e := ek k s h1
      rw [Seg.ext_congr e] at r4
      rw [e] at r2 r3 r4
      exact h.sub b o hb ⟨k, s, h1, r1, r2, r3, r4⟩
  · rintro b o hb ⟨k, s, hk, r2, r3, r4⟩
    rcases split k s hk with h1 | ⟨_, _, h1⟩
    · obtain ⟨k2, s2, q1, q2⟩ := subR b o (Nat.lt_of_lt_of_le hb sz0) ⟨k, s, h1, r2, r3, r4⟩
      exact h.subR b o hb ⟨k2, s2, hs k2 s2 q1, q2⟩
    · have e := ek k s h1
      rw [Seg.reach_congr e] at r4
      rw [e] at r2 r3 r4
      exact h.subR b o hb ⟨k, s, h1, r2, r3, r4⟩

end
end Go.Sx
