/- **A DRAWN REGION**: every order comes to what the text's order comes to. Conditions: none; plain definitions and theorems over any program. -/
import Derived.Test.YtnloecdkogckiaaDoorSx16
set_option linter.unusedVariables false
namespace Go.Sx
open Go.RowKit

/-- how many of the first n are not in S -/
def left (S : Nat → Bool) : Nat → Nat
  | 0 => 0
  | n + 1 => left S n + bif S n then 0 else 1

theorem left_zero {S : Nat → Bool} : ∀ {n : Nat}, left S n = 0 → ∀ j, j < n → S j = true
  | 0, _, j, hj => by omega
  | n + 1, h, j, hj => by
    simp only [left] at h
    by_cases e : j = n
    · subst e
      cases hS : S j with
      | true => rfl
      | false => rw [hS, cond_false] at h; omega
    · have h' : left S n = 0 := by omega
      exact left_zero h' j (by omega)

theorem left_add {S : Nat → Bool} {i : Nat} (hS : S i = false) : ∀ {n : Nat}, (i < n → left (addS S i) n + 1 = left S n) ∧ (n ≤ i → left (addS S i) n = left S n)
  | 0 => ⟨fun h => by omega, fun _ => rfl⟩
  | n + 1 => by
    obtain ⟨h1, h2⟩ := left_add hS (n := n)
    refine ⟨fun h => ?_, fun h => ?_⟩
    · simp only [left]
      by_cases e : i = n
      · subst e
        have : addS S i i = true := addS_iff.2 (.inr rfl)
        rw [this, hS, cond_true, cond_false, h2 (Nat.le_refl _)]
      · have : addS S i n = S n := by simp [addS, show ¬ n = i from fun h => e h.symm]
        have := h1 (by omega)
        rw [show addS S i n = S n by simp [addS, show ¬ n = i from fun h => e h.symm]]
        omega
    · simp only [left]
      rw [h2 (by omega), show addS S i n = S n by simp [addS, show ¬ n = i by omega]]

theorem left_none : ∀ n, left (fun _ => false) n = n
  | 0 => rfl
  | n + 1 => by simp [left, left_none n]

theorem outT_spec (t0 : TM) : ∀ (acc : Acc) (d : Nat) (v : SV), find (outT t0 acc) d = some v → (∃ x ∈ acc, x.2.dst = some d ∧ x.2.v = v) ∨ (find t0 d = some v ∧ ∀ x ∈ acc, x.2.dst ≠ some d)
  | [], d, v, h => .inr ⟨h, by simp⟩
  | (j, inf) :: r, d, v, h => by
    simp only [outT] at h
    split at h
    · rename_i d' hd
      rw [find_cons] at h
      by_cases e : d' = d
      · rw [if_pos e] at h; cases h; subst e; exact .inl ⟨_, List.mem_cons_self, hd, rfl⟩
      · rw [if_neg e] at h
        rcases outT_spec t0 r d v h with ⟨x, hx, r1⟩ | ⟨h1, h2⟩
        · exact .inl ⟨x, List.mem_cons_of_mem _ hx, r1⟩
        · refine .inr ⟨h1, fun x hx => ?_⟩
          rcases List.mem_cons.1 hx with rfl | hx
          · rw [hd]; intro h; cases h; exact e rfl
          · exact h2 x hx
    · rename_i hd
      rcases outT_spec t0 r d v h with ⟨x, hx, r1⟩ | ⟨h1, h2⟩
      · exact .inl ⟨x, List.mem_cons_of_mem _ hx, r1⟩
      · refine .inr ⟨h1, fun x hx => ?_⟩
        rcases List.mem_cons.1 hx with rfl | hx
        · rw [hd]; intro h; cases h
        · exact h2 x hx

section
variable {P : Program} {cx : Cx} {H : Hook} {B sz : Nat} {orc : Orc} {ops : List Oper} {t0 : TM} {m0 : Mem} {nx0 : Nat} {ρ0 : Env} {w0 : World} {A : Acc} {n NX hmF emF : Nat} {FU : Mem}
  {S : Nat → Bool} {ρ : Env} {M : Mem} {a : Act} {w : World}

/-- the same pieces in another list -/
theorem PostM.same {ng nx NX : Nat} {m M' : Mem} {ρ' : Env} {w' : World} (h : PostM B ng ρ m nx w ρ' M NX w') (he : ∀ k, find M' k = find M k) : PostM B ng ρ m nx w ρ' M' NX w' :=
  ⟨h.ext, ⟨fun k s hk => h.ok.keys k s (by rw [← he]; exact hk), fun k s hk => h.ok.segs k s (by rw [← he]; exact hk), fun k k' s s' hk hk' => h.ok.dis k k' s s' (by rw [← he]; exact hk) (by rw [← he]; exact hk'), h.ok.base, h.ok.glob, h.ok.ng_le, fun k s hk => h.ok.wf k s (by rw [← he]; exact hk)⟩,
    h.frame, fun b o hb ⟨k, s, hk, r⟩ => h.sub b o hb ⟨k, s, by rw [← he]; exact hk, r⟩, fun b o hb ⟨k, s, hk, r⟩ => h.subR b o hb ⟨k, s, by rw [← he]; exact hk, r⟩, h.le⟩

/-- all done -/
theorem RInv.done (DA : DI t0 m0 nx0 sz A n NX hmF emF FU) (ht0 : ∀ d v, find t0 d = some v → v.lt nx0 = true) (R : RInv B cx.ng sz t0 m0 nx0 ρ0 w0 A NX S ρ M a w) (hall : ∀ j, j < n → S j = true) :
    Ok B cx sz ρ (outT t0 A) FU NX a w ∧ PostM B cx.ng ρ0 m0 nx0 w0 ρ FU NX w := by
  have hS : ∀ j inf, find A j = some inf → S j = true := fun j inf hj => hall j (DA.dom j inf hj)
  have hM : ∀ k, find FU k = find M k := by
    rcases DA.full with ⟨f1, f2, f3⟩ | ⟨j, infj, f1, f2, f3⟩
    · obtain ⟨M1, M2⟩ := R.memh fun j inf m hj hk => absurd hk (f1 j inf m hj)
      intro k
      by_cases hex : ∃ j infj L, find A j = some infj ∧ infj.k = .head L ∧ infj.lo ≤ k ∧ k < infj.hi
      · obtain ⟨j, infj, L, h1, h2, h3, h4⟩ := hex
        rw [f2 j infj L k h1 rfl h2 h3 h4, M1 j infj L k h1 (hS j infj h1) h2 h3 h4]
      · rw [f3 k fun j infj L hj _ hk hr => hex ⟨j, infj, L, hj, hk, hr⟩, M2 k fun j infj L hj _ hk hr => hex ⟨j, infj, L, hj, hk, hr⟩]
    · intro k
      refine (R.meme j infj FU f1 f2 (hS j infj f1) (fun j' inf' m' hj' hk' hlt => ?_) k).symm
      have := f3 j' inf' m' hj' hk'
      omega
  have hP := R.post.same hM
  refine ⟨⟨?_, R.size, hP.ok, R.noDefer⟩, hP⟩
  have both : ∀ d v, find (outT t0 A) d = some v → a.tmps.getD d undef = v.den ρ ∧ v.lt NX = true := by
    intro d v hv
    rcases outT_spec t0 A d v hv with ⟨x, hx, hd, hvv⟩ | ⟨hf, hno⟩
    · have hm := DA.mem x hx
      subst hvv
      refine ⟨R.tv _ _ d hm (hS _ _ hm) hd, SV.on_lt (fun k hk => ?_) (DA.von _ _ hm)⟩
      have hrng := DA.rng _ _ hm
      have := DA.le
      rcases lv1_iff.1 hk with h | h
      · rcases lv_iff.1 h with h | ⟨y, hy, _, h2⟩
        · omega
        · have := DA.rng _ _ (DA.mem y hy); omega
      · omega
    · exact ⟨R.t0v d v hf fun j inf hj _ => hno (j, inf) (find_mem A j inf hj), SV.lt_mono DA.le (ht0 d v hf)⟩
  exact ⟨fun d v h => (both d v h).1, fun d v h => (both d v h).2⟩

theorem replicate_getD (n j : Nat) : (Array.replicate n false).getD j false = false := by
  rw [Array.getD_eq_getD_getElem?, Array.getElem?_replicate]
  split <;> rfl

theorem draw_wp1 {lm : Bool} {A : Acc} {NX : Nat} {FU : Mem} (hmix : P.follows .mixedOrders = true) (hT : TysOk P cx.T) (hH : HookOk P B cx.ng H) {id : Nat} {opsA : Array Oper} {Q : Exit → Act → World → Prop} {s : St} {ob : List Prop} (hrun : runD cx H sz orc opsA.toList s.t s.m s.nx lm opsA.toList [] 0 s.nx 0 0 s.m [] = some (A, NX, FU, ob)) (hob : ∀ p ∈ ob, p)
    (hok : Ok B cx sz ρ s.t s.m s.nx a w) (hQ : ∀ a' w', Ends B cx sz ρ s.m s.nx w ⟨outT s.t A, FU, NX⟩ a' w' → Q .normal a' w') : (Code.region id opsA true).wp P Q a w := by
  obtain ⟨⟨hmF, emF, DA⟩, _, _, hall⟩ := runD_spec (cx := cx) (H := H) (orc := orc) (ops := opsA.toList) opsA.toList [] 0 s.nx 0 0 s.m [] A NX FU ob (DI.nil s.t s.m s.nx sz) hrun hob
  rw [Nat.zero_add] at DA
  have ht0 := hok.tm.wf
  have hm0 : ∀ k t, find s.m k = some t → k < s.nx ∧ t.d.lt s.nx = true ∧ (t.nxt = true → k + 1 < s.nx) := fun k t hk => ⟨hok.mem.keys k t hk, hok.mem.wf k t hk⟩
  let w1 : World := { w with drawn := w.drawn + 1 }
  have hdrawn : PostM B cx.ng ρ s.m s.nx w ρ s.m s.nx w1 := PostM.draw hok.mem
  have start : RInv B cx.ng sz s.t s.m s.nx ρ w A NX (fun j => (Array.replicate opsA.size false).getD j false) ρ s.m a w1 := by
    have hno : ∀ j, (Array.replicate opsA.size false).getD j false = false := fun j => replicate_getD _ j
    have hpost : PostM B cx.ng ρ s.m s.nx w ρ s.m NX w1 := ⟨hdrawn.ext, hdrawn.ok.env (fun _ _ => rfl) DA.le, hdrawn.frame, hdrawn.sub, hdrawn.subR, DA.le⟩
    refine ⟨hok.size, hok.noDefer, fun j hj => ?_, fun j inf _ hj => ?_, fun j inf d _ hj => ?_, fun d v hd _ => hok.tm.val d v hd, hpost, fun k t hk => ?_, fun _ => ⟨fun j inf L k _ hj => ?_, fun k _ => rfl⟩, fun j inf m _ _ hj => ?_, fun j inf L k t _ hj => ?_, fun k t hk => ?_⟩
    · rw [hno] at hj; cases hj
    · simp only [hno] at hj; cases hj
    · simp only [hno] at hj; cases hj
    · obtain ⟨a1, a2, a3⟩ := hm0 k t hk
      exact ⟨lv_iff.2 (.inl a1), SegD.lt_on (fun q hq => lv_iff.2 (.inl hq)) a2, fun hn => lv_iff.2 (.inl (a3 hn))⟩
    · simp only [hno] at hj; cases hj
    · simp only [hno] at hj; cases hj
    · simp only [hno] at hj; cases hj
    · have h1 := hok.mem.segs k t hk
      exact ⟨h1.cap, h1.nil, h1.next⟩
  refine wp_region_any hmix ?_
  have size : opsA.size = opsA.toList.length := by simp
  have main : ∀ (fuel : Nat) (listed : Array Bool) (ρ' : Env) (M : Mem) (a : Act) (w' : World), listed.size = opsA.size → left (fun j => listed.getD j false) opsA.size ≤ fuel →
      RInv B cx.ng sz s.t s.m s.nx ρ w A NX (fun j => listed.getD j false) ρ' M a w' → wpAny P .any opsA Q fuel listed a w' := by
    intro fuel
    induction fuel with
    | zero =>
      intro listed ρ' M a w' hsz hl R
      have hallS := left_zero (S := fun j => listed.getD j false) (by omega : left (fun j => listed.getD j false) opsA.size = 0)
      refine ⟨?_, ?_⟩
      · cases hr : Region.ready .any opsA listed with
        | nil => rfl
        | cons x xs =>
          exfalso
          have hx : x ∈ Region.ready .any opsA listed := by rw [hr]; exact List.mem_cons_self
          obtain ⟨h0, o, ho, _⟩ := mem_ready.1 hx
          have hlt : x < opsA.size := (Array.getElem?_eq_some_iff.1 ho).1
          have := hallS x hlt
          have hx2 : x < listed.size := by omega
          simp only [Array.getD, hx2, dif_pos] at this h0
          rw [this] at h0; cases h0
      · obtain ⟨h1, h2⟩ := R.done (cx := cx) DA ht0 (by rw [← size]; exact hallS)
        exact hQ a w' ⟨ρ', h1, h2⟩
    | succ fuel ih =>
      intro listed ρ' M a w' hsz hl R
      refine ⟨fun hr => ?_, fun i hi => ?_⟩
      · have hallS : ∀ j, j < opsA.size → listed.getD j false = true := by
          intro j
          induction j using Nat.strongRecOn with
          | ind j ihj =>
            intro hj
            cases hb : listed.getD j false with
            | true => rfl
            | false =>
              exfalso
              have hj2 : j < listed.size := by omega
              obtain ⟨acc', nx', hm', em', full', full'', inf, ob', D, hag, hst, hob', hfi⟩ := hall j opsA[j] (by simp [hj])
              rw [Nat.zero_add] at D hag hst hfi
              have hedge := hst.1
              have : j ∈ Region.ready .any opsA listed := by
                refine mem_ready.2 ⟨?_, opsA[j], by simp [hj], fun e he hbe => ihj e.on (hedge e he hbe) ?_⟩
                · simp only [Array.getD, hj2, dif_pos] at hb ⊢; exact hb
                · have := hedge e he hbe; omega
              rw [hr] at this; cases this
        obtain ⟨h1, h2⟩ := R.done (cx := cx) DA ht0 (by rw [← size]; exact hallS)
        exact hQ a w' ⟨ρ', h1, h2⟩
      · obtain ⟨h0, o, ho, hedges⟩ := mem_ready.1 hi
        have hlt : i < opsA.size := (Array.getElem?_eq_some_iff.1 ho).1
        have hi2 : i < listed.size := by omega
        have hSi : listed.getD i false = false := by simp only [Array.getD, hi2, dif_pos] at h0 ⊢; exact h0
        obtain ⟨acc', nx', hm', em', full', full'', inf, ob', D, hag, hst, hob', hfi⟩ := hall i o (by simpa using ho)
        rw [Nat.zero_add] at D hag hst hfi
        have hK : ∀ ρ'' M' a' w'', RInv B cx.ng sz s.t s.m s.nx ρ w A NX (addS (fun j => listed.getD j false) i) ρ'' M' a' w'' → wpAny P .any opsA Q fuel (listed.setIfInBounds i true) a' w'' := by
          intro ρ'' M' a' w'' R'
          have hfun : (fun j => (listed.setIfInBounds i true).getD j false) = addS (fun j => listed.getD j false) i := by
            funext j
            by_cases e : i = j
            · subst e
              rw [addS_iff.2 (.inr rfl)]
              simp [Array.getD, hi2]
            · rw [getD_set_ne false e]
              simp [addS, show ¬ j = i from fun h => e h.symm]
          refine ih _ ρ'' M' a' w'' (by simp [hsz]) ?_ (by rw [hfun]; exact R')
          rw [hfun]
          have := (left_add (S := fun j => listed.getD j false) hSi (n := opsA.size)).1 hlt
          omega
        have := R.step (K := wpAny P .any opsA Q fuel (listed.setIfInBounds i true)) (Q := Q) hT hH DA ht0 hm0 hok.mem.ng_le D hag hfi hSi (fun e he hb => hedges e he hb) hst hob' (by simpa using ho) hK
        simpa using this
  refine main _ _ ρ s.m a w1 (by simp) ?_ start
  have : (fun j => (Array.replicate opsA.size false).getD j false) = fun _ => false := by
    funext j; exact replicate_getD _ j
  rw [this, left_none]
  exact Nat.le_refl _

/-- **A DRAWN REGION.** -/
theorem draw_wp (hmix : P.follows .mixedOrders = true) (hT : TysOk P cx.T) (hH : HookOk P B cx.ng H) {id : Nat} {opsA : Array Oper} {Q : Exit → Act → World → Prop} {s s' : St} {ob : List Prop} (h : drawX cx H sz orc opsA.toList s = some (s', ob)) (hob : ∀ p ∈ ob, p)
    (hok : Ok B cx sz ρ s.t s.m s.nx a w) (hQ : ∀ a' w', Ends B cx sz ρ s.m s.nx w s' a' w' → Q .normal a' w') : (Code.region id opsA true).wp P Q a w := by
  unfold drawX at h
  split at h
  · rename_i A NX FU ob' hrun
    cases h
    exact draw_wp1 hmix hT hH hrun hob hok hQ
  · split at h <;> first | (cases h; done) | skip
    rename_i A NX FU ob' hrun
    cases h
    exact draw_wp1 hmix hT hH hrun hob hok hQ

end
end Go.Sx
