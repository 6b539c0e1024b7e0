/- Slices told apart (nil, or at a place with a capacity); a second key for what is only read; nil handed back. Conditions: none; plain definitions and theorems over any program. -/
import Derived.Test.YtnloecdkogckiaaDoorSx33
set_option linter.unusedVariables false
namespace Go.Sx
open Go.RowKit

/-- an argument that is a slice of unknown capacity: nil, or at a place with some capacity -/
theorem FnE.slice {P : Program} {B ng : Nat} {f : FuncId} {A : Sc → List SV} {m : Mem} {nx k n : Nat} {s : Seg} {e : Ef} (hA : ∀ (x y : Sc) (ρ : Env), x.den ρ = y.den ρ → (A x).map (SV.den ρ) = (A y).map (SV.den ρ)) (hk : find m k = some s) (hn : n ≤ s.d.len)
    (h1 : ∀ c, s.d.len ≤ c → FnE P B ng f (A (.sl k 0 n c)) m nx e) (h2 : s.d.len = 0 → FnE P B ng f (A .sl0) m nx e) : FnE P B ng f (A (.osl k n)) m nx e := by
  refine ⟨(h1 s.d.len (Nat.le_refl _)).1, fun ρ w hm => ?_⟩
  have hs := hm.segs k s hk
  cases hnil : (ρ k).isNil with
  | true =>
    have hc := hs.nil hnil
    have hcap := hs.cap
    have h0 : s.d.len = 0 := by omega
    rw [hA (.osl k n) .sl0 ρ (by simp [Sc.den, hnil, hc, show n = 0 by omega])]
    exact (h2 h0).2 ρ w hm
  | false =>
    rw [hA (.osl k n) (.sl k 0 n (ρ k).cap) ρ (by simp [Sc.den, hnil])]
    exact (h1 _ hs.cap).2 ρ w hm

/-- nil, as a slice at a key of its own -/
theorem FnE.nilRes {P : Program} {B ng : Nat} {f : FuncId} {args : List SV} {m m' : Mem} {nx nx' : Nat} {c c' : K4} {ob ob' : List Prop} (d : SegD) (hd : d.len = 0) (hlt : d.lt nx' = true) (h : FnE P B ng f args m nx ⟨.one (.s .sl0), m', nx', c, ob⟩) :
    FnE P B ng f args m nx ⟨.one (.s (.osl nx' 0)), (nx', ⟨0, d, true, true, false⟩) :: m', nx' + 1, c', ob'⟩ := by
  refine ⟨h.1, fun ρ w hm => (h.2 ρ w hm).mono fun en w' ⟨ρ', he, hp⟩ => ⟨_, ?_, hp.trans (PostM.nil hp.ok d hd hlt)⟩⟩
  rw [he]
  simp [SV.den, SV0.den, Sc.den, envN_at]

section
variable {P : Program} {B : Nat} {cx : Cx} {sz : Nat} {R : Ex → St → Prop} {s : St} {l : List Code} {base : Nat}

/-- a second key for a piece that is only read -/
theorem PostM.twin {B ng : Nat} {ρ : Env} {m : Mem} {nx : Nat} {w : World} (h : MemOk B ng ρ m nx w) {k : Nat} {g : Seg} (hk : find m k = some g) (ho : g.own = false) (hx : g.nxt = false) : PostM B ng ρ m nx w (envN nx ρ (ρ k)) ((nx, g) :: m) (nx + 1) w := by
  have he : ∀ q, q < nx → envN nx ρ (ρ k) q = ρ q := fun q hq => envN_lo hq
  have hen : envN nx ρ (ρ k) nx = ρ k := envN_at
  have hsk := h.segs k g hk
  have hwk := h.wf k g hk
  have old : MemOk B ng (envN nx ρ (ρ k)) m (nx + 1) w := h.env he (by omega)
  have split : ∀ q t, find ((nx, g) :: m) q = some t → (q = nx ∧ t = g) ∨ (q < nx ∧ find m q = some t) := by
    intro q t ht
    rw [find_cons] at ht
    by_cases e : nx = q
    · rw [if_pos e] at ht; cases ht; exact .inl ⟨e.symm, rfl⟩
    · rw [if_neg e] at ht; exact .inr ⟨h.keys q t ht, ht⟩
  have hr : g.reach (envN nx ρ (ρ k)) nx = g.reach ρ k := by simp [Seg.reach, ho]
  have ap : ∀ q t, find m q = some t → t.own = true → Apart (envN nx ρ (ρ k)) nx g q t := by
    intro q t ht hto
    unfold Apart
    rw [hr, hen, he q (h.keys q t ht), Seg.reach_congr (he q (h.keys q t ht))]
    have hq : k ≠ q := fun e => by subst e; rw [hk] at ht; cases ht; rw [ho] at hto; cases hto
    exact h.dis k q g t hk ht hq (.inr hto)
  refine ⟨he, ⟨fun q t ht => ?_, fun q t ht => ?_, fun q q' t t' ht ht' hne hoo => ?_, h.base, old.glob, old.ng_le, fun q t ht => ?_⟩, ⟨Below.refl _ _, fun _ _ _ _ => ⟨rfl, rfl⟩⟩, ?_, ?_, by omega⟩
  · rcases split q t ht with ⟨rfl, _⟩ | ⟨h1, _⟩ <;> omega
  · rcases split q t ht with ⟨rfl, rfl⟩ | ⟨_, h2⟩
    · refine ⟨fun e => (by rw [ho] at e; cases e), hsk.fixed, by rw [hen]; exact hsk.cap, by rw [hen]; exact hsk.nil, fun j x hj => ?_, fun e => (by rw [ho] at e; cases e), fun e => (by rw [hx] at e; cases e), fun _ e => (by rw [ho] at e; cases e)⟩
      rw [hen, hsk.cell j x hj, Sc.den_congr he (SegD.scs_lt hwk.1 x (List.mem_of_getElem? hj))]
    · exact old.segs q t h2
  · rcases split q t ht with ⟨rfl, rfl⟩ | ⟨_, h2⟩ <;> rcases split q' t' ht' with ⟨rfl, rfl⟩ | ⟨_, h2'⟩
    · exact absurd rfl hne
    · exact ap q' t' h2' (by rcases hoo with e | e; (rw [ho] at e; cases e); exact e)
    · rcases ap q t h2 (by rcases hoo with e | e; exact e; (rw [ho] at e; cases e)) with hx | hx
      · exact .inl (Ne.symm hx)
      · exact .inr fun j j' hj hj' e => hx j' j hj' hj e.symm
    · exact old.dis q q' t t' h2 h2' hne hoo
  · rcases split q t ht with ⟨rfl, rfl⟩ | ⟨_, h2⟩
    · exact ⟨SegD.lt_mono (by omega) hwk.1, fun e => by rw [hx] at e; cases e⟩
    · exact old.wf q t h2
  · rintro b o' hb ⟨q, t, ht, g1, g2, g3, g4⟩
    rcases split q t ht with ⟨rfl, rfl⟩ | ⟨_, h2⟩
    · rw [ho] at g1; cases g1
    · have e := he q (h.keys q t h2)
      rw [Seg.ext_congr e] at g4
      rw [e] at g2 g3 g4
      exact ⟨q, t, h2, g1, g2, g3, g4⟩
  · rintro b o' hb ⟨q, t, ht, g2, g3, g4⟩
    rcases split q t ht with ⟨rfl, rfl⟩ | ⟨_, h2⟩
    · rw [hr] at g4
      rw [hen] at g2 g3 g4
      exact ⟨k, t, hk, g2, g3, g4⟩
    · have e := he q (h.keys q t h2)
      rw [Seg.reach_congr e] at g4
      rw [e] at g2 g3 g4
      exact ⟨q, t, h2, g2, g3, g4⟩

theorem Tri.twin {k d n : Nat} {g : Seg} (hk : find s.m k = some g) (ho : g.own = false) (hx : g.nxt = false) (hd : find s.t d = some (.one (.s (.osl k n)))) (h : Tri P B cx sz base l ⟨(d, .one (.s (.osl s.nx n))) :: s.t, (s.nx, g) :: s.m, s.nx + 1⟩ R) : Tri P B cx sz base l s R := by
  intro hng hbs ρ a w hok
  have hp := PostM.twin hok.mem hk ho hx
  have hok2 := hok.post hp
  refine wpCs_mono (fun e a2 w2 q => Fin.of_later (hp.low hbs) (Nat.le_refl _) q) _ a w (h hng (by show base ≤ s.nx + 1; omega) (envN s.nx ρ (ρ k)) a w ⟨⟨fun i v hv => ?_, fun i v hv => ?_⟩, hok2.size, hok2.mem, hok2.noDefer⟩)
  · rw [find_cons] at hv
    by_cases e : d = i
    · rw [if_pos e] at hv
      cases hv
      subst e
      rw [hok.tm.val d _ hd]
      simp [SV.den, SV0.den, Sc.den, envN_at]
    · rw [if_neg e] at hv; exact hok2.tm.val i v hv
  · rw [find_cons] at hv
    by_cases e : d = i
    · rw [if_pos e] at hv; cases hv; simp [SV.lt, SV0.lt, Sc.lt]
    · rw [if_neg e] at hv; exact hok2.tm.wf i v hv
end
end Go.Sx
