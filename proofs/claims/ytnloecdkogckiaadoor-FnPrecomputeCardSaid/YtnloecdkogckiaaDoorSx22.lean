/- A contract proved at a small memory, used at a larger one: views. Conditions: none; plain definitions and theorems over any program. -/
import Derived.Test.YtnloecdkogckiaaDoorSx21
set_option linter.unusedVariables false
namespace Go.Sx
open Go.RowKit

def noKey : Nat → Bool := fun _ => false

theorem Sc.flat_den {x : Sc} (h : x.on noKey = true) (ρ ρ' : Env) : x.den ρ' = x.den ρ := Sc.on_congr (p := noKey) (fun k hk => by cases hk) h

/-- key k of the small memory lies at loc k, which is in piece κ k of the large one, from ο k on -/
structure View (ng nx : Nat) (m M : Mem) (ρ : Env) (loc : Nat → Loc) (κ ο : Nat → Nat) : Prop where
  le : ng ≤ nx
  gl : ∀ k s, find m k = some s → k < ng → find M k = some s ∧ s.own = false ∧ s.d.lt ng = true ∧ s.nxt = false
  dom : ∀ k s, find m k = some s → k < nx
  fix : ∀ k s, find m k = some s → ng ≤ k → s.grow = false ∧ s.d.len = s.n ∧ s.d.on noKey = true
  cap : ∀ k s, find m k = some s → ng ≤ k → s.n ≤ (loc k).cap ∧ ((loc k).isNil = true → (loc k).cap = 0)
  nxt : ∀ k s, find m k = some s → ng ≤ k → s.nxt = true → k + 1 < nx ∧ (loc (k + 1)).blk = (loc k).blk ∧ (loc (k + 1)).off = (loc k).off + s.n
  at_ : ∀ k s, find m k = some s → ng ≤ k → 0 < s.n → (loc k).blk = (ρ (κ k)).blk ∧ (loc k).off = (ρ (κ k)).off + ο k ∧
    ∃ S, find M (κ k) = some S ∧ ο k + s.n ≤ S.d.len ∧ (∀ j x, s.d.scs[j]? = some x → S.d.scs[ο k + j]? = some x) ∧ (s.own = true → S.own = true ∧ S.grow = false ∧ ng ≤ κ k)
  inj : ∀ k k' s s', find m k = some s → find m k' = some s' → ng ≤ k → ng ≤ k' → k ≠ k' → 0 < s.n → 0 < s'.n → κ k = κ k' → s.own = false ∧ s'.own = false

def envS (ng : Nat) (ρ : Env) (loc : Nat → Loc) : Env := fun k => if k < ng then ρ k else loc k

section
variable {B ng nx NX : Nat} {m M : Mem} {ρ : Env} {loc : Nat → Loc} {κ ο : Nat → Nat} {w : World}

theorem envS_lo {k : Nat} (h : k < ng) : envS ng ρ loc k = ρ k := by simp [envS, h]
theorem envS_hi {k : Nat} (h : ng ≤ k) : envS ng ρ loc k = loc k := by simp [envS, Nat.not_lt.2 h]

theorem View.reach {V : View ng nx m M ρ loc κ ο} {k : Nat} {s : Seg} (hk : find m k = some s) (h : ng ≤ k) (r : Env) : s.reach r k = s.n := by
  obtain ⟨g, l, _⟩ := V.fix k s hk h
  unfold Seg.reach Seg.ext
  rw [g]
  cases s.own <;> simp [l]

/-- the cell of a view is a cell of the large memory's piece -/
theorem View.memOk (V : View ng nx m M ρ loc κ ο) (h : MemOk B ng ρ M NX w) : MemOk B ng (envS ng ρ loc) m nx w := by
  have glb : ∀ k, k < ng → envS ng ρ loc k = ρ k := fun k hk => envS_lo hk
  refine ⟨V.dom, fun k s hk => ?_, fun k k' s s' hk hk' hne ho => ?_, h.base, fun g hg => by rw [glb g hg]; exact h.glob g hg, V.le, fun k s hk => ?_⟩
  · rcases Nat.lt_or_ge k ng with hlt | hge
    · obtain ⟨g1, g2, g3, g4⟩ := V.gl k s hk hlt
      have h1 := h.segs k s g1
      have e := glb k hlt
      refine ⟨fun a => (by rw [g2] at a; cases a), h1.fixed, by rw [e]; exact h1.cap, by rw [e]; exact h1.nil, fun j x hx => ?_, fun a => (by rw [g2] at a; cases a), fun a => (by rw [g4] at a; cases a), fun _ a => (by rw [g2] at a; cases a)⟩
      rw [e, h1.cell j x hx]
      exact congrArg some (Sc.den_congr (fun q hq => glb q hq) (SegD.scs_lt g3 x (List.mem_of_getElem? hx))).symm
    · obtain ⟨f1, f2, f3⟩ := V.fix k s hk hge
      obtain ⟨c1, c2⟩ := V.cap k s hk hge
      have e : envS ng ρ loc k = loc k := envS_hi hge
      have hext : s.ext (envS ng ρ loc) k = s.n := by simp [Seg.ext, f1]
      refine ⟨fun a hp => ?_, fun _ => f2, by rw [e, f2]; exact c1, by rw [e]; exact c2, fun j x hx => ?_, fun a j hj => ?_, fun a => ?_, fun a => (by rw [f1] at a; cases a)⟩
      · rw [hext] at hp
        obtain ⟨p1, p2, S, hS, p3, p4, p5⟩ := V.at_ k s hk hge hp
        obtain ⟨q1, q2, q3⟩ := p5 a
        have hs := h.segs _ S hS
        rw [e, p1]
        refine hs.ours q1 ?_
        have := hs.fixed q2
        simp only [Seg.ext, q2]
        show 0 < S.n
        omega
      · have hj : j < s.n := by rw [← f2, ← scs_length]; exact (List.getElem?_eq_some_iff.1 hx).1
        obtain ⟨p1, p2, S, hS, p3, p4, p5⟩ := V.at_ k s hk hge (by omega)
        have hs := (h.segs _ S hS).cell (ο k + j) x (p4 j x hx)
        rw [e, p1, p2, Nat.add_assoc, hs]
        exact congrArg some (Sc.flat_den (SegD.on_scs f3 x (List.mem_of_getElem? hx)) _ _)
      · rw [hext] at hj
        obtain ⟨p1, p2, S, hS, p3, p4, p5⟩ := V.at_ k s hk hge (by omega)
        obtain ⟨q1, q2, q3⟩ := p5 a
        have hs := h.segs _ S hS
        have hfix := hs.fixed q2
        have := hs.room q1 (ο k + j) (by simp only [Seg.ext, q2]; show ο k + j < S.n; omega)
        rw [e, p1, p2, Nat.add_assoc]
        exact this
      · obtain ⟨n1, n2, n3⟩ := V.nxt k s hk hge a
        rw [e, envS_hi (by omega : ng ≤ k + 1)]
        exact ⟨n2, n3⟩
  · -- apart
    have side : ∀ k k' s s', find m k = some s → find m k' = some s' → k ≠ k' → ng ≤ k → s.own = true → Apart (envS ng ρ loc) k s k' s' := by
      intro k k' s s' hk hk' hne hge ho
      unfold Apart
      rw [V.reach hk hge]
      by_cases hz : 0 < s.n
      · obtain ⟨p1, p2, S, hS, p3, p4, p5⟩ := V.at_ k s hk hge hz
        obtain ⟨q1, q2, q3⟩ := p5 ho
        have hfix := (h.segs _ S hS).fixed q2
        have hreach : S.reach ρ (κ k) = S.n := by simp [Seg.reach, Seg.ext, q1, q2]
        rcases Nat.lt_or_ge k' ng with hlt | hge'
        · obtain ⟨g1, g2, g3, g4⟩ := V.gl k' s' hk' hlt
          have hd := h.dis (κ k) k' S s' hS g1 (by omega) (.inl q1)
          rw [envS_hi hge, envS_lo hlt, p1, p2]
          have e' : s'.reach (envS ng ρ loc) k' = s'.reach ρ k' := Seg.reach_congr (glb k' hlt)
          rcases hd with hd | hd
          · exact .inl hd
          · refine .inr fun j j' hj hj' => ?_
            rw [Nat.add_assoc]
            exact hd (ο k + j) j' (by omega) (by rw [← e']; exact hj')
        · rw [V.reach hk' hge', envS_hi hge, envS_hi hge']
          by_cases hz' : 0 < s'.n
          · obtain ⟨r1, r2, S', hS', r3, r4, r5⟩ := V.at_ k' s' hk' hge' hz'
            have hne' : κ k ≠ κ k' := fun e => by
              have := (V.inj k k' s s' hk hk' hge hge' hne hz hz' e).1
              rw [ho] at this; cases this
            have hd := h.dis _ _ S S' hS hS' hne' (.inl q1)
            have hl := (h.segs _ S' hS').len_le_reach
            rw [p1, p2, r1, r2]
            rcases hd with hd | hd
            · exact .inl hd
            · refine .inr fun j j' hj hj' => ?_
              rw [Nat.add_assoc, Nat.add_assoc]
              exact hd _ _ (by omega) (by omega)
          · exact .inr fun j j' hj hj' => by omega
      · exact .inr fun j j' hj hj' => by omega
    have own_ge : ∀ k s, find m k = some s → s.own = true → ng ≤ k := fun k s hk ho => by
      rcases Nat.lt_or_ge k ng with hlt | hge
      · have := (V.gl k s hk hlt).2.1
        rw [ho] at this; cases this
      · exact hge
    rcases ho with ho | ho
    · exact side k k' s s' hk hk' hne (own_ge k s hk ho) ho
    · rcases side k' k s' s hk' hk (Ne.symm hne) (own_ge k' s' hk' ho) ho with hx | hx
      · exact .inl (Ne.symm hx)
      · exact .inr fun j j' hj hj' e => hx j' j hj' hj e.symm
  · rcases Nat.lt_or_ge k ng with hlt | hge
    · obtain ⟨g1, g2, g3, g4⟩ := V.gl k s hk hlt
      exact ⟨SegD.lt_mono V.le g3, fun a => (by rw [g4] at a; cases a)⟩
    · exact ⟨SegD.on_lt (p := noKey) (fun q hq => by cases hq) (V.fix k s hk hge).2.2, fun a => (V.nxt k s hk hge a).1⟩

end
end Go.Sx
