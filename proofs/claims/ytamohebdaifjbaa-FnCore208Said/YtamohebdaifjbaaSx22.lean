/- A contract proved at a small memory, used at a larger one: views. A contract proved at a small memory, used at a larger one: what is known afterwards. A contract proved at a small memory, used at a larger one: by tables of views. A contract proved at a small memory, used at a larger one: the rule. Conditions: none; plain definitions and theorems over any program. -/
import Derived.Test.YtamohebdaifjbaaSx18
set_option linter.unusedVariables false
namespace Go.Sx
open Go.RowKit

def noKey : Nat → Bool := fun _ => false

theorem Sc.flat_den {x : Sc} (h : x.on noKey = true) (ρ ρ' : Env) : x.den ρ' = x.den ρ := Sc.on_congr (p := noKey) (fun k hk => by cases hk) h

/-- key k of the small memory lies at loc k, which is in piece κ k of the large one, from ο k on -/
structure View (ng nx : Nat) (m M : Mem) (ρ : Env) (loc : Nat → Loc) (κ ο : Nat → Nat) : Prop where
  le : ng ≤ nx
  gl : ∀ k s, find m k = some s → k < ng → find M k = some s ∧ s.own = false ∧ s.d.lt ng = true ∧ s.nxt = false
  dom : ∀ k s, find m k = some s → k < nx
  fix : ∀ k s, find m k = some s → ng ≤ k → s.grow = false ∧ s.d.len = s.n ∧ s.d.on noKey = true
  cap : ∀ k s, find m k = some s → ng ≤ k → s.n ≤ (loc k).cap ∧ ((loc k).isNil = true → (loc k).cap = 0)
  nxt : ∀ k s, find m k = some s → ng ≤ k → s.nxt = true → k + 1 < nx ∧ (loc (k + 1)).blk = (loc k).blk ∧ (loc (k + 1)).off = (loc k).off + s.n
  at_ : ∀ k s, find m k = some s → ng ≤ k → 0 < s.n → (loc k).blk = (ρ (κ k)).blk ∧ (loc k).off = (ρ (κ k)).off + ο k ∧
    ∃ S, find M (κ k) = some S ∧ ο k + s.n ≤ S.d.len ∧ (∀ j x, s.d.scs[j]? = some x → S.d.scs[ο k + j]? = some x) ∧ (s.own = true → S.own = true ∧ S.grow = false ∧ ng ≤ κ k)
  inj : ∀ k k' s s', find m k = some s → find m k' = some s' → ng ≤ k → ng ≤ k' → k ≠ k' → 0 < s.n → 0 < s'.n → κ k = κ k' → s.own = false ∧ s'.own = false

def envS (ng : Nat) (ρ : Env) (loc : Nat → Loc) : Env := fun k => if k < ng then ρ k else loc k

section
variable {B ng nx NX : Nat} {m M : Mem} {ρ : Env} {loc : Nat → Loc} {κ ο : Nat → Nat} {w : World}

theorem envS_lo {k : Nat} (h : k < ng) : envS ng ρ loc k = ρ k := by simp [envS, h]
theorem envS_hi {k : Nat} (h : ng ≤ k) : envS ng ρ loc k = loc k := by simp [envS, Nat.not_lt.2 h]

theorem View.reach {V : View ng nx m M ρ loc κ ο} {k : Nat} {s : Seg} (hk : find m k = some s) (h : ng ≤ k) (r : Env) : s.reach r k = s.n := by
  obtain ⟨g, l, _⟩ := V.fix k s hk h
  unfold Seg.reach Seg.ext
  rw [g]
  cases s.own <;> simp [l]

/-- the cell of a view is a cell of the large memory's piece -/
theorem View.memOk (V : View ng nx m M ρ loc κ ο) (h : MemOk B ng ρ M NX w) : MemOk B ng (envS ng ρ loc) m nx w := by
  have glb : ∀ k, k < ng → envS ng ρ loc k = ρ k := fun k hk => envS_lo hk
  refine ⟨V.dom, fun k s hk => ?_, fun k k' s s' hk hk' hne ho => ?_, h.base, fun g hg => by rw [glb g hg]; exact h.glob g hg, V.le, fun k s hk => ?_⟩
  · rcases Nat.lt_or_ge k ng with hlt | hge
    · obtain ⟨g1, g2, g3, g4⟩ := V.gl k s hk hlt
      have h1 := h.segs k s g1
      have e := glb k hlt
      refine ⟨fun a => (by rw [g2] at a; cases a), h1.fixed, by rw [e]; exact h1.cap, by rw [e]; exact h1.nil, fun j x hx => ?_, fun a => (by rw [g2] at a; cases a), fun a => (by rw [g4] at a; cases a), fun _ a => (by rw [g2] at a; cases a)⟩
      rw [e, h1.cell j x hx]
      exact congrArg some (Sc.den_congr (fun q hq => glb q hq) (SegD.scs_lt g3 x (List.mem_of_getElem? hx))).symm
    · obtain ⟨f1, f2, f3⟩ := V.fix k s hk hge
      obtain ⟨c1, c2⟩ := V.cap k s hk hge
      have e : envS ng ρ loc k = loc k := envS_hi hge
      have hext : s.ext (envS ng ρ loc) k = s.n := by simp [Seg.ext, f1]
      refine ⟨fun a hp => ?_, fun _ => f2, by rw [e, f2]; exact c1, by rw [e]; exact c2, fun j x hx => ?_, fun a j hj => ?_, fun a => ?_, fun a => (by rw [f1] at a; cases a)⟩
      · rw [hext] at hp
        obtain ⟨p1, p2, S, hS, p3, p4, p5⟩ := V.at_ k s hk hge hp
        obtain ⟨q1, q2, q3⟩ := p5 a
        have hs := h.segs _ S hS
        rw [e, p1]
        refine hs.ours q1 ?_
        have := hs.fixed q2
        simp only [Seg.ext, q2]
        show 0 < S.n
        omega
      · have hj : j < s.n := by rw [← f2, ← scs_length]; exact (List.getElem?_eq_some_iff.1 hx).1
        obtain ⟨p1, p2, S, hS, p3, p4, p5⟩ := V.at_ k s hk hge (by omega)
        have hs := (h.segs _ S hS).cell (ο k + j) x (p4 j x hx)
        rw [e, p1, p2, Nat.add_assoc, hs]
        exact congrArg some (Sc.flat_den (SegD.on_scs f3 x (List.mem_of_getElem? hx)) _ _)
      · rw [hext] at hj
        obtain ⟨p1, p2, S, hS, p3, p4, p5⟩ := V.at_ k s hk hge (by omega)
        obtain ⟨q1, q2, q3⟩ := p5 a
        have hs := h.segs _ S hS
        have hfix := hs.fixed q2
        have := hs.room q1 (ο k + j) (by simp only [Seg.ext, q2]; show ο k + j < S.n; omega)
        rw [e, p1, p2, Nat.add_assoc]
        exact this
      · obtain ⟨n1, n2, n3⟩ := V.nxt k s hk hge a
        rw [e, envS_hi (by omega : ng ≤ k + 1)]
        exact ⟨n2, n3⟩
  · -- apart
    have side : ∀ k k' s s', find m k = some s → find m k' = some s' → k ≠ k' → ng ≤ k → s.own = true → Apart (envS ng ρ loc) k s k' s' := by
      intro k k' s s' hk hk' hne hge ho
      unfold Apart
      rw [V.reach hk hge]
      by_cases hz : 0 < s.n
      · obtain ⟨p1, p2, S, hS, p3, p4, p5⟩ := V.at_ k s hk hge hz
        obtain ⟨q1, q2, q3⟩ := p5 ho
        have hfix := (h.segs _ S hS).fixed q2
        have hreach : S.reach ρ (κ k) = S.n := by simp [Seg.reach, Seg.ext, q1, q2]
        rcases Nat.lt_or_ge k' ng with hlt | hge'
        · obtain ⟨g1, g2, g3, g4⟩ := V.gl k' s' hk' hlt
          have hd := h.dis (κ k) k' S s' hS g1 (by omega) (.inl q1)
          rw [envS_hi hge, envS_lo hlt, p1, p2]
          have e' : s'.reach (envS ng ρ loc) k' = s'.reach ρ k' := Seg.reach_congr (glb k' hlt)
          rcases hd with hd | hd
          · exact .inl hd
          · refine .inr fun j j' hj hj' => ?_
            rw [Nat.add_assoc]
            exact hd (ο k + j) j' (by omega) (by rw [← e']; exact hj')
        · rw [V.reach hk' hge', envS_hi hge, envS_hi hge']
          by_cases hz' : 0 < s'.n
          · obtain ⟨r1, r2, S', hS', r3, r4, r5⟩ := V.at_ k' s' hk' hge' hz'
            have hne' : κ k ≠ κ k' := fun e => by
              have := (V.inj k k' s s' hk hk' hge hge' hne hz hz' e).1
              rw [ho] at this; cases this
            have hd := h.dis _ _ S S' hS hS' hne' (.inl q1)
            have hl := (h.segs _ S' hS').len_le_reach
            rw [p1, p2, r1, r2]
            rcases hd with hd | hd
            · exact .inl hd
            · refine .inr fun j j' hj hj' => ?_
              rw [Nat.add_assoc, Nat.add_assoc]
              exact hd _ _ (by omega) (by omega)
          · exact .inr fun j j' hj hj' => by omega
      · exact .inr fun j j' hj hj' => by omega
    have own_ge : ∀ k s, find m k = some s → s.own = true → ng ≤ k := fun k s hk ho => by
      rcases Nat.lt_or_ge k ng with hlt | hge
      · have := (V.gl k s hk hlt).2.1
        rw [ho] at this; cases this
      · exact hge
    rcases ho with ho | ho
    · exact side k k' s s' hk hk' hne (own_ge k s hk ho) ho
    · rcases side k' k s' s hk' hk (Ne.symm hne) (own_ge k' s' hk' ho) ho with hx | hx
      · exact .inl (Ne.symm hx)
      · exact .inr fun j j' hj hj' e => hx j' j hj' hj e.symm
  · rcases Nat.lt_or_ge k ng with hlt | hge
    · obtain ⟨g1, g2, g3, g4⟩ := V.gl k s hk hlt
      exact ⟨SegD.lt_mono V.le g3, fun a => (by rw [g4] at a; cases a)⟩
    · exact ⟨SegD.on_lt (p := noKey) (fun q hq => by cases hq) (V.fix k s hk hge).2.2, fun a => (V.nxt k s hk hge a).1⟩

end
end Go.Sx

set_option linter.unusedVariables false
namespace Go.Sx
open Go.RowKit

/-- what the small memory's end makes of the large one -/
structure Back (ng nx NX : Nat) (m m' M M' : Mem) (κ ο : Nat → Nat) : Prop where
  keep : ∀ k s, find m k = some s → ∃ s', find m' k = some s' ∧ s'.own = s.own ∧ s'.grow = s.grow ∧ s'.n = s.n ∧ s'.d.len = s.d.len
  flat : ∀ k s', find m' k = some s' → ng ≤ k → s'.d.on noKey = true
  new : ∀ k s', find m' k = some s' → find m k = none → nx ≤ k ∧ s'.own = true
  old : ∀ K S, find M K = some S → (find M' K = some S ∧ ∀ k s, find m k = some s → ng ≤ k → 0 < s.n → s.own = true → κ k ≠ K) ∨
    ∃ k s s' D, find m k = some s ∧ ng ≤ k ∧ 0 < s.n ∧ s.own = true ∧ κ k = K ∧ find m' k = some s' ∧ find M' K = some (S.upd D) ∧ D.scs = splice S.d.scs (ο k) s'.d.scs ∧ D.len = S.d.len ∧ D.lt NX = true
  fresh : ∀ K S', find M' K = some S' → find M K = none → NX ≤ K ∧ find m' (nx + (K - NX)) = some S'

def envB (nx NX : Nat) (ρ ρs : Env) : Env := fun K => if K < NX then ρ K else ρs (nx + (K - NX))

section
variable {B ng nx nx' NX : Nat} {m m' M M' : Mem} {ρ ρs : Env} {loc : Nat → Loc} {κ ο : Nat → Nat} {w w' : World}

theorem View.post (V : View ng nx m M ρ loc κ ο) (h : MemOk B ng ρ M NX w) (hp : PostM B ng (envS ng ρ loc) m nx w ρs m' nx' w') (K : Back ng nx NX m m' M M' κ ο) :
    PostM B ng ρ M NX w (envB nx NX ρ ρs) M' (NX + (nx' - nx)) w' := by
  have hle := hp.le
  have lo : ∀ k, k < NX → envB nx NX ρ ρs k = ρ k := fun k hk => by simp [envB, hk]
  have hi : ∀ k, NX ≤ k → envB nx NX ρ ρs k = ρs (nx + (k - NX)) := fun k hk => by simp [envB, Nat.not_lt.2 hk]
  -- what the small memory owns or reaches lies in the large one's
  have ownUp : ∀ b o, Owns (envS ng ρ loc) m b o → ∃ k s S, find m k = some s ∧ ng ≤ k ∧ 0 < s.n ∧ s.own = true ∧ find M (κ k) = some S ∧ S.own = true ∧ S.grow = false ∧ ng ≤ κ k ∧ b = (ρ (κ k)).blk ∧
      (ρ (κ k)).off + ο k ≤ o ∧ o < (ρ (κ k)).off + ο k + s.n ∧ ο k + s.n ≤ S.n := by
    rintro b o ⟨k, s, hk, o1, b1, l1, u1⟩
    have hge : ng ≤ k := by
      rcases Nat.lt_or_ge k ng with hlt | hge
      · have := (V.gl k s hk hlt).2.1
        rw [o1] at this; cases this
      · exact hge
    have hr : s.ext (envS ng ρ loc) k = s.n := by simp [Seg.ext, (V.fix k s hk hge).1]
    rw [hr] at u1
    have hz : 0 < s.n := by omega
    obtain ⟨p1, p2, S, hS, p3, p4, p5⟩ := V.at_ k s hk hge hz
    obtain ⟨q1, q2, q3⟩ := p5 o1
    have hfix := (h.segs _ S hS).fixed q2
    rw [envS_hi hge] at b1 l1 u1
    exact ⟨k, s, S, hk, hge, hz, o1, hS, q1, q2, q3, by rw [← b1, p1], by omega, by omega, by omega⟩
  have ownM : ∀ b o, Owns (envS ng ρ loc) m b o → Owns ρ M b o := by
    intro b o ho
    obtain ⟨k, s, S, hk, hge, hz, o1, hS, q1, q2, q3, e1, e2, e3, e4⟩ := ownUp b o ho
    exact ⟨κ k, S, hS, q1, e1.symm, by omega, by simp only [Seg.ext, q2]; show o < (ρ (κ k)).off + S.n; omega⟩
  have reachM : ∀ b o, Reaches (envS ng ρ loc) m b o → Reaches ρ M b o := by
    rintro b o ⟨k, s, hk, b1, l1, u1⟩
    rcases Nat.lt_or_ge k ng with hlt | hge
    · have e : envS ng ρ loc k = ρ k := envS_lo hlt
      rw [Seg.reach_congr e] at u1
      rw [e] at b1 l1 u1
      exact ⟨k, s, (V.gl k s hk hlt).1, b1, l1, u1⟩
    · rw [V.reach hk hge] at u1
      rw [envS_hi hge] at b1 l1 u1
      obtain ⟨p1, p2, S, hS, p3, p4, p5⟩ := V.at_ k s hk hge (by omega)
      have hl := (h.segs _ S hS).len_le_reach
      exact ⟨κ k, S, hS, by rw [← b1, p1], by omega, by omega⟩
  have keepReach : ∀ (k : Nat) (s s' : Seg), find m k = some s → s'.own = s.own → s'.grow = s.grow → s'.n = s.n → s'.d.len = s.d.len → s'.reach ρs k = s.reach (envS ng ρ loc) k := by
    intro k s s' hk a1 a2 a3 a4
    have e := hp.ext k (V.dom k s hk)
    simp only [Seg.reach, Seg.ext, a1, a2, a3, a4, e]
  -- a new piece touches no old block
  have newFar : ∀ (k : Nat) (s' : Seg), find m' k = some s' → find m k = none → ∀ j, j < s'.reach ρs k → w.heap.size ≤ (ρs k).blk := by
    intro k s' hk hn j hj
    rcases Nat.lt_or_ge (ρs k).blk w.heap.size with hb | hb
    · exfalso
      obtain ⟨_, ho⟩ := K.new k s' hk hn
      have : Reaches ρs m' (ρs k).blk ((ρs k).off + j) := ⟨k, s', hk, rfl, by omega, by omega⟩
      obtain ⟨k2, s2, hk2, b2, l2, u2⟩ := hp.subR _ _ hb this
      obtain ⟨s2', hk2', a1, a2, a3, a4⟩ := K.keep k2 s2 hk2
      have hne : k ≠ k2 := fun e => by subst e; rw [hn] at hk2; cases hk2
      have e2 := hp.ext k2 (V.dom k2 s2 hk2)
      rcases hp.ok.dis k k2 s' s2' hk hk2' hne (.inl ho) with hx | hx
      · rw [e2] at hx; exact hx b2.symm
      · rw [e2] at hx
        exact hx j ((ρs k).off + j - (envS ng ρ loc k2).off) hj (by rw [keepReach k2 s2 s2' hk2 a1 a2 a3 a4]; omega) (by omega)
    · exact hb
  have oldLt : ∀ k S, find M k = some S → k < NX := h.keys
  have isNew : ∀ K' S', find M' K' = some S' → find M K' = none → NX ≤ K' ∧ find m' (nx + (K' - NX)) = some S' ∧ find m (nx + (K' - NX)) = none := by
    intro K' S' hk hn
    obtain ⟨a1, a2⟩ := K.fresh K' S' hk hn
    refine ⟨a1, a2, ?_⟩
    cases hm : find m (nx + (K' - NX)) with
    | none => rfl
    | some s => have := V.dom _ _ hm; omega
  -- an old piece, afterwards: the same extent
  have oldSame : ∀ (K' : Nat) (S S' : Seg), find M K' = some S → find M' K' = some S' → S'.own = S.own ∧ S'.grow = S.grow ∧ S'.n = S.n ∧ S'.d.len = S.d.len ∧ S'.nxt = S.nxt := by
    intro K' S S' hS hS'
    rcases K.old K' S hS with ⟨h1, _⟩ | ⟨k, s, s', D, _, _, _, _, _, _, h1, _, h2, _⟩
    · rw [h1] at hS'; cases hS'; exact ⟨rfl, rfl, rfl, rfl, rfl⟩
    · rw [h1] at hS'; cases hS'; exact ⟨rfl, rfl, rfl, h2, rfl⟩
  have oldReach : ∀ (K' : Nat) (S S' : Seg), find M K' = some S → find M' K' = some S' → S'.reach (envB nx NX ρ ρs) K' = S.reach ρ K' := by
    intro K' S S' hS hS'
    obtain ⟨a1, a2, a3, a4, _⟩ := oldSame K' S S' hS hS'
    simp only [Seg.reach, Seg.ext, a1, a2, a3, a4, lo K' (oldLt K' S hS)]
  -- a cell of an old piece that no own view of it holds is as it was
  have still : ∀ (K' : Nat) (S : Seg), find M K' = some S → ∀ j, j < S.reach ρ K' → (∀ k s, find m k = some s → ng ≤ k → 0 < s.n → s.own = true → κ k = K' → j < ο k ∨ ο k + s.n ≤ j) →
      w'.cell? ⟨(ρ K').blk, (ρ K').off + j, none⟩ = w.cell? ⟨(ρ K').blk, (ρ K').off + j, none⟩ ∧ w'.frozen? ⟨(ρ K').blk, (ρ K').off + j, none⟩ = w.frozen? ⟨(ρ K').blk, (ρ K').off + j, none⟩ := by
    intro K' S hS j hj hv
    refine hp.frame.cell _ _ ((h.segs K' S hS).lt hj) fun ho => ?_
    obtain ⟨k, s, S2, hk, hge, hz, o1, hS2, q1, q2, q3, e1, e2, e3, e4⟩ := ownUp _ _ ho
    by_cases hK : κ k = K'
    · subst hK
      rcases hv k s hk hge hz o1 rfl with hx | hx <;> omega
    · rcases h.dis K' (κ k) S S2 hS hS2 (fun e => hK e.symm) (.inr q1) with hx | hx
      · exact hx e1
      · exact hx j ((ρ K').off + j - (ρ (κ k)).off) hj (by simp only [Seg.reach, q1, if_true, Seg.ext, q2]; show _ < S2.n; omega) (by omega)
  have segs : ∀ (K' : Nat) (S' : Seg), find M' K' = some S' → SegOk B (envB nx NX ρ ρs) K' S' w' := by
    intro K' S' hS'
    cases hM : find M K' with
    | none =>
      obtain ⟨a1, a2, a3⟩ := isNew K' S' hS' hM
      have hs := hp.ok.segs _ S' a2
      have e := hi K' a1
      have hfl := K.flat _ S' a2 (by have := V.le; omega)
      refine ⟨fun a hp' => (by rw [e]; refine hs.ours a ?_; simpa only [Seg.ext, e] using hp'), hs.fixed, by rw [e]; exact hs.cap, by rw [e]; exact hs.nil, fun j x hx => ?_, fun a j hj => ?_, fun a => ?_, fun hg ho j z hz h1 h2 => by rw [e] at h2 ⊢; exact hs.zero hg ho j z hz h1 h2⟩
      · rw [e, hs.cell j x hx]
        exact congrArg some (Sc.flat_den (SegD.on_scs hfl x (List.mem_of_getElem? hx)) _ _)
      · rw [e]
        exact hs.room a j (by simpa only [Seg.ext, e] using hj)
      · rw [e, hi _ (by omega : NX ≤ K' + 1), show nx + (K' + 1 - NX) = nx + (K' - NX) + 1 by omega]
        exact hs.next a
    | some S =>
      have hlt := oldLt K' S hM
      have e := lo K' hlt
      have hs := h.segs K' S hM
      rcases K.old K' S hM with ⟨h1, hno⟩ | ⟨k, s, s', D, hk, hge, hz, ho, hK, hk', h1, hD, hDl, hDlt⟩
      · have e0 : S' = S := by rw [h1] at hS'; exact (Option.some.inj hS').symm
        rw [e0]
        have hs2 : SegOk B ρ K' S w' := hs.congr fun j hj => still K' S hM j hj fun k s hk hge hz ho hK => absurd hK (hno k s hk hge hz ho)
        exact hs2.env (nx := NX) (fun q hq => lo q hq) hlt (h.wf K' S hM)
      · rw [h1] at hS'; cases hS'
        subst hK
        obtain ⟨p1, p2, S2, hS2, p3, p4, p5⟩ := V.at_ k s hk hge hz
        have hSS : S2 = S := by rw [hM] at hS2; exact (Option.some.inj hS2).symm
        rw [hSS] at p3 p4 p5
        obtain ⟨q1, q2, q3⟩ := p5 ho
        have hfix := hs.fixed q2
        obtain ⟨s2', hk2', b1, b2, b3, b4⟩ := K.keep k s hk
        rw [hk'] at hk2'; cases hk2'
        have hfm := V.fix k s hk hge
        have hsm := hp.ok.segs k s' hk'
        have ek : ρs k = loc k := by rw [hp.ext k (V.dom k s hk), envS_hi hge]
        have hlen' : s'.d.scs.length = s.n := by rw [scs_length, b4, hfm.2.1]
        have hin : ∀ j, ο k ≤ j → j < ο k + s.n → (⟨(ρs k).blk, (ρs k).off + (j - ο k), none⟩ : Addr) = ⟨(ρ (κ k)).blk, (ρ (κ k)).off + j, none⟩ := by
          intro j h1 h2
          rw [ek, p1, p2, show (ρ (κ k)).off + ο k + (j - ο k) = (ρ (κ k)).off + j by omega]
        have hother : ∀ j, j < ο k ∨ ο k + s.n ≤ j → ∀ k2 s2, find m k2 = some s2 → ng ≤ k2 → 0 < s2.n → s2.own = true → κ k2 = κ k → j < ο k2 ∨ ο k2 + s2.n ≤ j := by
          intro j hj k2 s2 hk2 hge2 hz2 ho2 hK2
          by_cases hkk : k2 = k
          · subst hkk; rw [hk] at hk2; cases hk2; exact hj
          · have := (V.inj k2 k s2 s hk2 hk hge2 hge hkk hz2 hz hK2).1
            rw [ho2] at this; cases this
        have hsr : S.reach ρ (κ k) = S.n := by simp [Seg.reach, Seg.ext, q1, q2]
        refine ⟨fun _ hp' => ?_, fun _ => by rw [show (S.upd D).d = D from rfl, hDl]; exact hfix, ?_, ?_, fun j x hx => ?_, fun _ j hj => ?_, fun a => ?_, fun hg => by rw [show (S.upd D).grow = S.grow from rfl, q2] at hg; cases hg⟩
        · rw [e]; exact hs.ours q1 (by simpa only [Seg.ext, Seg.upd, e] using hp')
        · rw [e, show (S.upd D).d = D from rfl, hDl]; exact hs.cap
        · rw [e]; exact hs.nil
        · rw [e]
          have hx' : (splice S.d.scs (ο k) s'.d.scs)[j]? = some x := by rw [← hD]; exact hx
          have hspl : ο k + s'.d.scs.length ≤ S.d.scs.length := by rw [hlen', scs_length]; omega
          by_cases hj : ο k ≤ j ∧ j < ο k + s.n
          · have hg := splice_get_in S.d.scs (ο k) s'.d.scs hspl (j - ο k) (by omega)
            rw [show ο k + (j - ο k) = j by omega, hx'] at hg
            have hc := hsm.cell (j - ο k) x hg.symm
            rw [hin j hj.1 hj.2] at hc
            rw [hc]
            exact congrArg some (Sc.flat_den (SegD.on_scs (K.flat k s' hk' hge) x (List.mem_of_getElem? hg.symm)) _ _)
          · have hj' : j < ο k ∨ ο k + s.n ≤ j := by omega
            rw [splice_get_out S.d.scs (ο k) s'.d.scs hspl j (by rw [hlen']; exact hj')] at hx'
            have hjl : j < S.d.len := by rw [← scs_length]; exact (List.getElem?_eq_some_iff.1 hx').1
            rw [(still (κ k) S hM j (by rw [hsr]; omega) (hother j hj')).1, hs.cell j x hx']
            exact congrArg some (Sc.den_congr (fun q hq => lo q hq) (SegD.scs_lt (h.wf _ S hM).1 x (List.mem_of_getElem? hx'))).symm
        · rw [e]
          have hj2 : j < S.n := by simpa only [Seg.ext, Seg.upd, q2, Bool.false_eq_true, if_false] using hj
          by_cases hjj : ο k ≤ j ∧ j < ο k + s.n
          · have := hsm.room (by rw [b1]; exact ho) (j - ο k) (by simp only [Seg.ext, b2, hfm.1, b3]; show j - ο k < s.n; omega)
            rw [hin j hjj.1 hjj.2] at this
            exact this
          · have hj' : j < ο k ∨ ο k + s.n ≤ j := by omega
            obtain ⟨c1, c2⟩ := still (κ k) S hM j (by rw [hsr]; exact hj2) (hother j hj')
            obtain ⟨r1, v, r2⟩ := hs.room q1 j (by simpa only [Seg.ext, q2, Bool.false_eq_true, if_false] using hj2)
            exact ⟨by rw [c2]; exact r1, v, by rw [c1]; exact r2⟩
        · rw [e, lo _ ((h.wf _ S hM).2 a)]
          exact hs.next a
  refine ⟨fun k hk => lo k hk, ⟨fun K' S' hS' => ?_, segs, fun K1 K2 S1 S2 h1 h2 hne ho => ?_, hp.ok.base, fun g hg => ?_, by have := h.ng_le; omega, fun K' S' hS' => ?_⟩, ⟨hp.frame.below, fun b o hb hn => hp.frame.cell b o hb fun ho => hn (ownM b o ho)⟩, fun b o hb ⟨K', S', hS', r1, r2, r3, r4⟩ => ?_, fun b o hb ⟨K', S', hS', r2, r3, r4⟩ => ?_, by omega⟩
  · cases hM : find M K' with
    | some S => have := oldLt K' S hM; omega
    | none =>
      obtain ⟨a1, a2, a3⟩ := isNew K' S' hS' hM
      have := hp.ok.keys _ _ a2
      omega
  · -- apart
    have mixed : ∀ K1 K2 S1 S2 S0, find M' K1 = some S1 → find M K1 = none → find M' K2 = some S2 → find M K2 = some S0 → Apart (envB nx NX ρ ρs) K1 S1 K2 S2 := by
      intro K1 K2 S1 S2 S0 g1 n1 g2 g0
      obtain ⟨a1, a2, a3⟩ := isNew K1 S1 g1 n1
      have e1 := hi K1 a1
      have r1 : S1.reach (envB nx NX ρ ρs) K1 = S1.reach ρs (nx + (K1 - NX)) := by simp only [Seg.reach, Seg.ext, e1]
      unfold Apart
      by_cases hz : 0 < S1.reach ρs (nx + (K1 - NX)) ∧ 0 < S0.reach ρ K2
      · refine .inl ?_
        have f1 := newFar _ S1 a2 a3 0 hz.1
        have f2 := (h.segs K2 S0 g0).lt hz.2
        rw [e1, lo K2 (oldLt K2 S0 g0)]
        omega
      · refine .inr fun j j' hj hj' => ?_
        rw [r1] at hj
        rw [oldReach K2 S0 S2 g0 g2] at hj'
        omega
    cases hM1 : find M K1 with
    | none =>
      cases hM2 : find M K2 with
      | none =>
        obtain ⟨a1, a2, a3⟩ := isNew K1 S1 h1 hM1
        obtain ⟨b1, b2, b3⟩ := isNew K2 S2 h2 hM2
        have := hp.ok.dis _ _ S1 S2 a2 b2 (by omega) ho
        unfold Apart at *
        rw [hi K1 a1, hi K2 b1]
        have r1 : S1.reach (envB nx NX ρ ρs) K1 = S1.reach ρs (nx + (K1 - NX)) := by simp only [Seg.reach, Seg.ext, hi K1 a1]
        have r2 : S2.reach (envB nx NX ρ ρs) K2 = S2.reach ρs (nx + (K2 - NX)) := by simp only [Seg.reach, Seg.ext, hi K2 b1]
        rw [r1, r2]
        exact this
      | some S02 => exact mixed K1 K2 S1 S2 S02 h1 hM1 h2 hM2
    | some S01 =>
      cases hM2 : find M K2 with
      | none =>
        rcases mixed K2 K1 S2 S1 S01 h2 hM2 h1 hM1 with hx | hx
        · exact .inl (Ne.symm hx)
        · exact .inr fun j j' hj hj' e => hx j' j hj' hj e.symm
      | some S02 =>
        have o1 := (oldSame K1 S01 S1 hM1 h1).1
        have o2 := (oldSame K2 S02 S2 hM2 h2).1
        have := h.dis K1 K2 S01 S02 hM1 hM2 hne (by rw [← o1, ← o2]; exact ho)
        unfold Apart at *
        rw [lo K1 (oldLt K1 S01 hM1), lo K2 (oldLt K2 S02 hM2), oldReach K1 S01 S1 hM1 h1, oldReach K2 S02 S2 hM2 h2]
        exact this
  · rw [lo g (Nat.lt_of_lt_of_le hg h.ng_le)]; exact h.glob g hg
  · cases hM : find M K' with
    | some S =>
      have hw := h.wf K' S hM
      have hn : S'.nxt = S.nxt := (oldSame K' S S' hM hS').2.2.2.2
      refine ⟨?_, fun a => by have := hw.2 (by rw [← hn]; exact a); omega⟩
      rcases K.old K' S hM with ⟨h1, _⟩ | ⟨k, s, s', D, _, _, _, _, _, _, h1, _, h2, h3⟩
      · rw [h1] at hS'; cases hS'; exact SegD.lt_mono (by omega) hw.1
      · rw [h1] at hS'; cases hS'; exact SegD.lt_mono (by omega) h3
    | none =>
      obtain ⟨a1, a2, a3⟩ := isNew K' S' hS' hM
      have := (hp.ok.wf _ _ a2).2
      exact ⟨SegD.on_lt (p := noKey) (fun q hq => by cases hq) (K.flat _ S' a2 (by have := V.le; omega)), fun a => by have := this a; omega⟩
  · cases hM : find M K' with
    | some S =>
      obtain ⟨b1, b2, b3, b4, _⟩ := oldSame K' S S' hM hS'
      have e := lo K' (oldLt K' S hM)
      refine ⟨K', S, hM, by rw [← b1]; exact r1, by rw [← e]; exact r2, by rw [← e]; exact r3, ?_⟩
      simpa only [Seg.ext, b2, b3, e] using r4
    | none =>
      obtain ⟨a1, a2, a3⟩ := isNew K' S' hS' hM
      have e := hi K' a1
      rw [e] at r2 r3 r4
      refine ownM b o (hp.sub b o hb ⟨_, S', a2, r1, r2, r3, ?_⟩)
      simpa only [Seg.ext, e] using r4
  · cases hM : find M K' with
    | some S =>
      have e := lo K' (oldLt K' S hM)
      rw [oldReach K' S S' hM hS'] at r4
      rw [e] at r2 r3 r4
      exact ⟨K', S, hM, r2, r3, r4⟩
    | none =>
      obtain ⟨a1, a2, a3⟩ := isNew K' S' hS' hM
      have e := hi K' a1
      have r1 : S'.reach (envB nx NX ρ ρs) K' = S'.reach ρs (nx + (K' - NX)) := by simp only [Seg.reach, Seg.ext, e]
      rw [r1] at r4
      rw [e] at r2 r3 r4
      exact reachM b o (hp.subR b o hb ⟨_, S', a2, r2, r3, r4⟩)

end
end Go.Sx

set_option linter.unusedVariables false
namespace Go.Sx
open Go.RowKit

/-- where a piece of the small memory lies in the large one -/
inductive Vw where
  | cut (K o cap : Nat)
  | osl (K : Nat)
  | nil
  | whole (K : Nat)

def Vw.key : Vw → Nat
  | .cut K _ _ => K
  | .osl K => K
  | .nil => 0
  | .whole K => K

def Vw.off : Vw → Nat
  | .cut _ o _ => o
  | _ => 0

def Vw.loc (ρ : Env) : Vw → Loc
  | .cut K o cap => ⟨(ρ K).blk, (ρ K).off + o, cap, false⟩
  | .osl K => ρ K
  | .nil => ⟨0, 0, 0, true⟩
  | .whole K => ρ K

/-- a view and its piece -/
structure Pc where
  vw : Vw
  n : Nat
  d : SegD
  own : Bool
  nxt : Bool

def Pc.seg (p : Pc) : Seg := ⟨p.n, p.d, p.own, false, p.nxt⟩

def Pc.Fit (ng : Nat) (M : Mem) (p : Pc) : Prop :=
  p.d.len = p.n ∧ p.d.on noKey = true ∧ match p.vw with
  | .cut K o cap => p.nxt = false ∧ p.n ≤ cap ∧ (0 < p.n → ∃ S, find M K = some S ∧ o + p.n ≤ S.d.len ∧ p.d = S.d.sub o p.n ∧ (p.own = true → S.own = true ∧ S.grow = false ∧ ng ≤ K))
  | .osl K => p.nxt = false ∧ ∃ S, find M K = some S ∧ p.n ≤ S.d.len ∧ p.d = S.d.sub 0 p.n ∧ (p.own = true → S.own = true ∧ S.grow = false ∧ ng ≤ K)
  | .nil => p.nxt = false ∧ p.n = 0
  | .whole K => ∃ S, find M K = some S ∧ p.n = S.d.len ∧ p.d = S.d ∧ p.n = S.n ∧ (p.nxt = true → S.nxt = true) ∧ (p.own = true → S.own = true ∧ S.grow = false ∧ ng ≤ K)

/-- a chain of wholes -/
def Chain : List Pc → Prop
  | [] => True
  | p :: r => (p.nxt = true → ∃ q r', r = q :: r' ∧ ∃ K, p.vw = .whole K ∧ q.vw = .whole (K + 1)) ∧ Chain r

def Vw.isNil : Vw → Bool
  | .nil => true
  | _ => false

/-- two views that may touch the same cells are both only read -/
def aptB (p q : Pc) : Bool := bif p.own || q.own then (p.vw.isNil || q.vw.isNil || !Nat.beq p.vw.key q.vw.key) else true

def Apt : List Pc → Bool
  | [] => true
  | p :: r => r.all (aptB p) && Apt r

theorem aptB_spec {p q : Pc} (h : aptB p q = true) (hp : p.vw.isNil = false) (hq : q.vw.isNil = false) (e : p.vw.key = q.vw.key) : p.own = false ∧ q.own = false := by
  unfold aptB at h
  rw [hp, hq, e] at h
  have hb : Nat.beq q.vw.key q.vw.key = true := by simp
  rw [hb] at h
  cases h1 : p.own <;> cases h2 : q.own <;> rw [h1, h2] at h <;> first | exact ⟨rfl, rfl⟩ | cases h

theorem Apt.at_ : ∀ {l : List Pc}, Apt l = true → ∀ (i j : Nat) (p q : Pc), l[i]? = some p → l[j]? = some q → i ≠ j → p.vw.isNil = false → q.vw.isNil = false → p.vw.key = q.vw.key → p.own = false ∧ q.own = false
  | [], _, i, j, p, q, h, _, _, _, _, _ => by simp at h
  | x :: r, h, i, j, p, q, hi, hj, hne, h1, h2, h3 => by
    cases i with
    | zero =>
      cases j with
      | zero => exact absurd rfl hne
      | succ j =>
        simp only [List.getElem?_cons_zero, Option.some.injEq, List.getElem?_cons_succ] at hi hj
        subst hi
        simp only [Apt, Bool.and_eq_true] at h
        exact aptB_spec (List.all_eq_true.1 h.1 q (List.mem_of_getElem? hj)) h1 h2 h3
    | succ i =>
      cases j with
      | zero =>
        simp only [List.getElem?_cons_zero, Option.some.injEq, List.getElem?_cons_succ] at hi hj
        subst hj
        simp only [Apt, Bool.and_eq_true] at h
        exact (aptB_spec (List.all_eq_true.1 h.1 p (List.mem_of_getElem? hi)) h2 h1 h3.symm).symm
      | succ j =>
        simp only [List.getElem?_cons_succ] at hi hj
        simp only [Apt, Bool.and_eq_true] at h
        exact Apt.at_ h.2 i j p q hi hj (by omega) h1 h2 h3

theorem Chain.at_ : ∀ {l : List Pc}, Chain l → ∀ (i : Nat) (p : Pc), l[i]? = some p → p.nxt = true → ∃ q K, l[i + 1]? = some q ∧ p.vw = .whole K ∧ q.vw = .whole (K + 1)
  | [], _, i, p, h, _ => by simp at h
  | x :: r, h, i, p, hi, hn => by
    cases i with
    | zero =>
      simp only [List.getElem?_cons_zero, Option.some.injEq] at hi
      subst hi
      obtain ⟨q, r', e, K, h1, h2⟩ := h.1 hn
      subst e
      exact ⟨q, K, by simp, h1, h2⟩
    | succ i =>
      simp only [List.getElem?_cons_succ] at hi
      obtain ⟨q, K, h1, h2, h3⟩ := Chain.at_ h.2 i p hi hn
      exact ⟨q, K, by simpa using h1, h2, h3⟩

def locs (ng : Nat) (l : List Pc) (ρ : Env) (k : Nat) : Loc := match l[k - ng]? with
  | some p => p.vw.loc ρ
  | none => ⟨0, 0, 0, true⟩
def keys (ng : Nat) (l : List Pc) (k : Nat) : Nat := match l[k - ng]? with
  | some p => p.vw.key
  | none => 0
def offs' (ng : Nat) (l : List Pc) (k : Nat) : Nat := match l[k - ng]? with
  | some p => p.vw.off
  | none => 0

def smallM (ng : Nat) (l : List Pc) (mG : Mem) : Mem := addM ng (l.map Pc.seg) mG

theorem find_smallM {ng : Nat} {l : List Pc} {mG : Mem} {k : Nat} {s : Seg} (hG : ∀ k s, find mG k = some s → k < ng) (h : find (smallM ng l mG) k = some s) :
    (k < ng ∧ find mG k = some s) ∨ (ng ≤ k ∧ k < ng + l.length ∧ ∃ p, l[k - ng]? = some p ∧ s = p.seg) := by
  unfold smallM at h
  rw [find_addM, List.length_map] at h
  by_cases hr : ng ≤ k ∧ k < ng + l.length
  · rw [if_pos hr, List.getElem?_map, Option.map_eq_some_iff] at h
    obtain ⟨p, h1, h2⟩ := h
    exact .inr ⟨hr.1, hr.2, p, h1, h2.symm⟩
  · rw [if_neg hr] at h
    exact .inl ⟨hG k s h, h⟩

theorem sub_scs (d : SegD) (o n : Nat) : (d.sub o n).scs = (d.scs.drop o).take n := by
  cases d <;> simp [SegD.sub, SegD.scs, List.map_take, List.map_drop]

section
variable {B ng NX : Nat} {M mG : Mem} {ρ : Env} {w : World} {l : List Pc}

theorem View.of (hok : MemOk B ng ρ M NX w) (hG : ∀ k s, find mG k = some s → k < ng ∧ find M k = some s ∧ s.own = false ∧ s.d.lt ng = true ∧ s.nxt = false) (hfit : ∀ p ∈ l, p.Fit ng M) (hch : Chain l) (hap : Apt l = true) :
    View ng (ng + l.length) (smallM ng l mG) M ρ (locs ng l ρ) (keys ng l) (offs' ng l) := by
  have fs : ∀ {k s}, find (smallM ng l mG) k = some s → ng ≤ k → k < ng + l.length ∧ ∃ p, l[k - ng]? = some p ∧ s = p.seg ∧ p.Fit ng M ∧ locs ng l ρ k = p.vw.loc ρ ∧ keys ng l k = p.vw.key ∧ offs' ng l k = p.vw.off := by
    intro k s h hge
    rcases find_smallM (fun k s h => (hG k s h).1) h with ⟨h1, _⟩ | ⟨_, h2, p, h3, h4⟩
    · omega
    · exact ⟨h2, p, h3, h4, hfit p (List.mem_of_getElem? h3), by simp [locs, h3], by simp [keys, h3], by simp [offs', h3]⟩
  refine ⟨Nat.le_add_right _ _, fun k s hk hlt => ?_, fun k s hk => ?_, fun k s hk hge => ?_, fun k s hk hge => ?_, fun k s hk hge hn => ?_, fun k s hk hge hz => ?_, fun k k' s s' hk hk' hge hge' hne hz hz' he => ?_⟩
  · rcases find_smallM (fun k s h => (hG k s h).1) hk with ⟨_, h1⟩ | ⟨h1, _⟩
    · exact (hG k s h1).2
    · omega
  · rcases find_smallM (fun k s h => (hG k s h).1) hk with ⟨h1, _⟩ | ⟨_, h1, _⟩ <;> omega
  · obtain ⟨_, p, _, rfl, hf, _⟩ := fs hk hge
    exact ⟨rfl, hf.1, hf.2.1⟩
  · obtain ⟨_, p, _, rfl, ⟨f1, f2, f3⟩, e1, _⟩ := fs hk hge
    rw [e1]
    show p.n ≤ _ ∧ _
    cases hv : p.vw <;> rw [hv] at f3 <;> dsimp only at f3 <;> simp only [Vw.loc]
    · exact ⟨f3.2.1, fun h => by cases h⟩
    · obtain ⟨_, S, hS, h1, _⟩ := f3
      have hs := hok.segs _ S hS
      exact ⟨Nat.le_trans h1 hs.cap, hs.nil⟩
    · exact ⟨by omega, fun _ => trivial⟩
    · obtain ⟨S, hS, h1, _⟩ := f3
      have hs := hok.segs _ S hS
      exact ⟨by rw [h1]; exact hs.cap, hs.nil⟩
  · obtain ⟨_, p, hp, rfl, ⟨f1, f2, f3⟩, e1, _⟩ := fs hk hge
    obtain ⟨q, K, hq, hv, hv'⟩ := hch.at_ _ p hp hn
    have hl : k - ng + 1 < l.length := (List.getElem?_eq_some_iff.1 hq).1
    rw [hv] at f3
    obtain ⟨S, hS, h1, h2, h3, h4, _⟩ := f3
    have hs := (hok.segs _ S hS).next (h4 hn)
    refine ⟨by omega, ?_⟩
    have e2 : locs ng l ρ (k + 1) = q.vw.loc ρ := by simp [locs, show k + 1 - ng = k - ng + 1 by omega, hq]
    rw [e1, e2, hv, hv']
    simp only [Vw.loc]
    show _ ∧ _ = _ + p.n
    rw [h3]
    exact hs
  · obtain ⟨_, p, hp, rfl, ⟨f1, f2, f3⟩, e1, e2, e3⟩ := fs hk hge
    have hz' : 0 < p.n := hz
    have cells : ∀ (S : Seg) (o : Nat), p.d = S.d.sub o p.n → ∀ j x, p.seg.d.scs[j]? = some x → S.d.scs[o + j]? = some x := by
      intro S o hd j x hx
      have hx' : (S.d.sub o p.n).scs[j]? = some x := by rw [← hd]; exact hx
      rw [sub_scs] at hx'
      have hj : j < p.n := by
        have := (List.getElem?_eq_some_iff.1 hx').1
        simp at this; omega
      rw [List.getElem?_take_of_lt hj, List.getElem?_drop] at hx'
      exact hx'
    rw [e1, e2, e3]
    cases hv : p.vw <;> rw [hv] at f3 <;> dsimp only at f3 <;> simp only [Vw.loc, Vw.key, Vw.off]
    · obtain ⟨_, _, h3⟩ := f3
      obtain ⟨S, hS, h4, h5, h6⟩ := h3 hz'
      exact ⟨trivial, trivial, S, hS, h4, cells S _ h5, h6⟩
    · obtain ⟨_, S, hS, h4, h5, h6⟩ := f3
      exact ⟨trivial, rfl, S, hS, by show 0 + p.n ≤ _; omega, cells S 0 h5, h6⟩
    · omega
    · obtain ⟨S, hS, h1, h2, h3, h4, h6⟩ := f3
      refine ⟨trivial, rfl, S, hS, by show 0 + p.n ≤ _; omega, fun j x hx => ?_, h6⟩
      rw [Nat.zero_add, ← h2]; exact hx
  · obtain ⟨_, p, hp, rfl, ⟨_, _, f3⟩, _, e2, _⟩ := fs hk hge
    obtain ⟨_, p', hp', rfl, ⟨_, _, f3'⟩, _, e2', _⟩ := fs hk' hge'
    rw [e2, e2'] at he
    have hz1 : 0 < p.n := hz
    have hz2 : 0 < p'.n := hz'
    have n1 : p.vw.isNil = false := by
      cases hv : p.vw <;> first | rfl | skip
      rw [hv] at f3; have := f3.2; omega
    have n2 : p'.vw.isNil = false := by
      cases hv : p'.vw <;> first | rfl | skip
      rw [hv] at f3'; have := f3'.2; omega
    exact Apt.at_ hap _ _ p p' hp hp' (by omega) n1 n2 he

end
end Go.Sx

set_option linter.unusedVariables false
namespace Go.Sx
open Go.RowKit

def updP : List Pc → List SegD → List Pc
  | p :: r, d :: dr => { p with d := d } :: updP r dr
  | _, _ => []

/-- the large memory, with what our views hold afterwards -/
def upM : Mem → List Pc → List SegD → Option Mem
  | M, [], [] => some M
  | M, p :: r, d :: dr => bif p.own && !p.vw.isNil then (match find M p.vw.key with
    | some S => match S.d.spl p.vw.off d with
      | some D => upM (setM M p.vw.key D) r dr
      | none => none
    | none => none) else upM M r dr
  | _, _, _ => none

theorem upM_none : ∀ (l : List Pc) (ds : List SegD) (M M' : Mem), upM M l ds = some M' → ∀ K, find M K = none → find M' K = none
  | [], [], M, M', h, K, hK => by cases h; exact hK
  | p :: r, d :: dr, M, M', h, K, hK => by
    simp only [upM] at h
    cases hb : (p.own && !p.vw.isNil) with
    | false => rw [hb, cond_false] at h; exact upM_none r dr M M' h K hK
    | true =>
      rw [hb, cond_true] at h
      split at h <;> first | (cases h; done) | skip
      rename_i S hS
      split at h <;> first | (cases h; done) | skip
      rename_i D hD
      refine upM_none r dr _ M' h K ?_
      rw [find_setM]
      by_cases e : K = p.vw.key
      · subst e; rw [hS] at hK; cases hK
      · rw [if_neg e]; exact hK
  | [], _ :: _, _, _, h, _, _ => by cases h
  | _ :: _, [], _, _, h, _, _ => by cases h

theorem upM_spec : ∀ (l : List Pc) (ds : List SegD) (M M' : Mem), upM M l ds = some M' → Apt l = true → ∀ K S, find M K = some S →
    (find M' K = some S ∧ ∀ (i : Nat) (p : Pc), l[i]? = some p → p.own = true → p.vw.isNil = false → p.vw.key ≠ K) ∨
    ∃ (i : Nat) (p : Pc) (d D : SegD), l[i]? = some p ∧ ds[i]? = some d ∧ p.own = true ∧ p.vw.isNil = false ∧ p.vw.key = K ∧ S.d.spl p.vw.off d = some D ∧ find M' K = some (S.upd D)
  | [], [], M, M', h, _, K, S, hK => by cases h; exact .inl ⟨hK, fun i p hp => by simp at hp⟩
  | p :: r, d :: dr, M, M', h, hap, K, S, hK => by
    have hap' : Apt r = true := by simp only [Apt, Bool.and_eq_true] at hap; exact hap.2
    have lift : ∀ {M1 : Mem} {S1 : Seg}, ((∃ (i : Nat) (p : Pc) (d D : SegD), r[i]? = some p ∧ dr[i]? = some d ∧ p.own = true ∧ p.vw.isNil = false ∧ p.vw.key = K ∧ S1.d.spl p.vw.off d = some D ∧ find M' K = some (S1.upd D))) →
        ∃ (i : Nat) (q : Pc) (d' D : SegD), (p :: r)[i]? = some q ∧ (d :: dr)[i]? = some d' ∧ q.own = true ∧ q.vw.isNil = false ∧ q.vw.key = K ∧ S1.d.spl q.vw.off d' = some D ∧ find M' K = some (S1.upd D) := by
      rintro M1 S1 ⟨i, q, d', D, h1, h2, h3⟩
      exact ⟨i + 1, q, d', D, by simpa using h1, by simpa using h2, h3⟩
    simp only [upM] at h
    cases hb : (p.own && !p.vw.isNil) with
    | false =>
      rw [hb, cond_false] at h
      rcases upM_spec r dr M M' h hap' K S hK with ⟨h1, h2⟩ | h1
      · refine .inl ⟨h1, fun i q hq ho hn => ?_⟩
        cases i with
        | zero =>
          simp only [List.getElem?_cons_zero, Option.some.injEq] at hq
          subst hq
          rw [ho, hn] at hb; cases hb
        | succ i => exact h2 i q (by simpa using hq) ho hn
      · exact .inr (lift (M1 := M) h1)
    | true =>
      rw [hb, cond_true] at h
      simp only [Bool.and_eq_true, Bool.not_eq_true'] at hb
      split at h <;> first | (cases h; done) | skip
      rename_i S0 hS0
      split at h <;> first | (cases h; done) | skip
      rename_i D0 hD0
      by_cases e : K = p.vw.key
      · subst e
        rw [hK] at hS0; cases hS0
        have hK1 : find (setM M p.vw.key D0) p.vw.key = some (S.upd D0) := by rw [find_setM, if_pos rfl, hK]; rfl
        rcases upM_spec r dr _ M' h hap' p.vw.key _ hK1 with ⟨h1, h2⟩ | ⟨i, q, d', D, h1, h2, h3, h4, h5, _⟩
        · exact .inr ⟨0, p, d, D0, by simp, by simp, hb.1, hb.2, rfl, hD0, h1⟩
        · have := (Apt.at_ hap 0 (i + 1) p q (by simp) (by simpa using h1) (by omega) hb.2 h4 h5.symm).1
          rw [hb.1] at this; cases this
      · have hK1 : find (setM M p.vw.key D0) K = some S := by rw [find_setM, if_neg e]; exact hK
        rcases upM_spec r dr _ M' h hap' K S hK1 with ⟨h1, h2⟩ | h1
        · refine .inl ⟨h1, fun i q hq ho hn => ?_⟩
          cases i with
          | zero =>
            simp only [List.getElem?_cons_zero, Option.some.injEq] at hq
            subst hq
            exact fun e' => e e'.symm
          | succ i => exact h2 i q (by simpa using hq) ho hn
        · exact .inr (lift (M1 := M) h1)
  | [], _ :: _, _, _, h, _, _, _, _ => by cases h
  | _ :: _, [], _, _, h, _, _, _, _ => by cases h

theorem updP_get : ∀ (l : List Pc) (ds : List SegD), l.length = ds.length → (updP l ds).length = l.length ∧ ∀ (i : Nat) (p : Pc) (d : SegD), l[i]? = some p → ds[i]? = some d → (updP l ds)[i]? = some { p with d := d }
  | [], [], _ => ⟨rfl, fun i p d h => by simp at h⟩
  | p :: r, d :: dr, h => by
    obtain ⟨h1, h2⟩ := updP_get r dr (by simpa using h)
    refine ⟨by simp [updP, h1], fun i q d' hq hd => ?_⟩
    cases i with
    | zero => simp at hq hd; subst hq; subst hd; simp [updP]
    | succ i => simp only [List.getElem?_cons_succ] at hq hd; simp only [updP, List.getElem?_cons_succ]; exact h2 i q d' hq hd
  | [], _ :: _, h => by simp at h
  | _ :: _, [], h => by simp at h

section
variable {B ng NX : Nat} {M M1 mG : Mem} {w : World} {l : List Pc} {ds : List SegD} {L : List Seg}

theorem spl_nil {d e D : SegD} {o : Nat} (h : d.spl o e = some D) (he : e.len = 0) : D = d := by
  unfold SegD.spl at h
  split at h <;> first | (cases h; done) | skip
  all_goals
    cases h
    simp only [SegD.len, List.length_eq_zero_iff] at he
    subst he
    simp [splice]

theorem Back.of (hkM : ∀ k s, find M k = some s → k < NX ∧ s.d.lt NX = true) (hG : ∀ k s, find mG k = some s → k < ng) (hlen : l.length = ds.length) (hfit : ∀ p ∈ l, p.Fit ng M) (hap : Apt l = true)
    (hds : ∀ (i : Nat) (p : Pc) (d : SegD), l[i]? = some p → ds[i]? = some d → d.len = p.n ∧ d.on noKey = true) (hL : ∀ s ∈ L, s.own = true ∧ s.d.on noKey = true) (hup : upM M l ds = some M1) :
    Back ng (ng + l.length) NX (smallM ng l mG) (addM (ng + l.length) L (smallM ng (updP l ds) mG)) M (addM NX L M1) (keys ng l) (offs' ng l) := by
  obtain ⟨ul, ug⟩ := updP_get l ds hlen
  have dsGet : ∀ {i : Nat} {p : Pc}, l[i]? = some p → ∃ d, ds[i]? = some d := fun {i p} h => by
    have := (List.getElem?_eq_some_iff.1 h).1
    exact ⟨ds[i], by simp [show i < ds.length by omega]⟩
  -- lookups afterwards
  have lookV : ∀ {k : Nat} {p : Pc} {d : SegD}, ng ≤ k → k < ng + l.length → l[k - ng]? = some p → ds[k - ng]? = some d → find (addM (ng + l.length) L (smallM ng (updP l ds) mG)) k = some (Pc.seg { p with d := d }) := by
    intro k p d h1 h2 hp hd
    rw [find_addM, if_neg (by omega)]
    unfold smallM
    rw [find_addM, List.length_map, ul, if_pos ⟨h1, h2⟩, List.getElem?_map, ug _ p d hp hd]
    rfl
  have lookAt : ∀ {k : Nat} {s : Seg}, find (smallM ng l mG) k = some s → ng ≤ k → k < ng + l.length ∧ ∃ p, l[k - ng]? = some p ∧ s = p.seg := by
    intro k s h hge
    rcases find_smallM hG h with ⟨h1, _⟩ | ⟨_, h2, p, h3, h4⟩
    · omega
    · exact ⟨h2, p, h3, h4⟩
  have notNil : ∀ {p : Pc}, p ∈ l → 0 < p.n → p.vw.isNil = false := by
    intro p hp hz
    have f3 := (hfit p hp).2.2
    cases hv : p.vw <;> first | rfl | skip
    rw [hv] at f3; have := f3.2; omega
  have m1none : ∀ K, find M K = none → find M1 K = none := upM_none l ds M M1 hup
  refine ⟨fun k s hk => ?_, fun k s' hk hge => ?_, fun k s' hk hn => ?_, fun K S hK => ?_, fun K S' hK hn => ?_⟩
  · rcases find_smallM hG hk with ⟨h1, h2⟩ | ⟨h1, h2, p, h3, rfl⟩
    · refine ⟨s, ?_, rfl, rfl, rfl, rfl⟩
      rw [find_addM, if_neg (by omega)]
      unfold smallM
      rw [find_addM, if_neg (by omega)]
      exact h2
    · obtain ⟨d, hd⟩ := dsGet h3
      refine ⟨_, lookV h1 h2 h3 hd, rfl, rfl, rfl, ?_⟩
      show d.len = p.d.len
      rw [(hds _ p d h3 hd).1, (hfit p (List.mem_of_getElem? h3)).1]
  · by_cases hr : k < ng + l.length
    · have hp : ∃ p, l[k - ng]? = some p := ⟨l[k - ng], by simp [show k - ng < l.length by omega]⟩
      obtain ⟨p, hp⟩ := hp
      obtain ⟨d, hd⟩ := dsGet hp
      rw [lookV hge hr hp hd] at hk
      cases hk
      exact (hds _ p d hp hd).2
    · rw [find_addM] at hk
      by_cases hr2 : ng + l.length ≤ k ∧ k < ng + l.length + L.length
      · rw [if_pos hr2] at hk
        exact (hL s' (List.mem_of_getElem? hk)).2
      · rw [if_neg hr2] at hk
        rcases find_smallM hG hk with ⟨h1, h2⟩ | ⟨h1, h2, _⟩
        · omega
        · rw [ul] at h2; omega
  · by_cases hr2 : ng + l.length ≤ k ∧ k < ng + l.length + L.length
    · rw [find_addM, if_pos hr2] at hk
      exact ⟨hr2.1, (hL s' (List.mem_of_getElem? hk)).1⟩
    · exfalso
      rw [find_addM, if_neg hr2] at hk
      rcases find_smallM hG hk with ⟨h1, h2⟩ | ⟨h1, h2, _⟩
      · unfold smallM at hn
        rw [find_addM, if_neg (by omega), h2] at hn
        cases hn
      · rw [ul] at h2
        unfold smallM at hn
        rw [find_addM, List.length_map, if_pos ⟨h1, h2⟩, List.getElem?_map] at hn
        simp [show k - ng < l.length by omega] at hn
  · have hKlt := (hkM K S hK).1
    have hadd : find (addM NX L M1) K = find M1 K := by rw [find_addM, if_neg (by omega)]
    rcases upM_spec l ds M M1 hup hap K S hK with ⟨h1, h2⟩ | ⟨i, p, d, D, h1, h2, h3, h4, h5, h6, h7⟩
    · refine .inl ⟨by rw [hadd]; exact h1, fun k s hk hge hz ho => ?_⟩
      obtain ⟨_, p, hp, rfl⟩ := lookAt hk hge
      have := h2 _ p hp ho (notNil (List.mem_of_getElem? hp) hz)
      simpa [keys, hp] using this
    · obtain ⟨hdl, hdn⟩ := hds i p d h1 h2
      obtain ⟨sp1, sp2, sp3⟩ := SegD.spl_spec h6
      have hil : i < l.length := (List.getElem?_eq_some_iff.1 h1).1
      have hpf := (hfit p (List.mem_of_getElem? h1))
      by_cases hz : 0 < p.n
      · -- the view's own piece
        have hfin : p.vw.off + p.n ≤ S.d.len := by
          obtain ⟨f1, f2, f3⟩ := hpf
          cases hv : p.vw <;> rw [hv] at f3 h5 h4 <;> simp only [Vw.key, Vw.off] at *
          · obtain ⟨S2, hS2, q, _⟩ := f3.2.2 hz
            rw [h5] at hS2; rw [hK] at hS2; cases hS2; exact q
          · obtain ⟨_, S2, hS2, q, _⟩ := f3
            rw [h5] at hS2; rw [hK] at hS2; cases hS2; omega
          · cases h4
          · obtain ⟨S2, hS2, q, _⟩ := f3
            rw [h5] at hS2; rw [hK] at hS2; cases hS2; omega
        refine .inr ⟨ng + i, p.seg, Pc.seg { p with d := d }, D, ?_, by omega, hz, h3, ?_, ?_, by rw [hadd]; exact h7, ?_, sp2 (by rw [hdl]; exact hfin), ?_⟩
        · unfold smallM
          rw [find_addM, List.length_map, if_pos (by omega), List.getElem?_map, show ng + i - ng = i by omega, h1]; rfl
        · simp [keys, show ng + i - ng = i by omega, h1, h5]
        · exact lookV (by omega) (by omega) (by rw [show ng + i - ng = i by omega]; exact h1) (by rw [show ng + i - ng = i by omega]; exact h2)
        · rw [sp1]
          simp [offs', show ng + i - ng = i by omega, h1, Pc.seg]
        · exact sp3 NX (hkM K S hK).2 (SegD.on_lt (p := noKey) (fun q hq => by cases hq) hdn)
      · have hD := spl_nil h6 (by rw [hdl]; omega)
        subst hD
        refine .inl ⟨by rw [hadd]; exact h7, fun k s hk hge hz' ho => ?_⟩
        obtain ⟨_, p', hp', rfl⟩ := lookAt hk hge
        have hz2 : 0 < p'.n := hz'
        intro he
        have he' : p'.vw.key = K := by simpa [keys, hp'] using he
        have hne : i ≠ k - ng := fun e => by
          subst e
          rw [h1] at hp'; cases hp'
          exact hz hz2
        have := (Apt.at_ hap _ _ p p' h1 hp' hne h4 (notNil (List.mem_of_getElem? hp') hz2) (by rw [h5, he'])).1
        rw [h3] at this; cases this
  · by_cases hr : NX ≤ K ∧ K < NX + L.length
    · refine ⟨hr.1, ?_⟩
      rw [find_addM, if_pos hr] at hK
      rw [find_addM, if_pos (by omega), show ng + l.length + (K - NX) - (ng + l.length) = K - NX by omega]
      exact hK
    · rw [find_addM, if_neg hr, m1none K hn] at hK
      cases hK

end
end Go.Sx
