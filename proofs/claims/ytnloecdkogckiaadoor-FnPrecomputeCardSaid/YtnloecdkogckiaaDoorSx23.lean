/- A contract proved at a small memory, used at a larger one: what is known afterwards. Conditions: none; plain definitions and theorems over any program. -/
import Derived.Test.YtnloecdkogckiaaDoorSx22
set_option linter.unusedVariables false
namespace Go.Sx
open Go.RowKit

/-- what the small memory's end makes of the large one -/
structure Back (ng nx NX : Nat) (m m' M M' : Mem) (κ ο : Nat → Nat) : Prop where
  keep : ∀ k s, find m k = some s → ∃ s', find m' k = some s' ∧ s'.own = s.own ∧ s'.grow = s.grow ∧ s'.n = s.n ∧ s'.d.len = s.d.len
  flat : ∀ k s', find m' k = some s' → ng ≤ k → s'.d.on noKey = true
  new : ∀ k s', find m' k = some s' → find m k = none → nx ≤ k ∧ s'.own = true
  old : ∀ K S, find M K = some S → (find M' K = some S ∧ ∀ k s, find m k = some s → ng ≤ k → 0 < s.n → s.own = true → κ k ≠ K) ∨
    ∃ k s s' D, find m k = some s ∧ ng ≤ k ∧ 0 < s.n ∧ s.own = true ∧ κ k = K ∧ find m' k = some s' ∧ find M' K = some (S.upd D) ∧ D.scs = splice S.d.scs (ο k) s'.d.scs ∧ D.len = S.d.len ∧ D.lt NX = true
  fresh : ∀ K S', find M' K = some S' → find M K = none → NX ≤ K ∧ find m' (nx + (K - NX)) = some S'

def envB (nx NX : Nat) (ρ ρs : Env) : Env := fun K => if K < NX then ρ K else ρs (nx + (K - NX))

section
variable {B ng nx nx' NX : Nat} {m m' M M' : Mem} {ρ ρs : Env} {loc : Nat → Loc} {κ ο : Nat → Nat} {w w' : World}

theorem View.post (V : View ng nx m M ρ loc κ ο) (h : MemOk B ng ρ M NX w) (hp : PostM B ng (envS ng ρ loc) m nx w ρs m' nx' w') (K : Back ng nx NX m m' M M' κ ο) :
    PostM B ng ρ M NX w (envB nx NX ρ ρs) M' (NX + (nx' - nx)) w' := by
  have hle := hp.le
  have lo : ∀ k, k < NX → envB nx NX ρ ρs k = ρ k := fun k hk => by simp [envB, hk]
  have hi : ∀ k, NX ≤ k → envB nx NX ρ ρs k = ρs (nx + (k - NX)) := fun k hk => by simp [envB, Nat.not_lt.2 hk]
  -- what the small memory owns or reaches lies in the large one's
  have ownUp : ∀ b o, Owns (envS ng ρ loc) m b o → ∃ k s S, find m k = some s ∧ ng ≤ k ∧ 0 < s.n ∧ s.own = true ∧ find M (κ k) = some S ∧ S.own = true ∧ S.grow = false ∧ ng ≤ κ k ∧ b = (ρ (κ k)).blk ∧
      (ρ (κ k)).off + ο k ≤ o ∧ o < (ρ (κ k)).off + ο k + s.n ∧ ο k + s.n ≤ S.n := by
    rintro b o ⟨k, s, hk, o1, b1, l1, u1⟩
    have hge : ng ≤ k := by
      rcases Nat.lt_or_ge k ng with hlt | hge
      · have := (V.gl k s hk hlt).2.1
        rw [o1] at this; cases this
      · exact hge
    have hr : s.ext (envS ng ρ loc) k = s.n := by simp [Seg.ext, (V.fix k s hk hge).1]
    rw [hr] at u1
    have hz : 0 < s.n := by omega
    obtain ⟨p1, p2, S, hS, p3, p4, p5⟩ := V.at_ k s hk hge hz
    obtain ⟨q1, q2, q3⟩ := p5 o1
    have hfix := (h.segs _ S hS).fixed q2
    rw [envS_hi hge] at b1 l1 u1
    exact ⟨k, s, S, hk, hge, hz, o1, hS, q1, q2, q3, by rw [← b1, p1], by omega, by omega, by omega⟩
  have ownM : ∀ b o, Owns (envS ng ρ loc) m b o → Owns ρ M b o := by
    intro b o ho
    obtain ⟨k, s, S, hk, hge, hz, o1, hS, q1, q2, q3, e1, e2, e3, e4⟩ := ownUp b o ho
    exact ⟨κ k, S, hS, q1, e1.symm, by omega, by simp only [Seg.ext, q2]; show o < (ρ (κ k)).off + S.n; omega⟩
  have reachM : ∀ b o, Reaches (envS ng ρ loc) m b o → Reaches ρ M b o := by
    rintro b o ⟨k, s, hk, b1, l1, u1⟩
    rcases Nat.lt_or_ge k ng with hlt | hge
    · have e : envS ng ρ loc k = ρ k := envS_lo hlt
      rw [Seg.reach_congr e] at u1
      rw [e] at b1 l1 u1
      exact ⟨k, s, (V.gl k s hk hlt).1, b1, l1, u1⟩
    · rw [V.reach hk hge] at u1
      rw [envS_hi hge] at b1 l1 u1
      obtain ⟨p1, p2, S, hS, p3, p4, p5⟩ := V.at_ k s hk hge (by omega)
      have hl := (h.segs _ S hS).len_le_reach
      exact ⟨κ k, S, hS, by rw [← b1, p1], by omega, by omega⟩
  have keepReach : ∀ (k : Nat) (s s' : Seg), find m k = some s → s'.own = s.own → s'.grow = s.grow → s'.n = s.n → s'.d.len = s.d.len → s'.reach ρs k = s.reach (envS ng ρ loc) k := by
    intro k s s' hk a1 a2 a3 a4
    have e := hp.ext k (V.dom k s hk)
    simp only [Seg.reach, Seg.ext, a1, a2, a3, a4, e]
  -- a new piece touches no old block
  have newFar : ∀ (k : Nat) (s' : Seg), find m' k = some s' → find m k = none → ∀ j, j < s'.reach ρs k → w.heap.size ≤ (ρs k).blk := by
    intro k s' hk hn j hj
    rcases Nat.lt_or_ge (ρs k).blk w.heap.size with hb | hb
    · exfalso
      obtain ⟨_, ho⟩ := K.new k s' hk hn
      have : Reaches ρs m' (ρs k).blk ((ρs k).off + j) := ⟨k, s', hk, rfl, by omega, by omega⟩
      obtain ⟨k2, s2, hk2, b2, l2, u2⟩ := hp.subR _ _ hb this
      obtain ⟨s2', hk2', a1, a2, a3, a4⟩ := K.keep k2 s2 hk2
      have hne : k ≠ k2 := fun e => by subst e; rw [hn] at hk2; cases hk2
      have e2 := hp.ext k2 (V.dom k2 s2 hk2)
      rcases hp.ok.dis k k2 s' s2' hk hk2' hne (.inl ho) with hx | hx
      · rw [e2] at hx; exact hx b2.symm
      · rw [e2] at hx
        exact hx j ((ρs k).off + j - (envS ng ρ loc k2).off) hj (by rw [keepReach k2 s2 s2' hk2 a1 a2 a3 a4]; omega) (by omega)
    · exact hb
  have oldLt : ∀ k S, find M k = some S → k < NX := h.keys
  have isNew : ∀ K' S', find M' K' = some S' → find M K' = none → NX ≤ K' ∧ find m' (nx + (K' - NX)) = some S' ∧ find m (nx + (K' - NX)) = none := by
    intro K' S' hk hn
    obtain ⟨a1, a2⟩ := K.fresh K' S' hk hn
    refine ⟨a1, a2, ?_⟩
    cases hm : find m (nx + (K' - NX)) with
    | none => rfl
    | some s => have := V.dom _ _ hm; omega
  -- an old piece, afterwards: the same extent
  have oldSame : ∀ (K' : Nat) (S S' : Seg), find M K' = some S → find M' K' = some S' → S'.own = S.own ∧ S'.grow = S.grow ∧ S'.n = S.n ∧ S'.d.len = S.d.len ∧ S'.nxt = S.nxt := by
    intro K' S S' hS hS'
    rcases K.old K' S hS with ⟨h1, _⟩ | ⟨k, s, s', D, _, _, _, _, _, _, h1, _, h2, _⟩
    · rw [h1] at hS'; cases hS'; exact ⟨rfl, rfl, rfl, rfl, rfl⟩
    · rw [h1] at hS'; cases hS'; exact ⟨rfl, rfl, rfl, h2, rfl⟩
  have oldReach : ∀ (K' : Nat) (S S' : Seg), find M K' = some S → find M' K' = some S' → S'.reach (envB nx NX ρ ρs) K' = S.reach ρ K' := by
    intro K' S S' hS hS'
    obtain ⟨a1, a2, a3, a4, _⟩ := oldSame K' S S' hS hS'
    simp only [Seg.reach, Seg.ext, a1, a2, a3, a4, lo K' (oldLt K' S hS)]
  -- a cell of an old piece that no own view of it holds is as it was
  have still : ∀ (K' : Nat) (S : Seg), find M K' = some S → ∀ j, j < S.reach ρ K' → (∀ k s, find m k = some s → ng ≤ k → 0 < s.n → s.own = true → κ k = K' → j < ο k ∨ ο k + s.n ≤ j) →
      w'.cell? ⟨(ρ K').blk, (ρ K').off + j, none⟩ = w.cell? ⟨(ρ K').blk, (ρ K').off + j, none⟩ ∧ w'.frozen? ⟨(ρ K').blk, (ρ K').off + j, none⟩ = w.frozen? ⟨(ρ K').blk, (ρ K').off + j, none⟩ := by
    intro K' S hS j hj hv
    refine hp.frame.cell _ _ ((h.segs K' S hS).lt hj) fun ho => ?_
    obtain ⟨k, s, S2, hk, hge, hz, o1, hS2, q1, q2, q3, e1, e2, e3, e4⟩ := ownUp _ _ ho
    by_cases hK : κ k = K'
    · subst hK
      rcases hv k s hk hge hz o1 rfl with hx | hx <;> omega
    · rcases h.dis K' (κ k) S S2 hS hS2 (fun e => hK e.symm) (.inr q1) with hx | hx
      · exact hx e1
      · exact hx j ((ρ K').off + j - (ρ (κ k)).off) hj (by simp only [Seg.reach, q1, if_true, Seg.ext, q2]; show _ < S2.n; omega) (by omega)
  have segs : ∀ (K' : Nat) (S' : Seg), find M' K' = some S' → SegOk B (envB nx NX ρ ρs) K' S' w' := by
    intro K' S' hS'
    cases hM : find M K' with
    | none =>
      obtain ⟨a1, a2, a3⟩ := isNew K' S' hS' hM
      have hs := hp.ok.segs _ S' a2
      have e := hi K' a1
      have hfl := K.flat _ S' a2 (by have := V.le; omega)
      refine ⟨fun a hp' => (by rw [e]; refine hs.ours a ?_; simpa only [Seg.ext, e] using hp'), hs.fixed, by rw [e]; exact hs.cap, by rw [e]; exact hs.nil, fun j x hx => ?_, fun a j hj => ?_, fun a => ?_, fun hg ho j z hz h1 h2 => by rw [e] at h2 ⊢; exact hs.zero hg ho j z hz h1 h2⟩
      · rw [e, hs.cell j x hx]
        exact congrArg some (Sc.flat_den (SegD.on_scs hfl x (List.mem_of_getElem? hx)) _ _)
      · rw [e]
        exact hs.room a j (by simpa only [Seg.ext, e] using hj)
      · rw [e, hi _ (by omega : NX ≤ K' + 1), show nx + (K' + 1 - NX) = nx + (K' - NX) + 1 by omega]
        exact hs.next a
    | some S =>
      have hlt := oldLt K' S hM
      have e := lo K' hlt
      have hs := h.segs K' S hM
      rcases K.old K' S hM with ⟨h1, hno⟩ | ⟨k, s, s', D, hk, hge, hz, ho, hK, hk', h1, hD, hDl, hDlt⟩
      · have e0 : S' = S := by rw [h1] at hS'; exact (Option.some.inj hS').symm
        rw [e0]
        have hs2 : SegOk B ρ K' S w' := hs.congr fun j hj => still K' S hM j hj fun k s hk hge hz ho hK => absurd hK (hno k s hk hge hz ho)
        exact hs2.env (nx := NX) (fun q hq => lo q hq) hlt (h.wf K' S hM)
      · rw [h1] at hS'; cases hS'
        subst hK
        obtain ⟨p1, p2, S2, hS2, p3, p4, p5⟩ := V.at_ k s hk hge hz
        have hSS : S2 = S := by rw [hM] at hS2; exact (Option.some.inj hS2).symm
        rw [hSS] at p3 p4 p5
        obtain ⟨q1, q2, q3⟩ := p5 ho
        have hfix := hs.fixed q2
        obtain ⟨s2', hk2', b1, b2, b3, b4⟩ := K.keep k s hk
        rw [hk'] at hk2'; cases hk2'
        have hfm := V.fix k s hk hge
        have hsm := hp.ok.segs k s' hk'
        have ek : ρs k = loc k := by rw [hp.ext k (V.dom k s hk), envS_hi hge]
        have hlen' : s'.d.scs.length = s.n := by rw [scs_length, b4, hfm.2.1]
        have hin : ∀ j, ο k ≤ j → j < ο k + s.n → (⟨(ρs k).blk, (ρs k).off + (j - ο k), none⟩ : Addr) = ⟨(ρ (κ k)).blk, (ρ (κ k)).off + j, none⟩ := by
          intro j h1 h2
          rw [ek, p1, p2, show (ρ (κ k)).off + ο k + (j - ο k) = (ρ (κ k)).off + j by omega]
        have hother : ∀ j, j < ο k ∨ ο k + s.n ≤ j → ∀ k2 s2, find m k2 = some s2 → ng ≤ k2 → 0 < s2.n → s2.own = true → κ k2 = κ k → j < ο k2 ∨ ο k2 + s2.n ≤ j := by
          intro j hj k2 s2 hk2 hge2 hz2 ho2 hK2
          by_cases hkk : k2 = k
          · subst hkk; rw [hk] at hk2; cases hk2; exact hj
          · have := (V.inj k2 k s2 s hk2 hk hge2 hge hkk hz2 hz hK2).1
            rw [ho2] at this; cases this
        have hsr : S.reach ρ (κ k) = S.n := by simp [Seg.reach, Seg.ext, q1, q2]
        refine ⟨fun _ hp' => ?_, fun _ => by rw [show (S.upd D).d = D from rfl, hDl]; exact hfix, ?_, ?_, fun j x hx => ?_, fun _ j hj => ?_, fun a => ?_, fun hg => by rw [show (S.upd D).grow = S.grow from rfl, q2] at hg; cases hg⟩
        · rw [e]; exact hs.ours q1 (by simpa only [Seg.ext, Seg.upd, e] using hp')
        · rw [e, show (S.upd D).d = D from rfl, hDl]; exact hs.cap
        · rw [e]; exact hs.nil
        · rw [e]
          have hx' : (splice S.d.scs (ο k) s'.d.scs)[j]? = some x := by rw [← hD]; exact hx
          have hspl : ο k + s'.d.scs.length ≤ S.d.scs.length := by rw [hlen', scs_length]; omega
          by_cases hj : ο k ≤ j ∧ j < ο k + s.n
          · have hg := splice_get_in S.d.scs (ο k) s'.d.scs hspl (j - ο k) (by omega)
            rw [show ο k + (j - ο k) = j by omega, hx'] at hg
            have hc := hsm.cell (j - ο k) x hg.symm
            rw [hin j hj.1 hj.2] at hc
            rw [hc]
            exact congrArg some (Sc.flat_den (SegD.on_scs (K.flat k s' hk' hge) x (List.mem_of_getElem? hg.symm)) _ _)
          · have hj' : j < ο k ∨ ο k + s.n ≤ j := by omega
            rw [splice_get_out S.d.scs (ο k) s'.d.scs hspl j (by rw [hlen']; exact hj')] at hx'
            have hjl : j < S.d.len := by rw [← scs_length]; exact (List.getElem?_eq_some_iff.1 hx').1
            rw [(still (κ k) S hM j (by rw [hsr]; omega) (hother j hj')).1, hs.cell j x hx']
            exact congrArg some (Sc.den_congr (fun q hq => lo q hq) (SegD.scs_lt (h.wf _ S hM).1 x (List.mem_of_getElem? hx'))).symm
        · rw [e]
          have hj2 : j < S.n := by simpa only [Seg.ext, Seg.upd, q2, Bool.false_eq_true, if_false] using hj
          by_cases hjj : ο k ≤ j ∧ j < ο k + s.n
          · have := hsm.room (by rw [b1]; exact ho) (j - ο k) (by simp only [Seg.ext, b2, hfm.1, b3]; show j - ο k < s.n; omega)
            rw [hin j hjj.1 hjj.2] at this
            exact this
          · have hj' : j < ο k ∨ ο k + s.n ≤ j := by omega
            obtain ⟨c1, c2⟩ := still (κ k) S hM j (by rw [hsr]; exact hj2) (hother j hj')
            obtain ⟨r1, v, r2⟩ := hs.room q1 j (by simpa only [Seg.ext, q2, Bool.false_eq_true, if_false] using hj2)
            exact ⟨by rw [c2]; exact r1, v, by rw [c1]; exact r2⟩
        · rw [e, lo _ ((h.wf _ S hM).2 a)]
          exact hs.next a
  refine ⟨fun k hk => lo k hk, ⟨fun K' S' hS' => ?_, segs, fun K1 K2 S1 S2 h1 h2 hne ho => ?_, hp.ok.base, fun g hg => ?_, by have := h.ng_le; omega, fun K' S' hS' => ?_⟩, ⟨hp.frame.below, fun b o hb hn => hp.frame.cell b o hb fun ho => hn (ownM b o ho)⟩, fun b o hb ⟨K', S', hS', r1, r2, r3, r4⟩ => ?_, fun b o hb ⟨K', S', hS', r2, r3, r4⟩ => ?_, by omega⟩
  · cases hM : find M K' with
    | some S => have := oldLt K' S hM; omega
    | none =>
      obtain ⟨a1, a2, a3⟩ := isNew K' S' hS' hM
      have := hp.ok.keys _ _ a2
      omega
  · -- apart
    have mixed : ∀ K1 K2 S1 S2 S0, find M' K1 = some S1 → find M K1 = none → find M' K2 = some S2 → find M K2 = some S0 → Apart (envB nx NX ρ ρs) K1 S1 K2 S2 := by
      intro K1 K2 S1 S2 S0 g1 n1 g2 g0
      obtain ⟨a1, a2, a3⟩ := isNew K1 S1 g1 n1
      have e1 := hi K1 a1
      have r1 : S1.reach (envB nx NX ρ ρs) K1 = S1.reach ρs (nx + (K1 - NX)) := by simp only [Seg.reach, Seg.ext, e1]
      unfold Apart
      by_cases hz : 0 < S1.reach ρs (nx + (K1 - NX)) ∧ 0 < S0.reach ρ K2
      · refine .inl ?_
        have f1 := newFar _ S1 a2 a3 0 hz.1
        have f2 := (h.segs K2 S0 g0).lt hz.2
        rw [e1, lo K2 (oldLt K2 S0 g0)]
        omega
      · refine .inr fun j j' hj hj' => ?_
        rw [r1] at hj
        rw [oldReach K2 S0 S2 g0 g2] at hj'
        omega
    cases hM1 : find M K1 with
    | none =>
      cases hM2 : find M K2 with
      | none =>
        obtain ⟨a1, a2, a3⟩ := isNew K1 S1 h1 hM1
        obtain ⟨b1, b2, b3⟩ := isNew K2 S2 h2 hM2
        have := hp.ok.dis _ _ S1 S2 a2 b2 (by omega) ho
        unfold Apart at *
        rw [hi K1 a1, hi K2 b1]
        have r1 : S1.reach (envB nx NX ρ ρs) K1 = S1.reach ρs (nx + (K1 - NX)) := by simp only [Seg.reach, Seg.ext, hi K1 a1]
        have r2 : S2.reach (envB nx NX ρ ρs) K2 = S2.reach ρs (nx + (K2 - NX)) := by simp only [Seg.reach, Seg.ext, hi K2 b1]
        rw [r1, r2]
        exact this
      | some S02 => exact mixed K1 K2 S1 S2 S02 h1 hM1 h2 hM2
    | some S01 =>
      cases hM2 : find M K2 with
      | none =>
        rcases mixed K2 K1 S2 S1 S01 h2 hM2 h1 hM1 with hx | hx
        · exact .inl (Ne.symm hx)
        · exact .inr fun j j' hj hj' e => hx j' j hj' hj e.symm
      | some S02 =>
        have o1 := (oldSame K1 S01 S1 hM1 h1).1
        have o2 := (oldSame K2 S02 S2 hM2 h2).1
        have := h.dis K1 K2 S01 S02 hM1 hM2 hne (by rw [← o1, ← o2]; exact ho)
        unfold Apart at *
        rw [lo K1 (oldLt K1 S01 hM1), lo K2 (oldLt K2 S02 hM2), oldReach K1 S01 S1 hM1 h1, oldReach K2 S02 S2 hM2 h2]
        exact this
  · rw [lo g (Nat.lt_of_lt_of_le hg h.ng_le)]; exact h.glob g hg
  · cases hM : find M K' with
    | some S =>
      have hw := h.wf K' S hM
      have hn : S'.nxt = S.nxt := (oldSame K' S S' hM hS').2.2.2.2
      refine ⟨?_, fun a => by have := hw.2 (by rw [← hn]; exact a); omega⟩
      rcases K.old K' S hM with ⟨h1, _⟩ | ⟨k, s, s', D, _, _, _, _, _, _, h1, _, h2, h3⟩
      · rw [h1] at hS'; cases hS'; exact SegD.lt_mono (by omega) hw.1
      · rw [h1] at hS'; cases hS'; exact SegD.lt_mono (by omega) h3
    | none =>
      obtain ⟨a1, a2, a3⟩ := isNew K' S' hS' hM
      have := (hp.ok.wf _ _ a2).2
      exact ⟨SegD.on_lt (p := noKey) (fun q hq => by cases hq) (K.flat _ S' a2 (by have := V.le; omega)), fun a => by have := this a; omega⟩
  · cases hM : find M K' with
    | some S =>
      obtain ⟨b1, b2, b3, b4, _⟩ := oldSame K' S S' hM hS'
      have e := lo K' (oldLt K' S hM)
      refine ⟨K', S, hM, by rw [← b1]; exact r1, by rw [← e]; exact r2, by rw [← e]; exact r3, ?_⟩
      simpa only [Seg.ext, b2, b3, e] using r4
    | none =>
      obtain ⟨a1, a2, a3⟩ := isNew K' S' hS' hM
      have e := hi K' a1
      rw [e] at r2 r3 r4
      refine ownM b o (hp.sub b o hb ⟨_, S', a2, r1, r2, r3, ?_⟩)
      simpa only [Seg.ext, e] using r4
  · cases hM : find M K' with
    | some S =>
      have e := lo K' (oldLt K' S hM)
      rw [oldReach K' S S' hM hS'] at r4
      rw [e] at r2 r3 r4
      exact ⟨K', S, hM, r2, r3, r4⟩
    | none =>
      obtain ⟨a1, a2, a3⟩ := isNew K' S' hS' hM
      have e := hi K' a1
      have r1 : S'.reach (envB nx NX ρ ρs) K' = S'.reach ρs (nx + (K' - NX)) := by simp only [Seg.reach, Seg.ext, e]
      rw [r1] at r4
      rw [e] at r2 r3 r4
      exact reachM b o (hp.subR b o hb ⟨_, S', a2, r2, r3, r4⟩)

end
end Go.Sx
