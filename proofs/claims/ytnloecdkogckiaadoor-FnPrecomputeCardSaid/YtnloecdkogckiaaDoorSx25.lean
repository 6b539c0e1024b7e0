/- A contract proved at a small memory, used at a larger one: the rule. Conditions: none; plain definitions and theorems over any program. -/
import Derived.Test.YtnloecdkogckiaaDoorSx24
set_option linter.unusedVariables false
namespace Go.Sx
open Go.RowKit

def updP : List Pc → List SegD → List Pc
  | p :: r, d :: dr => { p with d := d } :: updP r dr
  | _, _ => []

/-- the large memory, with what our views hold afterwards -/
def upM : Mem → List Pc → List SegD → Option Mem
  | M, [], [] => some M
  | M, p :: r, d :: dr => bif p.own && !p.vw.isNil then (match find M p.vw.key with
    | some S => match S.d.spl p.vw.off d with
      | some D => upM (setM M p.vw.key D) r dr
      | none => none
    | none => none) else upM M r dr
  | _, _, _ => none

theorem upM_none : ∀ (l : List Pc) (ds : List SegD) (M M' : Mem), upM M l ds = some M' → ∀ K, find M K = none → find M' K = none
  | [], [], M, M', h, K, hK => by cases h; exact hK
  | p :: r, d :: dr, M, M', h, K, hK => by
    simp only [upM] at h
    cases hb : (p.own && !p.vw.isNil) with
    | false => rw [hb, cond_false] at h; exact upM_none r dr M M' h K hK
    | true =>
      rw [hb, cond_true] at h
      split at h <;> first | (cases h; done) | skip
      rename_i S hS
      split at h <;> first | (cases h; done) | skip
      rename_i D hD
      refine upM_none r dr _ M' h K ?_
      rw [find_setM]
      by_cases e : K = p.vw.key
      · subst e; rw [hS] at hK; cases hK
      · rw [if_neg e]; exact hK
  | [], _ :: _, _, _, h, _, _ => by cases h
  | _ :: _, [], _, _, h, _, _ => by cases h

theorem upM_spec : ∀ (l : List Pc) (ds : List SegD) (M M' : Mem), upM M l ds = some M' → Apt l = true → ∀ K S, find M K = some S →
    (find M' K = some S ∧ ∀ (i : Nat) (p : Pc), l[i]? = some p → p.own = true → p.vw.isNil = false → p.vw.key ≠ K) ∨
    ∃ (i : Nat) (p : Pc) (d D : SegD), l[i]? = some p ∧ ds[i]? = some d ∧ p.own = true ∧ p.vw.isNil = false ∧ p.vw.key = K ∧ S.d.spl p.vw.off d = some D ∧ find M' K = some (S.upd D)
  | [], [], M, M', h, _, K, S, hK => by cases h; exact .inl ⟨hK, fun i p hp => by simp at hp⟩
  | p :: r, d :: dr, M, M', h, hap, K, S, hK => by
    have hap' : Apt r = true := by simp only [Apt, Bool.and_eq_true] at hap; exact hap.2
    have lift : ∀ {M1 : Mem} {S1 : Seg}, ((∃ (i : Nat) (p : Pc) (d D : SegD), r[i]? = some p ∧ dr[i]? = some d ∧ p.own = true ∧ p.vw.isNil = false ∧ p.vw.key = K ∧ S1.d.spl p.vw.off d = some D ∧ find M' K = some (S1.upd D))) →
        ∃ (i : Nat) (q : Pc) (d' D : SegD), (p :: r)[i]? = some q ∧ (d :: dr)[i]? = some d' ∧ q.own = true ∧ q.vw.isNil = false ∧ q.vw.key = K ∧ S1.d.spl q.vw.off d' = some D ∧ find M' K = some (S1.upd D) := by
      rintro M1 S1 ⟨i, q, d', D, h1, h2, h3⟩
      exact ⟨i + 1, q, d', D, by simpa using h1, by simpa using h2, h3⟩
    simp only [upM] at h
    cases hb : (p.own && !p.vw.isNil) with
    | false =>
      rw [hb, cond_false] at h
      rcases upM_spec r dr M M' h hap' K S hK with ⟨h1, h2⟩ | h1
      · refine .inl ⟨h1, fun i q hq ho hn => ?_⟩
        cases i with
        | zero =>
          simp only [List.getElem?_cons_zero, Option.some.injEq] at hq
          subst hq
          rw [ho, hn] at hb; cases hb
        | succ i => exact h2 i q (by simpa using hq) ho hn
      · exact .inr (lift (M1 := M) h1)
    | true =>
      rw [hb, cond_true] at h
      simp only [Bool.and_eq_true, Bool.not_eq_true'] at hb
      split at h <;> first | (cases h; done) | skip
      rename_i S0 hS0
      split at h <;> first | (cases h; done) | skip
      rename_i D0 hD0
      by_cases e : K = p.vw.key
      · subst e
        rw [hK] at hS0; cases hS0
        have hK1 : find (setM M p.vw.key D0) p.vw.key = some (S.upd D0) := by rw [find_setM, if_pos rfl, hK]; rfl
        rcases upM_spec r dr _ M' h hap' p.vw.key _ hK1 with ⟨h1, h2⟩ | ⟨i, q, d', D, h1, h2, h3, h4, h5, _⟩
        · exact .inr ⟨0, p, d, D0, by simp, by simp, hb.1, hb.2, rfl, hD0, h1⟩
        · have := (Apt.at_ hap 0 (i + 1) p q (by simp) (by simpa using h1) (by omega) hb.2 h4 h5.symm).1
          rw [hb.1] at this; cases this
      · have hK1 : find (setM M p.vw.key D0) K = some S := by rw [find_setM, if_neg e]; exact hK
        rcases upM_spec r dr _ M' h hap' K S hK1 with ⟨h1, h2⟩ | h1
        · refine .inl ⟨h1, fun i q hq ho hn => ?_⟩
          cases i with
          | zero =>
            simp only [List.getElem?_cons_zero, Option.some.injEq] at hq
            subst hq
            exact fun e' => e e'.symm
          | succ i => exact h2 i q (by simpa using hq) ho hn
        · exact .inr (lift (M1 := M) h1)
  | [], _ :: _, _, _, h, _, _, _, _ => by cases h
  | _ :: _, [], _, _, h, _, _, _, _ => by cases h

theorem updP_get : ∀ (l : List Pc) (ds : List SegD), l.length = ds.length → (updP l ds).length = l.length ∧ ∀ (i : Nat) (p : Pc) (d : SegD), l[i]? = some p → ds[i]? = some d → (updP l ds)[i]? = some { p with d := d }
  | [], [], _ => ⟨rfl, fun i p d h => by simp at h⟩
  | p :: r, d :: dr, h => by
    obtain ⟨h1, h2⟩ := updP_get r dr (by simpa using h)
    refine ⟨by simp [updP, h1], fun i q d' hq hd => ?_⟩
    cases i with
    | zero => simp at hq hd; subst hq; subst hd; simp [updP]
    | succ i => simp only [List.getElem?_cons_succ] at hq hd; simp only [updP, List.getElem?_cons_succ]; exact h2 i q d' hq hd
  | [], _ :: _, h => by simp at h
  | _ :: _, [], h => by simp at h

section
variable {B ng NX : Nat} {M M1 mG : Mem} {w : World} {l : List Pc} {ds : List SegD} {L : List Seg}

theorem spl_nil {d e D : SegD} {o : Nat} (h : d.spl o e = some D) (he : e.len = 0) : D = d := by
  unfold SegD.spl at h
  split at h <;> first | (cases h; done) | skip
  all_goals
    cases h
    simp only [SegD.len, List.length_eq_zero_iff] at he
    subst he
    simp [splice]

theorem Back.of (hkM : ∀ k s, find M k = some s → k < NX ∧ s.d.lt NX = true) (hG : ∀ k s, find mG k = some s → k < ng) (hlen : l.length = ds.length) (hfit : ∀ p ∈ l, p.Fit ng M) (hap : Apt l = true)
    (hds : ∀ (i : Nat) (p : Pc) (d : SegD), l[i]? = some p → ds[i]? = some d → d.len = p.n ∧ d.on noKey = true) (hL : ∀ s ∈ L, s.own = true ∧ s.d.on noKey = true) (hup : upM M l ds = some M1) :
    Back ng (ng + l.length) NX (smallM ng l mG) (addM (ng + l.length) L (smallM ng (updP l ds) mG)) M (addM NX L M1) (keys ng l) (offs' ng l) := by
  obtain ⟨ul, ug⟩ := updP_get l ds hlen
  have dsGet : ∀ {i : Nat} {p : Pc}, l[i]? = some p → ∃ d, ds[i]? = some d := fun {i p} h => by
    have := (List.getElem?_eq_some_iff.1 h).1
    exact ⟨ds[i], by simp [show i < ds.length by omega]⟩
  -- lookups afterwards
  have lookV : ∀ {k : Nat} {p : Pc} {d : SegD}, ng ≤ k → k < ng + l.length → l[k - ng]? = some p → ds[k - ng]? = some d → find (addM (ng + l.length) L (smallM ng (updP l ds) mG)) k = some (Pc.seg { p with d := d }) := by
    intro k p d h1 h2 hp hd
    rw [find_addM, if_neg (by omega)]
    unfold smallM
    rw [find_addM, List.length_map, ul, if_pos ⟨h1, h2⟩, List.getElem?_map, ug _ p d hp hd]
    rfl
  have lookAt : ∀ {k : Nat} {s : Seg}, find (smallM ng l mG) k = some s → ng ≤ k → k < ng + l.length ∧ ∃ p, l[k - ng]? = some p ∧ s = p.seg := by
    intro k s h hge
    rcases find_smallM hG h with ⟨h1, _⟩ | ⟨_, h2, p, h3, h4⟩
    · omega
    · exact ⟨h2, p, h3, h4⟩
  have notNil : ∀ {p : Pc}, p ∈ l → 0 < p.n → p.vw.isNil = false := by
    intro p hp hz
    have f3 := (hfit p hp).2.2
    cases hv : p.vw <;> first | rfl | skip
    rw [hv] at f3; have := f3.2; omega
  have m1none : ∀ K, find M K = none → find M1 K = none := upM_none l ds M M1 hup
  refine ⟨fun k s hk => ?_, fun k s' hk hge => ?_, fun k s' hk hn => ?_, fun K S hK => ?_, fun K S' hK hn => ?_⟩
  · rcases find_smallM hG hk with ⟨h1, h2⟩ | ⟨h1, h2, p, h3, rfl⟩
    · refine ⟨s, ?_, rfl, rfl, rfl, rfl⟩
      rw [find_addM, if_neg (by omega)]
      unfold smallM
      rw [find_addM, if_neg (by omega)]
      exact h2
    · obtain ⟨d, hd⟩ := dsGet h3
      refine ⟨_, lookV h1 h2 h3 hd, rfl, rfl, rfl, ?_⟩
      show d.len = p.d.len
      rw [(hds _ p d h3 hd).1, (hfit p (List.mem_of_getElem? h3)).1]
  · by_cases hr : k < ng + l.length
    · have hp : ∃ p, l[k - ng]? = some p := ⟨l[k - ng], by simp [show k - ng < l.length by omega]⟩
      obtain ⟨p, hp⟩ := hp
      obtain ⟨d, hd⟩ := dsGet hp
      rw [lookV hge hr hp hd] at hk
      cases hk
      exact (hds _ p d hp hd).2
    · rw [find_addM] at hk
      by_cases hr2 : ng + l.length ≤ k ∧ k < ng + l.length + L.length
      · rw [if_pos hr2] at hk
        exact (hL s' (List.mem_of_getElem? hk)).2
      · rw [if_neg hr2] at hk
        rcases find_smallM hG hk with ⟨h1, h2⟩ | ⟨h1, h2, _⟩
        · omega
        · rw [ul] at h2; omega
  · by_cases hr2 : ng + l.length ≤ k ∧ k < ng + l.length + L.length
    · rw [find_addM, if_pos hr2] at hk
      exact ⟨hr2.1, (hL s' (List.mem_of_getElem? hk)).1⟩
    · exfalso
      rw [find_addM, if_neg hr2] at hk
      rcases find_smallM hG hk with ⟨h1, h2⟩ | ⟨h1, h2, _⟩
      · unfold smallM at hn
        rw [find_addM, if_neg (by omega), h2] at hn
        cases hn
      · rw [ul] at h2
        unfold smallM at hn
        rw [find_addM, List.length_map, if_pos ⟨h1, h2⟩, List.getElem?_map] at hn
        simp [show k - ng < l.length by omega] at hn
  · have hKlt := (hkM K S hK).1
    have hadd : find (addM NX L M1) K = find M1 K := by rw [find_addM, if_neg (by omega)]
    rcases upM_spec l ds M M1 hup hap K S hK with ⟨h1, h2⟩ | ⟨i, p, d, D, h1, h2, h3, h4, h5, h6, h7⟩
    · refine .inl ⟨by rw [hadd]; exact h1, fun k s hk hge hz ho => ?_⟩
      obtain ⟨_, p, hp, rfl⟩ := lookAt hk hge
      have := h2 _ p hp ho (notNil (List.mem_of_getElem? hp) hz)
      simpa [keys, hp] using this
    · obtain ⟨hdl, hdn⟩ := hds i p d h1 h2
      obtain ⟨sp1, sp2, sp3⟩ := SegD.spl_spec h6
      have hil : i < l.length := (List.getElem?_eq_some_iff.1 h1).1
      have hpf := (hfit p (List.mem_of_getElem? h1))
      by_cases hz : 0 < p.n
      · -- the view's own piece
        have hfin : p.vw.off + p.n ≤ S.d.len := by
          obtain ⟨f1, f2, f3⟩ := hpf
          cases hv : p.vw <;> rw [hv] at f3 h5 h4 <;> simp only [Vw.key, Vw.off] at *
          · obtain ⟨S2, hS2, q, _⟩ := f3.2.2 hz
            rw [h5] at hS2; rw [hK] at hS2; cases hS2; exact q
          · obtain ⟨_, S2, hS2, q, _⟩ := f3
            rw [h5] at hS2; rw [hK] at hS2; cases hS2; omega
          · cases h4
          · obtain ⟨S2, hS2, q, _⟩ := f3
            rw [h5] at hS2; rw [hK] at hS2; cases hS2; omega
        refine .inr ⟨ng + i, p.seg, Pc.seg { p with d := d }, D, ?_, by omega, hz, h3, ?_, ?_, by rw [hadd]; exact h7, ?_, sp2 (by rw [hdl]; exact hfin), ?_⟩
        · unfold smallM
          rw [find_addM, List.length_map, if_pos (by omega), List.getElem?_map, show ng + i - ng = i by omega, h1]; rfl
        · simp [keys, show ng + i - ng = i by omega, h1, h5]
        · exact lookV (by omega) (by omega) (by rw [show ng + i - ng = i by omega]; exact h1) (by rw [show ng + i - ng = i by omega]; exact h2)
        · rw [sp1]
          simp [offs', show ng + i - ng = i by omega, h1, Pc.seg]
        · exact sp3 NX (hkM K S hK).2 (SegD.on_lt (p := noKey) (fun q hq => by cases hq) hdn)
      · have hD := spl_nil h6 (by rw [hdl]; omega)
        subst hD
        refine .inl ⟨by rw [hadd]; exact h7, fun k s hk hge hz' ho => ?_⟩
        obtain ⟨_, p', hp', rfl⟩ := lookAt hk hge
        have hz2 : 0 < p'.n := hz'
        intro he
        have he' : p'.vw.key = K := by simpa [keys, hp'] using he
        have hne : i ≠ k - ng := fun e => by
          subst e
          rw [h1] at hp'; cases hp'
          exact hz hz2
        have := (Apt.at_ hap _ _ p p' h1 hp' hne h4 (notNil (List.mem_of_getElem? hp') hz2) (by rw [h5, he'])).1
        rw [h3] at this; cases this
  · by_cases hr : NX ≤ K ∧ K < NX + L.length
    · refine ⟨hr.1, ?_⟩
      rw [find_addM, if_pos hr] at hK
      rw [find_addM, if_pos (by omega), show ng + l.length + (K - NX) - (ng + l.length) = K - NX by omega]
      exact hK
    · rw [find_addM, if_neg hr, m1none K hn] at hK
      cases hK

end
end Go.Sx
