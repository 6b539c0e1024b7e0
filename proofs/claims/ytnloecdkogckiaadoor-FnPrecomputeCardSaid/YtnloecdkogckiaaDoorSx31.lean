/- Calls walked into: the callee's body is run where it is called. Conditions: none; plain definitions and theorems over any program. -/
import Derived.Test.YtnloecdkogckiaaDoorSx30
set_option linter.unusedVariables false
namespace Go.Sx
open Go.RowKit

/-- a call by what one function's hook says, or by the others' -/
def hookC (f : FuncId) (h : List SV → Mem → Nat → Option Ef) (H : Hook) : Hook := fun g args m nx => bif Nat.beq g f then h args m nx else H g args m nx

/-- one function's hook tells the truth -/
def HkOk (P : Program) (B ng : Nat) (f : FuncId) (h : List SV → Mem → Nat → Option Ef) : Prop :=
  ∀ args m nx e, h args m nx = some e → (∀ p ∈ e.ob, p) → args.all (SV.lt nx) = true → FnOk P B ng f args m nx e ∧ KOk e m nx

theorem HookOk.cons {P : Program} {B ng : Nat} {f : FuncId} {h : List SV → Mem → Nat → Option Ef} {H : Hook} (h1 : HkOk P B ng f h) (hH : HookOk P B ng H) : HookOk P B ng (hookC f h H) := by
  intro g args m nx e he hob ha
  unfold hookC at he
  cases hb : Nat.beq g f with
  | true =>
    rw [hb, cond_true] at he
    have := Nat.eq_of_beq_eq_true hb
    subst this
    exact h1 args m nx e he hob ha
  | false =>
    rw [hb, cond_false] at he
    exact hH g args m nx e he hob ha

theorem HkOk.ct {P : Program} {B : Nat} {cx : Cx} {f : FuncId} {c : Ct} (hc : c.Ok P B cx.ng f) : HkOk P B cx.ng f (hookOf cx c) :=
  fun args m nx e h hob ha => hookOf_ok hc h hob ha

/-- nothing is ours -/
def disown : Mem → Mem
  | [] => []
  | (k, s) :: r => (k, { s with own := false }) :: disown r

theorem find_disown : ∀ (m : Mem) (k : Nat), find (disown m) k = (find m k).map fun s => { s with own := false }
  | [], k => rfl
  | (k', s) :: r, k => by
    simp only [disown, find_cons]
    by_cases h : k' = k
    · simp [h]
    · simp only [h, if_false]; exact find_disown r k

theorem disown_none {ρ : Env} {m : Mem} {b o : Nat} : ¬ Owns ρ (disown m) b o := by
  rintro ⟨k, s, hk, h, _⟩
  rw [find_disown, Option.map_eq_some_iff] at hk
  obtain ⟨s0, _, rfl⟩ := hk
  cases h

section
variable {P : Program} {B ng : Nat} {ρ : Env} {m : Mem} {nx : Nat} {w : World}

theorem MemOk.disown (h : MemOk B ng ρ m nx w) : MemOk B ng ρ (disown m) nx w := by
  have get : ∀ k s, find (Sx.disown m) k = some s → ∃ s0, find m k = some s0 ∧ s = { s0 with own := false } := fun k s hk => by
    rw [find_disown, Option.map_eq_some_iff] at hk
    obtain ⟨s0, h1, h2⟩ := hk
    exact ⟨s0, h1, h2.symm⟩
  refine ⟨fun k s hk => ?_, fun k s hk => ?_, fun k k' s s' hk hk' hne ho => ?_, h.base, h.glob, h.ng_le, fun k s hk => ?_⟩
  · obtain ⟨s0, h1, rfl⟩ := get k s hk; exact h.keys k s0 h1
  · obtain ⟨s0, h1, rfl⟩ := get k s hk
    have hs := h.segs k s0 h1
    exact ⟨fun a => (by cases a), hs.fixed, hs.cap, hs.nil, hs.cell, fun a => (by cases a), hs.next, fun _ a => (by cases a)⟩
  · obtain ⟨s0, h1, rfl⟩ := get k s hk
    obtain ⟨s1, h2, rfl⟩ := get k' s' hk'
    rcases ho with ho | ho <;> cases ho
  · obtain ⟨s0, h1, rfl⟩ := get k s hk; exact h.wf k s0 h1

/-- what only reads leaves the memory -/
theorem PostM.reads {ρ' : Env} {m' : Mem} {nx' : Nat} {w' : World} (h : MemOk B ng ρ m nx w) (hp : PostM B ng ρ (Sx.disown m) nx w ρ' m' nx' w') : PostM B ng ρ m nx w ρ m nx w' := by
  have hc : ∀ b o, b < w.heap.size → w'.cell? ⟨b, o, none⟩ = w.cell? ⟨b, o, none⟩ ∧ w'.frozen? ⟨b, o, none⟩ = w.frozen? ⟨b, o, none⟩ := fun b o hb => hp.frame.cell b o hb disown_none
  refine ⟨fun _ _ => rfl, ⟨h.keys, fun k s hk => (h.segs k s hk).congr fun j hj => hc _ _ ((h.segs k s hk).lt hj), h.dis, hp.ok.base, h.glob, h.ng_le, h.wf⟩, ⟨hp.frame.below, fun b o hb _ => hc b o hb⟩, fun _ _ _ h => h, fun _ _ _ h => h, Nat.le_refl _⟩

/-- what reads and makes: its new pieces stand beside the old ones -/
theorem PostM.news {ρ' : Env} {m' : Mem} {nx' : Nat} {w' : World} {L : List Seg} (h : MemOk B ng ρ m nx w) (hp : PostM B ng ρ (Sx.disown m) nx w ρ' m' nx' w') (hn : nx' = nx + L.length)
    (hL : ∀ i s, L[i]? = some s → find m' (nx + i) = some s ∧ s.own = true) : PostM B ng ρ m nx w ρ' (addM nx L m) nx' w' := by
  have hc : ∀ b o, b < w.heap.size → w'.cell? ⟨b, o, none⟩ = w.cell? ⟨b, o, none⟩ ∧ w'.frozen? ⟨b, o, none⟩ = w.frozen? ⟨b, o, none⟩ := fun b o hb => hp.frame.cell b o hb disown_none
  have old : MemOk B ng ρ m nx w' := ⟨h.keys, fun k s hk => (h.segs k s hk).congr fun j hj => hc _ _ ((h.segs k s hk).lt hj), h.dis, hp.ok.base, h.glob, h.ng_le, h.wf⟩
  have old' : MemOk B ng ρ' m nx' w' := old.env hp.ext hp.le
  have hsplit : ∀ (k : Nat) (s : Seg), find (addM nx L m) k = some s → (∃ i, k = nx + i ∧ i < L.length ∧ find m' k = some s ∧ s.own = true) ∨ (k < nx ∧ find m k = some s) := by
    intro k s hk
    rw [find_addM] at hk
    by_cases hr : nx ≤ k ∧ k < nx + L.length
    · rw [if_pos hr] at hk
      have := hL (k - nx) s hk
      rw [show nx + (k - nx) = k by omega] at this
      exact .inl ⟨k - nx, by omega, by omega, this⟩
    · rw [if_neg hr] at hk; exact .inr ⟨h.keys k s hk, hk⟩
  have hfresh : ∀ k s j, find m' k = some s → s.own = true → j < s.ext ρ' k → w.heap.size ≤ (ρ' k).blk := by
    intro k s j hk ho hj
    rcases Nat.lt_or_ge (ρ' k).blk w.heap.size with hb | hb
    · exact absurd (hp.sub _ ((ρ' k).off + j) hb ⟨k, s, hk, ho, rfl, by omega, by omega⟩) disown_none
    · exact hb
  have hreach : ∀ k (s : Seg), s.own = true → s.reach ρ' k = s.ext ρ' k := fun k s ho => by simp [Seg.reach, ho]
  have oldlt : ∀ k s j, k < nx → find m k = some s → j < s.reach ρ' k → (ρ' k).blk < w.heap.size := by
    intro k s j hk hs hj
    have e := hp.ext k hk
    rw [Seg.reach_congr e] at hj
    rw [e]
    exact (h.segs k s hs).lt hj
  have mixed : ∀ k s k' s', find m' k = some s → s.own = true → k' < nx → find m k' = some s' → Apart ρ' k s k' s' := by
    intro k s k' s' hk ho hk' hs'
    by_cases hz : 0 < s.reach ρ' k ∧ 0 < s'.reach ρ' k'
    · refine .inl ?_
      have a := hfresh k s 0 hk ho (by rw [← hreach k s ho]; exact hz.1)
      have b := oldlt k' s' 0 hk' hs' hz.2
      omega
    · exact .inr fun j j' hj hj' => absurd ⟨Nat.lt_of_le_of_lt (Nat.zero_le j) hj, Nat.lt_of_le_of_lt (Nat.zero_le j') hj'⟩ hz
  have symm : ∀ {k s k' s'}, Apart ρ' k s k' s' → Apart ρ' k' s' k s := fun {k s k' s'} hx => by
    rcases hx with hx | hx
    · exact .inl (Ne.symm hx)
    · exact .inr fun j j' hj hj' e => hx j' j hj' hj e.symm
  refine ⟨hp.ext, ⟨fun k s hk => ?_, fun k s hk => ?_, fun k k' s s' hk hk' hne ho => ?_, hp.ok.base, hp.ok.glob, hp.ok.ng_le, fun k s hk => ?_⟩, ⟨hp.frame.below, fun b o hb _ => hc b o hb⟩, ?_, ?_, hp.le⟩
  · rcases hsplit k s hk with ⟨i, rfl, hi, h1, h2⟩ | ⟨h1, h2⟩ <;> omega
  · rcases hsplit k s hk with ⟨i, rfl, hi, h1, h2⟩ | ⟨h1, h2⟩
    · exact hp.ok.segs _ s h1
    · exact old'.segs k s h2
  · rcases hsplit k s hk with ⟨i, e, hi, h1, h2⟩ | ⟨h1, h2⟩ <;> rcases hsplit k' s' hk' with ⟨i', e', hi', h1', h2'⟩ | ⟨h1', h2'⟩
    · exact hp.ok.dis k k' s s' h1 h1' hne ho
    · exact mixed k s k' s' h1 h2 h1' h2'
    · exact symm (mixed k' s' k s h1' h2' h1 h2)
    · exact old'.dis k k' s s' h2 h2' hne ho
  · rcases hsplit k s hk with ⟨i, e, hi, h1, h2⟩ | ⟨h1, h2⟩
    · exact hp.ok.wf k s h1
    · exact old'.wf k s h2
  · rintro b o hb ⟨k, s, hk, g1, g2, g3, g4⟩
    rcases hsplit k s hk with ⟨i, e, hi, h1, h2⟩ | ⟨h1, h2⟩
    · have := hfresh k s (o - (ρ' k).off) h1 g1 (by omega)
      omega
    · have e := hp.ext k h1
      rw [Seg.ext_congr e] at g4
      rw [e] at g2 g3 g4
      exact ⟨k, s, h2, g1, g2, g3, g4⟩
  · rintro b o hb ⟨k, s, hk, g2, g3, g4⟩
    rcases hsplit k s hk with ⟨i, e, hi, h1, h2⟩ | ⟨h1, h2⟩
    · rw [hreach k s h2] at g4
      have := hfresh k s (o - (ρ' k).off) h1 h2 (by omega)
      omega
    · have e := hp.ext k h1
      rw [Seg.reach_congr e] at g4
      rw [e] at g2 g3 g4
      exact ⟨k, s, h2, g2, g3, g4⟩
end

/-- the pieces at n keys from k on, all of our own -/
def grab (m : Mem) : Nat → Nat → Option (List Seg)
  | _, 0 => some []
  | k, n + 1 => match find m k, grab m (k + 1) n with
    | some s, some r => bif s.own then some (s :: r) else none
    | _, _ => none

theorem grab_spec {m : Mem} : ∀ {n k : Nat} {L : List Seg}, grab m k n = some L → L.length = n ∧ ∀ i s, L[i]? = some s → find m (k + i) = some s ∧ s.own = true
  | 0, k, L, h => by cases h; exact ⟨rfl, fun i s hs => by simp at hs⟩
  | n + 1, k, L, h => by
    simp only [grab] at h
    split at h <;> first | (cases h; done) | skip
    rename_i s r h1 h2
    cases hb : s.own with
    | false => rw [hb] at h; cases h
    | true =>
      rw [hb, cond_true] at h
      cases h
      obtain ⟨e, h3⟩ := grab_spec h2
      refine ⟨by simp [e], fun i t ht => ?_⟩
      cases i with
      | zero => simp at ht; subst ht; exact ⟨h1, hb⟩
      | succ i =>
        have := h3 i t (by simpa using ht)
        rw [show k + (i + 1) = k + 1 + i by omega]
        exact this

inductive Md where
  | read
  | new
  | eff

/-- a function that is walked into: its text, how many rounds its loops have at most, what it does to the memory -/
structure In where
  fn : Func
  c : Code
  lim : Nat
  md : Md
  orc : Orc

structure InOk (P : Program) (f : FuncId) (e : In) : Prop where
  at_ : P.funcs[f]? = some e.fn
  body : e.fn.body = some e.c
  name : (e.fn.name == "runtime.NumGoroutine") = false

def inRun (cx : Cx) (H : Hook) (e : In) (args : List SV) (m : Mem) (nx : Nat) : Option (SV × St × List Prop) :=
  bif Nat.ble args.length e.fn.ntmps then (match execL cx H e.fn.ntmps e.lim e.orc (flat e.c) ⟨enum 0 args, m, nx⟩ with
  | some (.x _, _, _) => none
  | some (_, s, ob) => (match resX cx s.t s.m e.fn.results.toList with
    | some (v, ob2) => some (v, s, ob ++ ob2)
    | none => none)
  | none => none) else none

def inl (cx : Cx) (H : Hook) (e : In) (args : List SV) (m : Mem) (nx : Nat) : Option Ef :=
  match e.md with
  | .eff => (match inRun cx H e args m nx with
    | some (v, s, ob) => bif v.lt s.nx then some ⟨v, s.m, s.nx, .eff, ob⟩ else none
    | none => none)
  | .read => (match inRun cx H e args (disown m) nx with
    | some (v, s, ob) => bif v.lt nx then some ⟨v, m, nx, .read, ob⟩ else none
    | none => none)
  | .new => (match inRun cx H e args (disown m) nx with
    | some (v, s, ob) => (match grab s.m nx (s.nx - nx) with
      | some L => bif v.lt s.nx && Nat.beq s.nx (nx + L.length) then some ⟨v, addM nx L m, s.nx, .new L, ob⟩ else none
      | none => none)
    | none => none)

section
variable {P : Program} {cx : Cx} {H : Hook} {B : Nat}

theorem inRun_spec (hmix : P.follows .mixedOrders = true) (hT : TysOk P cx.T) (hH : HookOk P B cx.ng H) {f : FuncId} {e : In} (he : InOk P f e) {args : List SV} {m : Mem} {nx : Nat} {v : SV} {s : St} {ob : List Prop}
    (h : inRun cx H e args m nx = some (v, s, ob)) (hob : ∀ p ∈ ob, p) (ha : args.all (SV.lt nx) = true) :
    (∀ args w, (callFunc f args).run P w = .ok (.enter f args) w) ∧
    ∀ ρ w, MemOk B cx.ng ρ m nx w → Calls P f (args.map (SV.den ρ)).toArray w fun en w' => ∃ ρ', en = .returned (v.den ρ') ∧ PostM B cx.ng ρ m nx w ρ' s.m s.nx w' := by
  unfold inRun at h
  cases hlen : Nat.ble args.length e.fn.ntmps with
  | false => rw [hlen] at h; cases h
  | true =>
    rw [hlen, cond_true] at h
    have hlen' := Nat.le_of_ble_eq_true hlen
    split at h <;> first | (cases h; done) | skip
    rename_i ex s1 ob1 hnx hex
    split at h <;> first | (cases h; done) | skip
    rename_i v1 ob2 hres
    cases h
    have hob1 : ∀ p ∈ ob1, p := fun p hp => hob p (by simp [hp])
    have hob2 : ∀ p ∈ ob2, p := fun p hp => hob p (by simp [hp])
    have hn := he.name
    refine ⟨fun args w => ?_, fun ρ w hm => ?_⟩
    · simp only [beq_eq_false_iff_ne, ne_eq] at hn
      simp [callFunc, he.at_, hn, he.body]
    · refine calls_of_wp he.at_ he.body (flat_wp e.c _ _ w ?_)
      rw [show flat e.c = flat e.c ++ [] by simp]
      refine execL_wp hmix hT hH (flat e.c) [] ⟨enum 0 args, m, nx⟩ s ex ob1 ρ _ w _ hex hob1 ⟨⟨fun d u hd => ?_, fun d u hd => ?_⟩, ?_, hm, rfl⟩ fun a' w' ⟨ρ', hok', hp'⟩ => ?_
      · obtain ⟨_, hd2⟩ := enum_spec args 0 d u hd
        rw [Nat.sub_zero] at hd2
        have hlt' : d < args.length := (List.getElem?_eq_some_iff.1 hd2).1
        have hget : args[d] = u := (List.getElem?_eq_some_iff.1 hd2).2
        simp [Array.getD_eq_getD_getElem?, Array.getElem?_append, hlt', hget]
      · obtain ⟨_, hd2⟩ := enum_spec args 0 d u hd
        rw [Nat.sub_zero] at hd2
        exact List.all_eq_true.1 ha u (List.mem_of_getElem? hd2)
      · simp; omega
      · obtain ⟨r1, r2⟩ := resX_run hT hok' hres hob2
        have hfin : bodyPost P e.fn (fun en w' => ∃ ρ', en = .returned (v.den ρ') ∧ PostM B cx.ng ρ m nx w ρ' s.m s.nx w') .ret a' w' := ⟨hok'.noDefer, _, r1, ρ', rfl, hp'⟩
        cases ex with
        | n => exact hfin
        | x i => exact (hnx i rfl).elim
        | r => exact hfin

theorem HkOk.inl (hmix : P.follows .mixedOrders = true) (hT : TysOk P cx.T) (hH : HookOk P B cx.ng H) {f : FuncId} {e : In} (he : InOk P f e) : HkOk P B cx.ng f (Sx.inl cx H e) := by
  intro args m nx ef h hob ha
  unfold Sx.inl at h
  split at h
  · split at h <;> first | (cases h; done) | skip
    rename_i v s ob hr
    cases hb : v.lt s.nx with
    | false => rw [hb] at h; cases h
    | true =>
      rw [hb, cond_true] at h
      cases h
      exact ⟨⟨hb, .inl (inRun_spec hmix hT hH he hr hob ha)⟩, trivial⟩
  · split at h <;> first | (cases h; done) | skip
    rename_i v s ob hr
    cases hb : v.lt nx with
    | false => rw [hb] at h; cases h
    | true =>
      rw [hb, cond_true] at h
      cases h
      obtain ⟨h1, h2⟩ := inRun_spec hmix hT hH he hr hob ha
      refine ⟨⟨hb, .inl ⟨h1, fun ρ w hm => (h2 ρ w hm.disown).mono fun en w' ⟨ρ', e1, hp⟩ => ⟨ρ, ?_, PostM.reads hm hp⟩⟩⟩, rfl, rfl⟩
      rw [e1, SV.den_congr hp.ext hb]
  · split at h <;> first | (cases h; done) | skip
    rename_i v s ob hr
    split at h <;> first | (cases h; done) | skip
    rename_i L hL
    cases hb : (v.lt s.nx && Nat.beq s.nx (nx + L.length)) with
    | false => rw [hb] at h; cases h
    | true =>
      rw [hb, cond_true] at h
      cases h
      simp only [Bool.and_eq_true] at hb
      have hn := Nat.eq_of_beq_eq_true hb.2
      obtain ⟨h1, h2⟩ := inRun_spec hmix hT hH he hr hob ha
      refine ⟨⟨hb.1, .inl ⟨h1, fun ρ w hm => (h2 ρ w hm.disown).mono fun en w' ⟨ρ', e1, hp⟩ => ⟨ρ', e1, PostM.news hm hp hn (grab_spec hL).2⟩⟩⟩, rfl, hn⟩
end
end Go.Sx
