/- Calls at one known memory; calls of functions that give back values alone. Conditions: none; plain definitions and theorems over any program. -/
import Derived.Test.YtnloecdkogckiaaDoorSx37
set_option linter.unusedVariables false
namespace Go.Sx
open Go.RowKit

/-- a call at the very arguments and the very memory that a contract names -/
def hookAt (args0 : List SV) (m0 : Mem) (nx0 : Nat) (v : SV) (m1 : Mem) (nx1 : Nat) (args : List SV) (m : Mem) (nx : Nat) : Option Ef :=
  bif v.lt nx1 then some ⟨v, m1, nx1, .eff, [args = args0, m = m0, nx = nx0]⟩ else none
theorem HkOk.at_ {P : Program} {B ng : Nat} {f : FuncId} {args0 : List SV} {m0 : Mem} {nx0 : Nat} {v : SV} {m1 : Mem} {nx1 : Nat} (h : FnE P B ng f args0 m0 nx0 ⟨v, m1, nx1, .eff, []⟩) : HkOk P B ng f (hookAt args0 m0 nx0 v m1 nx1) := by
  intro args m nx e he hob ha
  unfold hookAt at he
  cases hb : v.lt nx1 with
  | false => rw [hb] at he; cases he
  | true =>
    rw [hb, cond_true] at he
    cases he
    have e1 : args = args0 := hob (args = args0) (by simp)
    have e2 : m = m0 := hob (m = m0) (by simp)
    have e3 : nx = nx0 := hob (nx = nx0) (by simp)
    subst e1 e2 e3
    exact ⟨⟨hb, .inl h⟩, trivial⟩

/-- what a quiet call reads: nothing of it is ours -/
def quietB (nx0 : Nat) (m0 : Mem) : Bool := m0.all fun p => !p.2.own && (!p.2.nxt && (p.2.d.lt nx0 && Nat.blt p.1 nx0))
theorem MemOk.partQ {B ng : Nat} {ρ : Env} {m0 M : Mem} {nx0 NX : Nat} {w : World} (h : MemOk B ng ρ M NX w) (hq : quietB nx0 m0 = true) (hn : ng ≤ nx0) (hs : ∀ k s, find m0 k = some s → find M k = some s) : MemOk B ng ρ m0 nx0 w := by
  have get : ∀ k s, find m0 k = some s → s.own = false ∧ s.nxt = false ∧ s.d.lt nx0 = true ∧ k < nx0 := fun k s hk => by
    have := List.all_eq_true.1 hq (k, s) (find_memP hk)
    simp only [Bool.and_eq_true, Bool.not_eq_true', blt_iff] at this
    exact this
  refine ⟨fun k s hk => (get k s hk).2.2.2, fun k s hk => h.segs k s (hs k s hk), fun k k' s s' hk hk' hne ho => ?_, h.base, h.glob, hn, fun k s hk => ⟨(get k s hk).2.2.1, fun hx => by rw [(get k s hk).2.1] at hx; cases hx⟩⟩
  rcases ho with ho | ho
  · rw [(get k s hk).1] at ho; cases ho
  · rw [(get k' s' hk').1] at ho; cases ho
theorem PostM.quiet {B ng : Nat} {ρ ρ' : Env} {m0 m' M : Mem} {nx0 nx' NX : Nat} {w w' : World} (h : MemOk B ng ρ M NX w) (hq : quietB nx0 m0 = true) (hp : PostM B ng ρ m0 nx0 w ρ' m' nx' w') : PostM B ng ρ M NX w ρ M NX w' := by
  have hno : ∀ b o, ¬ Owns ρ m0 b o := by
    rintro b o ⟨k, s, hk, ho, _⟩
    have := List.all_eq_true.1 hq (k, s) (find_memP hk)
    simp only [Bool.and_eq_true, Bool.not_eq_true'] at this
    rw [this.1] at ho; cases ho
  have hc : ∀ b o, b < w.heap.size → w'.cell? ⟨b, o, none⟩ = w.cell? ⟨b, o, none⟩ ∧ w'.frozen? ⟨b, o, none⟩ = w.frozen? ⟨b, o, none⟩ := fun b o hb => hp.frame.cell b o hb (hno b o)
  exact ⟨fun _ _ => rfl, ⟨h.keys, fun k s hk => (h.segs k s hk).congr fun j hj => hc _ _ ((h.segs k s hk).lt hj), h.dis, hp.ok.base, h.glob, h.ng_le, h.wf⟩, ⟨hp.frame.below, fun b o hb _ => hc b o hb⟩, fun _ _ _ h => h, fun _ _ _ h => h, Nat.le_refl _⟩

/-- values in, a value out, and a memory that must be there -/
def hookQ (m0 : Mem) (F : List SV → Option SV) (args : List SV) (M : Mem) (NX : Nat) : Option Ef := match F args with
  | some v => bif v.lt 0 && v.lt NX then some ⟨v, M, NX, .read, m0.map fun p => find M p.1 = some p.2⟩ else none
  | none => none
theorem HkOk.quiet {P : Program} {B ng : Nat} {f : FuncId} {m0 : Mem} {nx0 : Nat} {F : List SV → Option SV} (hq : quietB nx0 m0 = true) (hn : ng ≤ nx0) (hF : ∀ args v, F args = some v → ∃ m' nx', FnE P B ng f args m0 nx0 ⟨v, m', nx', .eff, []⟩) :
    HkOk P B ng f (hookQ m0 F) := by
  intro args M NX e he hob ha
  unfold hookQ at he
  split at he <;> first | (cases he; done) | skip
  rename_i v hv
  cases hb : (v.lt 0 && v.lt NX) with
  | false => rw [hb] at he; cases he
  | true =>
    rw [hb, cond_true] at he
    cases he
    simp only [Bool.and_eq_true] at hb
    obtain ⟨m', nx', s1, s2⟩ := hF args v hv
    refine ⟨⟨hb.2, .inl ⟨s1, fun ρ w hm => ?_⟩⟩, ⟨rfl, rfl⟩⟩
    have hs : ∀ k s, find m0 k = some s → find M k = some s := fun k s hk => hob (find M k = some s) (List.mem_map.2 ⟨(k, s), find_memP hk, rfl⟩)
    refine (s2 ρ w (hm.partQ hq hn hs)).mono fun en w' ⟨ρ', hen, hp⟩ => ⟨ρ, ?_, PostM.quiet hm hq hp⟩
    rw [hen]
    exact congrArg _ (SV.den_congr (n := 0) (fun k hk => by omega) hb.1)
end Go.Sx
