/- A drawn region: what is known in the middle of any order, and that each operation keeps it. Conditions: none; plain definitions and theorems over any program. -/
import Derived.Test.YtnloecdkogckiaaDoorSx14
set_option linter.unusedVariables false
namespace Go.Sx
open Go.RowKit

def StatK (ρ : Env) (k : Nat) (s : Seg) : Prop :=
  s.d.len ≤ (ρ k).cap ∧ ((ρ k).isNil = true → (ρ k).cap = 0) ∧ (s.nxt = true → (ρ (k + 1)).blk = (ρ k).blk ∧ (ρ (k + 1)).off = (ρ k).off + s.n)

theorem StatK.env {ρ ρ' : Env} {k : Nat} {s : Seg} (h : StatK ρ k s) (e : ρ' k = ρ k) (e1 : s.nxt = true → ρ' (k + 1) = ρ (k + 1)) : StatK ρ' k s := by
  refine ⟨by rw [e]; exact h.1, by rw [e]; exact h.2.1, fun hn => ?_⟩
  rw [e, e1 hn]; exact h.2.2 hn

theorem Sc.on_lt {p : Nat → Bool} {n : Nat} (h : ∀ k, p k = true → k < n) : ∀ {x : Sc}, x.on p = true → x.lt n = true
  | .b _, _ | .i _, _ | .u8 _, _ | .u32 _, _ | .u64 _, _ | .p0, _ | .sl0, _ | .str _, _ | .f0, _ | .v _, _ => rfl
  | .p k _, hx => blt_iff.2 (h k hx)
  | .sl k _ _ _, hx => blt_iff.2 (h k hx)
  | .osl k _, hx => blt_iff.2 (h k hx)
  | .f _ x, hx => Sc.on_lt h (x := x) hx

theorem SegD.on_lt {p : Nat → Bool} {n : Nat} (h : ∀ k, p k = true → k < n) {d : SegD} (hd : d.on p = true) : d.lt n = true := by
  cases d <;> try rfl
  exact List.all_eq_true.2 fun x hx => Sc.on_lt h (List.all_eq_true.1 hd x hx)

theorem SV0.on_lt {p : Nat → Bool} {n : Nat} (h : ∀ k, p k = true → k < n) {v : SV0} (hv : v.on p = true) : v.lt n = true := by
  cases v with
  | s x => exact Sc.on_lt h (x := x) hv
  | ag l => exact List.all_eq_true.2 fun x hx => SegD.on_lt h (List.all_eq_true.1 hv x hx)

theorem SV.on_lt {p : Nat → Bool} {n : Nat} (h : ∀ k, p k = true → k < n) {v : SV} (hv : v.on p = true) : v.lt n = true := by
  cases v with
  | one x => exact SV0.on_lt h (v := x) hv
  | tup l => exact List.all_eq_true.2 fun x hx => SV0.on_lt h (List.all_eq_true.1 hv x hx)

/-- in the middle of any order: the operations of S are done -/
structure RInv (B ng sz : Nat) (t0 : TM) (m0 : Mem) (nx0 : Nat) (ρ0 : Env) (w0 : World) (A : Acc) (NX : Nat) (S : Nat → Bool) (ρ : Env) (M : Mem) (a : Act) (w : World) : Prop where
  size : a.tmps.size = sz
  noDefer : a.defers = []
  sub : ∀ j, S j = true → ∃ inf, find A j = some inf
  closed : ∀ j inf, find A j = some inf → S j = true → ∀ j', bit inf.cl j' = true → S j' = true
  tv : ∀ j inf d, find A j = some inf → S j = true → inf.dst = some d → a.tmps.getD d undef = inf.v.den ρ
  t0v : ∀ d v, find t0 d = some v → (∀ j inf, find A j = some inf → S j = true → inf.dst ≠ some d) → a.tmps.getD d undef = v.den ρ
  post : PostM B ng ρ0 m0 nx0 w0 ρ M NX w
  live : ∀ k s, find M k = some s → lv nx0 A S k = true ∧ s.d.on (lv nx0 A S) = true ∧ (s.nxt = true → lv nx0 A S (k + 1) = true)
  memh : (∀ j inf m, find A j = some inf → inf.k = .eff m → S j = false) → MemH m0 A S M
  meme : ∀ j inf m, find A j = some inf → inf.k = .eff m → S j = true → (∀ j' inf' m', find A j' = some inf' → inf'.k = .eff m' → j < j' → S j' = false) → ∀ k, find M k = find m k
  stat : ∀ j inf L k s, find A j = some inf → S j = true → inf.k = .head L → inf.lo ≤ k → L[k - inf.lo]? = some s → StatK ρ k s
  stat0 : ∀ k s, find m0 k = some s → StatK ρ k s

def addS (S : Nat → Bool) (i : Nat) (j : Nat) : Bool := S j || decide (j = i)

theorem addS_iff {S : Nat → Bool} {i j : Nat} : addS S i j = true ↔ S j = true ∨ j = i := by simp [addS]

theorem lv_mono {nx0 : Nat} {acc : Acc} {f g : Nat → Bool} (h : ∀ j, f j = true → g j = true) {k : Nat} (hk : lv nx0 acc f k = true) : lv nx0 acc g k = true := by
  rw [lv_iff] at *
  rcases hk with h1 | ⟨x, hx, h1, h2⟩
  · exact .inl h1
  · exact .inr ⟨x, hx, h _ h1, h2⟩

section
variable {P : Program} {cx : Cx} {H : Hook} {B sz : Nat} {orc : Orc} {ops : List Oper} {t0 : TM} {m0 : Mem} {nx0 : Nat} {ρ0 : Env} {w0 : World} {A : Acc} {n NX hmF emF : Nat} {FU : Mem}
  {S : Nat → Bool} {ρ : Env} {M : Mem} {a : Act} {w : World}

theorem lv1_lv {cl j k : Nat} {inf : Inf} (hj : find A j = some inf) (hS : S j = true) (hcl : ∀ j', bit cl j' = true → S j' = true) (hk : lv1 nx0 A (bit cl) inf.lo inf.hi k = true) : lv nx0 A S k = true := by
  rcases lv1_iff.1 hk with h | h
  · exact lv_mono hcl h
  · exact lv_iff.2 (.inr ⟨(j, inf), find_mem A j inf hj, hS, h.1, h.2⟩)

theorem lv_get {k : Nat} (DA : DI t0 m0 nx0 sz A n NX hmF emF FU) (h : lv nx0 A S k = true) : k < nx0 ∨ ∃ j inf, find A j = some inf ∧ S j = true ∧ inf.lo ≤ k ∧ k < inf.hi := by
  rcases lv_iff.1 h with h | ⟨x, hx, h1, h2⟩
  · exact .inl h
  · exact .inr ⟨x.1, x.2, DA.mem x hx, h1, h2⟩

theorem RInv.put (DA : DI t0 m0 nx0 sz A n NX hmF emF FU) (ht0 : ∀ d v, find t0 d = some v → v.lt nx0 = true) (hm0 : ∀ k s, find m0 k = some s → k < nx0 ∧ (s.nxt = true → k + 1 < nx0))
    (R : RInv B cx.ng sz t0 m0 nx0 ρ0 w0 A NX S ρ M a w) {i : Nat} {inf : Inf} (hi : find A i = some inf) (hSi : S i = false) (hcl : ∀ j, bit inf.cl j = true → S j = true) {ρ' : Env} {M' : Mem} {w' : World}
    (hρ : ∀ k, lv nx0 A S k = true → ρ' k = ρ k) (post' : PostM B cx.ng ρ0 m0 nx0 w0 ρ' M' NX w')
    (live' : ∀ k s, find M' k = some s → lv nx0 A (addS S i) k = true ∧ s.d.on (lv nx0 A (addS S i)) = true ∧ (s.nxt = true → lv nx0 A (addS S i) (k + 1) = true))
    (memh' : (∀ j inf m, find A j = some inf → inf.k = .eff m → addS S i j = false) → MemH m0 A (addS S i) M')
    (meme' : ∀ j inf m, find A j = some inf → inf.k = .eff m → addS S i j = true → (∀ j' inf' m', find A j' = some inf' → inf'.k = .eff m' → j < j' → addS S i j' = false) → ∀ k, find M' k = find m k)
    (stat' : ∀ L k s, inf.k = .head L → inf.lo ≤ k → L[k - inf.lo]? = some s → StatK ρ' k s) :
    RInv B cx.ng sz t0 m0 nx0 ρ0 w0 A NX (addS S i) ρ' M' (a.put inf.dst (inf.v.den ρ')) w' := by
  have old : ∀ d, inf.dst ≠ some d → (a.put inf.dst (inf.v.den ρ')).tmps.getD d undef = a.tmps.getD d undef := by
    intro d hd
    cases hdst : inf.dst with
    | none => rfl
    | some d' =>
      have : d' ≠ d := fun e => hd (by rw [hdst, e])
      simp only [Act.put, Array.getD_eq_getD_getElem?, Array.getElem?_setIfInBounds_ne this]
  refine ⟨?_, ?_, fun j hj => ?_, fun j infj hj hS j' hb => ?_, fun j infj d hj hS hd => ?_, fun d v hd hno => ?_, post', live', memh', meme', fun j infj L k s hj hS hk h1 h2 => ?_, fun k s hk => ?_⟩
  · cases inf.dst <;> simp [Act.put, R.size]
  · cases inf.dst <;> simp [Act.put, R.noDefer]
  · rcases addS_iff.1 hj with h | rfl
    · exact R.sub j h
    · exact ⟨inf, hi⟩
  · rcases addS_iff.1 hS with h | rfl
    · exact addS_iff.2 (.inl (R.closed j infj hj h j' hb))
    · rw [hi] at hj; cases hj
      exact addS_iff.2 (.inl (hcl j' hb))
  · rcases addS_iff.1 hS with h | rfl
    · have hne : inf.dst ≠ some d := fun e => by
        have := DA.dst j i infj inf d hj hi hd e
        subst this; rw [h] at hSi; cases hSi
      rw [old d hne, R.tv j infj d hj h hd]
      refine (SV.on_congr hρ (SV.on_mono (fun k hk => ?_) (DA.von j infj hj))).symm
      exact lv1_lv hj h (R.closed j infj hj h) hk
    · rw [hi] at hj; cases hj
      have hlt : d < a.tmps.size := by rw [R.size]; exact DA.dsz j inf d hi hd
      rw [hd]
      simp [Act.put, Array.getD, hlt]
  · have hne : inf.dst ≠ some d := hno i inf hi (addS_iff.2 (.inr rfl))
    rw [old d hne, R.t0v d v hd fun j infj hj hS => hno j infj hj (addS_iff.2 (.inl hS))]
    exact (SV.on_congr hρ (SV.lt_on (fun k hk => lv_iff.2 (.inl hk)) (ht0 d v hd))).symm
  · rcases addS_iff.1 hS with h | rfl
    · have hlen : k - infj.lo < L.length := (List.getElem?_eq_some_iff.1 h2).1
      have hhi := DA.hdl j infj L hj hk
      have hin : ∀ k', infj.lo ≤ k' → k' < infj.hi → lv nx0 A S k' = true := fun k' a1 a2 => lv_iff.2 (.inr ⟨(j, infj), find_mem A j infj hj, h, a1, a2⟩)
      refine (R.stat j infj L k s hj h hk h1 h2).env (hρ k (hin k h1 (by omega))) fun hn => ?_
      have := (DA.lon j infj L _ s hj hk h2).2 hn
      exact hρ _ (hin _ (by omega) (by omega))
    · rw [hi] at hj; cases hj
      exact stat' L k s hk h1 h2
  · obtain ⟨a1, a2⟩ := hm0 k s hk
    exact (R.stat0 k s hk).env (hρ k (lv_iff.2 (.inl a1))) fun hn => hρ _ (lv_iff.2 (.inl (a2 hn)))

/-- an operation that leaves the memory -/
theorem RInv.putPure (DA : DI t0 m0 nx0 sz A n NX hmF emF FU) (ht0 : ∀ d v, find t0 d = some v → v.lt nx0 = true) (hm0 : ∀ k s, find m0 k = some s → k < nx0 ∧ (s.nxt = true → k + 1 < nx0))
    (R : RInv B cx.ng sz t0 m0 nx0 ρ0 w0 A NX S ρ M a w) {i : Nat} {inf : Inf} (hi : find A i = some inf) (hSi : S i = false) (hcl : ∀ j, bit inf.cl j = true → S j = true) (hk : inf.k = .pure) :
    RInv B cx.ng sz t0 m0 nx0 ρ0 w0 A NX (addS S i) ρ M (a.put inf.dst (inf.v.den ρ)) w := by
  have up : ∀ j, S j = true → addS S i j = true := fun j h => addS_iff.2 (.inl h)
  have down : ∀ j infj, find A j = some infj → infj.k ≠ .pure → addS S i j = true → S j = true := by
    intro j infj hj hne h
    rcases addS_iff.1 h with h | rfl
    · exact h
    · rw [hi] at hj; cases hj; exact absurd hk hne
  have no : ∀ j, addS S i j = false → S j = false := fun j h => by
    cases hS : S j with
    | false => rfl
    | true => rw [up j hS] at h; cases h
  refine R.put (cx := cx) DA ht0 hm0 hi hSi hcl (fun _ _ => rfl) R.post (fun k s h => ?_) (fun h => ?_) (fun j infj m hj hk' hS hlast => ?_) (fun L k s h => by rw [hk] at h; cases h)
  · obtain ⟨a1, a2, a3⟩ := R.live k s h
    exact ⟨lv_mono up a1, SegD.on_mono (fun k hk => lv_mono up hk) a2, fun hn => lv_mono up (a3 hn)⟩
  · obtain ⟨a1, a2⟩ := R.memh fun j infj m hj hk' => no j (h j infj m hj hk')
    exact ⟨fun j infj L k hj hS hk' => a1 j infj L k hj (down j infj hj (by rw [hk']; intro e; cases e) hS) hk', fun k hh => a2 k fun j infj L hj hS hk' => hh j infj L hj (up j hS) hk'⟩
  · exact R.meme j infj m hj hk' (down j infj hj (by rw [hk']; intro e; cases e) hS) fun j' infj' m' hj' hk'' hlt => no j' (hlast j' infj' m' hj' hk'' hlt)

end
end Go.Sx
