/- A law's arguments as symbolic values, and a law from a contract. Conditions: none; plain definitions and theorems over any program. -/
import Derived.Test.YtnloecdkogckiaaDoorSx31
import Derived.ProofKit
import Derived.ChangeSlices
import Derived.ChangeArms
set_option linter.unusedVariables false
namespace Go.Sx
open Go.RowKit Go.ChangeShapes Go.WideShapes

def bvOf (v : Value) : BitVec 8 := match v with
  | .int _ n => BitVec.ofInt 8 n
  | _ => 0

theorem bv_int {n : Int} (h : (Lit.int .u8 n).wf = true) : byteVal (BitVec.ofInt 8 n) = .int .u8 n := by
  have : 0 ≤ n ∧ n ≤ 255 := by simpa [Lit.wf, IntKind.min, IntKind.max, IntKind.signed, IntKind.bits] using h
  unfold byteVal
  congr 1
  rw [BitVec.toNat_ofInt]
  omega

section
variable {H : Type} {enc : TypeId × Value → H} {P : Program} {W : World} {base : Nat} {sp : Nat → Bool} {held : Bool}

/-- an array of bytes -/
theorem openArr {t e : TypeId} {n : Nat} {r : Reach} {b0 : Nat} {v : Value} {d : DataW H} {ps : List MemPlace} (ht : P.underlying t = some (.array n e)) (he : P.underlying e = some (.int .u8)) (hc : P.cellsOf e = 1) (hn : P.cellsOf t = n)
    (hval : Value.okWide P W r b0 t v) (hd : DataW.Trod enc P W base sp held t v d ps) : ∃ l : List (BitVec 8), l.length = n ∧ ∀ ρ, v = (SV.one (.ag [.d8 l])).den ρ := by
  simp only [Value.okWide, ht] at hval
  obtain ⟨cs, rfl, hs, _⟩ := hval
  obtain ⟨fuel, hf⟩ := hd
  have each : ∀ i, i < n → ∃ a, cs[i]? = some (.int .u8 a) ∧ (Lit.int .u8 a).wf = true := by
    cases fuel with
    | zero => simp [DataW.trod] at hf
    | succ m =>
      rw [DataW.trod_step] at hf
      unfold DataW.trodStep at hf
      simp only [ht, Value.cells] at hf
      rw [if_pos (by rw [hn]; simpa [hn] using hs)] at hf
      simp only [Option.map_eq_some_iff] at hf
      obtain ⟨ys, hy, _⟩ := hf
      intro i hi
      have := mapM_some_get hy i i (by simp [hi])
      have hlen := mapM_some_length hy
      have hys : i < ys.length := by simpa [hlen] using hi
      rw [List.getElem?_eq_getElem hys] at this
      obtain ⟨a, ea, _, wa⟩ := DataW.trod_int he this
      refine ⟨a, ?_, wa⟩
      rw [hc, Nat.mul_one] at ea
      have e2 : ((cs.toList.drop i).take 1)[0]? = some (.int .u8 a) := by rw [ea]; rfl
      rw [List.getElem?_take, if_pos (by omega), List.getElem?_drop] at e2
      simpa using e2
  have hsn : cs.size = n := by rw [hs, hn]
  refine ⟨cs.toList.map bvOf, by simp [hsn], fun ρ => ?_⟩
  simp only [SV.den, SV0.den, List.flatMap_cons, List.flatMap_nil, List.append_nil]
  congr 1
  apply Array.ext'
  apply List.ext_getElem?
  intro i
  simp only [SegD.cells, SegD.scs, List.map_map, List.getElem?_map]
  rcases Nat.lt_or_ge i n with hi | hi
  · obtain ⟨a, ha, wa⟩ := each i hi
    have ha' : cs.toList[i]? = some (.int .u8 a) := by simpa using ha
    rw [ha']
    simp only [Option.map_some, Function.comp, bvOf, Sc.den]
    exact congrArg some (bv_int wa).symm
  · have : cs.toList[i]? = none := List.getElem?_eq_none (by simpa [hsn] using hi)
    rw [this]; rfl

/-- an int -/
theorem openI64 {t : TypeId} {r : Reach} {b0 : Nat} {v : Value} {d : DataW H} {ps : List MemPlace} (ht : P.underlying t = some (.int .i64)) (hval : Value.okWide P W r b0 t v) (hd : DataW.Trod enc P W base sp held t v d ps) :
    ∃ n : Int, rng n ∧ ∀ ρ, v = (SV.one (.s (.i n))).den ρ := by
  obtain ⟨n, rfl, _, _, wn⟩ := open_int ht hval hd
  refine ⟨n, ?_, fun ρ => rfl⟩
  have : -9223372036854775808 ≤ n ∧ n ≤ 9223372036854775807 := by simpa [Lit.wf, IntKind.min, IntKind.max, IntKind.signed, IntKind.bits] using wn
  exact this

/-- where a slice of bytes lies -/
structure Lies (W : World) (v : Value) (l : List (BitVec 8)) (loc : Loc) : Prop where
  val : ∀ (ρ : Env) (k : Nat), ρ k = loc → v = (SV.one (.s (.osl k l.length))).den ρ
  cap : l.length ≤ loc.cap
  max : loc.cap ≤ maxLen
  nil : loc.isNil = true → loc.cap = 0
  cell : ∀ j x, l[j]? = some x → W.cell? ⟨loc.blk, loc.off + j, none⟩ = some (byteVal x)
theorem openSlc {t e : TypeId} {r : Reach} {b0 : Nat} {v : Value} {d : DataW H} {ps : List MemPlace} (ht : P.underlying t = some (.slice e)) (he : P.underlying e = some (.int .u8)) (hc : P.cellsOf e = 1)
    (hval : Value.okWide P W r b0 t v) (hd : DataW.Trod enc P W base (fun _ => true) held t v d ps) : ∃ (l : List (BitVec 8)) (loc : Loc), Lies W v l loc := by
  obtain ⟨fuel, hf⟩ := hd
  have hv : Cell.ok P W r b0 t v := by
    simp only [Value.okWide, ht, Cell.okWide] at hval
    exact hval
  have one : v.cells.toList = [v] := by
    simp only [Cell.ok, ht] at hv
    cases v <;> first | rfl | (split at hv <;> simp_all)
  rw [one] at hf
  rcases open_ints ht he hc hf with ⟨h1, _⟩ | ⟨a, len, cap, zs, h1, _, hl, hm, hz, _, hcell, hw⟩
  · simp only [List.cons.injEq, and_true] at h1
    subst h1
    exact ⟨[], ⟨0, 0, 0, true⟩, fun ρ k hk => by simp [SV.den, SV0.den, Sc.den, hk], by simp, by simp [maxLen], fun _ => rfl, fun j x hx => by simp at hx⟩
  · simp only [List.cons.injEq, and_true] at h1
    subst h1
    simp only [if_true] at hz
    have hsp : a.spot = none := by
      simp only [Cell.ok, ht] at hv
      exact hv.2.2.2.1
    obtain ⟨b, o, s⟩ := a
    simp only at hsp
    subst hsp
    have hlen : ((zs.take len).map fun n => BitVec.ofInt 8 n).length = len := by simp; omega
    refine ⟨(zs.take len).map fun n => BitVec.ofInt 8 n, ⟨b, o, cap, false⟩, fun ρ k hk => ?_, by rw [hlen]; exact hl, hm, fun h => (by cases h), fun j x hx => ?_⟩
    · simp only [SV.den, SV0.den, Sc.den, hk, hlen]
      rfl
    · rw [List.getElem?_map, Option.map_eq_some_iff] at hx
      obtain ⟨n, hn, rfl⟩ := hx
      have hj : j < (zs.take len).length := (List.getElem?_eq_some_iff.1 hn).1
      rw [List.length_take] at hj
      rw [List.getElem?_take, if_pos (by omega)] at hn
      have hmem : n ∈ zs := List.mem_of_getElem? hn
      rw [bv_int (hw n hmem)]
      have := hcell j (by omega)
      rw [add_none] at this
      simpa [List.getD, hn] using this

/-- the memory that a law starts from: globals' places, and the slices that came in -/
def envL (ng : Nat) (locs : List Loc) : Env := fun k => if k < ng then ⟨k, 0, 0, false⟩ else locs.getD (k - ng) ⟨0, 0, 0, true⟩

def segL (ls : List (List (BitVec 8))) : List Seg := ls.map fun l => ⟨l.length, .d8 l, false, false, false⟩

theorem memL {ng : Nat} {lls : List (List (BitVec 8) × Loc)} (h : ∀ x ∈ lls, ∃ v, Lies W v x.1 x.2) :
    MemOk W.heap.size ng (envL ng (lls.map (·.2))) (addM ng (segL (lls.map (·.1))) []) (ng + lls.length) W := by
  have get : ∀ k s, find (addM ng (segL (lls.map (·.1))) []) k = some s → ng ≤ k ∧ k < ng + lls.length ∧ ∃ x, lls[k - ng]? = some x ∧ s = ⟨x.1.length, .d8 x.1, false, false, false⟩ := by
    intro k s hk
    rw [find_addM] at hk
    by_cases hr : ng ≤ k ∧ k < ng + (segL (lls.map (·.1))).length
    · rw [if_pos hr] at hk
      have hl : (segL (lls.map (·.1))).length = lls.length := by simp [segL]
      simp only [segL, List.map_map, List.getElem?_map, Option.map_eq_some_iff] at hk
      obtain ⟨x, hx, rfl⟩ := hk
      exact ⟨hr.1, by omega, x, hx, rfl⟩
    · rw [if_neg hr] at hk; cases hk
  have loc : ∀ k x, ng ≤ k → lls[k - ng]? = some x → envL ng (lls.map (·.2)) k = x.2 := by
    intro k x hk hx
    unfold envL
    rw [if_neg (by omega)]
    simp [List.getD, hx]
  refine ⟨fun k s hk => (get k s hk).2.1, fun k s hk => ?_, fun k k' s s' hk hk' _ ho => ?_, Nat.le_refl _, fun g hg => ?_, by omega, fun k s hk => ?_⟩
  · obtain ⟨h1, h2, x, hx, rfl⟩ := get k s hk
    obtain ⟨v, hv⟩ := h x (List.mem_of_getElem? hx)
    have e := loc k x h1 hx
    refine ⟨fun a => (by cases a), fun _ => rfl, by rw [e]; exact hv.cap, by rw [e]; exact hv.nil, fun j y hy => ?_, fun a => (by cases a), fun a => (by cases a), fun _ a => (by cases a)⟩
    simp only [SegD.scs, List.getElem?_map, Option.map_eq_some_iff] at hy
    obtain ⟨z, hz, rfl⟩ := hy
    rw [e]
    exact hv.cell j z hz
  · obtain ⟨_, _, x, _, rfl⟩ := get k s hk
    obtain ⟨_, _, y, _, rfl⟩ := get k' s' hk'
    rcases ho with ho | ho <;> cases ho
  · unfold envL; rw [if_pos hg]; exact ⟨rfl, rfl⟩
  · obtain ⟨_, _, x, _, rfl⟩ := get k s hk
    exact ⟨rfl, fun a => by cases a⟩

/-- a law's call, from its contract -/
theorem lawCall {ng : Nat} {f : FuncId} {args : List SV} {lls : List (List (BitVec 8) × Loc)} (h : ∀ x ∈ lls, ∃ v, Lies W v x.1 x.2) {e : Ef} (hv : e.v = .one (.s (.b true)))
    (hf : FnE P W.heap.size ng f args (addM ng (segL (lls.map (·.1))) []) (ng + lls.length) e) {vs : Array Value} (hvs : vs.toList = args.map (SV.den (envL ng (lls.map (·.2))))) :
    Calls P f vs W fun en W' => en = .returned (.bool true) ∧ Below W.heap.size W W' := by
  have := hf.2 _ W (memL (W := W) (ng := ng) h)
  rw [← hvs] at this
  refine this.mono fun en W' ⟨ρ', he, hp⟩ => ⟨?_, hp.frame.below⟩
  rw [he, hv]; rfl
theorem belowAll {W' : World} (hl : laidOutB P = true) (hb : Below W.heap.size W W') : ∀ {ts : List TypeId} {vs : List Value} {ds : List (DataW H)} {ps : List MemPlace}, (∀ t ∈ ts, P.readableRec t = true ∧ t < P.types.size) →
    DataW.TrodAll enc P W 0 (fun _ => true) true ts vs ds ps → (∀ x ∈ ps, x.block < W.heap.size) → DataW.TrodAll enc P W' 0 (fun b => decide (b < W.heap.size)) true ts vs ds ps
  | [], [], [], _, _, h, _ => h
  | t :: ts, v :: vs, d :: ds, ps, hr, ⟨p, q, h1, h2, e⟩, hlt => ⟨p, q, Below.trod hl (hr t (by simp)).1 (hr t (by simp)).2 h1 hb (fun x hx => hlt x (by rw [e]; simp [hx])), belowAll hl hb (fun t ht => hr t (by simp [ht])) h2 (fun x hx => hlt x (by rw [e]; simp [hx])), e⟩

/-- a law's statement, behind the call -/
theorem lawPost {s : ChangeSpec} {fn : Func} {ds : List (DataW H)} {before : List MemPlace} {args : Array Value} {W' : World} {tb : TypeId} (hW : DataW.Whole enc P fn.params.toList s.vars false W args.toList ds [] before) (hvars : s.vars = [])
    (hs : s.fn H ds = { results := [.lit (.bool true)], args := ds }) (hrt : fn.resultTypes = #[tb]) (htb : P.underlying tb = some .bool) (hl : laidOutB P = true) (hr : ∀ t ∈ fn.params.toList, P.readableRec t = true ∧ t < P.types.size)
    (hb : Below W.heap.size W W') : s.post enc P fn false true false false W args (.bool true) W' := by
  have hlt : ∀ x ∈ before, x.block < W.heap.size := fun x hx => hW.lt x hx
  have hW' := hW
  obtain ⟨p, q, hA, hV, e, _, _⟩ := hW
  rw [hvars] at hV
  have hq : q = [] := hV
  rw [hq, List.append_nil] at e
  rw [← e] at hA
  refine ⟨ds, [], before, [], before, [], hW', ?_, ?_, ?_, World.keptBut_mono (fun x f => f.elim) (hb.frame (fun _ => False)), fun h => by cases h⟩
  · rw [List.append_nil, hs, hrt]
    exact trodAll_mk1 (shut_bool htb true)
  · rw [List.append_nil, hs]
    exact belowAll hl hb hr hA hlt
  · rw [List.append_nil, hs, hvars]; exact rfl
end
end Go.Sx
