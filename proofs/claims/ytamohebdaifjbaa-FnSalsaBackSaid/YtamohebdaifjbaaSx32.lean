/- A law's arguments as symbolic values, and a law from a contract. Steps of a walk in one equation each. Slices told apart (nil, or at a place with a capacity); a second key for what is only read; nil handed back. Calls that the model answers itself: sums and differences with carries, a truth value as a byte. A law's arguments: slices of ints beside slices of bytes. Conditions: none; plain definitions and theorems over any program. -/
import Derived.Test.YtamohebdaifjbaaSx30
import Derived.ProofKit
import Derived.ChangeSlices
import Derived.ChangeArms
import Derived.KernelRfl
import Derived.Laws.Externs
set_option linter.unusedVariables false
namespace Go.Sx
open Go.RowKit Go.ChangeShapes Go.WideShapes

def bvOf (v : Value) : BitVec 8 := match v with
  | .int _ n => BitVec.ofInt 8 n
  | _ => 0

theorem bv_int {n : Int} (h : (Lit.int .u8 n).wf = true) : byteVal (BitVec.ofInt 8 n) = .int .u8 n := by
  have : 0 ≤ n ∧ n ≤ 255 := by simpa [Lit.wf, IntKind.min, IntKind.max, IntKind.signed, IntKind.bits] using h
  unfold byteVal
  congr 1
  rw [BitVec.toNat_ofInt]
  omega

section
variable {H : Type} {enc : TypeId × Value → H} {P : Program} {W : World} {base : Nat} {sp : Nat → Bool} {held : Bool}

/-- an array of bytes -/
theorem openArr {t e : TypeId} {n : Nat} {r : Reach} {b0 : Nat} {v : Value} {d : DataW H} {ps : List MemPlace} (ht : P.underlying t = some (.array n e)) (he : P.underlying e = some (.int .u8)) (hc : P.cellsOf e = 1) (hn : P.cellsOf t = n)
    (hval : Value.okWide P W r b0 t v) (hd : DataW.Trod enc P W base sp held t v d ps) : ∃ l : List (BitVec 8), l.length = n ∧ ∀ ρ, v = (SV.one (.ag [.d8 l])).den ρ := by
  simp only [Value.okWide, ht] at hval
  obtain ⟨cs, rfl, hs, _⟩ := hval
  obtain ⟨fuel, hf⟩ := hd
  have each : ∀ i, i < n → ∃ a, cs[i]? = some (.int .u8 a) ∧ (Lit.int .u8 a).wf = true := by
    cases fuel with
    | zero => simp [DataW.trod] at hf
    | succ m =>
      rw [DataW.trod_step] at hf
      unfold DataW.trodStep at hf
      simp only [ht, Value.cells] at hf
      rw [if_pos (by rw [hn]; simpa [hn] using hs)] at hf
      simp only [Option.map_eq_some_iff] at hf
      obtain ⟨ys, hy, _⟩ := hf
      intro i hi
      have := mapM_some_get hy i i (by simp [hi])
      have hlen := mapM_some_length hy
      have hys : i < ys.length := by simpa [hlen] using hi
      rw [List.getElem?_eq_getElem hys] at this
      obtain ⟨a, ea, _, wa⟩ := DataW.trod_int he this
      refine ⟨a, ?_, wa⟩
      rw [hc, Nat.mul_one] at ea
      have e2 : ((cs.toList.drop i).take 1)[0]? = some (.int .u8 a) := by rw [ea]; rfl
      rw [List.getElem?_take, if_pos (by omega), List.getElem?_drop] at e2
      simpa using e2
  have hsn : cs.size = n := by rw [hs, hn]
  refine ⟨cs.toList.map bvOf, by simp [hsn], fun ρ => ?_⟩
  simp only [SV.den, SV0.den, List.flatMap_cons, List.flatMap_nil, List.append_nil]
  congr 1
  apply Array.ext'
  apply List.ext_getElem?
  intro i
  simp only [SegD.cells, SegD.scs, List.map_map, List.getElem?_map]
  rcases Nat.lt_or_ge i n with hi | hi
  · obtain ⟨a, ha, wa⟩ := each i hi
    have ha' : cs.toList[i]? = some (.int .u8 a) := by simpa using ha
    rw [ha']
    simp only [Option.map_some, Function.comp, bvOf, Sc.den]
    exact congrArg some (bv_int wa).symm
  · have : cs.toList[i]? = none := List.getElem?_eq_none (by simpa [hsn] using hi)
    rw [this]; rfl

/-- an int -/
theorem openI64 {t : TypeId} {r : Reach} {b0 : Nat} {v : Value} {d : DataW H} {ps : List MemPlace} (ht : P.underlying t = some (.int .i64)) (hval : Value.okWide P W r b0 t v) (hd : DataW.Trod enc P W base sp held t v d ps) :
    ∃ n : Int, rng n ∧ ∀ ρ, v = (SV.one (.s (.i n))).den ρ := by
  obtain ⟨n, rfl, _, _, wn⟩ := open_int ht hval hd
  refine ⟨n, ?_, fun ρ => rfl⟩
  have : -9223372036854775808 ≤ n ∧ n ≤ 9223372036854775807 := by simpa [Lit.wf, IntKind.min, IntKind.max, IntKind.signed, IntKind.bits] using wn
  exact this

/-- where a slice of bytes lies -/
structure Lies (W : World) (v : Value) (l : List (BitVec 8)) (loc : Loc) : Prop where
  val : ∀ (ρ : Env) (k : Nat), ρ k = loc → v = (SV.one (.s (.osl k l.length))).den ρ
  cap : l.length ≤ loc.cap
  max : loc.cap ≤ maxLen
  nil : loc.isNil = true → loc.cap = 0
  cell : ∀ j x, l[j]? = some x → W.cell? ⟨loc.blk, loc.off + j, none⟩ = some (byteVal x)
theorem openSlc {t e : TypeId} {r : Reach} {b0 : Nat} {v : Value} {d : DataW H} {ps : List MemPlace} (ht : P.underlying t = some (.slice e)) (he : P.underlying e = some (.int .u8)) (hc : P.cellsOf e = 1)
    (hval : Value.okWide P W r b0 t v) (hd : DataW.Trod enc P W base (fun _ => true) held t v d ps) : ∃ (l : List (BitVec 8)) (loc : Loc), Lies W v l loc := by
  obtain ⟨fuel, hf⟩ := hd
  have hv : Cell.ok P W r b0 t v := by
    simp only [Value.okWide, ht, Cell.okWide] at hval
    exact hval
  have one : v.cells.toList = [v] := by
    simp only [Cell.ok, ht] at hv
    cases v <;> first | rfl | (split at hv <;> simp_all)
  rw [one] at hf
  rcases open_ints ht he hc hf with ⟨h1, _⟩ | ⟨a, len, cap, zs, h1, _, hl, hm, hz, _, hcell, hw⟩
  · simp only [List.cons.injEq, and_true] at h1
    subst h1
    exact ⟨[], ⟨0, 0, 0, true⟩, fun ρ k hk => by simp [SV.den, SV0.den, Sc.den, hk], by simp, by simp [maxLen], fun _ => rfl, fun j x hx => by simp at hx⟩
  · simp only [List.cons.injEq, and_true] at h1
    subst h1
    simp only [if_true] at hz
    have hsp : a.spot = none := by
      simp only [Cell.ok, ht] at hv
      exact hv.2.2.2.1
    obtain ⟨b, o, s⟩ := a
    simp only at hsp
    subst hsp
    have hlen : ((zs.take len).map fun n => BitVec.ofInt 8 n).length = len := by simp; omega
    refine ⟨(zs.take len).map fun n => BitVec.ofInt 8 n, ⟨b, o, cap, false⟩, fun ρ k hk => ?_, by rw [hlen]; exact hl, hm, fun h => (by cases h), fun j x hx => ?_⟩
    · simp only [SV.den, SV0.den, Sc.den, hk, hlen]
      rfl
    · rw [List.getElem?_map, Option.map_eq_some_iff] at hx
      obtain ⟨n, hn, rfl⟩ := hx
      have hj : j < (zs.take len).length := (List.getElem?_eq_some_iff.1 hn).1
      rw [List.length_take] at hj
      rw [List.getElem?_take, if_pos (by omega)] at hn
      have hmem : n ∈ zs := List.mem_of_getElem? hn
      rw [bv_int (hw n hmem)]
      have := hcell j (by omega)
      rw [add_none] at this
      simpa [List.getD, hn] using this

/-- the memory that a law starts from: globals' places, and the slices that came in -/
def envL (ng : Nat) (locs : List Loc) : Env := fun k => if k < ng then ⟨k, 0, 0, false⟩ else locs.getD (k - ng) ⟨0, 0, 0, true⟩

def segL (ls : List (List (BitVec 8))) : List Seg := ls.map fun l => ⟨l.length, .d8 l, false, false, false⟩

theorem memL {ng : Nat} {lls : List (List (BitVec 8) × Loc)} (h : ∀ x ∈ lls, ∃ v, Lies W v x.1 x.2) :
    MemOk W.heap.size ng (envL ng (lls.map (·.2))) (addM ng (segL (lls.map (·.1))) []) (ng + lls.length) W := by
  have get : ∀ k s, find (addM ng (segL (lls.map (·.1))) []) k = some s → ng ≤ k ∧ k < ng + lls.length ∧ ∃ x, lls[k - ng]? = some x ∧ s = ⟨x.1.length, .d8 x.1, false, false, false⟩ := by
    intro k s hk
    rw [find_addM] at hk
    by_cases hr : ng ≤ k ∧ k < ng + (segL (lls.map (·.1))).length
    · rw [if_pos hr] at hk
      have hl : (segL (lls.map (·.1))).length = lls.length := by simp [segL]
      simp only [segL, List.map_map, List.getElem?_map, Option.map_eq_some_iff] at hk
      obtain ⟨x, hx, rfl⟩ := hk
      exact ⟨hr.1, by omega, x, hx, rfl⟩
    · rw [if_neg hr] at hk; cases hk
  have loc : ∀ k x, ng ≤ k → lls[k - ng]? = some x → envL ng (lls.map (·.2)) k = x.2 := by
    intro k x hk hx
    unfold envL
    rw [if_neg (by omega)]
    simp [List.getD, hx]
  refine ⟨fun k s hk => (get k s hk).2.1, fun k s hk => ?_, fun k k' s s' hk hk' _ ho => ?_, Nat.le_refl _, fun g hg => ?_, by omega, fun k s hk => ?_⟩
  · obtain ⟨h1, h2, x, hx, rfl⟩ := get k s hk
    obtain ⟨v, hv⟩ := h x (List.mem_of_getElem? hx)
    have e := loc k x h1 hx
    refine ⟨fun a => (by cases a), fun _ => rfl, by rw [e]; exact hv.cap, by rw [e]; exact hv.nil, fun j y hy => ?_, fun a => (by cases a), fun a => (by cases a), fun _ a => (by cases a)⟩
    simp only [SegD.scs, List.getElem?_map, Option.map_eq_some_iff] at hy
    obtain ⟨z, hz, rfl⟩ := hy
    rw [e]
    exact hv.cell j z hz
  · obtain ⟨_, _, x, _, rfl⟩ := get k s hk
    obtain ⟨_, _, y, _, rfl⟩ := get k' s' hk'
    rcases ho with ho | ho <;> cases ho
  · unfold envL; rw [if_pos hg]; exact ⟨rfl, rfl⟩
  · obtain ⟨_, _, x, _, rfl⟩ := get k s hk
    exact ⟨rfl, fun a => by cases a⟩

/-- a law's call, from its contract -/
theorem lawCall {ng : Nat} {f : FuncId} {args : List SV} {lls : List (List (BitVec 8) × Loc)} (h : ∀ x ∈ lls, ∃ v, Lies W v x.1 x.2) {e : Ef} (hv : e.v = .one (.s (.b true)))
    (hf : FnE P W.heap.size ng f args (addM ng (segL (lls.map (·.1))) []) (ng + lls.length) e) {vs : Array Value} (hvs : vs.toList = args.map (SV.den (envL ng (lls.map (·.2))))) :
    Calls P f vs W fun en W' => en = .returned (.bool true) ∧ Below W.heap.size W W' := by
  have := hf.2 _ W (memL (W := W) (ng := ng) h)
  rw [← hvs] at this
  refine this.mono fun en W' ⟨ρ', he, hp⟩ => ⟨?_, hp.frame.below⟩
  rw [he, hv]; rfl
theorem belowAll {W' : World} (hl : laidOutB P = true) (hb : Below W.heap.size W W') : ∀ {ts : List TypeId} {vs : List Value} {ds : List (DataW H)} {ps : List MemPlace}, (∀ t ∈ ts, P.readableRec t = true ∧ t < P.types.size) →
    DataW.TrodAll enc P W 0 (fun _ => true) true ts vs ds ps → (∀ x ∈ ps, x.block < W.heap.size) → DataW.TrodAll enc P W' 0 (fun b => decide (b < W.heap.size)) true ts vs ds ps
  | [], [], [], _, _, h, _ => h
  | t :: ts, v :: vs, d :: ds, ps, hr, ⟨p, q, h1, h2, e⟩, hlt => ⟨p, q, Below.trod hl (hr t (by simp)).1 (hr t (by simp)).2 h1 hb (fun x hx => hlt x (by rw [e]; simp [hx])), belowAll hl hb (fun t ht => hr t (by simp [ht])) h2 (fun x hx => hlt x (by rw [e]; simp [hx])), e⟩

/-- a law's statement, behind the call -/
theorem lawPost {s : ChangeSpec} {fn : Func} {ds : List (DataW H)} {before : List MemPlace} {args : Array Value} {W' : World} {tb : TypeId} (hW : DataW.Whole enc P fn.params.toList s.vars false W args.toList ds [] before) (hvars : s.vars = [])
    (hs : s.fn H ds = { results := [.lit (.bool true)], args := ds }) (hrt : fn.resultTypes = #[tb]) (htb : P.underlying tb = some .bool) (hl : laidOutB P = true) (hr : ∀ t ∈ fn.params.toList, P.readableRec t = true ∧ t < P.types.size)
    (hb : Below W.heap.size W W') : s.post enc P fn false true false false W args (.bool true) W' := by
  have hlt : ∀ x ∈ before, x.block < W.heap.size := fun x hx => hW.lt x hx
  have hW' := hW
  obtain ⟨p, q, hA, hV, e, _, _⟩ := hW
  rw [hvars] at hV
  have hq : q = [] := hV
  rw [hq, List.append_nil] at e
  rw [← e] at hA
  refine ⟨ds, [], before, [], before, [], hW', ?_, ?_, ?_, World.keptBut_mono (fun x f => f.elim) (hb.frame (fun _ => False)), fun h => by cases h⟩
  · rw [List.append_nil, hs, hrt]
    exact trodAll_mk1 (shut_bool htb true)
  · rw [List.append_nil, hs]
    exact belowAll hl hb hr hA hlt
  · rw [List.append_nil, hs, hvars]; exact rfl
end
end Go.Sx

set_option linter.unusedVariables false
namespace Go.Sx
open Go.RowKit

/-- run, and cut down -/
def runC (cx : Cx) (H : Hook) (sz lim : Nat) (orc : Orc) (ts ks : List Nat) (nx : Nat) (l : List Code) (s : St) : Option (Ex × St × List Prop) :=
  match execL cx H sz lim orc l s with
  | some (ex, s1, ob) => match cut ts ks nx s1 with
    | some s' => some (ex, s', ob)
    | none => none
  | none => none

/-- run, cut down, keys renamed -/
def runR (cx : Cx) (H : Hook) (sz lim : Nat) (orc : Orc) (base : Nat) (ts : List Nat) (ks : List (Nat × Nat)) (nx : Nat) (l : List Code) (s : St) : Option (Ex × St × List Prop) :=
  match execL cx H sz lim orc l s with
  | some (ex, s1, ob) => match ren base ts ks nx s1 with
    | some s' => some (ex, s', ob)
    | none => none
  | none => none

section
variable {P : Program} {H : Hook} {B : Nat} {cx cx' : Cx} {sz lim : Nat} {orc : Orc} {R : Ex → St → Prop} {s s' : St} {l : List Code} {base : Nat}

theorem Tri.chg (h : cx'.ng = cx.ng) (ht : Tri P B cx sz base l s R) : Tri P B cx' sz base l s R := by
  have hok : ∀ ρ t m nx a w, Ok B cx' sz ρ t m nx a w → Ok B cx sz ρ t m nx a w := fun ρ t m nx a w k => ⟨k.tm, k.size, by rw [← h]; exact k.mem, k.noDefer⟩
  have hok' : ∀ ρ t m nx a w, Ok B cx sz ρ t m nx a w → Ok B cx' sz ρ t m nx a w := fun ρ t m nx a w k => ⟨k.tm, k.size, by rw [h]; exact k.mem, k.noDefer⟩
  intro hng hbs ρ a w k
  refine wpCs_mono (fun e a' w' ⟨ex, s', h1, h2, ρ', h3, h4⟩ => ⟨ex, s', h1, h2, ρ', hok' _ _ _ _ _ _ h3, by rw [h]; exact h4⟩) _ a w (ht (by rw [← h]; exact hng) hbs ρ a w (hok _ _ _ _ _ _ k))

/-- the first n pieces of code, by the run -/
theorem Tri.step (hmix : P.follows .mixedOrders = true) (hT : TysOk P cx.T) (hH : HookOk P B cx.ng H) (n lim : Nat) (orc : Orc) (ts ks : List Nat) (nx : Nat) (s' : St) (ob : List Prop) (hx : runC cx H sz lim orc ts ks nx (l.take n) s = some (.n, s', ob)) (hob : ∀ p ∈ ob, p)
    (hle : Nat.ble s.nx nx = true) (h : Tri P B cx sz base (l.drop n) s' R) : Tri P B cx sz base l s R := by
  unfold runC at hx
  split at hx <;> first | (cases hx; done) | skip
  rename_i ex s1 ob1 h1
  split at hx <;> first | (cases hx; done) | skip
  rename_i s2 h2
  cases hx
  exact Tri.run hmix hT hH n h1 hob h2 (Nat.le_of_ble_eq_true hle) h

/-- all of it -/
theorem Tri.fin (hmix : P.follows .mixedOrders = true) (hT : TysOk P cx.T) (hH : HookOk P B cx.ng H) (lim : Nat) (orc : Orc) (ts ks : List Nat) (nx : Nat) (ex : Ex) (s' : St) (ob : List Prop) (hx : runC cx H sz lim orc ts ks nx l s = some (ex, s', ob)) (hob : ∀ p ∈ ob, p)
    (hle : Nat.ble s.nx nx = true) (h : R ex s') : Tri P B cx sz base l s R := by
  unfold runC at hx
  split at hx <;> first | (cases hx; done) | skip
  rename_i ex s1 ob1 h1
  split at hx <;> first | (cases hx; done) | skip
  rename_i s2 h2
  cases hx
  exact Tri.done hmix hT hH h1 hob h2 (Nat.le_of_ble_eq_true hle) h

/-- all of it, keys renamed -/
theorem Tri.finR (hmix : P.follows .mixedOrders = true) (hT : TysOk P cx.T) (hH : HookOk P B cx.ng H) (lim : Nat) (orc : Orc) (ts : List Nat) (ks : List (Nat × Nat)) (nx : Nat) (ex : Ex) (s' : St) (ob : List Prop)
    (hx : runR cx H sz lim orc base ts ks nx l s = some (ex, s', ob)) (hob : ∀ p ∈ ob, p) (h : R ex s') : Tri P B cx sz base l s R := by
  unfold runR at hx
  split at hx <;> first | (cases hx; done) | skip
  rename_i ex s1 ob1 h1
  split at hx <;> first | (cases hx; done) | skip
  rename_i s2 h2
  cases hx
  intro hng hbs ρ a w hok
  rw [show l = l ++ [] by simp]
  refine execL_wp hmix hT hH _ _ s s1 ex ob ρ a w _ h1 hob hok fun a' w' ⟨ρ1, hok1, hp1⟩ => ?_
  obtain ⟨ρ2, h3, h4, h5⟩ := ren_ok h2 hng hok1
  have key : Fin B cx sz R ρ s.m base w ex.to a' w' := ⟨ex, s', rfl, h, ρ2, h4, (hp1.low hbs).transB h5 (Nat.le_refl _)⟩
  cases ex <;> exact key

/-- the first n pieces of code, by the run, keys renamed -/
theorem Tri.stepR (hmix : P.follows .mixedOrders = true) (hT : TysOk P cx.T) (hH : HookOk P B cx.ng H) (n lim : Nat) (orc : Orc) (ts : List Nat) (ks : List (Nat × Nat)) (nx : Nat) (s' : St) (ob : List Prop)
    (hx : runR cx H sz lim orc base ts ks nx (l.take n) s = some (.n, s', ob)) (hob : ∀ p ∈ ob, p) (h : Tri P B cx sz base (l.drop n) s' R) : Tri P B cx sz base l s R := by
  unfold runR at hx
  split at hx <;> first | (cases hx; done) | skip
  rename_i ex s1 ob1 h1
  split at hx <;> first | (cases hx; done) | skip
  rename_i s2 h2
  cases hx
  intro hng hbs ρ a w hok
  rw [show l = l.take n ++ l.drop n from (List.take_append_drop n l).symm]
  refine execL_wp hmix hT hH _ _ s s1 .n ob ρ a w _ h1 hob hok fun a' w' ⟨ρ1, hok1, hp1⟩ => ?_
  obtain ⟨ρ2, h3, h4, h5⟩ := ren_ok h2 hng hok1
  exact wpCs_mono (fun e a2 w2 q => Fin.of_later ((hp1.low hbs).transB h5 (Nat.le_refl _)) (Nat.le_refl _) q) _ a' w' (h hng h3 ρ2 a' w' h4)

/-- what a function's end must be -/
def Ret (cx : Cx) (rs : List ResultVar) (e : Ef) (ex : Ex) (s' : St) : Prop :=
  (match ex with
    | .x _ => False
    | _ => True) ∧ ∃ ks ob, endsAs cx rs ks e.nx s' = some (e.v, e.m, ob) ∧ ∀ p ∈ ob, p

theorem FnE.tri (hT : TysOk P cx.T) {f : FuncId} {fn : Func} {c : Code} (hf : P.funcs[f]? = some fn) (hb : fn.body = some c) (hn : (fn.name == "runtime.NumGoroutine") = false) (hsz : fn.ntmps = sz) {args : List SV} (hlen : Nat.ble args.length sz = true) {m : Mem} {nx : Nat} {e : Ef}
    (hlt : args.all (SV.lt nx) = true) (hle : nx ≤ e.nx) (ht : Tri P B cx sz nx (flat c) ⟨enum 0 args, m, nx⟩ (Ret cx fn.results.toList e)) : FnE P B cx.ng f args m nx e :=
  FnE.of_tri hT hf hb hn hsz (Nat.le_of_ble_eq_true hlen) hlt hle ht

/-- to the function's end -/
theorem Tri.ret (hmix : P.follows .mixedOrders = true) (hT : TysOk P cx.T) (hH : HookOk P B cx.ng H) (lim : Nat) (orc : Orc) (ts ks : List Nat) (nx : Nat) (s' : St) (ob : List Prop) {rs : List ResultVar} {e : Ef} (ex : Ex) (hx : runC cx H sz lim orc ts ks nx l s = some (ex, s', ob)) (hob : ∀ p ∈ ob, p)
    (hle : Nat.ble s.nx nx = true) (hex : (match ex with
    | .x _ => false
    | _ => true) = true) (ks2 : List Nat) (ob2 : List Prop) (hr : endsAs cx rs ks2 e.nx s' = some (e.v, e.m, ob2)) (hob2 : ∀ p ∈ ob2, p) : Tri P B cx sz base l s (Ret cx rs e) :=
  Tri.fin hmix hT hH lim orc ts ks nx ex s' ob hx hob hle ⟨by cases ex <;> first | trivial | (cases hex), ks2, ob2, hr, hob2⟩
end

def ifcB (P : Program) (t : TypeId) : Bool := match P.underlying t with
  | some (.interface _) => true
  | _ => false

theorem TyOk.ifc' {P : Program} {t : TypeId} {b : Nat} {z : List SegD} (h1 : ifcB P t = true) (h2 : infoB P t = some (1, b, some (zCells z))) (hz : z.all (SegD.lt 0) = true) : TyOk P t ⟨.ifc, 1, z, false⟩ := by
  unfold ifcB at h1
  split at h1 <;> first | (cases h1; done) | skip
  rename_i ms h
  exact .ifc h h2 hz

end Go.Sx

set_option linter.unusedVariables false
namespace Go.Sx
open Go.RowKit

/-- an argument that is a slice of unknown capacity: nil, or at a place with some capacity -/
theorem FnE.slice {P : Program} {B ng : Nat} {f : FuncId} {A : Sc → List SV} {m : Mem} {nx k n : Nat} {s : Seg} {e : Ef} (hA : ∀ (x y : Sc) (ρ : Env), x.den ρ = y.den ρ → (A x).map (SV.den ρ) = (A y).map (SV.den ρ)) (hk : find m k = some s) (hn : n ≤ s.d.len)
    (h1 : ∀ c, s.d.len ≤ c → FnE P B ng f (A (.sl k 0 n c)) m nx e) (h2 : s.d.len = 0 → FnE P B ng f (A .sl0) m nx e) : FnE P B ng f (A (.osl k n)) m nx e := by
  refine ⟨(h1 s.d.len (Nat.le_refl _)).1, fun ρ w hm => ?_⟩
  have hs := hm.segs k s hk
  cases hnil : (ρ k).isNil with
  | true =>
    have hc := hs.nil hnil
    have hcap := hs.cap
    have h0 : s.d.len = 0 := by omega
    rw [hA (.osl k n) .sl0 ρ (by simp [Sc.den, hnil, hc, show n = 0 by omega])]
    exact (h2 h0).2 ρ w hm
  | false =>
    rw [hA (.osl k n) (.sl k 0 n (ρ k).cap) ρ (by simp [Sc.den, hnil])]
    exact (h1 _ hs.cap).2 ρ w hm

/-- nil, as a slice at a key of its own -/
theorem FnE.nilRes {P : Program} {B ng : Nat} {f : FuncId} {args : List SV} {m m' : Mem} {nx nx' : Nat} {c c' : K4} {ob ob' : List Prop} (d : SegD) (hd : d.len = 0) (hlt : d.lt nx' = true) (h : FnE P B ng f args m nx ⟨.one (.s .sl0), m', nx', c, ob⟩) :
    FnE P B ng f args m nx ⟨.one (.s (.osl nx' 0)), (nx', ⟨0, d, true, true, false⟩) :: m', nx' + 1, c', ob'⟩ := by
  refine ⟨h.1, fun ρ w hm => (h.2 ρ w hm).mono fun en w' ⟨ρ', he, hp⟩ => ⟨_, ?_, hp.trans (PostM.nil hp.ok d hd hlt)⟩⟩
  rw [he]
  simp [SV.den, SV0.den, Sc.den, envN_at]

section
variable {P : Program} {B : Nat} {cx : Cx} {sz : Nat} {R : Ex → St → Prop} {s : St} {l : List Code} {base : Nat}

/-- a second key for a piece that is only read -/
theorem PostM.twin {B ng : Nat} {ρ : Env} {m : Mem} {nx : Nat} {w : World} (h : MemOk B ng ρ m nx w) {k : Nat} {g : Seg} (hk : find m k = some g) (ho : g.own = false) (hx : g.nxt = false) : PostM B ng ρ m nx w (envN nx ρ (ρ k)) ((nx, g) :: m) (nx + 1) w := by
  have he : ∀ q, q < nx → envN nx ρ (ρ k) q = ρ q := fun q hq => envN_lo hq
  have hen : envN nx ρ (ρ k) nx = ρ k := envN_at
  have hsk := h.segs k g hk
  have hwk := h.wf k g hk
  have old : MemOk B ng (envN nx ρ (ρ k)) m (nx + 1) w := h.env he (by omega)
  have split : ∀ q t, find ((nx, g) :: m) q = some t → (q = nx ∧ t = g) ∨ (q < nx ∧ find m q = some t) := by
    intro q t ht
    rw [find_cons] at ht
    by_cases e : nx = q
    · rw [if_pos e] at ht; cases ht; exact .inl ⟨e.symm, rfl⟩
    · rw [if_neg e] at ht; exact .inr ⟨h.keys q t ht, ht⟩
  have hr : g.reach (envN nx ρ (ρ k)) nx = g.reach ρ k := by simp [Seg.reach, ho]
  have ap : ∀ q t, find m q = some t → t.own = true → Apart (envN nx ρ (ρ k)) nx g q t := by
    intro q t ht hto
    unfold Apart
    rw [hr, hen, he q (h.keys q t ht), Seg.reach_congr (he q (h.keys q t ht))]
    have hq : k ≠ q := fun e => by subst e; rw [hk] at ht; cases ht; rw [ho] at hto; cases hto
    exact h.dis k q g t hk ht hq (.inr hto)
  refine ⟨he, ⟨fun q t ht => ?_, fun q t ht => ?_, fun q q' t t' ht ht' hne hoo => ?_, h.base, old.glob, old.ng_le, fun q t ht => ?_⟩, ⟨Below.refl _ _, fun _ _ _ _ => ⟨rfl, rfl⟩⟩, ?_, ?_, by omega⟩
  · rcases split q t ht with ⟨rfl, _⟩ | ⟨h1, _⟩ <;> omega
  · rcases split q t ht with ⟨rfl, rfl⟩ | ⟨_, h2⟩
    · refine ⟨fun e => (by rw [ho] at e; cases e), hsk.fixed, by rw [hen]; exact hsk.cap, by rw [hen]; exact hsk.nil, fun j x hj => ?_, fun e => (by rw [ho] at e; cases e), fun e => (by rw [hx] at e; cases e), fun _ e => (by rw [ho] at e; cases e)⟩
      rw [hen, hsk.cell j x hj, Sc.den_congr he (SegD.scs_lt hwk.1 x (List.mem_of_getElem? hj))]
    · exact old.segs q t h2
  · rcases split q t ht with ⟨rfl, rfl⟩ | ⟨_, h2⟩ <;> rcases split q' t' ht' with ⟨rfl, rfl⟩ | ⟨_, h2'⟩
    · exact absurd rfl hne
    · exact ap q' t' h2' (by rcases hoo with e | e; (rw [ho] at e; cases e); exact e)
    · rcases ap q t h2 (by rcases hoo with e | e; exact e; (rw [ho] at e; cases e)) with hx | hx
      · exact .inl (Ne.symm hx)
      · exact .inr fun j j' hj hj' e => hx j' j hj' hj e.symm
    · exact old.dis q q' t t' h2 h2' hne hoo
  · rcases split q t ht with ⟨rfl, rfl⟩ | ⟨_, h2⟩
    · exact ⟨SegD.lt_mono (by omega) hwk.1, fun e => by rw [hx] at e; cases e⟩
    · exact old.wf q t h2
  · rintro b o' hb ⟨q, t, ht, g1, g2, g3, g4⟩
    rcases split q t ht with ⟨rfl, rfl⟩ | ⟨_, h2⟩
    · rw [ho] at g1; cases g1
    · have e := he q (h.keys q t h2)
      rw [Seg.ext_congr e] at g4
      rw [e] at g2 g3 g4
      exact ⟨q, t, h2, g1, g2, g3, g4⟩
  · rintro b o' hb ⟨q, t, ht, g2, g3, g4⟩
    rcases split q t ht with ⟨rfl, rfl⟩ | ⟨_, h2⟩
    · rw [hr] at g4
      rw [hen] at g2 g3 g4
      exact ⟨k, t, hk, g2, g3, g4⟩
    · have e := he q (h.keys q t h2)
      rw [Seg.reach_congr e] at g4
      rw [e] at g2 g3 g4
      exact ⟨q, t, h2, g2, g3, g4⟩

theorem Tri.twin {k d n : Nat} {g : Seg} (hk : find s.m k = some g) (ho : g.own = false) (hx : g.nxt = false) (hd : find s.t d = some (.one (.s (.osl k n)))) (h : Tri P B cx sz base l ⟨(d, .one (.s (.osl s.nx n))) :: s.t, (s.nx, g) :: s.m, s.nx + 1⟩ R) : Tri P B cx sz base l s R := by
  intro hng hbs ρ a w hok
  have hp := PostM.twin hok.mem hk ho hx
  have hok2 := hok.post hp
  refine wpCs_mono (fun e a2 w2 q => Fin.of_later (hp.low hbs) (Nat.le_refl _) q) _ a w (h hng (by show base ≤ s.nx + 1; omega) (envN s.nx ρ (ρ k)) a w ⟨⟨fun i v hv => ?_, fun i v hv => ?_⟩, hok2.size, hok2.mem, hok2.noDefer⟩)
  · rw [find_cons] at hv
    by_cases e : d = i
    · rw [if_pos e] at hv
      cases hv
      subst e
      rw [hok.tm.val d _ hd]
      simp [SV.den, SV0.den, Sc.den, envN_at]
    · rw [if_neg e] at hv; exact hok2.tm.val i v hv
  · rw [find_cons] at hv
    by_cases e : d = i
    · rw [if_pos e] at hv; cases hv; simp [SV.lt, SV0.lt, Sc.lt]
    · rw [if_neg e] at hv; exact hok2.tm.wf i v hv
end
end Go.Sx

set_option linter.unusedVariables false
namespace Go.Sx
open Go.RowKit

/-- the carry of a sum; the borrow of a difference -/
def acy (x y c : BitVec 64) : BitVec 64 := BitVec.ofNat 64 ((x.toNat + y.toNat + c.toNat) / 2 ^ 64)
def sbw (x y b : BitVec 64) : BitVec 64 := BitVec.ofNat 64 (if x.toNat < y.toNat + b.toNat then 1 else 0)

theorem acy_nat (x y c : BitVec 64) : (acy x y c).toNat = (x.toNat + y.toNat + c.toNat) / 2 ^ 64 := by
  have hx := x.isLt
  have hy := y.isLt
  have hc := c.isLt
  unfold acy
  rw [BitVec.toNat_ofNat, Nat.mod_eq_of_lt (by omega)]
theorem acy_le {x y c : BitVec 64} (h : c.toNat ≤ 1) : (acy x y c).toNat ≤ 1 := by
  have hx := x.isLt
  have hy := y.isLt
  rw [acy_nat]; omega
theorem asm_nat (x y c : BitVec 64) : (x + y + c).toNat = (x.toNat + y.toNat + c.toNat) % 2 ^ 64 := by
  rw [BitVec.toNat_add, BitVec.toNat_add, Nat.mod_add_mod]
theorem sbw_nat (x y b : BitVec 64) : (sbw x y b).toNat = if x.toNat < y.toNat + b.toNat then 1 else 0 := by
  unfold sbw
  rw [BitVec.toNat_ofNat]
  split <;> rfl
theorem sbw_le {x y b : BitVec 64} : (sbw x y b).toNat ≤ 1 := by rw [sbw_nat]; split <;> omega
theorem sdf_nat (x y b : BitVec 64) (hb : b.toNat ≤ 1) : (x - y - b).toNat = (x.toNat + 2 ^ 64 - y.toNat - b.toNat) % 2 ^ 64 := by
  have hx := x.isLt
  have hy := y.isLt
  rw [BitVec.toNat_sub, BitVec.toNat_sub]
  omega

section
variable {P : Program} {B ng : Nat}

def exAdd (args : List SV) (m : Mem) (nx : Nat) : Option Ef := match args with
  | [.one (.s (.u64 x)), .one (.s (.u64 y)), .one (.s (.u64 c))] => some ⟨.tup [.s (.u64 (x + y + c)), .s (.u64 (acy x y c))], m, nx, .read, [c.toNat ≤ 1]⟩
  | _ => none
def exSub (args : List SV) (m : Mem) (nx : Nat) : Option Ef := match args with
  | [.one (.s (.u64 x)), .one (.s (.u64 y)), .one (.s (.u64 b))] => some ⟨.tup [.s (.u64 (x - y - b)), .s (.u64 (sbw x y b))], m, nx, .read, [b.toNat ≤ 1]⟩
  | _ => none
/-- a truth value as a byte -/
def b2u (x : Bool) : BitVec 8 := bif x then 1#8 else 0#8
def exB2u (args : List SV) (m : Mem) (nx : Nat) : Option Ef := match args with
  | [.one (.s (.b x))] => some ⟨.one (.s (.u8 (b2u x))), m, nx, .read, []⟩
  | _ => none

def subEntry : Array Value → Sem Value := fun args => do
  let (x, y, b) ← Extern.MathBitsCarry.three "Sub64" args
  pure (Extern.MathBitsCarry.pair ((x + Extern.MathBitsCarry.m64 - y - b) % Extern.MathBitsCarry.m64) (if x < y + b then 1 else 0))
theorem run_subE (x y b : Nat) (hb : b ≤ 1) (w : World) : (subEntry #[.int .u64 x, .int .u64 y, .int .u64 b]).run P w =
      .ok (.tuple #[.int .u64 (((x + 18446744073709551616 - y - b) % 18446744073709551616 : Nat) : Int), .int .u64 ((if x < y + b then 1 else 0 : Nat) : Int)]) w := by
  have : b = 0 ∨ b = 1 := by omega
  rcases this with rfl | rfl <;> rfl
def b2uEntry : Array Value → Sem Value := fun
    | #[.bool b] => pure (.int .u8 (if b then 1 else 0))
    | _ => stuck "boolToUint8: a bool expected"

structure ExOk (P : Program) (f : FuncId) (fn : Func) (e : Array Value → Sem Value) : Prop where
  func : P.funcs[f]? = some fn
  name : (fn.name == "runtime.NumGoroutine") = false
  body : fn.body.isNone = true
  next : Extern.findNext fn = none
  find : Extern.find fn = some e

theorem HkOk.exAdd {f : FuncId} {fn : Func} (h : ExOk P f fn add64Entry) : HkOk P B ng f Sx.exAdd := by
  intro args m nx e he hob hargs
  unfold Sx.exAdd at he
  split at he <;> first | (cases he; done) | skip
  rename_i x y c
  cases he
  have hc : c.toNat ≤ 1 := hob _ (by simp)
  refine ⟨⟨by simp [SV.lt, SV0.lt, Sc.lt], .inr ⟨rfl, rfl, fun ρ w => ?_⟩⟩, rfl, rfl⟩
  show (callFunc f #[.int .u64 x.toNat, .int .u64 y.toNat, .int .u64 c.toNat]).run P w = _
  rw [run_callFunc_extern h.func h.name h.body h.next h.find, run_add64 _ _ _ (by omega) (by omega) (by omega) (by omega)]
  simp only [Result.andThen, SV.den, List.map, SV0.den, Sc.den, asm_nat, acy_nat]
  congr 5 <;> omega

theorem HkOk.exSub {f : FuncId} {fn : Func} (h : ExOk P f fn subEntry) : HkOk P B ng f Sx.exSub := by
  intro args m nx e he hob hargs
  unfold Sx.exSub at he
  split at he <;> first | (cases he; done) | skip
  rename_i x y c
  cases he
  have hc : c.toNat ≤ 1 := hob _ (by simp)
  refine ⟨⟨by simp [SV.lt, SV0.lt, Sc.lt], .inr ⟨rfl, rfl, fun ρ w => ?_⟩⟩, rfl, rfl⟩
  show (callFunc f #[.int .u64 x.toNat, .int .u64 y.toNat, .int .u64 c.toNat]).run P w = _
  rw [run_callFunc_extern h.func h.name h.body h.next h.find, run_subE _ _ _ hc]
  simp only [Result.andThen, SV.den, List.map, SV0.den, Sc.den, sdf_nat x y c hc, sbw_nat]

theorem HkOk.exB2u {f : FuncId} {fn : Func} (h : ExOk P f fn b2uEntry) : HkOk P B ng f Sx.exB2u := by
  intro args m nx e he hob hargs
  unfold Sx.exB2u at he
  split at he <;> first | (cases he; done) | skip
  rename_i x
  cases he
  refine ⟨⟨by simp [SV.lt, SV0.lt, Sc.lt], .inr ⟨rfl, rfl, fun ρ w => ?_⟩⟩, rfl, rfl⟩
  show (callFunc f #[.bool x]).run P w = _
  rw [run_callFunc_extern h.func h.name h.body h.next h.find]
  cases x <;> rfl
end
end Go.Sx

set_option linter.unusedVariables false
namespace Go.Sx
open Go.RowKit Go.ChangeShapes Go.WideShapes

section
variable {H : Type} {enc : TypeId × Value → H} {P : Program} {W : World} {base : Nat} {held : Bool}

/-- where a slice lies -/
structure LiesD (W : World) (v : Value) (d : SegD) (loc : Loc) : Prop where
  val : ∀ (ρ : Env) (k : Nat), ρ k = loc → v = (SV.one (.s (.osl k d.len))).den ρ
  cap : d.len ≤ loc.cap
  max : loc.cap ≤ maxLen
  nil : loc.isNil = true → loc.cap = 0
  cell : ∀ (ρ : Env) j x, d.scs[j]? = some x → W.cell? ⟨loc.blk, loc.off + j, none⟩ = some (x.den ρ)
  lt : ∀ n, d.lt n = true

theorem Lies.toD {v : Value} {l : List (BitVec 8)} {loc : Loc} (h : Lies W v l loc) : LiesD W v (.d8 l) loc :=
  ⟨h.val, h.cap, h.max, h.nil, fun ρ j x hx => by
    simp only [SegD.scs, List.getElem?_map, Option.map_eq_some_iff] at hx
    obtain ⟨z, hz, rfl⟩ := hx
    exact h.cell j z hz, fun n => rfl⟩

/-- a slice of ints -/
theorem openSlcI {t e : TypeId} {r : Reach} {b0 : Nat} {v : Value} {d : DataW H} {ps : List MemPlace} (ht : P.underlying t = some (.slice e)) (he : P.underlying e = some (.int .i64)) (hc : P.cellsOf e = 1)
    (hval : Value.okWide P W r b0 t v) (hd : DataW.Trod enc P W base (fun _ => true) held t v d ps) : ∃ (l : List Int) (loc : Loc), LiesD W v (.di l) loc := by
  obtain ⟨fuel, hf⟩ := hd
  have hv : Cell.ok P W r b0 t v := by
    simp only [Value.okWide, ht, Cell.okWide] at hval
    exact hval
  have one : v.cells.toList = [v] := by
    simp only [Cell.ok, ht] at hv
    cases v <;> first | rfl | (split at hv <;> simp_all)
  rw [one] at hf
  rcases open_ints ht he hc hf with ⟨h1, _⟩ | ⟨a, len, cap, zs, h1, _, hl, hm, hz, _, hcell, hw⟩
  · simp only [List.cons.injEq, and_true] at h1
    subst h1
    exact ⟨[], ⟨0, 0, 0, true⟩, fun ρ k hk => by simp [SV.den, SV0.den, Sc.den, hk, SegD.len], by simp [SegD.len], by simp [maxLen], fun _ => rfl, fun ρ j x hx => by simp [SegD.scs] at hx, fun n => rfl⟩
  · simp only [List.cons.injEq, and_true] at h1
    subst h1
    simp only [if_true] at hz
    have hsp : a.spot = none := by
      simp only [Cell.ok, ht] at hv
      exact hv.2.2.2.1
    obtain ⟨b, o, s⟩ := a
    simp only at hsp
    subst hsp
    have hlen : (zs.take len).length = len := by simp; omega
    refine ⟨zs.take len, ⟨b, o, cap, false⟩, fun ρ k hk => ?_, by show (zs.take len).length ≤ cap; omega, hm, fun h => (by cases h), fun ρ j x hx => ?_, fun n => rfl⟩
    · simp only [SV.den, SV0.den, Sc.den, hk, SegD.len, hlen]
      rfl
    · simp only [SegD.scs, List.getElem?_map, Option.map_eq_some_iff] at hx
      obtain ⟨n, hn, rfl⟩ := hx
      have hj : j < (zs.take len).length := (List.getElem?_eq_some_iff.1 hn).1
      rw [List.length_take] at hj
      rw [List.getElem?_take, if_pos (by omega)] at hn
      have := hcell j (by omega)
      rw [add_none] at this
      simpa [List.getD, hn, Sc.den] using this

def segsD (ds : List SegD) : List Seg := ds.map fun d => ⟨d.len, d, false, false, false⟩

theorem memD {ng : Nat} {lls : List (SegD × Loc)} (h : ∀ x ∈ lls, ∃ v, LiesD W v x.1 x.2) :
    MemOk W.heap.size ng (envL ng (lls.map (·.2))) (addM ng (segsD (lls.map (·.1))) []) (ng + lls.length) W := by
  have get : ∀ k s, find (addM ng (segsD (lls.map (·.1))) []) k = some s → ng ≤ k ∧ k < ng + lls.length ∧ ∃ x, lls[k - ng]? = some x ∧ s = ⟨x.1.len, x.1, false, false, false⟩ := by
    intro k s hk
    rw [find_addM] at hk
    by_cases hr : ng ≤ k ∧ k < ng + (segsD (lls.map (·.1))).length
    · rw [if_pos hr] at hk
      have hl : (segsD (lls.map (·.1))).length = lls.length := by simp [segsD]
      simp only [segsD, List.map_map, List.getElem?_map, Option.map_eq_some_iff] at hk
      obtain ⟨x, hx, rfl⟩ := hk
      exact ⟨hr.1, by omega, x, hx, rfl⟩
    · rw [if_neg hr] at hk; cases hk
  have loc : ∀ k x, ng ≤ k → lls[k - ng]? = some x → envL ng (lls.map (·.2)) k = x.2 := by
    intro k x hk hx
    unfold envL
    rw [if_neg (by omega)]
    simp [List.getD, hx]
  refine ⟨fun k s hk => (get k s hk).2.1, fun k s hk => ?_, fun k k' s s' hk hk' _ ho => ?_, Nat.le_refl _, fun g hg => ?_, by omega, fun k s hk => ?_⟩
  · obtain ⟨h1, h2, x, hx, rfl⟩ := get k s hk
    obtain ⟨v, hv⟩ := h x (List.mem_of_getElem? hx)
    have e := loc k x h1 hx
    refine ⟨fun a => (by cases a), fun _ => rfl, by rw [e]; exact hv.cap, by rw [e]; exact hv.nil, fun j y hy => ?_, fun a => (by cases a), fun a => (by cases a), fun _ a => (by cases a)⟩
    rw [e]
    exact hv.cell _ j y hy
  · obtain ⟨_, _, x, _, rfl⟩ := get k s hk
    obtain ⟨_, _, y, _, rfl⟩ := get k' s' hk'
    rcases ho with ho | ho <;> cases ho
  · unfold envL; rw [if_pos hg]; exact ⟨rfl, rfl⟩
  · obtain ⟨_, _, x, hx, rfl⟩ := get k s hk
    obtain ⟨v, hv⟩ := h x (List.mem_of_getElem? hx)
    exact ⟨hv.lt _, fun a => by cases a⟩

/-- a law's call, from its contract -/
theorem lawCallD {ng : Nat} {f : FuncId} {args : List SV} {lls : List (SegD × Loc)} (h : ∀ x ∈ lls, ∃ v, LiesD W v x.1 x.2) {e : Ef} (hv : e.v = .one (.s (.b true)))
    (hf : FnE P W.heap.size ng f args (addM ng (segsD (lls.map (·.1))) []) (ng + lls.length) e) {vs : Array Value} (hvs : vs.toList = args.map (SV.den (envL ng (lls.map (·.2))))) :
    Calls P f vs W fun en W' => en = .returned (.bool true) ∧ Below W.heap.size W W' := by
  have := hf.2 _ W (memD (W := W) (ng := ng) h)
  rw [← hvs] at this
  refine this.mono fun en W' ⟨ρ', he, hp⟩ => ⟨?_, hp.frame.below⟩
  rw [he, hv]; rfl
end

section
variable {P : Program} {B : Nat} {cx : Cx} {sz : Nat} {R : Ex → St → Prop} {s : St} {l : List Code} {base : Nat}

/-- a slice looked at under a key of its own -/
theorem Tri.view {k d n : Nat} {g : Seg} (hk : find s.m k = some g) (hd : find s.t d = some (.one (.s (.osl k n)))) (hn : n ≤ g.d.len)
    (h : Tri P B cx sz base l ⟨(d, .one (.s (.osl s.nx n))) :: s.t, (s.nx, ⟨n, g.d.sub 0 n, false, false, false⟩) :: (k, { g with own := false }) :: delM s.m k, s.nx + 1⟩ R) : Tri P B cx sz base l s R := by
  intro hng hbs ρ a w hok
  have hsk := hok.mem.segs k g hk
  have hcap := hsk.cap
  have p1 := PostM.give hok.mem hk
  have p2 := PostM.view (s := { g with own := false }) p1.ok (k := k) (by simp [find_cons]) rfl (l := 0) (n := n) (by show 0 + n ≤ g.d.len; omega) (ρ k) (fun _ => ⟨rfl, rfl⟩) (by omega) hsk.nil
  have hp := p1.trans p2
  have hok2 := hok.post hp
  refine wpCs_mono (fun e a2 w2 q => Fin.of_later (hp.low hbs) (Nat.le_refl _) q) _ a w (h hng (by show base ≤ s.nx + 1; omega) (envN s.nx ρ (ρ k)) a w ⟨⟨fun i v hv => ?_, fun i v hv => ?_⟩, hok2.size, hok2.mem, hok2.noDefer⟩)
  · rw [find_cons] at hv
    by_cases e : d = i
    · rw [if_pos e] at hv
      cases hv
      subst e
      rw [hok.tm.val d _ hd]
      simp [SV.den, SV0.den, Sc.den, envN_at]
    · rw [if_neg e] at hv; exact hok2.tm.val i v hv
  · rw [find_cons] at hv
    by_cases e : d = i
    · rw [if_pos e] at hv; cases hv; simp [SV.lt, SV0.lt, Sc.lt]
    · rw [if_neg e] at hv; exact hok2.tm.wf i v hv
end
end Go.Sx
