/- A drawn region: what one step of its symbolic run says, and that the bookkeeping is kept. Conditions: none; plain definitions and theorems over any program. -/
import Derived.Test.YtnloecdkogckiaaDoorSx12
set_option linter.unusedVariables false
namespace Go.Sx
open Go.RowKit

inductive SK (cx : Cx) (H : Hook) (orc : Orc) (ops : List Oper) (m0 : Mem) (nx0 : Nat) (acc : Acc) (nx hm em cl : Nat) (t : TM) (o : Oper) (inf : Inf) (full full' : Mem) (ob : List Prop) (LP : Nat → Prop) : Prop
  | skip : wantX orc t ops o = some (false, ob) → inf = ⟨o.dst, undefS, cl, readsOf ops o, nx, nx, .pure⟩ → full' = full → SK cx H orc ops m0 nx0 acc nx hm em cl t o inf full full' ob LP
  | pure (v : SV) (ob0 ob1 : List Prop) : wantX orc t ops o = some (true, ob0) → pureX cx t (memH m0 (bit cl) acc) o.op = some (v, ob1) → v.on (lv1 nx0 acc (bit cl) nx nx) = true →
      inf = ⟨o.dst, v, cl, readsOf ops o, nx, nx, .pure⟩ → full' = full → ob = ob0 ++ ob1 → SK cx H orc ops m0 nx0 acc nx hm em cl t o inf full full' ob LP
  | head (e : Ef) (L : List Seg) (ob0 : List Prop) : wantX orc t ops o = some (true, ob0) → em = 0 → opM cx H t (memH m0 (bit cl) acc) nx o.op = some e → ((e.c = .read ∧ L = []) ∨ e.c = .new L) →
      e.v.on (lv1 nx0 acc (bit cl) nx (nx + L.length)) = true → okL (lv1 nx0 acc (bit cl) nx (nx + L.length)) L = true → inf = ⟨o.dst, e.v, cl, readsOf ops o, nx, nx + L.length, .head L⟩ → full' = addM nx L full → ob = ob0 ++ e.ob →
      SK cx H orc ops m0 nx0 acc nx hm em cl t o inf full full' ob LP
  | eff (e : Ef) (ob0 : List Prop) : wantX orc t ops o = some (true, ob0) → Nat.land cl hm = hm → opM cx H t full nx o.op = some e → e.v.on (lv1 nx0 acc (bit cl) nx e.nx) = true → nx ≤ e.nx →
      inf = ⟨o.dst, e.v, cl, readsOf ops o, nx, e.nx, .eff e.m⟩ → full' = e.m → ob = ob0 ++ e.ob → SK cx H orc ops m0 nx0 acc nx hm em cl t o inf full full' ob LP
  | late (v : SV) (K oo : Nat) (g : Seg) (ty : TypeId) (x : Operand) (ob0 ob1 : List Prop) : wantX orc t ops o = some (true, ob0) → em = 0 → o.op = .load ty x → evs cx t x = some (.p K oo) → find m0 K = some g → loadM cx t [(K, g)] ty x = some (v, ob1) → v.on (lv1 nx0 acc (bit cl) nx nx) = true →
      inf = ⟨o.dst, v, cl, readsOf ops o, nx, nx, .pure⟩ → full' = full → ob = ob0 ++ ob1 → LP K → SK cx H orc ops m0 nx0 acc nx hm em cl t o inf full full' ob LP

section
variable {cx : Cx} {H : Hook} {sz : Nat} {orc : Orc} {ops : List Oper} {t0 : TM} {m0 : Mem} {nx0 : Nat}

theorem workD_spec {LP : Nat → Prop} {acc : Acc} {nx hm em cl : Nat} {full full' : Mem} {t : TM} {o : Oper} {inf : Inf} {ob ob0 : List Prop} (hw : wantX orc t ops o = some (true, ob0))
    (h : workD cx H ops m0 nx0 acc nx hm em cl full t o = some (inf, full', ob)) : SK cx H orc ops m0 nx0 acc nx hm em cl t o inf full full' (ob0 ++ ob) LP := by
  unfold workD at h
  split at h
  · rename_i v ob1 hv
    cases hb : v.on (lv1 nx0 acc (bit cl) nx nx) with
    | false => rw [hb] at h; cases h
    | true => rw [hb, cond_true] at h; cases h; exact .pure v ob0 ob hw hv hb rfl rfl rfl
  · split at h
    · rename_i r hr
      cases h
      unfold headD at hr
      cases he : Nat.beq em 0 with
      | false => rw [he] at hr; cases hr
      | true =>
        rw [he, cond_true] at hr
        have he := Nat.eq_of_beq_eq_true he
        split at hr <;> first | (cases hr; done) | skip
        rename_i e hop
        split at hr
        · rename_i hc
          cases hb : e.v.on (lv1 nx0 acc (bit cl) nx nx) with
          | false => rw [hb] at hr; cases hr
          | true => rw [hb, cond_true] at hr; cases hr; exact .head e [] ob0 hw he hop (.inl ⟨hc, rfl⟩) hb rfl rfl rfl rfl
        · rename_i L hc
          cases hb : (e.v.on (lv1 nx0 acc (bit cl) nx (nx + L.length)) && okL (lv1 nx0 acc (bit cl) nx (nx + L.length)) L) with
          | false => rw [hb] at hr; cases hr
          | true =>
            rw [hb, cond_true] at hr; cases hr
            simp only [Bool.and_eq_true] at hb
            exact .head e L ob0 hw he hop (.inr hc) hb.1 hb.2 rfl rfl rfl
        · cases hr
    · unfold effD at h
      cases he : Nat.beq (Nat.land cl hm) hm with
      | false => rw [he] at h; cases h
      | true =>
        rw [he, cond_true] at h
        have he := Nat.eq_of_beq_eq_true he
        split at h <;> first | (cases h; done) | skip
        rename_i e hop
        cases hb : (e.v.on (lv1 nx0 acc (bit cl) nx e.nx) && Nat.ble nx e.nx) with
        | false => rw [hb] at h; cases h
        | true =>
          rw [hb, cond_true] at h; cases h
          simp only [Bool.and_eq_true, Nat.ble_eq] at hb
          exact .eff e ob0 hw he hop hb.1 hb.2 rfl rfl rfl

/-- what is known of a step, of whatever kind -/
def StepOk (cx : Cx) (H : Hook) (sz : Nat) (orc : Orc) (ops : List Oper) (t0 : TM) (m0 : Mem) (nx0 : Nat) (acc : Acc) (i nx hm em : Nat) (full : Mem) (o : Oper) (inf : Inf) (full' : Mem) (ob : List Prop) (LP : Nat → Prop) : Prop :=
    (∀ e ∈ o.after, Region.binds .any e = true → e.on < i) ∧ ∃ cl t, clM acc o.after.toList 0 = some cl ∧ dstOk sz acc t0 cl o.dst = true ∧ resT acc t0 cl (readsOf ops o) = some t ∧ SK cx H orc ops m0 nx0 acc nx hm em cl t o inf full full' ob LP

theorem lateD_spec {LP : Nat → Prop} {acc : Acc} {i nx hm em K : Nat} {full : Mem} {o : Oper} {inf : Inf} {ob : List Prop} (h : lateD cx sz orc ops t0 m0 nx0 acc i nx em o = some (K, inf, ob)) (hK : LP K) :
    em = 0 ∧ inf.k = .pure ∧ inf.hi = nx ∧ StepOk cx H sz orc ops t0 m0 nx0 acc i nx hm em full o inf full ob LP := by
  unfold lateD at h
  cases ha : (Nat.beq em 0 && o.after.toList.all (fun e => !Region.binds .any e || Nat.blt e.on i)) with
  | false => rw [ha] at h; cases h
  | true =>
    rw [ha, cond_true] at h
    simp only [Bool.and_eq_true] at ha
    have h0 := Nat.eq_of_beq_eq_true ha.1
    split at h <;> first | (cases h; done) | skip
    rename_i ty x hop
    split at h <;> first | (cases h; done) | skip
    rename_i cl hcl
    cases hd : dstOk sz acc t0 cl o.dst with
    | false => rw [hd] at h; cases h
    | true =>
      rw [hd, cond_true] at h
      split at h <;> first | (cases h; done) | skip
      rename_i t ht
      split at h <;> first | (cases h; done) | skip
      rename_i ob0 hw
      split at h <;> first | (cases h; done) | skip
      rename_i K' oo he
      split at h <;> first | (cases h; done) | skip
      rename_i g hg
      split at h <;> first | (cases h; done) | skip
      rename_i v ob1 hl
      cases hv : v.on (lv1 nx0 acc (bit cl) nx nx) with
      | false => rw [hv] at h; cases h
      | true =>
        rw [hv, cond_true] at h
        cases h
        refine ⟨h0, rfl, rfl, fun e he hbe => ?_, cl, t, hcl, hd, ht, .late v K oo g ty x ob0 ob1 hw h0 hop he hg hl hv rfl rfl rfl hK⟩
        have h1 := List.all_eq_true.1 ha.2 e (Array.mem_toList_iff.2 he)
        rw [hbe, Bool.not_true, Bool.false_or] at h1
        exact blt_iff.1 h1

theorem stepD_spec {LP : Nat → Prop} {acc : Acc} {i nx hm em : Nat} {full full' : Mem} {o : Oper} {inf : Inf} {ob : List Prop} (h : stepD cx H sz orc ops t0 m0 nx0 acc i nx hm em full o = some (inf, full', ob)) :
    StepOk cx H sz orc ops t0 m0 nx0 acc i nx hm em full o inf full' ob LP := by
  unfold stepD at h
  cases ha : o.after.toList.all (fun e => !Region.binds .any e || Nat.blt e.on i) with
  | false => rw [ha] at h; cases h
  | true =>
    rw [ha, cond_true] at h
    refine ⟨fun e he hbe => ?_, ?_⟩
    · have h1 := List.all_eq_true.1 ha e (Array.mem_toList_iff.2 he)
      rw [hbe, Bool.not_true, Bool.false_or] at h1
      exact blt_iff.1 h1
    split at h <;> first | (cases h; done) | skip
    rename_i cl hcl
    cases hd : dstOk sz acc t0 cl o.dst with
    | false => rw [hd] at h; cases h
    | true =>
      rw [hd, cond_true] at h
      split at h <;> first | (cases h; done) | skip
      rename_i t ht
      split at h <;> first | (cases h; done) | skip
      · rename_i ob' hw
        cases h
        exact ⟨cl, t, hcl, hd, ht, .skip hw rfl rfl⟩
      · rename_i ob' hw
        split at h <;> first | (cases h; done) | skip
        rename_i inf' full'' ob'' hk
        cases h
        exact ⟨cl, t, hcl, hd, ht, workD_spec hw hk⟩

/-- of whatever case: the plain parts -/
theorem SK.parts {LP : Nat → Prop} {acc : Acc} {nx hm em cl : Nat} {full full' : Mem} {t : TM} {o : Oper} {inf : Inf} {ob : List Prop} (h : SK cx H orc ops m0 nx0 acc nx hm em cl t o inf full full' ob LP) :
    inf.dst = o.dst ∧ inf.cl = cl ∧ inf.rd = readsOf ops o ∧ inf.lo = nx ∧ nx ≤ inf.hi ∧ inf.v.on (lv1 nx0 acc (bit cl) nx inf.hi) = true := by
  cases h with
  | skip _ e _ => subst e; exact ⟨rfl, rfl, rfl, rfl, Nat.le_refl _, rfl⟩
  | pure v _ _ _ _ hv e _ _ => subst e; exact ⟨rfl, rfl, rfl, rfl, Nat.le_refl _, hv⟩
  | head e' L _ _ _ _ _ hv _ e _ _ => subst e; exact ⟨rfl, rfl, rfl, rfl, Nat.le_add_right _ _, hv⟩
  | eff e' _ _ _ _ hv hle e _ _ => subst e; exact ⟨rfl, rfl, rfl, rfl, hle, hv⟩
  | late v _ _ _ _ _ _ _ _ _ _ _ _ _ hv e _ _ _ => subst e; exact ⟨rfl, rfl, rfl, rfl, Nat.le_refl _, hv⟩

theorem memH_find (m0 : Mem) (f : Nat → Bool) : ∀ (acc : Acc) (k : Nat), (∃ x ∈ acc, ∃ L, f x.1 = true ∧ x.2.k = .head L ∧ x.2.lo ≤ k ∧ k < x.2.lo + L.length ∧ find (memH m0 f acc) k = L[k - x.2.lo]?) ∨
    ((∀ x ∈ acc, ∀ L, f x.1 = true → x.2.k = .head L → ¬ (x.2.lo ≤ k ∧ k < x.2.lo + L.length)) ∧ find (memH m0 f acc) k = find m0 k)
  | [], k => .inr ⟨by simp, rfl⟩
  | (j, inf) :: r, k => by
    have rest := memH_find m0 f r k
    have pass : (∀ L, f j = true → inf.k = .head L → ¬ (inf.lo ≤ k ∧ k < inf.lo + L.length)) → find (memH m0 f ((j, inf) :: r)) k = find (memH m0 f r) k →
        (∃ x ∈ (j, inf) :: r, ∃ L, f x.1 = true ∧ x.2.k = .head L ∧ x.2.lo ≤ k ∧ k < x.2.lo + L.length ∧ find (memH m0 f ((j, inf) :: r)) k = L[k - x.2.lo]?) ∨
        ((∀ x ∈ (j, inf) :: r, ∀ L, f x.1 = true → x.2.k = .head L → ¬ (x.2.lo ≤ k ∧ k < x.2.lo + L.length)) ∧ find (memH m0 f ((j, inf) :: r)) k = find m0 k) := by
      intro hn he
      rw [he]
      rcases rest with ⟨x, hx, L, r1⟩ | ⟨h1, h2⟩
      · exact .inl ⟨x, List.mem_cons_of_mem _ hx, L, r1⟩
      · refine .inr ⟨fun x hx => ?_, h2⟩
        rcases List.mem_cons.1 hx with rfl | hx
        · exact hn
        · exact h1 x hx
    cases hk : inf.k with
    | pure => exact pass (fun L _ e => by rw [hk] at e; cases e) (by simp only [memH, hk])
    | eff m => exact pass (fun L _ e => by rw [hk] at e; cases e) (by simp only [memH, hk])
    | head L =>
      cases hf : f j with
      | false => exact pass (fun L e => by rw [hf] at e; cases e) (by simp only [memH, hk, hf, cond_false])
      | true =>
        by_cases hr : inf.lo ≤ k ∧ k < inf.lo + L.length
        · refine .inl ⟨(j, inf), List.mem_cons_self, L, hf, hk, hr.1, hr.2, ?_⟩
          simp only [memH, hk, hf, cond_true]
          rw [find_addM, if_pos hr]
        · refine pass (fun L' _ e => by rw [hk] at e; cases e; exact hr) ?_
          simp only [memH, hk, hf, cond_true]
          rw [find_addM, if_neg hr]

variable {acc : Acc} {i nx hm em : Nat} {full : Mem}

theorem DI.uniq (D : DI t0 m0 nx0 sz acc i nx hm em full) {j j' k : Nat} {inf inf' : Inf} (h : find acc j = some inf) (h' : find acc j' = some inf') (a : inf.lo ≤ k ∧ k < inf.hi) (b : inf'.lo ≤ k ∧ k < inf'.hi) : j = j' := by
  rcases Nat.lt_trichotomy j j' with hj | hj | hj
  · have := D.ord j j' inf inf' h h' hj; omega
  · exact hj
  · have := D.ord j' j inf' inf h' h hj; omega

theorem DI.memH (D : DI t0 m0 nx0 sz acc i nx hm em full) (f : Nat → Bool) : MemH m0 acc f (memH m0 f acc) := by
  refine ⟨fun j inf L k hj hf hk h1 h2 => ?_, fun k hn => ?_⟩
  · rcases memH_find m0 f acc k with ⟨x, hx, L', f1, k1, l1, u1, e1⟩ | ⟨n1, _⟩
    · have hm := D.mem x hx
      have hhi := D.hdl _ _ _ hm k1
      have := D.uniq hj hm ⟨h1, h2⟩ ⟨l1, by omega⟩
      subst this
      rw [hj] at hm; cases hm
      rw [hk] at k1; cases k1
      exact e1
    · have := n1 (j, inf) (find_mem acc j inf hj) L hf hk
      have hhi := D.hdl _ _ _ hj hk
      have hq : k < inf.lo + L.length := by omega
      exact absurd ⟨h1, hq⟩ this
  · rcases memH_find m0 f acc k with ⟨x, hx, L', f1, k1, l1, u1, e1⟩ | ⟨_, e⟩
    · have hm := D.mem x hx
      have hhi := D.hdl _ _ _ hm k1
      exact absurd ⟨l1, by omega⟩ (hn x.1 x.2 L' hm f1 k1)
    · exact e

/-- the same of a longer table -/
theorem lv_cons {nx0 : Nat} {acc : Acc} {x : Nat × Inf} {f : Nat → Bool} {k : Nat} (h : lv nx0 acc f k = true) : lv nx0 (x :: acc) f k = true := by
  rw [lv_iff] at *
  rcases h with h | ⟨y, hy, r⟩
  · exact .inl h
  · exact .inr ⟨y, List.mem_cons_of_mem _ hy, r⟩

theorem lv1_cons {nx0 : Nat} {acc : Acc} {x : Nat × Inf} {f : Nat → Bool} {lo hi k : Nat} (h : lv1 nx0 acc f lo hi k = true) : lv1 nx0 (x :: acc) f lo hi k = true := by
  rw [lv1_iff] at *
  exact h.imp lv_cons id

end
end Go.Sx
