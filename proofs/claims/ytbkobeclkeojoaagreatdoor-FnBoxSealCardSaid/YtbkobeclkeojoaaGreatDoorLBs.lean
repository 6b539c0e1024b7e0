/- FnBoxSeal: the statement and its card. Conditions: none. -/
import Derived.Test.YtbkobeclkeojoaaGreatDoorL8
import Derived.Test.YtbkobeclkeojoaaGreatDoorB9s
set_option linter.unusedVariables false
set_option maxRecDepth 1000000
namespace Go.Sx.Bx
open Go.Proofs Go.Sx Go.RowKit
theorem ibM_ro {W : World} {b o : Nat} {l0 l1 : List (BitVec 8)} {a0 a1 : Loc} {v0 v1 : Value} (z0 : Lies W v0 l0 a0) (z1 : Lies W v1 l1 a1) (h3 : W.cell? ⟨1, 0, none⟩ = some (.pointer (some ⟨b, o, none⟩))) (h5 : ∀ j, j < 5 → W.cell? ⟨b, o + j, none⟩ = some (.int .u64 ((one5.getD j 0).toNat : Int))) :
    ∀ k s, find (ibM l0 l1) k = some s → SegRo (envG [⟨b, o, 5, false⟩, a0, a1]) (2 + 3) k s W := by
  have byte : ∀ (l : List (BitVec 8)) (a : Loc) (v : Value) (kk : Nat), Lies W v l a → kk < 2 + 3 → envG [⟨b, o, 5, false⟩, a0, a1] kk = a → SegRo (envG [⟨b, o, 5, false⟩, a0, a1]) (2 + 3) kk ⟨l.length, .d8 l, false, false, false⟩ W := by
    intro l a v kk z hk e
    refine ⟨rfl, rfl, rfl, rfl, by rw [e]; exact z.cap, by rw [e]; exact z.nil, fun j x hx => ?_, hk, rfl⟩
    have hx' : (l.map Sc.u8)[j]? = some x := hx
    rw [List.getElem?_map, Option.map_eq_some_iff] at hx'
    obtain ⟨y, hy, rfl⟩ := hx'
    rw [e]
    exact z.cell j y hy
  intro k s hk
  unfold ibM at hk
  simp only [List.cons_append, List.nil_append] at hk
  rw [find_cons, find_cons] at hk
  split at hk
  · rename_i e; subst e; cases hk; exact byte l0 a0 v0 _ z0 (by omega) rfl
  split at hk
  · rename_i e; subst e; cases hk; exact byte l1 a1 v1 _ z1 (by omega) rfl
  exact gM_ro (locs := [a0, a1]) (by omega) h3 h5 k s hk
end Go.Sx.Bx
namespace Go.Proofs.YtbkobeclkeojoaaGreatDoor
open Go.ChangeShapes Go.WideShapes Go.ChangeAt Go.RowKit

theorem fnBoxSeal_met (os : Os) (args : Array Value) : laidMetH Tryz.prog Rows.fnBoxSealRow.laid ((World.doorLaid Tryz.prog 72 os).forCall (fun _ _ => 0) ⟨#[], args, []⟩).memory :=
  laidMetH_of_parts3 (fuel := 8) (laidMet_of_run' 8 (by kernel_rfl) (by kernel_rfl)) (by kernel_rfl) (by kernel_rfl)
theorem fnBoxSeal_fe {W : World} (h : laidMetH Tryz.prog Rows.fnBoxSealRow.laid W) :
    ∃ b o, W.cell? ⟨1, 0, none⟩ = some (.pointer (some ⟨b, o, none⟩)) ∧ ∀ j, j < 5 → W.cell? ⟨b, o + j, none⟩ = some (.int .u64 ((Sx.one5.getD j 0).toNat : Int)) := by
  rw [MakeChecks.laidMetH_plain _ _ _ (by kernel_rfl)] at h
  obtain ⟨ps, hV, _⟩ := h
  exact of_fe hV

theorem fnBoxSeal_lifted (os : Os) (started : os.Started) (H : Type) (enc : TypeId × Value → H) :
    ReturnsInHanded {} Tryz.checked os 3 .any (fun w args => (Rows.fnBoxSealSpec.pre enc Tryz.prog Tryz.f3 [] false w args ∧ laidMetH Tryz.prog Rows.fnBoxSealRow.laid w) ∧ sizedMet enc Tryz.prog Tryz.f3 (OpenSpec.ofChange Rows.fnBoxSealSpec) false w args)
      (Rows.fnBoxSealSpec.post enc Tryz.prog Tryz.f3 false true false false) := by
  refine returnsInHanded_of_change_and (C := Tryz.checked) (X := fun w _ => laidMetH Tryz.prog Rows.fnBoxSealRow.laid w) (fun _ _ _ hh h => h.of_heap hh) own started (by kernel_rfl) Tryz.func3
    (ChangeSpec.witness_shaped (enc := enc) (C := Tryz.checked) (os := os) (X := fun w _ => laidMetH Tryz.prog Rows.fnBoxSealRow.laid w) false (World.doorLaid Tryz.prog 72 os) #[.slice none 0 0, .slice none 0 0, .agg (Array.replicate 24 (.int .u8 0)), .agg (Array.replicate 32 (.int .u8 0)), .agg (Array.replicate 32 (.int .u8 0))] 8 rfl (World.shaped_of_RefB (by kernel_rfl) (by kernel_rfl)) (by kernel_rfl) (by kernel_rfl) (by kernel_rfl) (fnBoxSeal_met os _)) ?_
  intro W base args ds gs before hval0 hW _ _ hL _
  have hval : ∀ (j : Nat) t v, Tryz.f3.params[j]? = some t → args[j]? = some v → Value.okWide Tryz.prog W .any base t v := hval0
  have hW' := hW
  obtain ⟨p, q, hA0, hV, rfl, hfz, hnd⟩ := hW
  have hA : DataW.TrodAll enc Tryz.prog W 0 (fun _ => true) true Tryz.f3.params.toList args.toList ds p := hA0
  rw [Tryz.params3] at hA hval
  obtain ⟨v0, vs0, d0, ds0, p0, q0, hargs, rfl, rfl, h0, r0⟩ := trodAll_cons hA
  obtain ⟨v1, vs1, d1, ds1, p1, q1, rfl, rfl, rfl, h1, r1⟩ := trodAll_cons r0
  obtain ⟨v2, vs2, d2, ds2, p2, q2, rfl, rfl, rfl, h2, r2⟩ := trodAll_cons r1
  obtain ⟨v3, vs3, d3, ds3, p3, q3, rfl, rfl, rfl, h3, r3⟩ := trodAll_cons r2
  obtain ⟨v4, vs4, d4, ds4, p4, q4, rfl, rfl, rfl, h4, r4⟩ := trodAll_cons r3
  obtain ⟨rfl, rfl, rfl⟩ := trodAll_nil r4
  obtain rfl : args = #[v0, v1, v2, v3, v4] := by cases args; simp_all
  obtain ⟨l0, a0, z0⟩ := Sx.openSlc (e := 5) (by kernel_rfl) (by kernel_rfl) (by kernel_rfl) (hval 0 22 v0 rfl rfl) h0
  obtain ⟨l1, a1, z1⟩ := Sx.openSlc (e := 5) (by kernel_rfl) (by kernel_rfl) (by kernel_rfl) (hval 1 22 v1 rfl rfl) h1
  obtain ⟨l2, n2, e2⟩ := Sx.openArr (n := 24) (e := 5) (by kernel_rfl) (by kernel_rfl) (by kernel_rfl) (by kernel_rfl) (hval 2 23 v2 rfl rfl) h2
  obtain ⟨l3, n3, e3⟩ := Sx.openArr (n := 32) (e := 5) (by kernel_rfl) (by kernel_rfl) (by kernel_rfl) (by kernel_rfl) (hval 3 24 v3 rfl rfl) h3
  obtain ⟨l4, n4, e4⟩ := Sx.openArr (n := 32) (e := 5) (by kernel_rfl) (by kernel_rfl) (by kernel_rfl) (by kernel_rfl) (hval 4 24 v4 rfl rfl) h4
  obtain ⟨b, o, c3, c5⟩ := fnBoxSeal_fe hL
  have hm := Sx.memG (ng := 2) (nx := 2 + 3) (m := Sx.Bx.ibM l0 l1) (Sx.Bx.ibM_ro z0 z1 c3 c5) (fun g hg => by unfold Sx.envG; rw [if_pos hg]; exact ⟨rfl, rfl⟩) (by omega)
  have x0 := z0.val (Sx.envG [⟨b, o, 5, false⟩, a0, a1]) (2 + 1) rfl
  have x1 := z1.val (Sx.envG [⟨b, o, 5, false⟩, a0, a1]) (2 + 2) rfl
  have call := Sx.lawCallG (P := Tryz.prog) (W := W) hm (vs := #[v0, v1, v2, v3, v4]) rfl (Sx.Bx.lawBoxSeal W.heap.size n2 n3 n4) (by simp only [List.map_cons, List.map_nil]; rw [← x0, ← x1, ← e2, ← e3, ← e4])
  refine call.mono fun e W' ⟨he, hb⟩ => ?_
  subst he
  exact ⟨_, rfl, Sx.lawPostV (tb := 4) (tv := 115) (te := 114) hW' rfl (fun _ => rfl) (by kernel_rfl) (by kernel_rfl) laidOut (by rw [Tryz.params3]; decide +kernel) gFe tFe uPtr (by decide +kernel) hb⟩

theorem fnBoxSeal_holds : Rows.FnBoxSealSaid :=
  OpenClaim.holds_of_wide 3 Tryz.f3 rfl rfl rfl rfl rfl rfl rfl ⟨rfl, rfl, rfl, rfl, rfl⟩ rfl rfl rfl rfl rfl (by kernel_rfl) Tryz.func3 (by kernel_rfl)
    (of_decide_eq_true (by kernel_rfl)) (by unfold Func.isWrapper; first | (rw [if_pos (by decide +kernel)]; kernel_rfl) | (rw [if_neg (by decide +kernel)]; exact ⟨rfl, rfl⟩))
    (fun os started H enc _ => fnBoxSeal_lifted os started H enc)

theorem fnBoxSeal_card : Rows.FnBoxSealCardSaid :=
  Claim7.holds_tied_plain_at .later [] [.widerDeep] true (true, "6d60e5bfcfe78e8c8df75b442dca5c2f87d4d8ccd71d4c50e353f7a786b1f71d") false
    fnBoxSeal_holds (fun _ h => by cases h) (by kernel_rfl) (fun _ h => by cases h) fnBoxSeal_row_tie rfl ⟨rfl, rfl⟩ (by kernel_rfl) rfl
    (fun f fn hf hfn => by
      obtain rfl : f = 3 := Option.some.inj ((show Tryz.prog.funcNamed "loop.example/pub-g03045/laws.FnBoxSeal" = some 3 by kernel_rfl).symm.trans hf) |>.symm
      obtain rfl : fn = Tryz.f3 := (Option.some.inj (Tryz.func3.symm.trans hfn)).symm
      exact ⟨by kernel_rfl, fun j t ht => by
        rw [Tryz.params3] at ht
        have h3 : t = 22 ∨ t = 23 ∨ t = 24 := by
          rcases j with _ | _ | _ | _ | _ | j
          · exact .inl (by simpa using ht.symm)
          · exact .inl (by simpa using ht.symm)
          · exact .inr (.inl (by simpa using ht.symm))
          · exact .inr (.inr (by simpa using ht.symm))
          · exact .inr (.inr (by simpa using ht.symm))
          · simp at ht
        rcases h3 with rfl | rfl | rfl
        · exact (show Tryz.prog.wantsStandIn 22 = false by kernel_rfl)
        · exact (show Tryz.prog.wantsStandIn 23 = false by kernel_rfl)
        · exact (show Tryz.prog.wantsStandIn 24 = false by kernel_rfl)⟩)
    (by kernel_rfl)
end Go.Proofs.YtbkobeclkeojoaaGreatDoor
