/- Symbolic memory for a run of the model: what a symbolic state says of a frame and a world, and how it is kept under stores and new blocks. Conditions: none; plain definitions and theorems over any program. -/
import Derived.WalkKit
import Derived.Deep.Quiet
set_option linter.unusedVariables false
namespace Go.Sx
open Go.RowKit

/-- a scalar: what one cell, or one temporary, holds -/
inductive Sc where
  | b (x : Bool)
  | i (x : Int)
  | u8 (x : BitVec 8)
  | u32 (x : BitVec 32)
  | u64 (x : BitVec 64)
  | p (k o : Nat)
  | p0
  | sl (k o len cap : Nat)
  | osl (k len : Nat)
  | sl0
  | str (l : List (BitVec 8))
  | f (t : TypeId) (x : Sc)
  | f0
  | v (x : Value)

/-- a row of cells -/
inductive SegD where
  | d8 (l : List (BitVec 8))
  | d32 (l : List (BitVec 32))
  | d64 (l : List (BitVec 64))
  | di (l : List Int)
  | dc (l : List Sc)

/-- a scalar, or an aggregate in rows -/
inductive SV0 where
  | s (x : Sc)
  | ag (l : List SegD)

inductive SV where
  | one (x : SV0)
  | tup (l : List SV0)

/-- where a key lies -/
structure Loc where
  blk : Nat
  off : Nat
  cap : Nat
  isNil : Bool

abbrev Env := Nat → Loc

def byteVal (x : BitVec 8) : Value := .int .u8 (x.toNat : Int)

def Sc.den (ρ : Env) : Sc → Value
  | .b x => .bool x
  | .i x => .int .i64 x
  | .u8 x => .int .u8 (x.toNat : Int)
  | .u32 x => .int .u32 (x.toNat : Int)
  | .u64 x => .int .u64 (x.toNat : Int)
  | .p k o => .pointer (some ⟨(ρ k).blk, (ρ k).off + o, none⟩)
  | .p0 => .pointer none
  | .sl k o len cap => .slice (some ⟨(ρ k).blk, (ρ k).off + o, none⟩) len cap
  | .osl k len => .slice (if (ρ k).isNil then none else some ⟨(ρ k).blk, (ρ k).off, none⟩) len (ρ k).cap
  | .sl0 => .slice none 0 0
  | .str l => .string ⟨(l.map UInt8.ofBitVec).toArray⟩
  | .f t x => .iface t (x.den ρ)
  | .f0 => .nilIface
  | .v x => x

/-- it names keys below n alone -/
def Sc.lt (n : Nat) : Sc → Bool
  | .p k _ => Nat.blt k n
  | .sl k _ _ _ => Nat.blt k n
  | .osl k _ => Nat.blt k n
  | .f _ x => x.lt n
  | _ => true

theorem blt_iff {a b : Nat} : Nat.blt a b = true ↔ a < b := by simp [Nat.blt_eq]

theorem Sc.den_congr {n : Nat} {ρ ρ' : Env} (h : ∀ k, k < n → ρ' k = ρ k) : ∀ {x : Sc}, x.lt n = true → x.den ρ' = x.den ρ
  | .b _, _ | .i _, _ | .u8 _, _ | .u32 _, _ | .u64 _, _ | .p0, _ | .sl0, _ | .str _, _ | .f0, _ | .v _, _ => rfl
  | .p k _, hx => by simp only [Sc.den]; rw [h k (blt_iff.1 hx)]
  | .sl k _ _ _, hx => by simp only [Sc.den]; rw [h k (blt_iff.1 hx)]
  | .osl k _, hx => by simp only [Sc.den]; rw [h k (blt_iff.1 hx)]
  | .f _ x, hx => by simp only [Sc.den]; rw [Sc.den_congr h (x := x) hx]

theorem Sc.lt_mono {n n' : Nat} (h : n ≤ n') : ∀ {x : Sc}, x.lt n = true → x.lt n' = true
  | .b _, _ | .i _, _ | .u8 _, _ | .u32 _, _ | .u64 _, _ | .p0, _ | .sl0, _ | .str _, _ | .f0, _ | .v _, _ => rfl
  | .p k _, hx => blt_iff.2 (Nat.lt_of_lt_of_le (blt_iff.1 hx) h)
  | .sl k _ _ _, hx => blt_iff.2 (Nat.lt_of_lt_of_le (blt_iff.1 hx) h)
  | .osl k _, hx => blt_iff.2 (Nat.lt_of_lt_of_le (blt_iff.1 hx) h)
  | .f _ x, hx => Sc.lt_mono h (x := x) hx

def SegD.lt (n : Nat) : SegD → Bool
  | .dc l => l.all (Sc.lt n)
  | _ => true

def SV0.lt (n : Nat) : SV0 → Bool
  | .s x => x.lt n
  | .ag l => l.all (SegD.lt n)

def SV.lt (n : Nat) : SV → Bool
  | .one x => x.lt n
  | .tup l => l.all (SV0.lt n)

def SegD.scs : SegD → List Sc
  | .d8 l => l.map .u8
  | .d32 l => l.map .u32
  | .d64 l => l.map .u64
  | .di l => l.map .i
  | .dc l => l

def SegD.cells (ρ : Env) (d : SegD) : List Value := d.scs.map (Sc.den ρ)

/-- what spare cells of a piece that grows hold -/
def SegD.zv : SegD → Option Value
  | .d8 _ => some (.int .u8 0)
  | .d32 _ => some (.int .u32 0)
  | .d64 _ => some (.int .u64 0)
  | .di _ => some (.int .i64 0)
  | .dc _ => none

def SegD.len : SegD → Nat
  | .d8 l => l.length
  | .d32 l => l.length
  | .d64 l => l.length
  | .di l => l.length
  | .dc l => l.length

def SV0.den (ρ : Env) : SV0 → Value
  | .s x => x.den ρ
  | .ag l => .agg (l.flatMap (SegD.cells ρ)).toArray

def SV.den (ρ : Env) : SV → Value
  | .one x => x.den ρ
  | .tup l => .tuple (l.map (SV0.den ρ)).toArray

/-- a piece of memory: n cells (or, where it grows, the cells that are filled, with the capacity of its place), ours or only read, followed by the next key's piece or not -/
structure Seg where
  n : Nat
  d : SegD
  own : Bool
  grow : Bool
  nxt : Bool

theorem SegD.scs_lt {n : Nat} {d : SegD} (h : d.lt n = true) : ∀ x ∈ d.scs, x.lt n = true := by
  intro x hx
  cases d <;> simp only [SegD.scs, List.mem_map] at hx
  case dc l => exact List.all_eq_true.1 h x hx
  all_goals (obtain ⟨y, _, rfl⟩ := hx; rfl)

theorem SegD.lt_mono {n n' : Nat} (h : n ≤ n') {d : SegD} (hd : d.lt n = true) : d.lt n' = true := by
  cases d <;> try rfl
  exact List.all_eq_true.2 fun x hx => Sc.lt_mono h (List.all_eq_true.1 hd x hx)

theorem SV0.lt_mono {n n' : Nat} (h : n ≤ n') {v : SV0} (hv : v.lt n = true) : v.lt n' = true := by
  cases v with
  | s x => exact Sc.lt_mono h (x := x) hv
  | ag l => exact List.all_eq_true.2 fun x hx => SegD.lt_mono h (List.all_eq_true.1 hv x hx)

theorem SV.lt_mono {n n' : Nat} (h : n ≤ n') {v : SV} (hv : v.lt n = true) : v.lt n' = true := by
  cases v with
  | one x => exact SV0.lt_mono h (v := x) hv
  | tup l => exact List.all_eq_true.2 fun x hx => SV0.lt_mono h (List.all_eq_true.1 hv x hx)

theorem SegD.cells_congr {n : Nat} {ρ ρ' : Env} (h : ∀ k, k < n → ρ' k = ρ k) {d : SegD} (hd : d.lt n = true) : d.cells ρ' = d.cells ρ := by
  unfold SegD.cells
  exact List.map_congr_left fun x hx => Sc.den_congr h (SegD.scs_lt hd x hx)

theorem SV0.den_congr {n : Nat} {ρ ρ' : Env} (h : ∀ k, k < n → ρ' k = ρ k) {v : SV0} (hv : v.lt n = true) : v.den ρ' = v.den ρ := by
  cases v with
  | s x => exact Sc.den_congr h hv
  | ag l =>
    simp only [SV0.den]
    congr 2
    have : l.map (SegD.cells ρ') = l.map (SegD.cells ρ) := List.map_congr_left fun d hd => SegD.cells_congr h (List.all_eq_true.1 hv d hd)
    simp only [List.flatMap, this]

theorem SV.den_congr {n : Nat} {ρ ρ' : Env} (h : ∀ k, k < n → ρ' k = ρ k) {v : SV} (hv : v.lt n = true) : v.den ρ' = v.den ρ := by
  cases v with
  | one x => exact SV0.den_congr h hv
  | tup l =>
    simp only [SV.den]
    congr 2
    exact List.map_congr_left fun x hx => SV0.den_congr h (List.all_eq_true.1 hv x hx)

abbrev TM := List (Nat × SV)
abbrev Mem := List (Nat × Seg)

def find {α : Type} : List (Nat × α) → Nat → Option α
  | [], _ => none
  | (k, v) :: r, n => bif Nat.beq k n then some v else find r n

theorem find_nil {α : Type} (n : Nat) : find ([] : List (Nat × α)) n = none := rfl
theorem find_cons {α : Type} (k : Nat) (v : α) (r : List (Nat × α)) (n : Nat) : find ((k, v) :: r) n = if k = n then some v else find r n := by
  simp only [find]
  by_cases h : k = n
  · subst h; simp
  · have : Nat.beq k n = false := by rw [← Bool.not_eq_true]; intro hh; exact h (Nat.eq_of_beq_eq_true hh)
    simp [this, h]

def Seg.ext (ρ : Env) (k : Nat) (s : Seg) : Nat := if s.grow then (ρ k).cap else s.n

/-- the piece lies in the world as it says -/
structure SegOk (B : Nat) (ρ : Env) (k : Nat) (s : Seg) (w : World) : Prop where
  ours : s.own = true → 0 < s.ext ρ k → B ≤ (ρ k).blk
  fixed : s.grow = false → s.d.len = s.n
  cap : s.d.len ≤ (ρ k).cap
  nil : (ρ k).isNil = true → (ρ k).cap = 0
  cell : ∀ j x, s.d.scs[j]? = some x → w.cell? ⟨(ρ k).blk, (ρ k).off + j, none⟩ = some (x.den ρ)
  room : s.own = true → ∀ j, j < s.ext ρ k → w.frozen? ⟨(ρ k).blk, (ρ k).off + j, none⟩ = false ∧ ∃ v, w.cell? ⟨(ρ k).blk, (ρ k).off + j, none⟩ = some v
  next : s.nxt = true → (ρ (k + 1)).blk = (ρ k).blk ∧ (ρ (k + 1)).off = (ρ k).off + s.n
  zero : s.grow = true → s.own = true → ∀ j z, s.d.zv = some z → s.d.len ≤ j → j < (ρ k).cap → w.cell? ⟨(ρ k).blk, (ρ k).off + j, none⟩ = some z

def Dis (ρ : Env) (k : Nat) (s : Seg) (k' : Nat) (s' : Seg) : Prop :=
  (ρ k).blk ≠ (ρ k').blk ∨ ∀ j j', j < s.ext ρ k → j' < s'.ext ρ k' → (ρ k).off + j ≠ (ρ k').off + j'

/-- the extent of what is read of a piece that is not ours: its filled cells -/
def Seg.reach (ρ : Env) (k : Nat) (s : Seg) : Nat := if s.own then s.ext ρ k else s.d.len

def Apart (ρ : Env) (k : Nat) (s : Seg) (k' : Nat) (s' : Seg) : Prop :=
  (ρ k).blk ≠ (ρ k').blk ∨ ∀ j j', j < s.reach ρ k → j' < s'.reach ρ k' → (ρ k).off + j ≠ (ρ k').off + j'

structure MemOk (B ng : Nat) (ρ : Env) (m : Mem) (nx : Nat) (w : World) : Prop where
  keys : ∀ k s, find m k = some s → k < nx
  segs : ∀ k s, find m k = some s → SegOk B ρ k s w
  dis : ∀ k k' s s', find m k = some s → find m k' = some s' → k ≠ k' → (s.own = true ∨ s'.own = true) → Apart ρ k s k' s'
  base : B ≤ w.heap.size
  glob : ∀ g, g < ng → (ρ g).blk = g ∧ (ρ g).off = 0
  ng_le : ng ≤ nx
  wf : ∀ k s, find m k = some s → s.d.lt nx = true ∧ (s.nxt = true → k + 1 < nx)

/-- cell o of block b is ours -/
def Owns (ρ : Env) (m : Mem) (b o : Nat) : Prop :=
  ∃ k s, find m k = some s ∧ s.own = true ∧ (ρ k).blk = b ∧ (ρ k).off ≤ o ∧ o < (ρ k).off + s.ext ρ k

structure Frame0 (B : Nat) (ρ : Env) (m : Mem) (w w' : World) : Prop where
  below : Below B w w'
  cell : ∀ b o, b < w.heap.size → ¬ Owns ρ m b o → w'.cell? ⟨b, o, none⟩ = w.cell? ⟨b, o, none⟩ ∧ w'.frozen? ⟨b, o, none⟩ = w.frozen? ⟨b, o, none⟩

/-- cell o of block b is reached by some piece -/
def Reaches (ρ : Env) (m : Mem) (b o : Nat) : Prop :=
  ∃ k s, find m k = some s ∧ (ρ k).blk = b ∧ (ρ k).off ≤ o ∧ o < (ρ k).off + s.reach ρ k

structure PostM (B ng : Nat) (ρ : Env) (m : Mem) (nx : Nat) (w : World) (ρ' : Env) (m' : Mem) (nx' : Nat) (w' : World) : Prop where
  ext : ∀ k, k < nx → ρ' k = ρ k
  ok : MemOk B ng ρ' m' nx' w'
  frame : Frame0 B ρ m w w'
  sub : ∀ b o, b < w.heap.size → Owns ρ' m' b o → Owns ρ m b o
  subR : ∀ b o, b < w.heap.size → Reaches ρ' m' b o → Reaches ρ m b o
  le : nx ≤ nx'

theorem PostM.refl {B ng : Nat} {ρ : Env} {m : Mem} {nx : Nat} {w : World} (h : MemOk B ng ρ m nx w) : PostM B ng ρ m nx w ρ m nx w :=
  ⟨fun _ _ => rfl, h, ⟨Below.refl _ _, fun _ _ _ _ => ⟨rfl, rfl⟩⟩, fun _ _ _ h => h, fun _ _ _ h => h, Nat.le_refl _⟩

theorem PostM.trans {B ng : Nat} {ρ₀ ρ₁ ρ₂ : Env} {m₀ m₁ m₂ : Mem} {n₀ n₁ n₂ : Nat} {w₀ w₁ w₂ : World}
    (h : PostM B ng ρ₀ m₀ n₀ w₀ ρ₁ m₁ n₁ w₁) (k : PostM B ng ρ₁ m₁ n₁ w₁ ρ₂ m₂ n₂ w₂) : PostM B ng ρ₀ m₀ n₀ w₀ ρ₂ m₂ n₂ w₂ where
  ext := fun i hi => (k.ext i (Nat.lt_of_lt_of_le hi h.le)).trans (h.ext i hi)
  ok := k.ok
  frame := by
    refine ⟨h.frame.below.trans k.frame.below, fun b o hb hn => ?_⟩
    have hb1 : b < w₁.heap.size := Nat.lt_of_lt_of_le hb h.frame.below.size
    have hn1 : ¬ Owns ρ₁ m₁ b o := fun ho => hn (h.sub b o hb ho)
    have e1 := h.frame.cell b o hb hn
    have e2 := k.frame.cell b o hb1 hn1
    exact ⟨e2.1.trans e1.1, e2.2.trans e1.2⟩
  sub := fun b o hb ho => h.sub b o hb (k.sub b o (Nat.lt_of_lt_of_le hb h.frame.below.size) ho)
  subR := fun b o hb ho => h.subR b o hb (k.subR b o (Nat.lt_of_lt_of_le hb h.frame.below.size) ho)
  le := Nat.le_trans h.le k.le

theorem PostM.transB {B ng : Nat} {ρ₀ ρ₁ ρ₂ : Env} {m₀ m₁ m₂ : Mem} {b b' n₁ n₂ : Nat} {w₀ w₁ w₂ : World}
    (h : PostM B ng ρ₀ m₀ b w₀ ρ₁ m₁ n₁ w₁) (k : PostM B ng ρ₁ m₁ b' w₁ ρ₂ m₂ n₂ w₂) (hb : b ≤ b') : PostM B ng ρ₀ m₀ b w₀ ρ₂ m₂ n₂ w₂ where
  ext := fun i hi => (k.ext i (Nat.lt_of_lt_of_le hi hb)).trans (h.ext i hi)
  ok := k.ok
  frame := by
    refine ⟨h.frame.below.trans k.frame.below, fun b o hb hn => ?_⟩
    have hb1 : b < w₁.heap.size := Nat.lt_of_lt_of_le hb h.frame.below.size
    have hn1 : ¬ Owns ρ₁ m₁ b o := fun ho => hn (h.sub b o hb ho)
    have e1 := h.frame.cell b o hb hn
    have e2 := k.frame.cell b o hb1 hn1
    exact ⟨e2.1.trans e1.1, e2.2.trans e1.2⟩
  sub := fun b o hb ho => h.sub b o hb (k.sub b o (Nat.lt_of_lt_of_le hb h.frame.below.size) ho)
  subR := fun b o hb ho => h.subR b o hb (k.subR b o (Nat.lt_of_lt_of_le hb h.frame.below.size) ho)
  le := Nat.le_trans hb k.le

theorem PostM.low {B ng : Nat} {ρ₀ ρ₁ : Env} {m₀ m₁ : Mem} {b b' n₁ : Nat} {w₀ w₁ : World} (h : PostM B ng ρ₀ m₀ b' w₀ ρ₁ m₁ n₁ w₁) (hb : b ≤ b') : PostM B ng ρ₀ m₀ b w₀ ρ₁ m₁ n₁ w₁ :=
  ⟨fun i hi => h.ext i (Nat.lt_of_lt_of_le hi hb), h.ok, h.frame, h.sub, h.subR, Nat.le_trans hb h.le⟩

/-- the world after a draw: nothing else has turned -/
theorem cell?_congr {w w' : World} {b o : Nat} (h : w'.heap[b]? = w.heap[b]?) : w'.cell? ⟨b, o, none⟩ = w.cell? ⟨b, o, none⟩ := by
  simp only [World.cell?, h]
theorem frozen?_congr {w w' : World} {b o : Nat} (h : w'.heap[b]? = w.heap[b]?) : w'.frozen? ⟨b, o, none⟩ = w.frozen? ⟨b, o, none⟩ := by
  simp only [World.frozen?, h]

theorem SegOk.congr {B : Nat} {ρ : Env} {k : Nat} {s : Seg} {w w' : World} (h : SegOk B ρ k s w)
    (hc : ∀ j, j < s.reach ρ k → w'.cell? ⟨(ρ k).blk, (ρ k).off + j, none⟩ = w.cell? ⟨(ρ k).blk, (ρ k).off + j, none⟩ ∧ w'.frozen? ⟨(ρ k).blk, (ρ k).off + j, none⟩ = w.frozen? ⟨(ρ k).blk, (ρ k).off + j, none⟩) :
    SegOk B ρ k s w' := by
  have hlen : s.d.scs.length = s.d.len := by cases s.d <;> simp [SegD.scs, SegD.len]
  have hle : s.own = true → s.d.len ≤ s.ext ρ k := by
    intro _
    unfold Seg.ext
    cases hg : s.grow with
    | true => simpa using h.cap
    | false => simpa using Nat.le_of_eq (h.fixed hg)
  refine ⟨h.ours, h.fixed, h.cap, h.nil, fun j x hx => ?_, fun ho j hj => ?_, h.next, fun hg ho j z hz h1 h2 => ?_⟩
  · have hj : j < s.d.len := by rw [← hlen]; exact (List.getElem?_eq_some_iff.1 hx).1
    have : j < s.reach ρ k := by
      unfold Seg.reach
      cases ho : s.own with
      | true => have := hle ho; simp; omega
      | false => simpa using hj
    rw [(hc j this).1]
    exact h.cell j x hx
  · have hr : s.reach ρ k = s.ext ρ k := by simp [Seg.reach, ho]
    obtain ⟨e1, v, e2⟩ := h.room ho j hj
    have := hc j (by rw [hr]; exact hj)
    exact ⟨this.2.trans e1, v, this.1.trans e2⟩
  · have hr : s.reach ρ k = (ρ k).cap := by simp [Seg.reach, Seg.ext, ho, hg]
    rw [(hc j (by rw [hr]; exact h2)).1]
    exact h.zero hg ho j z hz h1 h2

theorem scs_length (d : SegD) : d.scs.length = d.len := by cases d <;> simp [SegD.scs, SegD.len]

theorem SegOk.len_le_reach {B : Nat} {ρ : Env} {k : Nat} {s : Seg} {w : World} (h : SegOk B ρ k s w) : s.d.len ≤ s.reach ρ k := by
  unfold Seg.reach Seg.ext
  cases ho : s.own with
  | false => simp
  | true =>
    cases hg : s.grow with
    | true => simpa using h.cap
    | false => simpa using Nat.le_of_eq (h.fixed hg)

/-- every reached cell of a piece lies in a block that is there -/
theorem SegOk.lt {B : Nat} {ρ : Env} {k : Nat} {s : Seg} {w : World} (h : SegOk B ρ k s w) {j : Nat} (hj : j < s.reach ρ k) : (ρ k).blk < w.heap.size := by
  cases ho : s.own with
  | true =>
    have hr : s.reach ρ k = s.ext ρ k := by simp [Seg.reach, ho]
    obtain ⟨_, v, e⟩ := h.room ho j (by rw [← hr]; exact hj)
    exact World.block_lt_of_cell? _ _ e
  | false =>
    have hr : s.reach ρ k = s.d.len := by simp [Seg.reach, ho]
    have hl : j < s.d.scs.length := by rw [scs_length, ← hr]; exact hj
    have e := h.cell j _ (List.getElem?_eq_getElem hl)
    exact World.block_lt_of_cell? _ _ e

/-- what is known of a piece that is not touched -/
theorem MemOk.draw {B ng : Nat} {ρ : Env} {m : Mem} {nx : Nat} {w w' : World} (h : MemOk B ng ρ m nx w) (hh : w'.heap = w.heap) : MemOk B ng ρ m nx w' := by
  refine ⟨h.keys, fun k s hk => (h.segs k s hk).congr fun j _ => ⟨cell?_congr (by rw [hh]), frozen?_congr (by rw [hh])⟩, h.dis, by rw [hh]; exact h.base, h.glob, h.ng_le, h.wf⟩

theorem PostM.draw {B ng : Nat} {ρ : Env} {m : Mem} {nx : Nat} {w : World} (h : MemOk B ng ρ m nx w) : PostM B ng ρ m nx w ρ m nx { w with drawn := w.drawn + 1 } :=
  ⟨fun _ _ => rfl, h.draw rfl, ⟨⟨rfl, rfl, rfl, Nat.le_refl _, fun _ _ => rfl⟩, fun _ _ _ _ => ⟨rfl, rfl⟩⟩, fun _ _ _ h => h, fun _ _ _ h => h, Nat.le_refl _⟩

/-! ### A write of n cells -/

/-- w' is w with the n cells of block b from o on written -/
structure Wr (w w' : World) (b o n : Nat) (f : Nat → Value) : Prop where
  os : w'.os = w.os
  tape : w'.tape = w.tape
  output : w'.output = w.output
  size : w'.heap.size = w.heap.size
  block : ∀ k, k ≠ b → w'.heap[k]? = w.heap[k]?
  frozen : ∀ a, w'.frozen? a = w.frozen? a
  cell : ∀ j, j < n → w'.cell? ⟨b, o + j, none⟩ = some (f j)
  other : ∀ q, (q < o ∨ o + n ≤ q) → w'.cell? ⟨b, q, none⟩ = w.cell? ⟨b, q, none⟩

theorem Wr.zero (w : World) (b o : Nat) (f : Nat → Value) : Wr w w b o 0 f :=
  ⟨rfl, rfl, rfl, rfl, fun _ _ => rfl, fun _ => rfl, fun _ h => absurd h (Nat.not_lt_zero _), fun _ _ => rfl⟩

theorem Wr.one {w : World} {b o : Nat} {u : Value} (h : w.cell? ⟨b, o, none⟩ = some u) (v : Value) : Wr w (w.setCell ⟨b, o, none⟩ v) b o 1 (fun _ => v) := by
  refine ⟨rfl, rfl, rfl, by simp, fun k hk => ?_, fun a => by simp, fun j hj => ?_, fun q hq => ?_⟩
  · exact Below.heap_setCell _ _ _ _ hk
  · obtain rfl : j = 0 := by omega
    exact World.cell?_setCell_same w _ v h
  · apply World.cell?_setCell_other
    intro e
    injection e with e1 e2
    omega

theorem Wr.cons {w w₁ w₂ : World} {b o n : Nat} {f g : Nat → Value} (h : Wr w w₁ b o 1 f) (k : Wr w₁ w₂ b (o + 1) n g) :
    Wr w w₂ b o (n + 1) (fun j => if j = 0 then f 0 else g (j - 1)) := by
  refine ⟨k.os.trans h.os, k.tape.trans h.tape, k.output.trans h.output, k.size.trans h.size, fun i hi => (k.block i hi).trans (h.block i hi), fun a => (k.frozen a).trans (h.frozen a), fun j hj => ?_, fun q hq => ?_⟩
  · by_cases h0 : j = 0
    · subst h0
      rw [k.other _ (by omega)]
      simpa using h.cell 0 (by omega)
    · have := k.cell (j - 1) (by omega)
      rw [show o + 1 + (j - 1) = o + j by omega] at this
      simpa [h0] using this
  · rw [k.other q (by omega), h.other q (by omega)]

def Seg.upd (s : Seg) (d : SegD) : Seg := { s with d := d }

def setM : Mem → Nat → SegD → Mem
  | [], _, _ => []
  | (k', s') :: r, k, d => bif Nat.beq k' k then (k', s'.upd d) :: r else (k', s') :: setM r k d

theorem find_setM (m : Mem) (k : Nat) (d : SegD) (q : Nat) : find (setM m k d) q = if q = k then (find m k).map (·.upd d) else find m q := by
  induction m with
  | nil => simp [setM, find]
  | cons e r ih =>
    obtain ⟨k', s'⟩ := e
    have hb : Nat.beq k' k = decide (k' = k) := by
      by_cases h : k' = k
      · subst h; simp
      · have : Nat.beq k' k = false := by rw [← Bool.not_eq_true]; intro hh; exact h (Nat.eq_of_beq_eq_true hh)
        simp [this, h]
    simp only [setM, hb]
    by_cases hk : k' = k
    · subst hk
      simp only [decide_true, cond_true, find_cons]
      by_cases hq : q = k'
      · subst hq; simp
      · simp [hq, Ne.symm hq]
    · simp only [hk, decide_false, cond_false, find_cons, ih]
      by_cases hq : q = k
      · subst hq; simp [hk]
      · simp [hq]

theorem Owns_setM {ρ : Env} {m : Mem} {k : Nat} {d : SegD} {b o : Nat} : Owns ρ (setM m k d) b o ↔ Owns ρ m b o := by
  constructor
  · rintro ⟨q, s, hs, h⟩
    rw [find_setM] at hs
    by_cases hq : q = k
    · subst hq
      simp only [if_true, Option.map_eq_some_iff] at hs
      obtain ⟨s0, h0, rfl⟩ := hs
      exact ⟨q, s0, h0, h⟩
    · simp only [hq, if_false] at hs
      exact ⟨q, s, hs, h⟩
  · rintro ⟨q, s, hs, h⟩
    by_cases hq : q = k
    · subst hq
      exact ⟨q, s.upd d, by rw [find_setM]; simp [hs], h⟩
    · exact ⟨q, s, by rw [find_setM]; simp [hq, hs], h⟩

/-- **A WRITE INTO A PIECE OF OUR OWN.** -/
theorem PostM.write {B ng : Nat} {ρ : Env} {m : Mem} {nx : Nat} {w w' : World} {k : Nat} {s : Seg} {d : SegD} {o n : Nat} {f : Nat → Value}
    (h : MemOk B ng ρ m nx w) (hk : find m k = some s) (ho : s.own = true) (hn0 : 0 < n ∨ w' = w) (hn : o + n ≤ s.ext ρ k) (hng : o + n ≤ s.d.len) (hzv : s.grow = true → d.zv = s.d.zv)
    (hlen : s.d.len = d.len) (hW : Wr w w' (ρ k).blk ((ρ k).off + o) n f)
    (hwf : d.lt nx = true) (hin : ∀ j x, d.scs[o + j]? = some x → j < n → f j = x.den ρ)
    (hout : ∀ j x, d.scs[j]? = some x → (j < o ∨ o + n ≤ j) → (s.d.cells ρ)[j]? = some (x.den ρ)) :
    PostM B ng ρ m nx w ρ (setM m k d) nx w' := by
  have hsk := h.segs k s hk
  have hbel : Below B w w' := by
    rcases hn0 with hn0 | rfl
    · have hB : B ≤ (ρ k).blk := hsk.ours ho (by omega)
      exact ⟨hW.os, hW.tape, hW.output, Nat.le_of_eq hW.size.symm, fun i hi => hW.block i (by omega)⟩
    · exact Below.refl _ _
  have hreach : s.reach ρ k = s.ext ρ k := by simp [Seg.reach, ho]
  have hoth : ∀ b q, (b ≠ (ρ k).blk ∨ q < (ρ k).off + o ∨ (ρ k).off + o + n ≤ q) → w'.cell? ⟨b, q, none⟩ = w.cell? ⟨b, q, none⟩ := by
    intro b q hbq
    by_cases hb : b = (ρ k).blk
    · subst hb; exact hW.other q (by rcases hbq with h | h; exact absurd rfl h; exact h)
    · exact cell?_congr (hW.block b hb)
  refine ⟨fun _ _ => rfl, ⟨?_, ?_, ?_, by rw [hW.size]; exact h.base, h.glob, h.ng_le, ?_⟩, ⟨hbel, fun b q hb hno => ⟨hoth b q ?_, hW.frozen _⟩⟩, fun b q _ hq => Owns_setM.1 hq, fun b q _ hq => ?_, Nat.le_refl _⟩
  · intro q t ht
    rw [find_setM] at ht
    by_cases hq : q = k
    · subst hq; exact h.keys _ s hk
    · simp only [hq, if_false] at ht; exact h.keys q t ht
  · intro q t ht
    rw [find_setM] at ht
    by_cases hq : q = k
    · subst hq
      simp only [if_true, hk, Option.map_some, Option.some.injEq] at ht
      subst ht
      have hext : (s.upd d).ext ρ q = s.ext ρ q := rfl
      refine ⟨hsk.ours, fun hg => ?_, ?_, hsk.nil, fun j x hx => ?_, fun hoo j hj => ?_, hsk.next, fun hg hoo j z hz h1 h2 => ?_⟩
      · exact hlen.symm.trans (hsk.fixed hg)
      · show d.len ≤ _
        rw [← hlen]; exact hsk.cap
      · have hx' : d.scs[j]? = some x := hx
        by_cases hj : o ≤ j ∧ j < o + n
        · have e := hW.cell (j - o) (by omega)
          rw [show (ρ q).off + o + (j - o) = (ρ q).off + j by omega] at e
          rw [e, hin (j - o) x (by rw [show o + (j - o) = j by omega]; exact hx') (by omega)]
        · have := hout j x hx' (by omega)
          rw [hoth _ _ (.inr (by omega))]
          rw [SegD.cells, List.getElem?_map, Option.map_eq_some_iff] at this
          obtain ⟨y, hy, hyx⟩ := this
          rw [← hyx]
          exact hsk.cell j y hy
      · rw [hext] at hj
        obtain ⟨e1, v, e2⟩ := hsk.room ho j hj
        refine ⟨(hW.frozen _).trans e1, ?_⟩
        by_cases hjo : o ≤ j ∧ j < o + n
        · have e := hW.cell (j - o) (by omega)
          rw [show (ρ q).off + o + (j - o) = (ρ q).off + j by omega] at e
          exact ⟨_, e⟩
        · exact ⟨v, by rw [hoth _ _ (.inr (by omega))]; exact e2⟩
      · have hz' : d.zv = some z := hz
        have h1' : d.len ≤ j := h1
        rw [hoth _ _ (.inr (by omega))]
        exact hsk.zero hg hoo j z (by rw [← hzv hg]; exact hz') (by omega) h2
    · simp only [hq, if_false] at ht
      refine (h.segs q t ht).congr fun j hj => ⟨hoth _ _ ?_, hW.frozen _⟩
      rcases h.dis q k t s ht hk hq (.inr ho) with hd | hd
      · exact .inl hd
      · by_cases hb : (ρ q).blk = (ρ k).blk
        · refine .inr ?_
          rcases Nat.lt_or_ge ((ρ q).off + j) ((ρ k).off + o) with h1 | h1
          · exact .inl h1
          · rcases Nat.lt_or_ge ((ρ q).off + j) ((ρ k).off + o + n) with h2 | h2
            · exact absurd (show (ρ q).off + j = (ρ k).off + ((ρ q).off + j - (ρ k).off) by omega) (hd j _ hj (by rw [hreach]; omega))
            · exact .inr h2
        · exact .inl hb
  · intro q q' t t' ht ht' hqq hoo
    have get : ∀ q t, find (setM m k d) q = some t → ∃ t0, find m q = some t0 ∧ t0.own = t.own ∧ t0.reach ρ q = t.reach ρ q := by
      intro q t ht
      rw [find_setM] at ht
      by_cases hq : q = k
      · subst hq
        simp only [if_true, hk, Option.map_some, Option.some.injEq] at ht
        subst ht
        exact ⟨s, hk, rfl, by simp [Seg.reach, Seg.upd, Seg.ext, ho]⟩
      · simp only [hq, if_false] at ht; exact ⟨t, ht, rfl, rfl⟩
    obtain ⟨t0, h0, o0, r0⟩ := get q t ht
    obtain ⟨t0', h0', o0', r0'⟩ := get q' t' ht'
    have := h.dis q q' t0 t0' h0 h0' hqq (by rw [o0, o0']; exact hoo)
    unfold Apart at *
    rw [r0, r0'] at this
    exact this
  · intro q t ht
    rw [find_setM] at ht
    by_cases hq : q = k
    · subst hq
      simp only [if_true, hk, Option.map_some, Option.some.injEq] at ht
      subst ht
      exact ⟨hwf, (h.wf q s hk).2⟩
    · simp only [hq, if_false] at ht; exact h.wf q t ht
  · by_cases hb' : b = (ρ k).blk
    · refine .inr ?_
      rcases Nat.lt_or_ge q ((ρ k).off + o) with h1 | h1
      · exact .inl h1
      · rcases Nat.lt_or_ge q ((ρ k).off + o + n) with h2 | h2
        · exact absurd ⟨k, s, hk, ho, hb'.symm, by omega, by omega⟩ hno
        · exact .inr h2
    · exact .inl hb'
  · obtain ⟨k', t, ht, h1, h2, h3⟩ := hq
    rw [find_setM] at ht
    by_cases hq : k' = k
    · subst hq
      simp only [if_true, hk, Option.map_some, Option.some.injEq] at ht
      subst ht
      exact ⟨k', s, hk, h1, h2, by rw [hreach]; simpa [Seg.reach, Seg.upd, Seg.ext, ho] using h3⟩
    · simp only [hq, if_false] at ht
      exact ⟨k', t, ht, h1, h2, h3⟩

/-! ### Keys that are new -/

theorem Seg.ext0 {ρ ρ' : Env} {k : Nat} {s : Seg} (e : ρ' k = ρ k) : s.ext ρ' k = s.ext ρ k := by simp [Seg.ext, e]

theorem SegOk.env {B : Nat} {ρ ρ' : Env} {k nx : Nat} {s : Seg} {w : World} (h : SegOk B ρ k s w) (he : ∀ q, q < nx → ρ' q = ρ q) (hk : k < nx)
    (hwf : s.d.lt nx = true ∧ (s.nxt = true → k + 1 < nx)) : SegOk B ρ' k s w := by
  have e := he k hk
  refine ⟨fun a hp => by rw [Seg.ext0 e] at hp; rw [e]; exact h.ours a hp, h.fixed, by rw [e]; exact h.cap, by rw [e]; exact h.nil, fun j x hx => ?_, fun a j hj => ?_, fun a => ?_, fun hg ho j z hz h1 h2 => by rw [e] at h2 ⊢; exact h.zero hg ho j z hz h1 h2⟩
  · rw [e, h.cell j x hx, Sc.den_congr he (SegD.scs_lt hwf.1 x (List.mem_of_getElem? hx))]
  · have : j < s.ext ρ k := by unfold Seg.ext at *; rw [e] at hj; exact hj
    rw [e]; exact h.room a j this
  · rw [e, he _ (hwf.2 a)]; exact h.next a

theorem Seg.ext_congr {ρ ρ' : Env} {k : Nat} {s : Seg} (e : ρ' k = ρ k) : s.ext ρ' k = s.ext ρ k := by simp [Seg.ext, e]
theorem Seg.reach_congr {ρ ρ' : Env} {k : Nat} {s : Seg} (e : ρ' k = ρ k) : s.reach ρ' k = s.reach ρ k := by simp [Seg.reach, Seg.ext_congr e]

/-- the same pieces under more keys -/
theorem MemOk.env {B ng : Nat} {ρ ρ' : Env} {m : Mem} {nx nx' : Nat} {w : World} (h : MemOk B ng ρ m nx w) (he : ∀ q, q < nx → ρ' q = ρ q) (hn : nx ≤ nx') :
    MemOk B ng ρ' m nx' w := by
  refine ⟨fun k s hk => Nat.lt_of_lt_of_le (h.keys k s hk) hn, fun k s hk => (h.segs k s hk).env he (h.keys k s hk) (h.wf k s hk), fun k k' s s' hk hk' hne ho => ?_, h.base, fun g hg => ?_, Nat.le_trans h.ng_le hn, fun k s hk => ?_⟩
  · have := h.dis k k' s s' hk hk' hne ho
    unfold Apart at *
    rw [he k (h.keys k s hk), he k' (h.keys k' s' hk'), Seg.reach_congr (he k (h.keys k s hk)), Seg.reach_congr (he k' (h.keys k' s' hk'))]
    exact this
  · rw [he g (Nat.lt_of_lt_of_le hg h.ng_le)]; exact h.glob g hg
  · obtain ⟨a, b⟩ := h.wf k s hk
    exact ⟨SegD.lt_mono hn a, fun c => Nat.lt_of_lt_of_le (b c) hn⟩

theorem Owns.env {ρ ρ' : Env} {m : Mem} {nx b o : Nat} (he : ∀ q, q < nx → ρ' q = ρ q) (hk : ∀ k s, find m k = some s → k < nx) (h : Owns ρ' m b o) : Owns ρ m b o := by
  obtain ⟨k, s, hs, h1, h2, h3, h4⟩ := h
  have e := he k (hk k s hs)
  rw [e] at h2 h3 h4
  rw [Seg.ext_congr e] at h4
  exact ⟨k, s, hs, h1, h2, h3, h4⟩

/-- pieces that are forgotten -/
theorem PostM.drop {B ng : Nat} {ρ : Env} {m m' : Mem} {nx : Nat} {w : World} (h : MemOk B ng ρ m nx w) (hs : ∀ k s, find m' k = some s → find m k = some s) : PostM B ng ρ m nx w ρ m' nx w :=
  ⟨fun _ _ => rfl, ⟨fun k s hk => h.keys k s (hs k s hk), fun k s hk => h.segs k s (hs k s hk), fun k k' s s' hk hk' => h.dis k k' s s' (hs k s hk) (hs k' s' hk'), h.base, h.glob, h.ng_le, fun k s hk => h.wf k s (hs k s hk)⟩,
    ⟨Below.refl _ _, fun _ _ _ _ => ⟨rfl, rfl⟩⟩, fun b o _ ⟨k, s, hk, r⟩ => ⟨k, s, hs k s hk, r⟩, fun b o _ ⟨k, s, hk, r⟩ => ⟨k, s, hs k s hk, r⟩, Nat.le_refl _⟩

def addM (nx : Nat) : List Seg → Mem → Mem
  | [], m => m
  | s :: r, m => (nx, s) :: addM (nx + 1) r m

theorem find_addM : ∀ (L : List Seg) (nx : Nat) (m : Mem) (k : Nat), find (addM nx L m) k = if nx ≤ k ∧ k < nx + L.length then L[k - nx]? else find m k
  | [], nx, m, k => by simp only [addM, List.length_nil, Nat.add_zero]; rw [if_neg (by omega)]
  | s :: r, nx, m, k => by
    simp only [addM, find_cons, find_addM r (nx + 1) m k, List.length_cons]
    by_cases h : nx = k
    · subst h; rw [if_pos rfl, if_pos (by omega)]; simp
    · rw [if_neg h]
      by_cases h2 : nx + 1 ≤ k ∧ k < nx + 1 + r.length
      · rw [if_pos h2, if_pos (by omega), show k - nx = (k - (nx + 1)) + 1 by omega, List.getElem?_cons_succ]
      · rw [if_neg h2, if_neg (by omega)]

/-- where piece number i begins -/
def offs (L : List Seg) (i : Nat) : Nat := ((L.take i).map (·.n)).sum

theorem offs_succ {L : List Seg} {i : Nat} {s : Seg} (h : L[i]? = some s) : offs L (i + 1) = offs L i + s.n := by
  simp [offs, List.take_add_one, h]

theorem offs_mono (L : List Seg) {i j : Nat} (h : i ≤ j) : offs L i ≤ offs L j := by
  induction j with
  | zero => simp [Nat.le_zero.1 h]
  | succ j ih =>
    by_cases hij : i = j + 1
    · rw [hij]; exact Nat.le_refl _
    · refine Nat.le_trans (ih (by omega)) ?_
      cases hs : L[j]? with
      | none => simp [offs, List.take_add_one, hs]
      | some s => rw [offs_succ hs]; exact Nat.le_add_right _ _

theorem flat_at {f : Seg → List Value} : ∀ (L : List Seg), (∀ s ∈ L, (f s).length = s.n) → ∀ (i : Nat) (s : Seg) (j : Nat), L[i]? = some s → j < s.n → (L.flatMap f)[offs L i + j]? = (f s)[j]?
  | [], _, i, s, j, h, _ => by simp at h
  | a :: r, hl, 0, s, j, h, hj => by
    simp only [List.getElem?_cons_zero, Option.some.injEq] at h
    subst h
    have := hl a (by simp)
    simp [offs, List.flatMap_cons, List.getElem?_append_left (by omega : j < (f a).length)]
  | a :: r, hl, i + 1, s, j, h, hj => by
    have ih := flat_at r (fun s hs => hl s (by simp [hs])) i s j (by simpa using h) hj
    have ha := hl a (by simp)
    have ho : offs (a :: r) (i + 1) = a.n + offs r i := by simp [offs]
    rw [List.flatMap_cons, List.getElem?_append_right (by omega), ha, ho, show a.n + offs r i + j - a.n = offs r i + j by omega]
    exact ih

def capAt (L : List Seg) (i : Nat) : Nat := match L[i]? with
  | some s => s.n
  | none => 0

/-- **A NEW BLOCK**, in pieces. -/
theorem PostM.new {B ng : Nat} {ρ : Env} {m : Mem} {nx : Nat} {w : World} (h : MemOk B ng ρ m nx w) (L : List Seg) (elem : TypeId) (cells : Array Value)
    (hL : ∀ s ∈ L, s.own = true ∧ s.d.len = s.n ∧ s.d.lt nx = true ∧ True)
    (hlast : ∀ i s, L[i]? = some s → s.nxt = true → i + 1 < L.length)
    (hc : cells.toList = L.flatMap (fun s => s.d.cells ρ)) :
    PostM B ng ρ m nx w (fun q => if q < nx then ρ q else ⟨w.heap.size, offs L (q - nx), capAt L (q - nx), false⟩) (addM nx L m) (nx + L.length) (w.alloc (.cells cells elem)) := by
  let ρ' : Env := fun q => if q < nx then ρ q else ⟨w.heap.size, offs L (q - nx), capAt L (q - nx), false⟩
  have he : ∀ q, q < nx → ρ' q = ρ q := fun q hq => if_pos hq
  have hnew : ∀ i, ρ' (nx + i) = ⟨w.heap.size, offs L i, capAt L i, false⟩ := fun i => by
    show (if nx + i < nx then _ else _) = _
    rw [if_neg (by omega), Nat.add_sub_cancel_left]
  have hold : MemOk B ng ρ' m (nx + L.length) w := h.env he (by omega)
  have hlen : ∀ s ∈ L, (s.d.cells ρ).length = s.n := fun s hs => by
    unfold SegD.cells; rw [List.length_map, scs_length]; exact (hL s hs).2.1
  have hcell : ∀ (i : Nat) (s : Seg) (j : Nat) (x : Sc), L[i]? = some s → s.d.scs[j]? = some x → (w.alloc (.cells cells elem)).cell? ⟨w.heap.size, offs L i + j, none⟩ = some (x.den ρ') := by
    intro i s j x hi hx
    have hs := List.mem_of_getElem? hi
    have hj : j < s.n := by rw [← (hL s hs).2.1, ← scs_length]; exact (List.getElem?_eq_some_iff.1 hx).1
    rw [World.cell?_alloc_new, ← Array.getElem?_toList, hc, flat_at L hlen i s j hi hj]
    unfold SegD.cells
    rw [List.getElem?_map, hx, Option.map_some, Sc.den_congr he (SegD.scs_lt (hL s hs).2.2.1 x (List.mem_of_getElem? hx))]
  have hext : ∀ (i : Nat) (s : Seg), L[i]? = some s → s.ext ρ' (nx + i) = s.n := by
    intro i s hi
    unfold Seg.ext
    rw [hnew]
    cases hg : s.grow with
    | false => simp
    | true => simp [capAt, hi]
  have hreach : ∀ (i : Nat) (s : Seg), L[i]? = some s → s.reach ρ' (nx + i) = s.n := by
    intro i s hi
    unfold Seg.reach
    rw [(hL s (List.mem_of_getElem? hi)).1, hext i s hi]; simp
  have hsplit : ∀ (k : Nat) (s : Seg), find (addM nx L m) k = some s → (∃ i, k = nx + i ∧ L[i]? = some s) ∨ (k < nx ∧ find m k = some s) := by
    intro k s hk
    rw [find_addM] at hk
    by_cases hr : nx ≤ k ∧ k < nx + L.length
    · rw [if_pos hr] at hk; exact .inl ⟨k - nx, by omega, hk⟩
    · rw [if_neg hr] at hk; exact .inr ⟨h.keys k s hk, hk⟩
  have hlt : ∀ (i : Nat) (s : Seg), L[i]? = some s → i < L.length := fun i s hi => (List.getElem?_eq_some_iff.1 hi).1
  show PostM B ng ρ m nx w ρ' _ _ _
  refine ⟨he, ⟨fun k s hk => ?_, fun k s hk => ?_, fun k k' s s' hk hk' hne ho => ?_, ?_, hold.glob, hold.ng_le, fun k s hk => ?_⟩, ⟨(Below.refl _ _).alloc h.base _, fun b o hb _ => ⟨?_, ?_⟩⟩, ?_, ?_, by omega⟩
  · rcases hsplit k s hk with ⟨i, rfl, hi⟩ | ⟨hk', _⟩
    · have := hlt i s hi; omega
    · omega
  · rcases hsplit k s hk with ⟨i, rfl, hi⟩ | ⟨hkn, hk'⟩
    · have hs := List.mem_of_getElem? hi
      obtain ⟨p1, p2, p3, p4⟩ := hL s hs
      refine ⟨fun _ _ => by rw [hnew]; exact h.base, fun _ => p2, by rw [hnew]; simp [capAt, hi, p2], fun e => (by rw [hnew] at e; cases e), fun j x hx => by rw [hnew]; exact hcell i s j x hi hx, fun _ j hj => ?_, fun hn => ?_, fun hg _ j z hz h1 h2 => by rw [hnew] at h2; simp [capAt, hi] at h2; omega⟩
      · rw [hext i s hi] at hj
        rw [hnew]
        have hj' : j < s.d.scs.length := by rw [scs_length, p2]; exact hj
        exact ⟨by simp, _, hcell i s j _ hi (List.getElem?_eq_getElem hj')⟩
      · rw [show nx + i + 1 = nx + (i + 1) by omega, hnew, hnew]
        exact ⟨rfl, offs_succ hi⟩
    · refine (hold.segs k s hk').congr fun j hj => ?_
      have hb := (hold.segs k s hk').lt hj
      have hb' : (ρ' k).blk ≠ w.heap.size := Nat.ne_of_lt hb
      exact ⟨World.cell?_alloc_old _ _ _ hb', World.frozen?_alloc_old _ _ _ hb'⟩
  · rcases hsplit k s hk with ⟨i, rfl, hi⟩ | ⟨hkn, hk1⟩ <;> rcases hsplit k' s' hk' with ⟨i', rfl, hi'⟩ | ⟨hkn', hk1'⟩
    · refine .inr fun j j' hj hj' => ?_
      rw [hreach i s hi] at hj
      rw [hreach i' s' hi'] at hj'
      rw [hnew, hnew]
      show offs L i + j ≠ offs L i' + j'
      rcases Nat.lt_or_ge i i' with hlt1 | hge
      · have := offs_mono L (show i + 1 ≤ i' by omega)
        rw [offs_succ hi] at this; omega
      · have hii : i' < i := by omega
        have := offs_mono L (show i' + 1 ≤ i by omega)
        rw [offs_succ hi'] at this; omega
    · by_cases hz : s'.reach ρ' k' = 0
      · exact .inr fun j j' _ hj' => absurd hj' (by omega)
      · refine .inl ?_
        have hb := (hold.segs k' s' hk1').lt (j := 0) (by omega)
        rw [hnew]
        exact Nat.ne_of_gt hb
    · by_cases hz : s.reach ρ' k = 0
      · exact .inr fun j j' hj _ => absurd hj (by omega)
      · refine .inl ?_
        have hb := (hold.segs k s hk1).lt (j := 0) (by omega)
        rw [hnew]
        exact Nat.ne_of_lt hb
    · exact hold.dis k k' s s' hk1 hk1' hne ho
  · have := h.base; simp; omega
  · rcases hsplit k s hk with ⟨i, rfl, hi⟩ | ⟨hkn, hk'⟩
    · obtain ⟨p1, p2, p3, p4⟩ := hL s (List.mem_of_getElem? hi)
      exact ⟨SegD.lt_mono (by omega) p3, fun hn => by have := hlast i s hi hn; omega⟩
    · exact hold.wf k s hk'
  · exact World.cell?_alloc_old _ _ _ (Nat.ne_of_lt hb)
  · exact World.frozen?_alloc_old _ _ _ (Nat.ne_of_lt hb)
  · rintro b o hb ⟨k, s, hk, h1, h2, h3, h4⟩
    rcases hsplit k s hk with ⟨i, rfl, hi⟩ | ⟨hkn, hk'⟩
    · rw [hnew] at h2; simp at h2; omega
    · have e := he k hkn
      rw [Seg.ext_congr e] at h4
      rw [e] at h2 h3 h4
      exact ⟨k, s, hk', h1, h2, h3, h4⟩
  · rintro b o hb ⟨k, s, hk, h2, h3, h4⟩
    rcases hsplit k s hk with ⟨i, rfl, hi⟩ | ⟨hkn, hk'⟩
    · rw [hnew] at h2; simp at h2; omega
    · have e := he k hkn
      rw [Seg.reach_congr e] at h4
      rw [e] at h2 h3 h4
      exact ⟨k, s, hk', h2, h3, h4⟩

theorem find_append {α : Type} : ∀ (a b : List (Nat × α)) (k : Nat), find (a ++ b) k = match find a k with
    | some v => some v
    | none => find b k
  | [], b, k => rfl
  | (k', v) :: a, b, k => by
    rw [List.cons_append, find_cons, find_cons]
    by_cases h : k' = k
    · simp [h]
    · rw [if_neg h, if_neg h]; exact find_append a b k

/-- **WHAT LIES BESIDE STAYS.** -/
theorem PostM.beside {B ng : Nat} {ρ ρ' : Env} {m m' r : Mem} {nx nx' : Nat} {w w' : World} (h : MemOk B ng ρ (m ++ r) nx w) (hd : ∀ k s, find r k = some s → find m k = none)
    (hp : PostM B ng ρ m nx w ρ' m' nx' w') (hm : ∀ k s, find r k = some s → find m' k = none) : PostM B ng ρ (m ++ r) nx w ρ' (m' ++ r) nx' w' := by
  have inM : ∀ k s, find m k = some s → find (m ++ r) k = some s := fun k s hk => by rw [find_append, hk]
  have inR : ∀ k s, find r k = some s → find (m ++ r) k = some s := fun k s hk => by rw [find_append, hd k s hk]; exact hk
  have inM' : ∀ k s, find m' k = some s → find (m' ++ r) k = some s := fun k s hk => by rw [find_append, hk]
  have inR' : ∀ k s, find r k = some s → find (m' ++ r) k = some s := fun k s hk => by rw [find_append, hm k s hk]; exact hk
  have split : ∀ k s, find (m' ++ r) k = some s → find m' k = some s ∨ find r k = some s := fun k s hk => by
    rw [find_append] at hk
    split at hk
    · rename_i v hv; cases hk; exact .inl hv
    · exact .inr hk
  have rlt : ∀ k s, find r k = some s → k < nx := fun k s hk => h.keys k s (inR k s hk)
  -- a reached cell of r is none of m's own
  have notOwn : ∀ k s, find r k = some s → ∀ j, j < s.reach ρ k → ¬ Owns ρ m (ρ k).blk ((ρ k).off + j) := by
    rintro k s hk j hj ⟨k2, s2, hk2, o2, b2, l2, u2⟩
    have hne : k ≠ k2 := fun e => by subst e; rw [hd k s hk] at hk2; cases hk2
    rcases h.dis k k2 s s2 (inR k s hk) (inM k2 s2 hk2) hne (.inr o2) with hx | hx
    · exact hx b2.symm
    · exact hx j ((ρ k).off + j - (ρ k2).off) hj (by simp only [Seg.reach, o2, if_true]; omega) (by omega)
  have segR : ∀ k s, find r k = some s → SegOk B ρ' k s w' := by
    intro k s hk
    have h1 := h.segs k s (inR k s hk)
    have h2 : SegOk B ρ k s w' := h1.congr fun j hj => hp.frame.cell _ _ (h1.lt hj) (notOwn k s hk j hj)
    exact h2.env hp.ext (rlt k s hk) (h.wf k s (inR k s hk))
  have ek : ∀ k s, find r k = some s → ρ' k = ρ k := fun k s hk => hp.ext k (rlt k s hk)
  -- a piece of m' and a piece of r lie apart
  have mixed : ∀ k s k' s', find m' k = some s → find r k' = some s' → (s.own = true ∨ s'.own = true) → (ρ' k).blk ≠ (ρ' k').blk ∨ ∀ j j', j < s.reach ρ' k → j' < s'.reach ρ' k' → (ρ' k).off + j ≠ (ρ' k').off + j' := by
    intro k s k' s' hk hk' ho
    by_cases hb : (ρ' k).blk = (ρ' k').blk
    · refine .inr fun j j' hj hj' heq => ?_
      have e := ek k' s' hk'
      have hlt := (segR k' s' hk').lt hj'
      have hj'' : j' < s'.reach ρ k' := by rw [← Seg.reach_congr e]; exact hj'
      have hlt0 : (ρ k').blk < w.heap.size := (h.segs k' s' (inR k' s' hk')).lt hj''
      have pos : (ρ' k).off + j = (ρ k').off + j' := by rw [heq, e]
      have pb : (ρ' k).blk = (ρ k').blk := by rw [hb, e]
      rcases ho with ho | ho
      · have hr : s.reach ρ' k = s.ext ρ' k := by simp [Seg.reach, ho]
        have : Owns ρ' m' (ρ k').blk ((ρ k').off + j') := ⟨k, s, hk, ho, pb, by omega, by omega⟩
        exact notOwn k' s' hk' j' hj'' (hp.sub _ _ hlt0 this)
      · have : Reaches ρ' m' (ρ k').blk ((ρ k').off + j') := ⟨k, s, hk, pb, by omega, by omega⟩
        obtain ⟨k2, s2, hk2, b2, l2, u2⟩ := hp.subR _ _ hlt0 this
        have hne : k2 ≠ k' := fun e => by subst e; rw [hd _ s' hk'] at hk2; cases hk2
        rcases h.dis k2 k' s2 s' (inM k2 s2 hk2) (inR k' s' hk') hne (.inr ho) with hx | hx
        · exact hx b2
        · exact hx ((ρ k').off + j' - (ρ k2).off) j' (by omega) hj'' (by omega)
    · exact .inl hb
  refine ⟨hp.ext, ⟨fun k s hk => ?_, fun k s hk => ?_, fun k k' s s' hk hk' hne ho => ?_, hp.ok.base, hp.ok.glob, hp.ok.ng_le, fun k s hk => ?_⟩, ⟨hp.frame.below, fun b o hb hn => hp.frame.cell b o hb fun ⟨k, s, hk, r1⟩ => hn ⟨k, s, inM k s hk, r1⟩⟩, ?_, ?_, hp.le⟩
  · rcases split k s hk with h1 | h1
    · exact hp.ok.keys k s h1
    · exact Nat.lt_of_lt_of_le (rlt k s h1) hp.le
  · rcases split k s hk with h1 | h1
    · exact hp.ok.segs k s h1
    · exact segR k s h1
  · rcases split k s hk with h1 | h1 <;> rcases split k' s' hk' with h2 | h2
    · exact hp.ok.dis k k' s s' h1 h2 hne ho
    · exact mixed k s k' s' h1 h2 ho
    · rcases mixed k' s' k s h2 h1 ho.symm with hx | hx
      · exact .inl (Ne.symm hx)
      · exact .inr fun j j' hj hj' e => hx j' j hj' hj e.symm
    · have hx := h.dis k k' s s' (inR k s h1) (inR k' s' h2) hne ho
      unfold Apart at *
      rw [ek k s h1, ek k' s' h2, Seg.reach_congr (ek k s h1), Seg.reach_congr (ek k' s' h2)]
      exact hx
  · rcases split k s hk with h1 | h1
    · exact hp.ok.wf k s h1
    · obtain ⟨a1, a2⟩ := h.wf k s (inR k s h1)
      exact ⟨SegD.lt_mono hp.le a1, fun c => Nat.lt_of_lt_of_le (a2 c) hp.le⟩
  · rintro b o hb ⟨k, s, hk, h1, h2, h3, h4⟩
    rcases split k s hk with h5 | h5
    · obtain ⟨k2, s2, hk2, r1⟩ := hp.sub b o hb ⟨k, s, h5, h1, h2, h3, h4⟩
      exact ⟨k2, s2, inM k2 s2 hk2, r1⟩
    · have e := ek k s h5
      rw [Seg.ext_congr e] at h4
      rw [e] at h2 h3 h4
      exact ⟨k, s, inR k s h5, h1, h2, h3, h4⟩
  · rintro b o hb ⟨k, s, hk, h2, h3, h4⟩
    rcases split k s hk with h5 | h5
    · obtain ⟨k2, s2, hk2, r1⟩ := hp.subR b o hb ⟨k, s, h5, h2, h3, h4⟩
      exact ⟨k2, s2, inM k2 s2 hk2, r1⟩
    · have e := ek k s h5
      rw [Seg.reach_congr e] at h4
      rw [e] at h2 h3 h4
      exact ⟨k, s, inR k s h5, h2, h3, h4⟩

end Go.Sx
