/-
  Positions, part C: the bases as the package makes them, and positions by them (contracts; no statement is closed here).
-/
import Derived.Test.YtlmllpgebakhhaaPosA
import Derived.Deep.DeepCutAuto
import Derived.Deep.AppendLies
import Derived.OwnWalk
import Derived.Laws.AppendOwn
import Derived.Laws.OwnMore
namespace Go.Proofs.Ytlmllpgebakhhaa.Pos
open Go.RowKit
set_option linter.unusedVariables false

/-- A new base: its block, and nothing old is touched. -/
def NewB (w : World) (A : Nat → Option Addr) (l0 c0 : Int) (name : ByteArray) (l c : Int) (t : Bool) (e : Ending) (w' : World) : Prop :=
  ∃ g, e = .returned (.pointer (some ⟨g, 0, none⟩)) ∧ w.heap.size ≤ g ∧ PBlk w' g (A g) l0 c0 name l c t ∧ Below w.heap.size w w'

theorem lim_one : lim 1 = 1 := by decide

theorem newFile63 (name : ByteArray) (t : Bool) (w : World) : Calls Try.prog 63 #[.string name, .bool t] w (NewB w (fun g => some ⟨g, 0, none⟩) 1 1 name 1 1 t) := by
  go_enter Try.func63, Try.ntmps63
  go_wp2_with fail
  refine (makePos65 none 1 1 _ (by decide) (by decide) (by decide) (by decide)).mono ?_
  rintro e w1 ⟨rfl, hb1⟩
  rw [lim_one]
  go_wp2_with fail
  go_ret
  exact ⟨_, rfl, hb1.size, heap_alloc_new _ _, hb1.alloc hb1.size _⟩
theorem satq (n : Int) (w : World) (h : U64 n) : Calls Try.prog 66 #[.int .u64 n] w fun e w' => e = .returned (.int .u32 (lim n)) ∧ w = w' := sat66 n w h.1 h.2
theorem newLine64 (A : Option Addr) (pl pc : Int) (name : ByteArray) (t : Bool) (l c : Int) (w : World) (hl : U64 l) (hc : U64 c) : Calls Try.prog 64 #[.agg #[.pointer A, .int .u32 pl, .int .u32 pc], .string name, .bool t, .int .u64 l, .int .u64 c] w (NewB w (fun _ => A) pl pc name (lim l) (lim c) t) := by
  have Hl := Lib.hid hl
  have Hc := Lib.hid hc
  clear hl hc
  go_enter Try.func64, Try.ntmps64
  go_wp2_with fail
  go_region_held3 (fun w' => w'.cell? ⟨w.heap.size, 0, none⟩ = some (.pointer A) ∧ w'.cell? ⟨w.heap.size, 1, none⟩ = some (.int .u32 pl) ∧ w'.cell? ⟨w.heap.size, 2, none⟩ = some (.int .u32 pc)) (simp [go_sem, World.cell?_alloc_past])
      (first
        | (go_at_call 66; (with_reducible refine (satq _ _ Hl.out).mono ?_); rintro e w' ⟨rfl, rfl⟩)
        | (go_at_call 66; (with_reducible refine (satq _ _ Hc.out).mono ?_); rintro e w' ⟨rfl, rfl⟩))
  all_goals
    go_wp2_with fail
    go_ret
    have hn := heap_alloc_new (w.alloc (Obj.cells #[Value.pointer A, Value.int IntKind.u32 pl, Value.int IntKind.u32 pc] 72)) (Obj.cells #[Value.pointer A, Value.int IntKind.u32 pl, Value.int IntKind.u32 pc, Value.string name, Value.int IntKind.u32 (lim l), Value.int IntKind.u32 (lim c), Value.bool t] 96)
    have hz : (w.alloc (Obj.cells #[Value.pointer A, Value.int IntKind.u32 pl, Value.int IntKind.u32 pc] 72)).heap.size = w.heap.size + 1 := by simp
    rw [hz] at hn
    exact ⟨_, rfl, by simp, hn, (((Below.refl _ _).alloc (Nat.le_refl _) _).alloc (by simp) _).drew⟩

/-- A slice of pointers to bases. -/
def Ptrs (w : World) (A : Option Addr) (n : Nat) (p : Nat → Nat) : Prop :=
  ∀ k, k < n → ∃ g, A = some ⟨g, 0, none⟩ ∧ g < w.heap.size ∧ w.cell? ⟨g, k, none⟩ = some (.pointer (some ⟨p k, 0, none⟩))
theorem Ptrs.below {w w' : World} {A : Option Addr} {n : Nat} {p : Nat → Nat} (h : Ptrs w A n p) (hb : Below w.heap.size w w') : Ptrs w' A n p := fun k hk => by
  obtain ⟨g, e, hlt, h0⟩ := h k hk
  obtain ⟨hc, _⟩ := bcell hb
  exact ⟨g, e, Nat.lt_of_lt_of_le hlt hb.size, (hc _ _ hlt).trans h0⟩

set_option maxHeartbeats 1000000 in
theorem spot36 (A : Option Addr) (n cap : Nat) (p : Nat → Nat) (k : Nat) (l c : Int) (w : World) (hn : n ≤ 50) (hp : Ptrs w A n p) (hk : k < n) (hl : U64 l) (hc : U64 c) :
    Calls Try.prog 36 #[.slice A n cap, .agg #[.int .i64 k, .int .u64 l, .int .u64 c]] w fun e w' => e = .returned (.agg #[.pointer (some ⟨p k, 0, none⟩), .int .u32 (lim l), .int .u32 (lim c)]) ∧ Below w.heap.size w w' := by
  have Hl := Lib.hid hl
  have Hc := Lib.hid hc
  obtain ⟨g, rfl, hg, hcell⟩ := hp k hk
  clear hl hc hp
  have hk0 : (0 : Int) ≤ (k : Int) := Int.natCast_nonneg _
  have hk1 : (k : Int) < (n : Int) := by omega
  go_enter Try.func36, Try.ntmps36
  go_wp2_with fail
  go_region_held3 (fun w' => w'.cell? ⟨w.heap.size, 0, none⟩ = some (.int .i64 k) ∧ w'.cell? ⟨w.heap.size, 1, none⟩ = some (.int .u64 l) ∧ w'.cell? ⟨w.heap.size, 2, none⟩ = some (.int .u64 c) ∧ w'.cell? ⟨g, k, none⟩ = some (.pointer (some ⟨p k, 0, none⟩))) (simp [go_sem, World.cell?_alloc_past, *])
      (first
        | (go_at_call 65; refine (makePos65 _ l c _ Hl.out.1 Hl.out.2 Hc.out.1 Hc.out.2).mono ?_; rintro e w1 ⟨rfl, hb1⟩; obtain ⟨hcc, hff⟩ := bcell hb1; have h4 : w1.cell? ⟨g, k, none⟩ = some (.pointer (some ⟨p k, 0, none⟩)) := (by rw [hcc g k (by simp <;> omega)]; go_simp)))
  all_goals
    go_wp2_with fail
    refine bodyPost_ret (v := .agg #[.pointer (some ⟨p k, 0, none⟩), .int .u32 (lim l), .int .u32 (lim c)]) (by simp [results, Try.results36, go_sem, hcc]) rfl ⟨rfl, ?_⟩
    exact (((((((Below.refl _ _).alloc (Nat.le_refl _) _).alloc (by simp) _).drew).trans (hb1.mono (by simp; omega))).setCell (by simp) _).setCell (by simp) _).setCell (by simp) _

/-! ### The bases, made -/
def Bas.atL (x : Bas) : Int := if x.line = 0 then 1 else lim x.sl
def Bas.atC (x : Bas) : Int := if x.line = 0 then 1 else lim x.sc
def Bas.ln (x : Bas) : Int := if x.line = 0 then 1 else lim x.line
def Bas.cl (x : Bas) : Int := if x.line = 0 then 1 else lim x.col
def up (bs : Nat → Bas) (i : Nat) : Nat := if (bs i).line = 0 then i else (bs i).sb.toNat
/-- Block p i holds base i. -/
def PB (w : World) (bs : Nat → Bas) (p : Nat → Nat) (i : Nat) : Prop :=
  PBlk w (p i) (some ⟨p (up bs i), 0, none⟩) (bs i).atL (bs i).atC (bs i).name (bs i).ln (bs i).cl (bs i).trim
structure MB (w : World) (bs : Nat → Bas) (p : Nat → Nat) (n : Nat) : Prop where
  blk : ∀ i, i < n → PB w bs p i
  inc : ∀ i j, i < j → j < n → p i < p j
theorem MB.below {w w' : World} {bs : Nat → Bas} {p : Nat → Nat} {n : Nat} (h : MB w bs p n) (hb : Below w.heap.size w w') : MB w' bs p n :=
  ⟨fun i hi => (h.blk i hi).below hb, h.inc⟩
theorem MB.grown {w w' : World} {bs : Nat → Bas} {p : Nat → Nat} {n : Nat} {row : Option Nat} (h : MB w bs p n) (hg : w.grownBy w' row) (hr : ∀ i, i < n → some (p i) ≠ row) : MB w' bs p n :=
  ⟨fun i hi => (hg.block (p i) (h.blk i hi).lt (hr i hi)).trans (h.blk i hi), h.inc⟩

theorem owns_below {w w' : World} {base : Nat} {e : TypeId} {size : Nat} {v : Value} {n : Nat} {xs : List Value} (h : w.ownsRow base e size v n xs) (hb : Below w.heap.size w w') : w'.ownsRow base e size v n xs := by
  obtain ⟨h1, h2⟩ := h
  refine ⟨h1, ?_⟩
  rcases h2 with h | ⟨g, cap, cur, e1, e2, e3, e4, e5, e6, e7⟩
  · exact .inl h
  · have hlt : g < w.heap.size := by
      rcases Nat.lt_or_ge g w.heap.size with hlt | hge
      · exact hlt
      · rw [Array.getElem?_eq_none hge] at e3; cases e3
    exact .inr ⟨g, cap, cur, e1, e2, (hb.block g hlt).trans e3, e4, e5, e6, e7⟩
/-- A row of pointers and a block of a base are never one. -/
theorem own_ne {w : World} {base n : Nat} {v : Value} {xs : List Value} (h : w.ownsRow base 69 1 v n xs) {k : Nat} {A : Option Addr} {l0 c0 l c : Int} {name : ByteArray} {t : Bool} (hk : PBlk w k A l0 c0 name l c t) : some k ≠ v.ownBlock := by
  rcases h.2 with ⟨rfl, _⟩ | ⟨g, cap, cur, rfl, _, hh, _⟩
  · simp [Value.ownBlock]
  · intro he
    have : k = g := by simpa [Value.ownBlock] using he
    subst this
    unfold PBlk at hk
    rw [hk] at hh
    injection hh with hh
    injection hh with _ ht
    exact absurd ht (by decide)

def ptrList (p : Nat → Nat) (n : Nat) : List Value := (List.range n).map fun j => .pointer (some ⟨p j, 0, none⟩)
def ext (p : Nat → Nat) (k g : Nat) : Nat → Nat := fun j => if j = k then g else p j
theorem ptrList_ext (p : Nat → Nat) (k g : Nat) : ptrList p k ++ [.pointer (some ⟨g, 0, none⟩)] = ptrList (ext p k g) (k + 1) := by
  unfold ptrList
  rw [List.range_succ, List.map_append]
  congr 1
  · refine List.map_congr_left fun j hj => ?_
    have : j ≠ k := by have := List.mem_range.1 hj; omega
    simp [ext, this]
  · simp [ext]
theorem MB.ext {w w' : World} {bs : Nat → Bas} {p : Nat → Nat} {k g : Nat} (h : MB w bs p k) (hb : MB w' bs p k) (hA : ∀ i, i < k → up bs i ≤ i) (hup : up bs k ≤ k) (hg : w.heap.size ≤ g)
    (hk : PBlk w' g (some ⟨Pos.ext p k g (up bs k), 0, none⟩) (bs k).atL (bs k).atC (bs k).name (bs k).ln (bs k).cl (bs k).trim) : MB w' bs (Pos.ext p k g) (k + 1) := by
  refine ⟨fun i hi => ?_, fun i j hij hj => ?_⟩
  · rcases Nat.lt_succ_iff_lt_or_eq.1 hi with h' | rfl
    · have hu := hA i h'
      have e1 : Pos.ext p k g i = p i := by simp [Pos.ext]; omega
      have e2 : Pos.ext p k g (up bs i) = p (up bs i) := by simp [Pos.ext]; omega
      unfold PB
      rw [e1, e2]
      exact hb.blk i h'
    · unfold PB
      have e1 : Pos.ext p i g i = g := by simp [Pos.ext]
      rw [e1]
      exact hk
  · have e1 : Pos.ext p k g i = p i := by simp [Pos.ext]; omega
    rw [e1]
    rcases Nat.lt_succ_iff_lt_or_eq.1 hj with h' | rfl
    · have e2 : Pos.ext p k g j = p j := by simp [Pos.ext]; omega
      rw [e2]
      exact h.inc i j hij h'
    · have e2 : Pos.ext p j g j = g := by simp [Pos.ext]
      rw [e2]
      exact Nat.lt_of_lt_of_le (h.blk i hij).lt hg
theorem up_le {bs : Nat → Bas} {len : Nat} (hA : Are len bs) (hwf : ∀ k, k < len → (bs k).Wf) (i : Nat) (hi : i < len) : up bs i ≤ i := by
  unfold up
  split
  · exact Nat.le_refl _
  · rename_i h
    have hl := (hwf i hi).line.1
    obtain ⟨h0, h1, _⟩ := hA i hi (by omega)
    omega
end Go.Proofs.Ytlmllpgebakhhaa.Pos
