/-
  Names and their positions (contracts of NewName, node.Pos, node.SetPos; no statement is closed here).
-/
import Derived.Test.YtlmllpgebakhhaaPosI
namespace Go.Proofs.Ytlmllpgebakhhaa.Pos
open Go.RowKit
set_option linter.unusedVariables false

/-- Block g holds a name: its text, and its position. -/
def NB (w : World) (g : Nat) (name : ByteArray) (P : Option Addr) (l c : Int) : Prop := Blk w g 82 #[.string name, .pointer P, .int .u32 l, .int .u32 c, .nilIface, .nilIface, .int .u16 0]

theorem pos37 (g : Nat) (name : ByteArray) (P : Option Addr) (l c : Int) (w : World) (hb : NB w g name P l c) :
    Calls Try.prog 37 #[.pointer (some ⟨g, 1, none⟩)] w fun e w' => e = .returned (.agg #[.pointer P, .int .u32 l, .int .u32 c]) ∧ Below w.heap.size w w' := by
  have hg : g < w.heap.size := Blk.lt hb
  have h1 : w.cell? ⟨g, 1, none⟩ = some (.pointer P) := Blk.cell hb 1
  have h2 : w.cell? ⟨g, 2, none⟩ = some (.int .u32 l) := Blk.cell hb 2
  have h3 : w.cell? ⟨g, 3, none⟩ = some (.int .u32 c) := Blk.cell hb 3
  clear hb
  go_enter Try.func37, Try.ntmps37
  go_wp2_with fail
  refine bodyPost_ret (v := .agg #[.pointer P, .int .u32 l, .int .u32 c]) (by simp [results, Try.results37, go_sem]) rfl ⟨rfl, ?_⟩
  exact (Below.refl _ _).alloc (Nat.le_refl _) _

theorem setPos38 (g : Nat) (name : ByteArray) (P Q : Option Addr) (l c m d : Int) (w : World) (hb : NB w g name P l c) :
    Calls Try.prog 38 #[.pointer (some ⟨g, 1, none⟩), .agg #[.pointer Q, .int .u32 m, .int .u32 d]] w fun e w' => e = .returned (.tuple #[]) ∧
      NB w' g name Q m d ∧ Below g w w' ∧ ∀ b, b ≠ g → b < w.heap.size → w'.heap[b]? = w.heap[b]? := by
  have hg : g < w.heap.size := Blk.lt hb
  have HB := Lib.hid hb
  have h1 : w.cell? ⟨g, 1, none⟩ = some (.pointer P) := Blk.cell hb 1
  have h2 : w.cell? ⟨g, 2, none⟩ = some (.int .u32 l) := Blk.cell hb 2
  have h3 : w.cell? ⟨g, 3, none⟩ = some (.int .u32 c) := Blk.cell hb 3
  have f1 : w.frozen? ⟨g, 1, none⟩ = false := Blk.frozen hb 1
  have f2 : w.frozen? ⟨g, 2, none⟩ = false := Blk.frozen hb 2
  have f3 : w.frozen? ⟨g, 3, none⟩ = false := Blk.frozen hb 3
  clear hb
  go_enter Try.func38, Try.ntmps38
  go_wp2_with fail
  go_end0
  refine ⟨rfl, ((((Blk.set_ HB.out 1 (.pointer Q)).set_ 2 (.int .u32 m)).set_ 3 (.int .u32 d)).alloc _), ?_, ?_⟩
  · exact ((((Below.refl g w).setCell (Nat.le_refl _) _).setCell (Nat.le_refl _) _).setCell (Nat.le_refl _) _).alloc (by simp [World.setCell]; omega) _
  · intro b hne hlt
    rw [Below.heap_alloc _ _ _ (by simpa [World.setCell] using hlt), Below.heap_setCell _ _ _ _ hne, Below.heap_setCell _ _ _ _ hne, Below.heap_setCell _ _ _ _ hne]

theorem newName35 (P : Option Addr) (l c : Int) (name : ByteArray) (w : World) :
    Calls Try.prog 35 #[.agg #[.pointer P, .int .u32 l, .int .u32 c], .string name] w fun e w' => ∃ g, e = .returned (.pointer (some ⟨g, 0, none⟩)) ∧ w.heap.size ≤ g ∧ NB w' g name P l c ∧ Below w.heap.size w w' := by
  go_enter Try.func35, Try.ntmps35
  go_wp2_with fail
  go_ret
  exact ⟨_, rfl, by simp, Blk.new2 _ _ _ _, ((Below.refl _ _).alloc (Nat.le_refl _) _).alloc (by simp) _⟩
end Go.Proofs.Ytlmllpgebakhhaa.Pos
