/-
  FnOperatorText: the walks. Conditions: none beyond the given row.
-/
import Derived.Test.YtlmllpgebakhhaaDoorCards
import Derived.Test.YtlmllpgebakhhaaDoorTie
import Derived.WalkKit
import Derived.WalkSpells
import Derived.ProofKit
import Derived.Below
import Derived.Carry
import Derived.Lib.Hide
import Derived.OpenShut
import Derived.Deep.DeepHandedRow
import Derived.Lib.LaidTab
import Derived.ChangeVars
import Derived.Deep.QuietTactic
import Derived.BigQuiet
import Derived.Deep.WholeRow
import Derived.Great.Walk
import Derived.Great.BuildSlice
import Derived.WalkSmall
import Derived.StillTailTactics
import Derived.Deep.RegionHeld3
import Derived.Deep.RegionWith
namespace Go.Proofs.YtlmllpgebakhhaaDoor.fnOperatorText
open Go.ChangeShapes Go.WideShapes Go.ChangeAt Go.RowKit

def tab : List Int := [0, 1, 2, 4, 5, 7, 9, 11, 13, 14, 16, 17, 19, 20, 21, 22, 23, 24, 25, 26, 27, 29, 31, 33]
def txt : List ByteArray := [⟨#[58]⟩, ⟨#[33]⟩, ⟨#[60, 45]⟩, ⟨#[126]⟩, ⟨#[124, 124]⟩, ⟨#[38, 38]⟩, ⟨#[61, 61]⟩, ⟨#[33, 61]⟩, ⟨#[60]⟩, ⟨#[60, 61]⟩, ⟨#[62]⟩, ⟨#[62, 61]⟩, ⟨#[43]⟩, ⟨#[45]⟩, ⟨#[124]⟩, ⟨#[94]⟩, ⟨#[42]⟩, ⟨#[47]⟩, ⟨#[37]⟩, ⟨#[38]⟩, ⟨#[38, 94]⟩, ⟨#[60, 60]⟩, ⟨#[62, 62]⟩]
def Tab (w : World) : Prop := ∀ k, k < 24 → w.cell? ⟨0, k, none⟩ = some (.int .u8 (tab.getD k 0))
theorem Tab.below {w w' : World} (h : Tab w) (h0 : 0 < w.heap.size) (hb : Below w.heap.size w w') : Tab w' := fun k hk => by rw [hb.cell (p := ⟨0, k, none⟩) h0]; exact h k hk

theorem cases23 {n : Nat} (h : n < 23) : (n = 0 ∨ n = 1 ∨ n = 2 ∨ n = 3 ∨ n = 4 ∨ n = 5 ∨ n = 6 ∨ n = 7 ∨ n = 8 ∨ n = 9 ∨ n = 10 ∨ n = 11 ∨ n = 12 ∨ n = 13 ∨ n = 14 ∨ n = 15 ∨ n = 16 ∨ n = 17 ∨ n = 18 ∨ n = 19 ∨ n = 20 ∨ n = 21 ∨ n = 22) := by omega

set_option maxHeartbeats 4000000 in
theorem string6 (n : Nat) (hn : n < 23) (w : World) (hT : Tab w) : Calls Tryd.prog 6 #[.int .u64 (n + 1)] w fun e w' => e = .returned (.string (txt.getD n ⟨#[]⟩)) ∧ Below w.heap.size w w' := by
  have c0 : w.cell? ⟨0, n, none⟩ = some (.int .u8 (tab.getD n 0)) := hT n (by omega)
  have c1 : w.cell? ⟨0, n + 1, none⟩ = some (.int .u8 (tab.getD (n + 1) 0)) := hT (n + 1) (by omega)
  clear hT
  rcases cases23 hn with rfl | rfl | rfl | rfl | rfl | rfl | rfl | rfl | rfl | rfl | rfl | rfl | rfl | rfl | rfl | rfl | rfl | rfl | rfl | rfl | rfl | rfl | rfl
  all_goals
    clear hn
    simp only [tab, txt, List.getD] at c0 c1 ⊢
    dsimp at c0 c1 ⊢
    go_enter Tryd.func6, Tryd.ntmps6
    go_wp2_with fail
    go_quiet (fail)
    go_wp2_with fail
    go_ret
    exact ⟨by rfl, by repeat (first | exact Below.refl _ _ | refine below_drewN ?_ _)⟩


def V0 : Array Value := #[.int .u64 0, .int .u64 0, .int .u64 0, .int .u64 0, .int .u64 0, .int .u64 0, .int .u64 0, .int .u64 0, .int .u64 0, .int .u64 0, .int .u64 0, .int .u64 0, .int .u64 0, .int .u64 0, .int .u64 0, .int .u64 0, .int .u64 0, .int .u64 0, .int .u64 0, .int .u64 0, .int .u64 0, .int .u64 0, .int .u64 0]
def V23 : Array Value := #[.int .u64 1, .int .u64 2, .int .u64 3, .int .u64 4, .int .u64 5, .int .u64 6, .int .u64 7, .int .u64 8, .int .u64 9, .int .u64 10, .int .u64 11, .int .u64 12, .int .u64 13, .int .u64 14, .int .u64 15, .int .u64 16, .int .u64 17, .int .u64 18, .int .u64 19, .int .u64 20, .int .u64 21, .int .u64 22, .int .u64 23]
def S23 : Array Value := (txt.map Value.string).toArray
theorem agg23 : (Tryd.prog.info? 26).map (fun i => (i.zero, i.size)) = some (some (.agg V0), 23) := by kernel_rfl
theorem v23 : ∀ n : Nat, n < 23 → V23[n]? = some (.int .u64 (n + 1)) := by
  intro n hn
  rcases cases23 hn with rfl | rfl | rfl | rfl | rfl | rfl | rfl | rfl | rfl | rfl | rfl | rfl | rfl | rfl | rfl | rfl | rfl | rfl | rfl | rfl | rfl | rfl | rfl
  all_goals rfl
theorem s23 : ∀ n : Nat, n < 23 → S23[n]? = some (.string (txt.getD n ⟨#[]⟩)) := by
  intro n hn
  rcases cases23 hn with rfl | rfl | rfl | rfl | rfl | rfl | rfl | rfl | rfl | rfl | rfl | rfl | rfl | rfl | rfl | rfl | rfl | rfl | rfl | rfl | rfl | rfl | rfl
  all_goals rfl
theorem V0_size : V0.size = 23 := rfl
theorem V23_size : V23.size = 23 := rfl
theorem V23_one : V23.all (·.oneCell') = true := by kernel_rfl
set_option maxHeartbeats 1000000 in
theorem impl4_in (n : Nat) (hn : n < 23) (w : World) (h0 : 0 < w.heap.size) (hT : Tab w) : Calls Tryd.prog 4 #[.int .i64 n] w fun e w' => e = .returned (.string (txt.getD n ⟨#[]⟩)) ∧ Below w.heap.size w w' := by
  have H := Lib.hid (string6 n hn)
  have HT := Lib.hid (hT.below h0 ((Below.refl _ _).alloc (Nat.le_refl _) (Obj.cells V23 26)))
  have hz := (zero_of_info agg23).1
  have hc : (w.alloc (Obj.cells V23 26)).cell? ⟨w.heap.size, n, none⟩ = some (.int .u64 (n + 1)) := by simp [v23 n hn]
  have hn0 : (0 : Int) ≤ (n : Int) := by omega
  have hn1 : (n : Int) < 23 := by omega
  have hsc := run_storeCells_new (P := Tryd.prog) w 26 V0 V23 ((zero_of_info agg23).2) rfl V23_one
  have hs := V23_size
  clear hT
  generalize txt.getD n ⟨#[]⟩ = T at H ⊢
  go_enter Tryd.func4, Tryd.ntmps4
  go_wp2_with (first | refine wpList_buildTo rfl 26 _ rfl (some 4) rfl V23 (by kernel_rfl) ?_ | (go_at_call 6; refine (H.out _ HT.out).mono ?_; rintro e w1 ⟨rfl, hb⟩))
  all_goals go_ret
  all_goals exact ⟨rfl, ((Below.refl _ _).alloc (Nat.le_refl _) _).trans (hb.mono (by simp))⟩

set_option maxHeartbeats 1000000 in
theorem impl4_out (n : Int) (hn : n < 0 ∨ 23 ≤ n) (w : World) : Calls Tryd.prog 4 #[.int .i64 n] w fun e w' => e = .returned (.string ⟨#[]⟩) ∧ Below w.heap.size w w' := by
  have hz := (zero_of_info agg23).1
  have hsc := run_storeCells_new (P := Tryd.prog) w 26 V0 V23 ((zero_of_info agg23).2) rfl V23_one
  have hs := V23_size
  have HN := Lib.hid hn
  have hb : Below w.heap.size w (w.alloc (Obj.cells V23 26)) := (Below.refl _ _).alloc (Nat.le_refl _) _
  clear hn
  go_enter Tryd.func4, Tryd.ntmps4
  go_wp2_with (first | refine wpList_buildTo rfl 26 _ rfl (some 4) rfl V23 (by kernel_rfl) ?_)
  all_goals first
    | (exfalso; have := HN.out; omega)
    | (go_ret; exact ⟨rfl, hb⟩)

theorem ops7 (w : World) : Calls Tryd.prog 7 #[] w fun e w' => e = .returned (.slice (some ⟨w.heap.size, 0, none⟩) 23 23) ∧ w' = w.alloc (.cells S23 9) := by
  go_enter Tryd.func7, Tryd.ntmps7
  go_wp2_with (first | refine wpList_buildSliceTo rfl 28 9 23 _ rfl _ rfl (some 1) rfl Tryd.underlying28 S23 (by kernel_rfl) ?_)
  all_goals go_ret
  all_goals exact ⟨rfl, rfl⟩

set_option maxHeartbeats 1000000 in
theorem spec5_in (n : Nat) (hn : n < 23) (w : World) : Calls Tryd.prog 5 #[.int .i64 n] w fun e w' => e = .returned (.string (txt.getD n ⟨#[]⟩)) ∧ Below w.heap.size w w' := by
  have hs := s23 n hn
  have hb : Below w.heap.size w (w.alloc (Obj.cells S23 9)) := (Below.refl _ _).alloc (Nat.le_refl _) _
  have hc : (w.alloc (Obj.cells S23 9)).cell? ⟨w.heap.size, n, none⟩ = some (.string (txt.getD n ⟨#[]⟩)) := by simp [hs]
  have hn0 : (0 : Int) ≤ (n : Int) := by omega
  have hn1 : (n : Int) < 23 := by omega
  generalize txt.getD n ⟨#[]⟩ = T at hs hc ⊢
  go_enter Tryd.func5, Tryd.ntmps5
  go_wp2_with (first | (go_at_call 7; refine (ops7 _).mono ?_; rintro e w1 ⟨rfl, rfl⟩))
  all_goals go_ret
  all_goals exact ⟨rfl, hb⟩

set_option maxHeartbeats 1000000 in
theorem spec5_out (n : Int) (hn : n < 0 ∨ 23 ≤ n) (w : World) : Calls Tryd.prog 5 #[.int .i64 n] w fun e w' => e = .returned (.string ⟨#[]⟩) ∧ Below w.heap.size w w' := by
  have HN := Lib.hid hn
  have hb : Below w.heap.size w (w.alloc (Obj.cells S23 9)) := (Below.refl _ _).alloc (Nat.le_refl _) _
  clear hn
  go_enter Tryd.func5, Tryd.ntmps5
  go_wp2_with (first | (go_at_call 7; refine (ops7 _).mono ?_; rintro e w1 ⟨rfl, rfl⟩))
  all_goals first
    | (exfalso; have := HN.out; omega)
    | (go_ret; exact ⟨rfl, hb⟩)

theorem law3 (n : Int) (T : ByteArray) (w : World) (P : World → Prop) (hP : P w) (hstep : ∀ w', Below w.heap.size w w' → P w')
    (h4 : ∀ w, P w → Calls Tryd.prog 4 #[.int .i64 n] w fun e w' => e = .returned (.string T) ∧ Below w.heap.size w w')
    (h5 : ∀ w, P w → Calls Tryd.prog 5 #[.int .i64 n] w fun e w' => e = .returned (.string T) ∧ Below w.heap.size w w') :
    Calls Tryd.prog 3 #[.int .i64 n] w fun e w' => e = .returned (.bool true) ∧ Below w.heap.size w w' := by
  have H4 := Lib.hid (h4 w hP)
  have H5 := Lib.hid h5
  have HS := Lib.hid hstep
  clear h4 h5 hP hstep
  go_enter Tryd.func3, Tryd.ntmps3
  go_wp2_with (first | (go_at_call 4; refine H4.out.mono ?_; rintro e w1 ⟨rfl, hb1⟩) | (go_at_call 5; refine (H5.out _ (HS.out _ hb1)).mono ?_; rintro e w2 ⟨rfl, hb2⟩))
  all_goals go_ret
  all_goals exact ⟨rfl, hb1.trans (hb2.mono hb1.size)⟩

theorem walk (n : Int) (w : World) (h0 : 0 < w.heap.size) (hT : Tab w) : Calls Tryd.prog 3 #[.int .i64 n] w fun e w' => e = .returned (.bool true) ∧ Below w.heap.size w w' := by
  have hstep : ∀ w', Below w.heap.size w w' → (0 < w'.heap.size ∧ Tab w') := fun w' hb => ⟨Nat.lt_of_lt_of_le h0 hb.size, hT.below h0 hb⟩
  by_cases hn : n < 0 ∨ 23 ≤ n
  · exact law3 n ⟨#[]⟩ w (fun w => 0 < w.heap.size ∧ Tab w) ⟨h0, hT⟩ hstep (fun w _ => impl4_out n hn w) (fun w _ => spec5_out n hn w)
  · obtain ⟨k, rfl⟩ : ∃ k : Nat, n = k := ⟨n.toNat, by omega⟩
    exact law3 k (txt.getD k ⟨#[]⟩) w (fun w => 0 < w.heap.size ∧ Tab w) ⟨h0, hT⟩ hstep (fun w h => impl4_in k (by omega) w h.1 h.2) (fun w _ => spec5_in k (by omega) w)
end Go.Proofs.YtlmllpgebakhhaaDoor.fnOperatorText
