/-
  Positions, part F: what a position tells by its base (contracts; no statement is closed here).
-/
import Derived.Test.YtlmllpgebakhhaaPosE

namespace Go.Proofs.Ytlmllpgebakhhaa.Pos
open Go.RowKit
set_option linter.unusedVariables false

set_option maxHeartbeats 2000000 in
theorem relLine50 (k : Nat) (A : Option Addr) (l0 c0 : Int) (name : ByteArray) (ln cl : Int) (t : Bool) (pl pc : Int) (w : World) (h : PBlk w k A l0 c0 name ln cl t) (hln : 0 < ln) (hln' : ln ≤ 1073741824) (hpl : pl ≤ 1073741824) (hl0 : 0 ≤ l0) (hle : l0 ≤ pl) :
    Calls Try.prog 50 #[.agg #[.pointer (some ⟨k, 0, none⟩), .int .u32 pl, .int .u32 pc]] w fun e w' => e = .returned (.int .u64 (ln + (pl - l0))) ∧ Below w.heap.size w w' := by
  have HB := Lib.hid h
  have e1 : (ln == 0) = false := by simp; omega
  clear h
  go_enter Try.func50, Try.ntmps50
  go_wp2_with fail
  refine (line42 k A l0 c0 name ln cl t _ (HB.out.below (by repeat (first | exact Below.refl _ _ | refine Below.alloc ?_ (by simp <;> omega) _))) (by omega) (by omega)).mono ?_
  rintro e w' ⟨rfl, rfl⟩
  go_wp2_with fail
  go_region_held3 (fun w' => w'.cell? ⟨w.heap.size, 0, none⟩ = some (.pointer (some ⟨k, 0, none⟩)) ∧ w'.cell? ⟨w.heap.size, 1, none⟩ = some (.int .u32 pl) ∧ w'.cell? ⟨w.heap.size, 2, none⟩ = some (.int .u32 pc)) (go_simp)
    (first
      | (go_at_call 42; (with_reducible refine (line42 k A l0 c0 name ln cl t _ (HB.out.below (by repeat (first | exact Below.refl _ _ | refine Below.drew ?_ | refine Below.alloc ?_ (by simp <;> omega) _))) (by omega) (by omega)).mono ?_); rintro e w' ⟨rfl, rfl⟩)
      | (go_at_call 39
         (with_reducible refine (line39 pl (some ⟨k, 0, none⟩) pc _ (by omega) (by omega)).mono ?_)
         rintro e w1 ⟨rfl, hb1⟩
         obtain ⟨hcc1, hff1⟩ := bcell hb1
         have hq1 : w.heap.size < w1.heap.size := by have := hb1.size; simp at this; omega
         have hbw1 := (show Below w.heap.size w _ from (by repeat (first | exact Below.refl _ _ | refine Below.drew ?_ | refine Below.alloc ?_ (by simp <;> omega) _))).trans (hb1.mono (by simp <;> omega)))
      | (go_at_call 46
         refine (pos46 k A l0 c0 name ln cl t _ (HB.out.below hbw1)).mono ?_
         rintro e w2 ⟨rfl, hb2⟩
         obtain ⟨hcc2, hff2⟩ := bcell hb2
         have hq2 : w.heap.size < w2.heap.size := Nat.lt_of_lt_of_le hq1 hb2.size
         have hbw2 := hbw1.trans (hb2.mono hbw1.size))
      | (go_at_call 39
         (with_reducible refine (line39 l0 A c0 _ (by omega) (by omega)).mono ?_)
         rintro e w3 ⟨rfl, hb3⟩
         obtain ⟨hcc3, hff3⟩ := bcell hb3
         have hbw3 := hbw2.trans (hb3.mono hbw2.size)))
  all_goals
    go_wp2_with fail
    have g1 := IntWalk.u64_in (pl - l0) ⟨by omega, by omega⟩
    have g2 := IntWalk.u64_in (ln + (pl - l0)) ⟨by omega, by omega⟩
    go_ret
    refine ⟨?_, hbw3⟩
    show Ending.returned (.int .u64 (IntKind.u64.wrap (ln + IntKind.u64.wrap (pl - l0)))) = _
    rw [g1, g2]

set_option maxHeartbeats 2000000 in
theorem relCol51_none (k : Nat) (A : Option Addr) (l0 c0 : Int) (name : ByteArray) (ln : Int) (t : Bool) (pl pc : Int) (w : World) (h : PBlk w k A l0 c0 name ln 0 t) :
    Calls Try.prog 51 #[.agg #[.pointer (some ⟨k, 0, none⟩), .int .u32 pl, .int .u32 pc]] w fun e w' => e = .returned (.int .u64 0) ∧ Below w.heap.size w w' := by
  have HB := Lib.hid h
  clear h
  go_enter Try.func51, Try.ntmps51
  go_wp2_with fail
  refine (col43 k A l0 c0 name ln 0 t _ (HB.out.below (by repeat (first | exact Below.refl _ _ | refine Below.drew ?_ | refine Below.alloc ?_ (by simp <;> omega) _))) (by omega) (by omega)).mono ?_
  rintro e w' ⟨rfl, rfl⟩
  go_wp2_with fail
  go_ret
  exact ⟨rfl, (by repeat (first | exact Below.refl _ _ | refine Below.drew ?_ | refine Below.alloc ?_ (by simp <;> omega) _))⟩

set_option maxHeartbeats 2000000 in
theorem relCol51_other (k : Nat) (A : Option Addr) (l0 c0 : Int) (name : ByteArray) (ln cl : Int) (t : Bool) (pl pc : Int) (w : World) (h : PBlk w k A l0 c0 name ln cl t) (hcl : 0 < cl) (hcl' : cl ≤ 1073741824) (hpl0 : 0 ≤ pl) (hpl : pl ≤ 1073741824) (hpc0 : 0 ≤ pc) (hpc : pc ≤ 1073741824) (hl0 : 0 ≤ l0) (hl0' : l0 ≤ 1073741824) (hne : pl ≠ l0) :
    Calls Try.prog 51 #[.agg #[.pointer (some ⟨k, 0, none⟩), .int .u32 pl, .int .u32 pc]] w fun e w' => e = .returned (.int .u64 pc) ∧ Below w.heap.size w w' := by
  have HB := Lib.hid h
  have e1 : (cl == 0) = false := by simp; omega
  have e2 : (pl == l0) = false := by simp; exact hne
  clear h hne
  go_enter Try.func51, Try.ntmps51
  go_wp2_with fail
  refine (col43 k A l0 c0 name ln cl t _ (HB.out.below (by repeat (first | exact Below.refl _ _ | refine Below.drew ?_ | refine Below.alloc ?_ (by simp <;> omega) _))) (by omega) (by omega)).mono ?_
  rintro e w' ⟨rfl, rfl⟩
  go_wp2_with fail
  refine (line39 pl (some ⟨k, 0, none⟩) pc _ (by omega) (by omega)).mono ?_
  rintro e w1 ⟨rfl, hb1⟩
  obtain ⟨hcc1, hff1⟩ := bcell hb1
  have hq1 : w.heap.size < w1.heap.size := by have := hb1.size; simp at this; omega
  have hbw1 := (show Below w.heap.size w _ from (by repeat (first | exact Below.refl _ _ | refine Below.drew ?_ | refine Below.alloc ?_ (by simp <;> omega) _))).trans (hb1.mono (by simp <;> omega))
  go_wp2_with fail
  refine (pos46 k A l0 c0 name ln cl t _ (HB.out.below hbw1)).mono ?_
  rintro e w2 ⟨rfl, hb2⟩
  obtain ⟨hcc2, hff2⟩ := bcell hb2
  have hq2 : w.heap.size < w2.heap.size := Nat.lt_of_lt_of_le hq1 hb2.size
  have hbw2 := hbw1.trans (hb2.mono hbw1.size)
  go_wp2_with fail
  refine (line39 l0 A c0 _ (by omega) (by omega)).mono ?_
  rintro e w3 ⟨rfl, hb3⟩
  obtain ⟨hcc3, hff3⟩ := bcell hb3
  have hbw3 := hbw2.trans (hb3.mono hbw2.size)
  go_wp2_with fail
  refine (col40 pl (some ⟨k, 0, none⟩) pc _ (by omega) (by omega)).mono ?_
  rintro e w4 ⟨rfl, hb4⟩
  go_wp2_with fail
  go_ret
  exact ⟨rfl, hbw3.trans (hb4.mono hbw3.size)⟩

set_option maxHeartbeats 2000000 in
theorem relCol51_same (k : Nat) (A : Option Addr) (l0 c0 : Int) (name : ByteArray) (ln cl : Int) (t : Bool) (pc : Int) (w : World) (h : PBlk w k A l0 c0 name ln cl t) (hcl : 0 < cl) (hcl' : cl ≤ 1073741824) (hpc0 : 0 ≤ pc) (hpc : pc ≤ 1073741824) (hl0 : 0 ≤ l0) (hl0' : l0 ≤ 1073741824) (hc0 : 0 ≤ c0) (hle : c0 ≤ pc) :
    Calls Try.prog 51 #[.agg #[.pointer (some ⟨k, 0, none⟩), .int .u32 l0, .int .u32 pc]] w fun e w' => e = .returned (.int .u64 (cl + (pc - c0))) ∧ Below w.heap.size w w' := by
  have HB := Lib.hid h
  have e1 : (cl == 0) = false := by simp; omega
  clear h
  go_enter Try.func51, Try.ntmps51
  go_wp2_with fail
  refine (col43 k A l0 c0 name ln cl t _ (HB.out.below (by repeat (first | exact Below.refl _ _ | refine Below.drew ?_ | refine Below.alloc ?_ (by simp <;> omega) _))) (by omega) (by omega)).mono ?_
  rintro e w' ⟨rfl, rfl⟩
  go_wp2_with fail
  refine (line39 l0 (some ⟨k, 0, none⟩) pc _ (by omega) (by omega)).mono ?_
  rintro e w1 ⟨rfl, hb1⟩
  obtain ⟨hcc1, hff1⟩ := bcell hb1
  have hq1 : w.heap.size < w1.heap.size := by have := hb1.size; simp at this; omega
  have hbw1 := (show Below w.heap.size w _ from (by repeat (first | exact Below.refl _ _ | refine Below.drew ?_ | refine Below.alloc ?_ (by simp <;> omega) _))).trans (hb1.mono (by simp <;> omega))
  go_wp2_with fail
  refine (pos46 k A l0 c0 name ln cl t _ (HB.out.below hbw1)).mono ?_
  rintro e w2 ⟨rfl, hb2⟩
  obtain ⟨hcc2, hff2⟩ := bcell hb2
  have hq2 : w.heap.size < w2.heap.size := Nat.lt_of_lt_of_le hq1 hb2.size
  have hbw2 := hbw1.trans (hb2.mono hbw1.size)
  go_wp2_with fail
  refine (line39 l0 A c0 _ (by omega) (by omega)).mono ?_
  rintro e w3 ⟨rfl, hb3⟩
  obtain ⟨hcc3, hff3⟩ := bcell hb3
  have hq3 : w.heap.size < w3.heap.size := Nat.lt_of_lt_of_le hq2 hb3.size
  have hbw3 := hbw2.trans (hb3.mono hbw2.size)
  go_wp2_with fail
  go_region_held3 (fun w' => w'.cell? ⟨w.heap.size, 0, none⟩ = some (.pointer (some ⟨k, 0, none⟩)) ∧ w'.cell? ⟨w.heap.size, 1, none⟩ = some (.int .u32 l0) ∧ w'.cell? ⟨w.heap.size, 2, none⟩ = some (.int .u32 pc)) (go_simp)
    (first
      | (go_at_call 43; (with_reducible refine (col43 k A l0 c0 name ln cl t _ (HB.out.below (Below.drew hbw3)) (by omega) (by omega)).mono ?_); rintro e w' ⟨rfl, rfl⟩)
      | (go_at_call 40
         (with_reducible refine (col40 l0 (some ⟨k, 0, none⟩) pc _ (by omega) (by omega)).mono ?_)
         rintro e w4 ⟨rfl, hb4⟩
         have hcc4 : ∀ o, w4.cell? ⟨w.heap.size, o, none⟩ = w3.cell? ⟨w.heap.size, o, none⟩ := fun o => (bcell hb4).1 _ o hq3
         have hq4 : w.heap.size < w4.heap.size := Nat.lt_of_lt_of_le hq3 hb4.size
         have hbw4 := hbw3.drew.trans (hb4.mono hbw3.size))
      | (go_at_call 46
         refine (pos46 k A l0 c0 name ln cl t _ (HB.out.below hbw4)).mono ?_
         rintro e w5 ⟨rfl, hb5⟩
         have hcc5 : ∀ o, w5.cell? ⟨w.heap.size, o, none⟩ = w4.cell? ⟨w.heap.size, o, none⟩ := fun o => (bcell hb5).1 _ o hq4
         have hq5 : w.heap.size < w5.heap.size := Nat.lt_of_lt_of_le hq4 hb5.size
         have hbw5 := hbw4.trans (hb5.mono hbw4.size))
      | (go_at_call 40
         (with_reducible refine (col40 l0 A c0 _ (by omega) (by omega)).mono ?_)
         rintro e w6 ⟨rfl, hb6⟩
         have hcc6 : ∀ o, w6.cell? ⟨w.heap.size, o, none⟩ = w5.cell? ⟨w.heap.size, o, none⟩ := fun o => (bcell hb6).1 _ o hq5
         have hbw6 := hbw5.trans (hb6.mono hbw5.size)))
  all_goals
    go_wp2_with fail
    have g1 := IntWalk.u64_in (pc - c0) ⟨by omega, by omega⟩
    have g2 := IntWalk.u64_in (cl + (pc - c0)) ⟨by omega, by omega⟩
    go_ret
    refine ⟨?_, hbw6⟩
    show Ending.returned (.int .u64 (IntKind.u64.wrap (cl + IntKind.u64.wrap (pc - c0)))) = _
    rw [g1, g2]

/-! ### The file that contains a position -/
theorem root_of_file {bs : Nat → Bas} {i : Nat} (h : (bs i).line = 0) : root bs i = i := root_file (by omega)
theorem root_of_line {bs : Nat → Bas} {len i : Nat} (hA : Are len bs) (hwf : ∀ k, k < len → (bs k).Wf) (hi : i < len) (h : ¬ (bs i).line = 0) : root bs i = root bs (up bs i) ∧ up bs i < i := by
  have hl := (hwf i hi).line.1
  obtain ⟨h0, h1, _⟩ := hA i hi (by omega)
  have e : up bs i = (bs i).sb.toNat := by unfold up; rw [if_neg h]
  rw [e]
  exact ⟨root_up (by omega) (by omega), by omega⟩

set_option maxHeartbeats 2000000 in
theorem fileBase52 (bs : Nat → Bas) (len : Nat) (p : Nat → Nat) (i : Nat) (pl pc : Int) (w : World) (hM : MB w bs p len) (hA : Are len bs) (hwf : ∀ k, k < len → (bs k).Wf) (hi : i < len) :
    Calls Try.prog 52 #[.agg #[.pointer (some ⟨p i, 0, none⟩), .int .u32 pl, .int .u32 pc]] w fun e w' => e = .returned (.pointer (some ⟨p (root bs i), 0, none⟩)) ∧ Below w.heap.size w w' := by
  have HM := Lib.hid hM
  have HA := Lib.hid hA
  have Hw := Lib.hid hwf
  clear hM hA hwf
  have hB : Below w.heap.size w (w.alloc (Obj.cells #[.pointer (some ⟨p i, 0, none⟩), .int .u32 pl, .int .u32 pc] 72)) := (Below.refl _ _).alloc (Nat.le_refl _) _
  go_enter Try.func52, Try.ntmps52
  go_wp2_with fail
  go_loop [3] (fun t => ∃ k : Nat, k < len ∧ t = .pointer (some ⟨p k, 0, none⟩) ∧ root bs k = root bs i) (fun t => match t with | .pointer (some a) => a.block | _ => 0)
  case atStart => exact ⟨i, hi, rfl, rfl⟩
  case round =>
    obtain ⟨k, hk, rfl, hroot⟩ := hrel
    have HR := Lib.hid hroot
    have hP := (HM.out.below hB).blk k hk
    obtain ⟨h0, -⟩ := PBlk.cells hP
    have hlt := PBlk.lt (HM.out.blk k hk)
    by_cases hl : (bs k).line = 0
    · have HF := Lib.hid (root_of_file hl)
      have e0 : up bs k = k := by unfold up; rw [if_pos hl]
      rw [e0] at h0
      have hn := neq_same (w.alloc (Obj.cells #[.pointer (some ⟨p i, 0, none⟩), .int .u32 pl, .int .u32 pc] 72)) (p k)
      clear hP e0 hroot hl
      go_wp2_with fail
      go_ret
      exact ⟨by rw [← HR.out, HF.out]; rfl, hB⟩
    · obtain ⟨r1, r2⟩ := root_of_line HA.out Hw.out hk hl
      have HF := Lib.hid r1
      have hinc := HM.out.inc _ _ r2 hk
      have hP2 := (HM.out.below hB).blk (up bs k) (by omega)
      have hn := neq_other (w.alloc (Obj.cells #[.pointer (some ⟨p i, 0, none⟩), .int .u32 pl, .int .u32 pc] 72)) (p k) (p (up bs k)) (by omega) _ _ _ _ hP hP2
      clear hP hP2 hroot hl r1
      generalize hu : up bs k = m at *
      have HU := Lib.hid hu
      clear hu
      go_wp2_with fail
      go_round
      case rel => exact ⟨m, by omega, rfl, by rw [← HF.out]; exact HR.out⟩
      case measure => exact hinc
end Go.Proofs.Ytlmllpgebakhhaa.Pos
