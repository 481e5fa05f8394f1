/-
  Positions, part G: how positions compare by the package (contracts; no statement is closed here).
-/
import Derived.Test.YtlmllpgebakhhaaPosD
import Derived.Test.YtlmllpgebakhhaaPosF

namespace Go.Proofs.Ytlmllpgebakhhaa.Pos
open Go.RowKit
set_option linter.unusedVariables false

def Far (w w' : World) (B : Nat) : Prop := ∀ o, w'.cell? ⟨B, o, none⟩ = w.cell? ⟨B, o, none⟩

/-- How two positions compare by Cmp. -/
def cmpQ (an bn : ByteArray) (al ac bl bc : Int) : Int :=
  if Op.bytesLess an.toList bn.toList = true then -1 else if (an.toList == bn.toList) = false then 1
  else if al < bl then -1 else if bl < al then 1 else if ac < bc then -1 else if bc < ac then 1 else 0
theorem cmpP_eq_cmpQ (an bn : ByteArray) (al ac bl bc : Int) : cmpP an bn al ac bl bc = cmpQ an bn (lim al) (lim ac) (lim bl) (lim bc) := rfl

set_option maxHeartbeats 4000000 in
theorem cmp47 (k1 k2 : Nat) (A1 A2 : Option Addr) (l1 c1 l2 c2 : Int) (n1 n2 : ByteArray) (ln1 cl1 ln2 cl2 : Int) (t1 t2 : Bool) (pl pc ql qc : Int) (w : World)
    (h1 : PBlk w k1 A1 l1 c1 n1 ln1 cl1 t1) (h2 : PBlk w k2 A2 l2 c2 n2 ln2 cl2 t2) (a0 : 0 ≤ pl) (a1 : pl ≤ 1073741824) (a2 : 0 ≤ pc) (a3 : pc ≤ 1073741824) (a4 : 0 ≤ ql) (a5 : ql ≤ 1073741824) (a6 : 0 ≤ qc) (a7 : qc ≤ 1073741824) :
    Calls Try.prog 47 #[.agg #[.pointer (some ⟨k1, 0, none⟩), .int .u32 pl, .int .u32 pc], .agg #[.pointer (some ⟨k2, 0, none⟩), .int .u32 ql, .int .u32 qc]] w fun e w' => e = .returned (.int .i64 (cmpQ n1 n2 pl pc ql qc)) ∧ Below w.heap.size w w' := by
  have H1 := Lib.hid h1
  have H2 := Lib.hid h2
  clear h1 h2
  cases hlt : Op.bytesLess n1.toList n2.toList
  · cases heq : (n1.toList == n2.toList)
    · have HC := Lib.hid (show cmpQ n1 n2 pl pc ql qc = 1 by unfold cmpQ; rw [if_neg (by rw [hlt]; decide), if_pos heq])
      have heq' : (!(n1.toList == n2.toList)) = true := by rw [heq]; rfl
      go_enter Try.func47, Try.ntmps47
      go_wp2_with fail
      refine (relFilename49 k1 A1 l1 c1 n1 ln1 cl1 t1 pl pc _ (H1.out.below (by repeat (first | exact Below.refl _ _ | refine Below.drew ?_ | refine Below.alloc ?_ (by simp <;> omega) _)))).mono ?_
      rintro e w1 ⟨rfl, hb1⟩
      have hs1 : w.heap.size + 1 < w1.heap.size := by have := hb1.size; simp at this; omega
      obtain ⟨hcc1, -⟩ := bcell hb1
      have hbw1 : Below w.heap.size w w1 := (show Below w.heap.size w _ from (by repeat (first | exact Below.refl _ _ | refine Below.drew ?_ | refine Below.alloc ?_ (by simp <;> omega) _))).trans (hb1.mono (by simp <;> omega))
      go_wp2_with fail
      refine (relFilename49 k2 A2 l2 c2 n2 ln2 cl2 t2 ql qc _ (H2.out.below hbw1)).mono ?_
      rintro e w2 ⟨rfl, hb2⟩
      have hp2 : ∀ o, w2.cell? ⟨w.heap.size, o, none⟩ = w1.cell? ⟨w.heap.size, o, none⟩ := fun o => (bcell hb2).1 _ o (by omega)
      have hq2 : ∀ o, w2.cell? ⟨w.heap.size + 1, o, none⟩ = w1.cell? ⟨w.heap.size + 1, o, none⟩ := fun o => (bcell hb2).1 _ o (by omega)
      have hs2 : w.heap.size + 1 < w2.heap.size := Nat.lt_of_lt_of_le hs1 hb2.size
      have hbw2 : Below w.heap.size w w2 := hbw1.trans (hb2.mono hbw1.size)
      go_wp2_with fail
      go_ret
      exact ⟨by rw [HC.out]; rfl, hbw2⟩
    · have HC0 := Lib.hid (show cmpQ n1 n2 pl pc ql qc = if pl < ql then -1 else if ql < pl then 1 else if pc < qc then -1 else if qc < pc then 1 else 0 by unfold cmpQ; rw [if_neg (by rw [hlt]; decide), if_neg (by rw [heq]; decide)])
      have heq' : (!(n1.toList == n2.toList)) = false := by rw [heq]; rfl
      by_cases g1 : pl < ql
      · have HC := Lib.hid (HC0.out.trans (if_pos g1))
        have d1 : decide (pl < ql) = true := by simp [g1]
        go_enter Try.func47, Try.ntmps47
        go_wp2_with fail
        refine (relFilename49 k1 A1 l1 c1 n1 ln1 cl1 t1 pl pc _ (H1.out.below (by repeat (first | exact Below.refl _ _ | refine Below.drew ?_ | refine Below.alloc ?_ (by simp <;> omega) _)))).mono ?_
        rintro e w1 ⟨rfl, hb1⟩
        have hs1 : w.heap.size + 1 < w1.heap.size := by have := hb1.size; simp at this; omega
        obtain ⟨hcc1, -⟩ := bcell hb1
        have hbw1 : Below w.heap.size w w1 := (show Below w.heap.size w _ from (by repeat (first | exact Below.refl _ _ | refine Below.drew ?_ | refine Below.alloc ?_ (by simp <;> omega) _))).trans (hb1.mono (by simp <;> omega))
        go_wp2_with fail
        refine (relFilename49 k2 A2 l2 c2 n2 ln2 cl2 t2 ql qc _ (H2.out.below hbw1)).mono ?_
        rintro e w2 ⟨rfl, hb2⟩
        have hp2 : ∀ o, w2.cell? ⟨w.heap.size, o, none⟩ = w1.cell? ⟨w.heap.size, o, none⟩ := fun o => (bcell hb2).1 _ o (by omega)
        have hq2 : ∀ o, w2.cell? ⟨w.heap.size + 1, o, none⟩ = w1.cell? ⟨w.heap.size + 1, o, none⟩ := fun o => (bcell hb2).1 _ o (by omega)
        have hs2 : w.heap.size + 1 < w2.heap.size := Nat.lt_of_lt_of_le hs1 hb2.size
        have hbw2 : Below w.heap.size w w2 := hbw1.trans (hb2.mono hbw1.size)
        go_wp2_with fail
        refine (line39 pl (some ⟨k1, 0, none⟩) pc _ (by omega) (by omega)).mono ?_
        rintro e w3 ⟨rfl, hb3⟩
        have hp3 : ∀ o, w3.cell? ⟨w.heap.size, o, none⟩ = w2.cell? ⟨w.heap.size, o, none⟩ := fun o => (bcell hb3).1 _ o (by omega)
        have hq3 : ∀ o, w3.cell? ⟨w.heap.size + 1, o, none⟩ = w2.cell? ⟨w.heap.size + 1, o, none⟩ := fun o => (bcell hb3).1 _ o (by omega)
        have hs3 : w.heap.size + 1 < w3.heap.size := Nat.lt_of_lt_of_le hs2 hb3.size
        have hbw3 : Below w.heap.size w w3 := hbw2.trans (hb3.mono hbw2.size)
        go_wp2_with fail
        refine (line39 ql (some ⟨k2, 0, none⟩) qc _ (by omega) (by omega)).mono ?_
        rintro e w4 ⟨rfl, hb4⟩
        have hp4 : ∀ o, w4.cell? ⟨w.heap.size, o, none⟩ = w3.cell? ⟨w.heap.size, o, none⟩ := fun o => (bcell hb4).1 _ o (by omega)
        have hq4 : ∀ o, w4.cell? ⟨w.heap.size + 1, o, none⟩ = w3.cell? ⟨w.heap.size + 1, o, none⟩ := fun o => (bcell hb4).1 _ o (by omega)
        have hs4 : w.heap.size + 1 < w4.heap.size := Nat.lt_of_lt_of_le hs3 hb4.size
        have hbw4 : Below w.heap.size w w4 := hbw3.trans (hb4.mono hbw3.size)
        go_wp2_with fail
        go_ret
        exact ⟨by rw [HC.out]; rfl, hbw4⟩
      · have HC1 := Lib.hid (HC0.out.trans (if_neg g1))
        have d1 : decide (pl < ql) = false := by simpa using g1
        by_cases g2 : ql < pl
        · have HC := Lib.hid (HC1.out.trans (if_pos g2))
          have d2 : decide (ql < pl) = true := by simp [g2]
          go_enter Try.func47, Try.ntmps47
          go_wp2_with fail
          refine (relFilename49 k1 A1 l1 c1 n1 ln1 cl1 t1 pl pc _ (H1.out.below (by repeat (first | exact Below.refl _ _ | refine Below.drew ?_ | refine Below.alloc ?_ (by simp <;> omega) _)))).mono ?_
          rintro e w1 ⟨rfl, hb1⟩
          have hs1 : w.heap.size + 1 < w1.heap.size := by have := hb1.size; simp at this; omega
          obtain ⟨hcc1, -⟩ := bcell hb1
          have hbw1 : Below w.heap.size w w1 := (show Below w.heap.size w _ from (by repeat (first | exact Below.refl _ _ | refine Below.drew ?_ | refine Below.alloc ?_ (by simp <;> omega) _))).trans (hb1.mono (by simp <;> omega))
          go_wp2_with fail
          refine (relFilename49 k2 A2 l2 c2 n2 ln2 cl2 t2 ql qc _ (H2.out.below hbw1)).mono ?_
          rintro e w2 ⟨rfl, hb2⟩
          have hp2 : ∀ o, w2.cell? ⟨w.heap.size, o, none⟩ = w1.cell? ⟨w.heap.size, o, none⟩ := fun o => (bcell hb2).1 _ o (by omega)
          have hq2 : ∀ o, w2.cell? ⟨w.heap.size + 1, o, none⟩ = w1.cell? ⟨w.heap.size + 1, o, none⟩ := fun o => (bcell hb2).1 _ o (by omega)
          have hs2 : w.heap.size + 1 < w2.heap.size := Nat.lt_of_lt_of_le hs1 hb2.size
          have hbw2 : Below w.heap.size w w2 := hbw1.trans (hb2.mono hbw1.size)
          go_wp2_with fail
          refine (line39 pl (some ⟨k1, 0, none⟩) pc _ (by omega) (by omega)).mono ?_
          rintro e w3 ⟨rfl, hb3⟩
          have hp3 : ∀ o, w3.cell? ⟨w.heap.size, o, none⟩ = w2.cell? ⟨w.heap.size, o, none⟩ := fun o => (bcell hb3).1 _ o (by omega)
          have hq3 : ∀ o, w3.cell? ⟨w.heap.size + 1, o, none⟩ = w2.cell? ⟨w.heap.size + 1, o, none⟩ := fun o => (bcell hb3).1 _ o (by omega)
          have hs3 : w.heap.size + 1 < w3.heap.size := Nat.lt_of_lt_of_le hs2 hb3.size
          have hbw3 : Below w.heap.size w w3 := hbw2.trans (hb3.mono hbw2.size)
          go_wp2_with fail
          refine (line39 ql (some ⟨k2, 0, none⟩) qc _ (by omega) (by omega)).mono ?_
          rintro e w4 ⟨rfl, hb4⟩
          have hp4 : ∀ o, w4.cell? ⟨w.heap.size, o, none⟩ = w3.cell? ⟨w.heap.size, o, none⟩ := fun o => (bcell hb4).1 _ o (by omega)
          have hq4 : ∀ o, w4.cell? ⟨w.heap.size + 1, o, none⟩ = w3.cell? ⟨w.heap.size + 1, o, none⟩ := fun o => (bcell hb4).1 _ o (by omega)
          have hs4 : w.heap.size + 1 < w4.heap.size := Nat.lt_of_lt_of_le hs3 hb4.size
          have hbw4 : Below w.heap.size w w4 := hbw3.trans (hb4.mono hbw3.size)
          go_wp2_with fail
          go_ret
          exact ⟨by rw [HC.out]; rfl, hbw4⟩
        · have HC2 := Lib.hid (HC1.out.trans (if_neg g2))
          have d2 : decide (ql < pl) = false := by simpa using g2
          by_cases g3 : pc < qc
          · have HC := Lib.hid (HC2.out.trans (if_pos g3))
            have d3 : decide (pc < qc) = true := by simp [g3]
            go_enter Try.func47, Try.ntmps47
            go_wp2_with fail
            refine (relFilename49 k1 A1 l1 c1 n1 ln1 cl1 t1 pl pc _ (H1.out.below (by repeat (first | exact Below.refl _ _ | refine Below.drew ?_ | refine Below.alloc ?_ (by simp <;> omega) _)))).mono ?_
            rintro e w1 ⟨rfl, hb1⟩
            have hs1 : w.heap.size + 1 < w1.heap.size := by have := hb1.size; simp at this; omega
            obtain ⟨hcc1, -⟩ := bcell hb1
            have hbw1 : Below w.heap.size w w1 := (show Below w.heap.size w _ from (by repeat (first | exact Below.refl _ _ | refine Below.drew ?_ | refine Below.alloc ?_ (by simp <;> omega) _))).trans (hb1.mono (by simp <;> omega))
            go_wp2_with fail
            refine (relFilename49 k2 A2 l2 c2 n2 ln2 cl2 t2 ql qc _ (H2.out.below hbw1)).mono ?_
            rintro e w2 ⟨rfl, hb2⟩
            have hp2 : ∀ o, w2.cell? ⟨w.heap.size, o, none⟩ = w1.cell? ⟨w.heap.size, o, none⟩ := fun o => (bcell hb2).1 _ o (by omega)
            have hq2 : ∀ o, w2.cell? ⟨w.heap.size + 1, o, none⟩ = w1.cell? ⟨w.heap.size + 1, o, none⟩ := fun o => (bcell hb2).1 _ o (by omega)
            have hs2 : w.heap.size + 1 < w2.heap.size := Nat.lt_of_lt_of_le hs1 hb2.size
            have hbw2 : Below w.heap.size w w2 := hbw1.trans (hb2.mono hbw1.size)
            go_wp2_with fail
            refine (line39 pl (some ⟨k1, 0, none⟩) pc _ (by omega) (by omega)).mono ?_
            rintro e w3 ⟨rfl, hb3⟩
            have hp3 : ∀ o, w3.cell? ⟨w.heap.size, o, none⟩ = w2.cell? ⟨w.heap.size, o, none⟩ := fun o => (bcell hb3).1 _ o (by omega)
            have hq3 : ∀ o, w3.cell? ⟨w.heap.size + 1, o, none⟩ = w2.cell? ⟨w.heap.size + 1, o, none⟩ := fun o => (bcell hb3).1 _ o (by omega)
            have hs3 : w.heap.size + 1 < w3.heap.size := Nat.lt_of_lt_of_le hs2 hb3.size
            have hbw3 : Below w.heap.size w w3 := hbw2.trans (hb3.mono hbw2.size)
            go_wp2_with fail
            refine (line39 ql (some ⟨k2, 0, none⟩) qc _ (by omega) (by omega)).mono ?_
            rintro e w4 ⟨rfl, hb4⟩
            have hp4 : ∀ o, w4.cell? ⟨w.heap.size, o, none⟩ = w3.cell? ⟨w.heap.size, o, none⟩ := fun o => (bcell hb4).1 _ o (by omega)
            have hq4 : ∀ o, w4.cell? ⟨w.heap.size + 1, o, none⟩ = w3.cell? ⟨w.heap.size + 1, o, none⟩ := fun o => (bcell hb4).1 _ o (by omega)
            have hs4 : w.heap.size + 1 < w4.heap.size := Nat.lt_of_lt_of_le hs3 hb4.size
            have hbw4 : Below w.heap.size w w4 := hbw3.trans (hb4.mono hbw3.size)
            go_wp2_with fail
            refine (col40 pl (some ⟨k1, 0, none⟩) pc _ (by omega) (by omega)).mono ?_
            rintro e w5 ⟨rfl, hb5⟩
            have hp5 : ∀ o, w5.cell? ⟨w.heap.size, o, none⟩ = w4.cell? ⟨w.heap.size, o, none⟩ := fun o => (bcell hb5).1 _ o (by omega)
            have hq5 : ∀ o, w5.cell? ⟨w.heap.size + 1, o, none⟩ = w4.cell? ⟨w.heap.size + 1, o, none⟩ := fun o => (bcell hb5).1 _ o (by omega)
            have hs5 : w.heap.size + 1 < w5.heap.size := Nat.lt_of_lt_of_le hs4 hb5.size
            have hbw5 : Below w.heap.size w w5 := hbw4.trans (hb5.mono hbw4.size)
            go_wp2_with fail
            refine (col40 ql (some ⟨k2, 0, none⟩) qc _ (by omega) (by omega)).mono ?_
            rintro e w6 ⟨rfl, hb6⟩
            have hp6 : ∀ o, w6.cell? ⟨w.heap.size, o, none⟩ = w5.cell? ⟨w.heap.size, o, none⟩ := fun o => (bcell hb6).1 _ o (by omega)
            have hq6 : ∀ o, w6.cell? ⟨w.heap.size + 1, o, none⟩ = w5.cell? ⟨w.heap.size + 1, o, none⟩ := fun o => (bcell hb6).1 _ o (by omega)
            have hs6 : w.heap.size + 1 < w6.heap.size := Nat.lt_of_lt_of_le hs5 hb6.size
            have hbw6 : Below w.heap.size w w6 := hbw5.trans (hb6.mono hbw5.size)
            go_wp2_with fail
            go_ret
            exact ⟨by rw [HC.out]; rfl, hbw6⟩
          · have HC3 := Lib.hid (HC2.out.trans (if_neg g3))
            have d3 : decide (pc < qc) = false := by simpa using g3
            by_cases g4 : qc < pc
            · have HC := Lib.hid (HC3.out.trans (if_pos g4))
              have d4 : decide (qc < pc) = true := by simp [g4]
              go_enter Try.func47, Try.ntmps47
              go_wp2_with fail
              refine (relFilename49 k1 A1 l1 c1 n1 ln1 cl1 t1 pl pc _ (H1.out.below (by repeat (first | exact Below.refl _ _ | refine Below.drew ?_ | refine Below.alloc ?_ (by simp <;> omega) _)))).mono ?_
              rintro e w1 ⟨rfl, hb1⟩
              have hs1 : w.heap.size + 1 < w1.heap.size := by have := hb1.size; simp at this; omega
              obtain ⟨hcc1, -⟩ := bcell hb1
              have hbw1 : Below w.heap.size w w1 := (show Below w.heap.size w _ from (by repeat (first | exact Below.refl _ _ | refine Below.drew ?_ | refine Below.alloc ?_ (by simp <;> omega) _))).trans (hb1.mono (by simp <;> omega))
              go_wp2_with fail
              refine (relFilename49 k2 A2 l2 c2 n2 ln2 cl2 t2 ql qc _ (H2.out.below hbw1)).mono ?_
              rintro e w2 ⟨rfl, hb2⟩
              have hp2 : ∀ o, w2.cell? ⟨w.heap.size, o, none⟩ = w1.cell? ⟨w.heap.size, o, none⟩ := fun o => (bcell hb2).1 _ o (by omega)
              have hq2 : ∀ o, w2.cell? ⟨w.heap.size + 1, o, none⟩ = w1.cell? ⟨w.heap.size + 1, o, none⟩ := fun o => (bcell hb2).1 _ o (by omega)
              have hs2 : w.heap.size + 1 < w2.heap.size := Nat.lt_of_lt_of_le hs1 hb2.size
              have hbw2 : Below w.heap.size w w2 := hbw1.trans (hb2.mono hbw1.size)
              go_wp2_with fail
              refine (line39 pl (some ⟨k1, 0, none⟩) pc _ (by omega) (by omega)).mono ?_
              rintro e w3 ⟨rfl, hb3⟩
              have hp3 : ∀ o, w3.cell? ⟨w.heap.size, o, none⟩ = w2.cell? ⟨w.heap.size, o, none⟩ := fun o => (bcell hb3).1 _ o (by omega)
              have hq3 : ∀ o, w3.cell? ⟨w.heap.size + 1, o, none⟩ = w2.cell? ⟨w.heap.size + 1, o, none⟩ := fun o => (bcell hb3).1 _ o (by omega)
              have hs3 : w.heap.size + 1 < w3.heap.size := Nat.lt_of_lt_of_le hs2 hb3.size
              have hbw3 : Below w.heap.size w w3 := hbw2.trans (hb3.mono hbw2.size)
              go_wp2_with fail
              refine (line39 ql (some ⟨k2, 0, none⟩) qc _ (by omega) (by omega)).mono ?_
              rintro e w4 ⟨rfl, hb4⟩
              have hp4 : ∀ o, w4.cell? ⟨w.heap.size, o, none⟩ = w3.cell? ⟨w.heap.size, o, none⟩ := fun o => (bcell hb4).1 _ o (by omega)
              have hq4 : ∀ o, w4.cell? ⟨w.heap.size + 1, o, none⟩ = w3.cell? ⟨w.heap.size + 1, o, none⟩ := fun o => (bcell hb4).1 _ o (by omega)
              have hs4 : w.heap.size + 1 < w4.heap.size := Nat.lt_of_lt_of_le hs3 hb4.size
              have hbw4 : Below w.heap.size w w4 := hbw3.trans (hb4.mono hbw3.size)
              go_wp2_with fail
              refine (col40 pl (some ⟨k1, 0, none⟩) pc _ (by omega) (by omega)).mono ?_
              rintro e w5 ⟨rfl, hb5⟩
              have hp5 : ∀ o, w5.cell? ⟨w.heap.size, o, none⟩ = w4.cell? ⟨w.heap.size, o, none⟩ := fun o => (bcell hb5).1 _ o (by omega)
              have hq5 : ∀ o, w5.cell? ⟨w.heap.size + 1, o, none⟩ = w4.cell? ⟨w.heap.size + 1, o, none⟩ := fun o => (bcell hb5).1 _ o (by omega)
              have hs5 : w.heap.size + 1 < w5.heap.size := Nat.lt_of_lt_of_le hs4 hb5.size
              have hbw5 : Below w.heap.size w w5 := hbw4.trans (hb5.mono hbw4.size)
              go_wp2_with fail
              refine (col40 ql (some ⟨k2, 0, none⟩) qc _ (by omega) (by omega)).mono ?_
              rintro e w6 ⟨rfl, hb6⟩
              have hp6 : ∀ o, w6.cell? ⟨w.heap.size, o, none⟩ = w5.cell? ⟨w.heap.size, o, none⟩ := fun o => (bcell hb6).1 _ o (by omega)
              have hq6 : ∀ o, w6.cell? ⟨w.heap.size + 1, o, none⟩ = w5.cell? ⟨w.heap.size + 1, o, none⟩ := fun o => (bcell hb6).1 _ o (by omega)
              have hs6 : w.heap.size + 1 < w6.heap.size := Nat.lt_of_lt_of_le hs5 hb6.size
              have hbw6 : Below w.heap.size w w6 := hbw5.trans (hb6.mono hbw5.size)
              go_wp2_with fail
              go_ret
              exact ⟨by rw [HC.out]; rfl, hbw6⟩
            · have HC := Lib.hid (HC3.out.trans (if_neg g4))
              have d4 : decide (qc < pc) = false := by simpa using g4
              go_enter Try.func47, Try.ntmps47
              go_wp2_with fail
              refine (relFilename49 k1 A1 l1 c1 n1 ln1 cl1 t1 pl pc _ (H1.out.below (by repeat (first | exact Below.refl _ _ | refine Below.drew ?_ | refine Below.alloc ?_ (by simp <;> omega) _)))).mono ?_
              rintro e w1 ⟨rfl, hb1⟩
              have hs1 : w.heap.size + 1 < w1.heap.size := by have := hb1.size; simp at this; omega
              obtain ⟨hcc1, -⟩ := bcell hb1
              have hbw1 : Below w.heap.size w w1 := (show Below w.heap.size w _ from (by repeat (first | exact Below.refl _ _ | refine Below.drew ?_ | refine Below.alloc ?_ (by simp <;> omega) _))).trans (hb1.mono (by simp <;> omega))
              go_wp2_with fail
              refine (relFilename49 k2 A2 l2 c2 n2 ln2 cl2 t2 ql qc _ (H2.out.below hbw1)).mono ?_
              rintro e w2 ⟨rfl, hb2⟩
              have hp2 : ∀ o, w2.cell? ⟨w.heap.size, o, none⟩ = w1.cell? ⟨w.heap.size, o, none⟩ := fun o => (bcell hb2).1 _ o (by omega)
              have hq2 : ∀ o, w2.cell? ⟨w.heap.size + 1, o, none⟩ = w1.cell? ⟨w.heap.size + 1, o, none⟩ := fun o => (bcell hb2).1 _ o (by omega)
              have hs2 : w.heap.size + 1 < w2.heap.size := Nat.lt_of_lt_of_le hs1 hb2.size
              have hbw2 : Below w.heap.size w w2 := hbw1.trans (hb2.mono hbw1.size)
              go_wp2_with fail
              refine (line39 pl (some ⟨k1, 0, none⟩) pc _ (by omega) (by omega)).mono ?_
              rintro e w3 ⟨rfl, hb3⟩
              have hp3 : ∀ o, w3.cell? ⟨w.heap.size, o, none⟩ = w2.cell? ⟨w.heap.size, o, none⟩ := fun o => (bcell hb3).1 _ o (by omega)
              have hq3 : ∀ o, w3.cell? ⟨w.heap.size + 1, o, none⟩ = w2.cell? ⟨w.heap.size + 1, o, none⟩ := fun o => (bcell hb3).1 _ o (by omega)
              have hs3 : w.heap.size + 1 < w3.heap.size := Nat.lt_of_lt_of_le hs2 hb3.size
              have hbw3 : Below w.heap.size w w3 := hbw2.trans (hb3.mono hbw2.size)
              go_wp2_with fail
              refine (line39 ql (some ⟨k2, 0, none⟩) qc _ (by omega) (by omega)).mono ?_
              rintro e w4 ⟨rfl, hb4⟩
              have hp4 : ∀ o, w4.cell? ⟨w.heap.size, o, none⟩ = w3.cell? ⟨w.heap.size, o, none⟩ := fun o => (bcell hb4).1 _ o (by omega)
              have hq4 : ∀ o, w4.cell? ⟨w.heap.size + 1, o, none⟩ = w3.cell? ⟨w.heap.size + 1, o, none⟩ := fun o => (bcell hb4).1 _ o (by omega)
              have hs4 : w.heap.size + 1 < w4.heap.size := Nat.lt_of_lt_of_le hs3 hb4.size
              have hbw4 : Below w.heap.size w w4 := hbw3.trans (hb4.mono hbw3.size)
              go_wp2_with fail
              refine (col40 pl (some ⟨k1, 0, none⟩) pc _ (by omega) (by omega)).mono ?_
              rintro e w5 ⟨rfl, hb5⟩
              have hp5 : ∀ o, w5.cell? ⟨w.heap.size, o, none⟩ = w4.cell? ⟨w.heap.size, o, none⟩ := fun o => (bcell hb5).1 _ o (by omega)
              have hq5 : ∀ o, w5.cell? ⟨w.heap.size + 1, o, none⟩ = w4.cell? ⟨w.heap.size + 1, o, none⟩ := fun o => (bcell hb5).1 _ o (by omega)
              have hs5 : w.heap.size + 1 < w5.heap.size := Nat.lt_of_lt_of_le hs4 hb5.size
              have hbw5 : Below w.heap.size w w5 := hbw4.trans (hb5.mono hbw4.size)
              go_wp2_with fail
              refine (col40 ql (some ⟨k2, 0, none⟩) qc _ (by omega) (by omega)).mono ?_
              rintro e w6 ⟨rfl, hb6⟩
              have hp6 : ∀ o, w6.cell? ⟨w.heap.size, o, none⟩ = w5.cell? ⟨w.heap.size, o, none⟩ := fun o => (bcell hb6).1 _ o (by omega)
              have hq6 : ∀ o, w6.cell? ⟨w.heap.size + 1, o, none⟩ = w5.cell? ⟨w.heap.size + 1, o, none⟩ := fun o => (bcell hb6).1 _ o (by omega)
              have hs6 : w.heap.size + 1 < w6.heap.size := Nat.lt_of_lt_of_le hs5 hb6.size
              have hbw6 : Below w.heap.size w w6 := hbw5.trans (hb6.mono hbw5.size)
              go_wp2_with fail
              go_ret
              exact ⟨by rw [HC.out]; rfl, hbw6⟩
  · have HC := Lib.hid (show cmpQ n1 n2 pl pc ql qc = -1 by unfold cmpQ; rw [if_pos hlt])
    go_enter Try.func47, Try.ntmps47
    go_wp2_with fail
    refine (relFilename49 k1 A1 l1 c1 n1 ln1 cl1 t1 pl pc _ (H1.out.below (by repeat (first | exact Below.refl _ _ | refine Below.drew ?_ | refine Below.alloc ?_ (by simp <;> omega) _)))).mono ?_
    rintro e w1 ⟨rfl, hb1⟩
    have hs1 : w.heap.size + 1 < w1.heap.size := by have := hb1.size; simp at this; omega
    obtain ⟨hcc1, -⟩ := bcell hb1
    have hbw1 : Below w.heap.size w w1 := (show Below w.heap.size w _ from (by repeat (first | exact Below.refl _ _ | refine Below.drew ?_ | refine Below.alloc ?_ (by simp <;> omega) _))).trans (hb1.mono (by simp <;> omega))
    go_wp2_with fail
    refine (relFilename49 k2 A2 l2 c2 n2 ln2 cl2 t2 ql qc _ (H2.out.below hbw1)).mono ?_
    rintro e w2 ⟨rfl, hb2⟩
    have hp2 : ∀ o, w2.cell? ⟨w.heap.size, o, none⟩ = w1.cell? ⟨w.heap.size, o, none⟩ := fun o => (bcell hb2).1 _ o (by omega)
    have hq2 : ∀ o, w2.cell? ⟨w.heap.size + 1, o, none⟩ = w1.cell? ⟨w.heap.size + 1, o, none⟩ := fun o => (bcell hb2).1 _ o (by omega)
    have hs2 : w.heap.size + 1 < w2.heap.size := Nat.lt_of_lt_of_le hs1 hb2.size
    have hbw2 : Below w.heap.size w w2 := hbw1.trans (hb2.mono hbw1.size)
    go_wp2_with fail
    go_ret
    exact ⟨by rw [HC.out]; rfl, hbw2⟩

theorem cmpP_range (an bn : ByteArray) (al ac bl bc : Int) : -1 ≤ cmpP an bn al ac bl bc ∧ cmpP an bn al ac bl bc ≤ 1 := by
  unfold cmpP
  repeat' split
  all_goals decide

set_option maxHeartbeats 4000000 in
theorem compare16 (A : Option Addr) (len cap : Nat) (bs : Nat → Bas) (i j : Nat) (al ac bl bc : Int) (w : World) (hm : len ≤ 50) (hr : Row w A len bs) (hwf : ∀ k, k < len → (bs k).Wf) (hA : Are len bs) (hi : i < len) (hj : j < len) (h1 : U64 al) (h2 : U64 ac) (h3 : U64 bl) (h4 : U64 bc) :
    Calls Try.prog 16 #[.slice A len cap, .agg #[.int .i64 i, .int .u64 al, .int .u64 ac], .agg #[.int .i64 j, .int .u64 bl, .int .u64 bc]] w fun e w' => e = .returned (.int .i64 (cmpP (bs i).name (bs j).name al ac bl bc)) ∧ Below w.heap.size w w' := by
  have HR := Lib.hid hr
  have HW := Lib.hid hwf
  have HA := Lib.hid hA
  have H1 := Lib.hid h1
  have H2 := Lib.hid h2
  have H3 := Lib.hid h3
  have H4 := Lib.hid h4
  have HQ := Lib.hid (cmpP_eq_cmpQ (bs i).name (bs j).name al ac bl bc)
  obtain ⟨r0, r1⟩ := cmpP_range (bs i).name (bs j).name al ac bl bc
  clear hr hwf hA h1 h2 h3 h4
  go_enter Try.func16, Try.ntmps16
  go_wp2_with fail
  refine (bases34 A len cap bs _ hm (HR.out.below' (by repeat (first | exact Below.refl _ _ | refine Below.drew ?_ | refine Below.alloc ?_ (by simp <;> omega) _))) HW.out HA.out).mono ?_
  rintro e w1 ⟨A', cap', p, rfl, hP, hM, hb1⟩
  have HP := Lib.hid hP
  have HM := Lib.hid hM
  clear hP hM
  have hs1 : w.heap.size + 1 < w1.heap.size := by have := hb1.size; simp at this; omega
  obtain ⟨hcc1, -⟩ := bcell hb1
  have hbw1 : Below w.heap.size w w1 := (show Below w.heap.size w _ from (by repeat (first | exact Below.refl _ _ | refine Below.drew ?_ | refine Below.alloc ?_ (by simp <;> omega) _))).trans (hb1.mono (by simp <;> omega))
  go_wp2_with fail
  go_region_held3 (fun w' => w'.cell? ⟨w.heap.size, 0, none⟩ = some (.int .i64 i) ∧ w'.cell? ⟨w.heap.size, 1, none⟩ = some (.int .u64 al) ∧ w'.cell? ⟨w.heap.size, 2, none⟩ = some (.int .u64 ac) ∧ w'.cell? ⟨w.heap.size + 1, 0, none⟩ = some (.int .i64 j) ∧ w'.cell? ⟨w.heap.size + 1, 1, none⟩ = some (.int .u64 bl) ∧ w'.cell? ⟨w.heap.size + 1, 2, none⟩ = some (.int .u64 bc)) (go_simp)
    (first
      | (go_at_call 36
         (with_reducible refine (spot36 A' len cap' p i al ac _ hm (HP.out.below (Below.drew (Below.refl _ _))) hi H1.out H2.out).mono ?_)
         rintro e w2 ⟨rfl, hb2⟩
         have hp2 : ∀ o, w2.cell? ⟨w.heap.size, o, none⟩ = w1.cell? ⟨w.heap.size, o, none⟩ := fun o => (bcell hb2).1 _ o (by exact Nat.lt_of_succ_lt hs1)
         have hq2 : ∀ o, w2.cell? ⟨w.heap.size + 1, o, none⟩ = w1.cell? ⟨w.heap.size + 1, o, none⟩ := fun o => (bcell hb2).1 _ o hs1
         have hs2 : w.heap.size + 1 < w2.heap.size := Nat.lt_of_lt_of_le hs1 hb2.size
         have hc2 : Below w1.heap.size w1 w2 := (Below.drew (Below.refl _ _)).trans hb2)
      | (go_at_call 36
         (with_reducible refine (spot36 A' len cap' p j bl bc _ hm (HP.out.below hc2) hj H3.out H4.out).mono ?_)
         rintro e w3 ⟨rfl, hb3⟩
         have hp3 : ∀ o, w3.cell? ⟨w.heap.size, o, none⟩ = w2.cell? ⟨w.heap.size, o, none⟩ := fun o => (bcell hb3).1 _ o (by omega)
         have hq3 : ∀ o, w3.cell? ⟨w.heap.size + 1, o, none⟩ = w2.cell? ⟨w.heap.size + 1, o, none⟩ := fun o => (bcell hb3).1 _ o hs2
         have hs3 : w.heap.size + 1 < w3.heap.size := Nat.lt_of_lt_of_le hs2 hb3.size
         have hc3 : Below w1.heap.size w1 w3 := hc2.trans (hb3.mono hc2.size))
      | (go_at_call 47
         refine (cmp47 (p i) (p j) _ _ _ _ _ _ (bs i).name (bs j).name _ _ _ _ _ _ (lim al) (lim ac) (lim bl) (lim bc) _ ((HM.out.blk i hi).below hc3) ((HM.out.blk j hj).below hc3) (lim_bd H1.out).1 (lim_bd H1.out).2 (lim_bd H2.out).1 (lim_bd H2.out).2 (lim_bd H3.out).1 (lim_bd H3.out).2 (lim_bd H4.out).1 (lim_bd H4.out).2).mono ?_
         rintro e w4 ⟨rfl, hb4⟩
         rw [← HQ.out]
         have hp4 : ∀ o, w4.cell? ⟨w.heap.size, o, none⟩ = w3.cell? ⟨w.heap.size, o, none⟩ := fun o => (bcell hb4).1 _ o (by omega)
         have hq4 : ∀ o, w4.cell? ⟨w.heap.size + 1, o, none⟩ = w3.cell? ⟨w.heap.size + 1, o, none⟩ := fun o => (bcell hb4).1 _ o hs3
         have hc4 : Below w1.heap.size w1 w4 := hc3.trans (hb4.mono hc3.size)))
  all_goals
    have hend : Below w.heap.size w w4 := hbw1.trans (hc4.mono hbw1.size)
    clear hc2 hc3 hc4 hp2 hp3 hp4 hq2 hq3 hq4 hcc1 hs1 hs2 hs3
    generalize hv : cmpP (bs i).name (bs j).name al ac bl bc = v at *
    have HV := Lib.hid hv
    clear hv
    obtain rfl | rfl | rfl : v = -1 ∨ v = 0 ∨ v = 1 := by omega
    all_goals
      go_wp2_with fail
      go_ret
      exact ⟨by rw [HV.out]; rfl, hend⟩
end Go.Proofs.Ytlmllpgebakhhaa.Pos
