/-
  impl.Named by what it computes (a contract; no statement is closed here).
-/
import Derived.Test.YtlmllpgebakhhaaPosI
import Derived.Test.YtlmllpgebakhhaaNamA
namespace Go.Proofs.Ytlmllpgebakhhaa.Pos
open Go.RowKit
set_option linter.unusedVariables false

theorem Blk.thr {w : World} {g : Nat} {t : TypeId} {a b c d : Value} (h : Blk w g t #[a, b, c, d]) : w.there g 0 4 := fun j hj => by
  refine ⟨?_, h.frozen _⟩
  rw [h.cell]
  match j, hj with
  | 0, _ => rfl
  | 1, _ => rfl
  | 2, _ => rfl
  | 3, _ => rfl
theorem inf35 : (Try.prog.info? 35).map (·.size) = some 4 := by kernel_rfl

set_option maxRecDepth 20000 in
set_option maxHeartbeats 4000000 in
theorem named13 (A : Option Addr) (len cap : Nat) (bs : Nat → Bas) (i j : Nat) (xl xc yl yc : Int) (s : ByteArray) (w : World) (hm : len ≤ 50) (hr : Row w A len bs) (hwf : ∀ k, k < len → (bs k).Wf) (hA : Are len bs) (hi : i < len) (hj : j < len) (h1 : U64 xl) (h2 : U64 xc) (h3 : U64 yl) (h4 : U64 yc) :
    Calls Try.prog 13 #[.slice A len cap, .agg #[.int .i64 i, .int .u64 xl, .int .u64 xc], .agg #[.int .i64 j, .int .u64 yl, .int .u64 yc], .string s] w fun e w' =>
      e = .returned (.tuple #[.string s, .agg #[.int .u64 (lim xl), .int .u64 (lim xc), .int .u64 (lim yl), .int .u64 (lim yc)]]) ∧ Below w.heap.size w w' := by
  have HR := Lib.hid hr
  have HW := Lib.hid hwf
  have HA := Lib.hid hA
  have H1 := Lib.hid h1
  have H2 := Lib.hid h2
  have H3 := Lib.hid h3
  have H4 := Lib.hid h4
  have HM := Lib.hid hm
  clear hr hwf hA h1 h2 h3 h4 hm
  go_enter Try.func13, Try.ntmps13
  go_wp2_with fail
  obtain ⟨w0, hw0⟩ : ∃ w0, w0 = (((w.alloc (Obj.cells #[Value.int IntKind.i64 i, Value.int IntKind.u64 xl, Value.int IntKind.u64 xc] 29)).alloc (Obj.cells #[Value.int IntKind.i64 j, Value.int IntKind.u64 yl, Value.int IntKind.u64 yc] 29)).alloc (Obj.cells #[Value.int IntKind.u64 0, Value.int IntKind.u64 0, Value.int IntKind.u64 0, Value.int IntKind.u64 0] 35)) := ⟨_, rfl⟩
  rw [← hw0]
  have hb0 : Below w.heap.size w w0 := by rw [hw0]; exact (((Below.refl _ _).alloc (by simp) _).alloc (by simp) _).alloc (by simp; omega) _
  have BX0 : Blk w0 w.heap.size 29 #[.int .i64 i, .int .u64 xl, .int .u64 xc] := by rw [hw0]; exact ((Blk.new w 29 _).alloc _).alloc _
  have BY0 : Blk w0 (w.heap.size + 1) 29 #[.int .i64 j, .int .u64 yl, .int .u64 yc] := by rw [hw0]; exact (Blk.new2 w _ 29 _).alloc _
  have BR0 : Blk w0 (w.heap.size + 1 + 1) 35 #[.int .u64 0, .int .u64 0, .int .u64 0, .int .u64 0] := by rw [hw0]; exact Blk.new3 w _ _ 35 _
  clear hw0
  refine (bases34 A len cap bs _ HM.out (HR.out.below hb0) HW.out HA.out).mono ?_
  rintro e w1 ⟨B, bcap, p, rfl, hP, hMB, hb1⟩
  have hbw1 : Below w.heap.size w w1 := hb0.trans (hb1.mono hb0.size)
  have BX1 := BX0.below hb1 BX0.lt
  have BY1 := BY0.below hb1 BY0.lt
  have BR1 := BR0.below hb1 BR0.lt
  have X0 : w1.cell? ⟨w.heap.size, 0, none⟩ = some (.int .i64 i) := BX1.cell 0
  have X1 : w1.cell? ⟨w.heap.size, 1, none⟩ = some (.int .u64 xl) := BX1.cell 1
  have X2 : w1.cell? ⟨w.heap.size, 2, none⟩ = some (.int .u64 xc) := BX1.cell 2
  have HP := Lib.hid hP
  have HMB := Lib.hid hMB
  have HX1 := Lib.hid BX1
  have HY1 := Lib.hid BY1
  have HR1 := Lib.hid BR1
  clear BX0 BY0 BR0 BX1 BY1 BR1 hP hMB hb0 hb1
  go_wp2_with fail
  refine (spot36 B len bcap p i xl xc _ HM.out HP.out hi H1.out H2.out).mono ?_
  rintro e w2 ⟨rfl, hb2⟩
  clear X0 X1 X2
  go_wp2_with fail
  refine (newName35 _ _ _ s _).mono ?_
  rintro e w3 ⟨g, rfl, hg, hN, hb3⟩
  have HN := Lib.hid hN
  clear hN
  go_wp2_with fail
  refine (pos37 g s _ _ _ _ HN.out).mono ?_
  rintro e w4 ⟨rfl, hb4⟩
  go_wp2_with fail
  obtain ⟨w5, hw5⟩ : ∃ w5, w5 = w4.alloc (Obj.cells #[Value.pointer (some { block := p i, off := 0 }), Value.int IntKind.u32 (lim xl), Value.int IntKind.u32 (lim xc)] 72) := ⟨_, rfl⟩
  obtain ⟨h, hh⟩ : ∃ h, h = w4.heap.size := ⟨_, rfl⟩
  rw [← hw5, ← hh]
  have hb45 : Below w4.heap.size w4 w5 := by rw [hw5]; exact (Below.refl _ _).alloc (Nat.le_refl _) _
  have BT5 : Blk w5 h 72 #[.pointer (some ⟨p i, 0, none⟩), .int .u32 (lim xl), .int .u32 (lim xc)] := by rw [hw5, hh]; exact Blk.new _ _ _
  have l12 := hb2.size
  have l23 := hb3.size
  have l34 := hb4.size
  have l45 := hb45.size
  have lg : g < w3.heap.size := Blk.lt HN.out
  have lw : w.heap.size + 1 + 1 < w1.heap.size := HR1.out.lt
  have hb15 : Below w1.heap.size w1 w5 := hb2.trans ((hb3.mono (by omega)).trans ((hb4.mono (by omega)).trans (hb45.mono (by omega))))
  have HT5 := Lib.hid BT5
  have HN5 := Lib.hid (Blk.below (Blk.below HN.out hb4 (by omega)) hb45 (by omega))
  have lh : g < h := by omega
  have L5 := Lib.hid (show w1.heap.size ≤ g ∧ h < w5.heap.size from ⟨by omega, BT5.lt⟩)
  have HB5 := Lib.hid hb15
  have HBW1 := Lib.hid hbw1
  have LW := Lib.hid lw
  have LH := Lib.hid lh
  have Y0 : w5.cell? ⟨w.heap.size + 1, 0, none⟩ = some (.int .i64 j) := (HY1.out.below hb15 (by omega)).cell 0
  have Y1 : w5.cell? ⟨w.heap.size + 1, 1, none⟩ = some (.int .u64 yl) := (HY1.out.below hb15 (by omega)).cell 1
  have Y2 : w5.cell? ⟨w.heap.size + 1, 2, none⟩ = some (.int .u64 yc) := (HY1.out.below hb15 (by omega)).cell 2
  clear hw5 hh BT5 hb15 hb2 hb3 hb4 hb45 hbw1 l12 l23 l34 l45 lg lw lh hg HN
  go_region_held3 (fun w' => w'.cell? ⟨w.heap.size + 1, 0, none⟩ = some (.int .i64 j) ∧ w'.cell? ⟨w.heap.size + 1, 1, none⟩ = some (.int .u64 yl) ∧ w'.cell? ⟨w.heap.size + 1, 2, none⟩ = some (.int .u64 yc)) (go_simp)
    (first
      | (go_at_call 36
         refine (spot36 B len bcap p j yl yc _ HM.out (HP.out.below (by first | exact HB5.out | exact HB5.out.drew)) hj H3.out H4.out).mono ?_
         rintro e w6 ⟨rfl, hb6⟩
         have hb56 : Below w5.heap.size w5 w6 := (by first | exact hb6 | exact (Below.refl _ _).drew.trans hb6)
         have hp6 : ∀ o, w6.cell? ⟨w.heap.size + 1, o, none⟩ = w5.cell? ⟨w.heap.size + 1, o, none⟩ := fun o => hb56.cell (p := ⟨w.heap.size + 1, o, none⟩) (by have := LW.out; have := L5.out; have := LH.out; show w.heap.size + 1 < _; omega))
      | (go_at_call 38
         refine (setPos38 g s _ _ _ _ _ _ _ (Blk.below HN5.out hb56 (by have := L5.out; have := LH.out; omega))).mono ?_
         rintro e w7 ⟨rfl, hN7, hb7, hf7⟩
         have hp7 : ∀ o, w7.cell? ⟨w.heap.size + 1, o, none⟩ = w6.cell? ⟨w.heap.size + 1, o, none⟩ := fun o => hb7.cell (p := ⟨w.heap.size + 1, o, none⟩) (by have := LW.out; have := L5.out; show w.heap.size + 1 < _; omega)))
  have hbw7 : Below w.heap.size w w7 := by
    have := LW.out; have := L5.out
    exact HBW1.out.trans ((HB5.out.mono (by omega)).trans ((hb56.mono (by have := LH.out; omega)).trans (hb7.mono (by omega))))
  have l56 := hb56.size
  have HN7 := Lib.hid hN7
  have HT7 := Lib.hid (show Blk w7 h 72 #[.pointer (some ⟨p i, 0, none⟩), .int .u32 (lim xl), .int .u32 (lim xc)] from (hf7 h (by have := LH.out; omega) (by have := L5.out; omega)).trans (HT5.out.below hb56 L5.out.2))
  have HR7 := Lib.hid (((HR1.out.below HB5.out LW.out).below hb56 (by have := LW.out; have := L5.out; have := LH.out; omega)).below hb7 (by have := LW.out; have := L5.out; omega))
  clear hN7 hb7 hf7 hb6 hb56 hp6 hp7 Y0 Y1 Y2
  go_wp2_with fail
  refine (pos37 g s _ _ _ _ HN7.out).mono ?_
  rintro e w8 ⟨rfl, hb8⟩
  go_wp2_with fail
  obtain ⟨w9, hw9⟩ : ∃ w9, w9 = w8.alloc (Obj.cells #[Value.pointer (some { block := p j, off := 0 }), Value.int IntKind.u32 (lim yl), Value.int IntKind.u32 (lim yc)] 72) := ⟨_, rfl⟩
  obtain ⟨k, hk⟩ : ∃ k, k = w8.heap.size := ⟨_, rfl⟩
  rw [← hw9, ← hk]
  have hb89 : Below w8.heap.size w8 w9 := by rw [hw9]; exact (Below.refl _ _).alloc (Nat.le_refl _) _
  have BK9 : Blk w9 k 72 #[.pointer (some ⟨p j, 0, none⟩), .int .u32 (lim yl), .int .u32 (lim yc)] := by rw [hw9, hk]; exact Blk.new _ _ _
  have hb79 : Below w7.heap.size w7 w9 := hb8.trans (hb89.mono hb8.size)
  have BT9 := HT7.out.below hb79 HT7.out.lt
  have BN9 : Blk w9 g 82 _ := Blk.below HN7.out hb79 (Blk.lt HN7.out)
  have BR9 := HR7.out.below hb79 HR7.out.lt
  have hbw9 : Below w.heap.size w w9 := hbw7.trans (hb79.mono hbw7.size)
  have G0 : w9.cell? ⟨g, 0, none⟩ = some (.string s) := BN9.cell 0
  have T0 : w9.cell? ⟨h, 0, none⟩ = some (.pointer (some ⟨p i, 0, none⟩)) := BT9.cell 0
  have T1 : w9.cell? ⟨h, 1, none⟩ = some (.int .u32 (lim xl)) := BT9.cell 1
  have T2 : w9.cell? ⟨h, 2, none⟩ = some (.int .u32 (lim xc)) := BT9.cell 2
  have K0 : w9.cell? ⟨k, 0, none⟩ = some (.pointer (some ⟨p j, 0, none⟩)) := BK9.cell 0
  have K1 : w9.cell? ⟨k, 1, none⟩ = some (.int .u32 (lim yl)) := BK9.cell 1
  have K2 : w9.cell? ⟨k, 2, none⟩ = some (.int .u32 (lim yc)) := BK9.cell 2
  have hl9 : g < w9.heap.size ∧ h < w9.heap.size ∧ k < w9.heap.size ∧ w.heap.size + 1 + 1 < w9.heap.size := ⟨Blk.lt BN9, BT9.lt, BK9.lt, BR9.lt⟩
  have R0_9 : w9.cell? ⟨w.heap.size + 1 + 1, 0, none⟩ = some (.int .u64 0) := BR9.cell 0
  have F0_9 : w9.frozen? ⟨w.heap.size + 1 + 1, 0, none⟩ = false := BR9.frozen 0
  have R1_9 : w9.cell? ⟨w.heap.size + 1 + 1, 1, none⟩ = some (.int .u64 0) := BR9.cell 1
  have F1_9 : w9.frozen? ⟨w.heap.size + 1 + 1, 1, none⟩ = false := BR9.frozen 1
  have R2_9 : w9.cell? ⟨w.heap.size + 1 + 1, 2, none⟩ = some (.int .u64 0) := BR9.cell 2
  have F2_9 : w9.frozen? ⟨w.heap.size + 1 + 1, 2, none⟩ = false := BR9.frozen 2
  have R3_9 : w9.cell? ⟨w.heap.size + 1 + 1, 3, none⟩ = some (.int .u64 0) := BR9.cell 3
  have F3_9 : w9.frozen? ⟨w.heap.size + 1 + 1, 3, none⟩ = false := BR9.frozen 3
  have i35 := inf35
  have n1 : ¬ g = w.heap.size + 1 + 1 := by have := LW.out; have := L5.out; omega
  have n2 : ¬ h = w.heap.size + 1 + 1 := by have := LW.out; have := L5.out; have := LH.out; omega
  have n3 : ¬ k = w.heap.size + 1 + 1 := by have := HR7.out.lt; have := hb8.size; omega
  have m1 : ¬ w.heap.size + 1 + 1 = g := fun e => n1 e.symm
  have m2 : ¬ w.heap.size + 1 + 1 = h := fun e => n2 e.symm
  have m3 : ¬ w.heap.size + 1 + 1 = k := fun e => n3 e.symm
  have o35 : #[Value.int .u64 (lim xl), Value.int .u64 (lim xc), Value.int .u64 (lim yl), Value.int .u64 (lim yc)].all (·.oneCell') = true := by simp [Value.oneCell']
  clear hw9 hk hb89 BK9 hb79 BT9 BN9 hb8 hbw7 l56
  go_region_held3 (fun w' => w'.cell? ⟨g, 0, none⟩ = some (.string s) ∧ w'.cell? ⟨h, 0, none⟩ = some (.pointer (some ⟨p i, 0, none⟩)) ∧ w'.cell? ⟨h, 1, none⟩ = some (.int .u32 (lim xl)) ∧ w'.cell? ⟨h, 2, none⟩ = some (.int .u32 (lim xc)) ∧ w'.cell? ⟨k, 0, none⟩ = some (.pointer (some ⟨p j, 0, none⟩)) ∧ w'.cell? ⟨k, 1, none⟩ = some (.int .u32 (lim yl)) ∧ w'.cell? ⟨k, 2, none⟩ = some (.int .u32 (lim yc))) (go_simp)
    (first
      | (go_at_call 39
         with_reducible refine (line39 (lim xl) _ (lim xc) _ (lim_bd H1.out).1 (lim_bd H1.out).2).mono ?_
         rintro e w10 ⟨rfl, hq10⟩
         have hb10 : Below w9.heap.size w9 w10 := (by first | exact hq10 | exact (Below.refl _ _).drew.trans hq10)
         have hl10 : g < w10.heap.size ∧ h < w10.heap.size ∧ k < w10.heap.size ∧ w.heap.size + 1 + 1 < w10.heap.size := ⟨Nat.lt_of_lt_of_le hl9.1 hb10.size, Nat.lt_of_lt_of_le hl9.2.1 hb10.size, Nat.lt_of_lt_of_le hl9.2.2.1 hb10.size, Nat.lt_of_lt_of_le hl9.2.2.2 hb10.size⟩
         have hbw10 : Below w.heap.size w w10 := hbw9.trans (hb10.mono hbw9.size)
         have G0_10 : w10.cell? ⟨g, 0, none⟩ = some (.string s) := ((bcell hb10).1 _ _ hl9.1).trans G0
         have T0_10 : w10.cell? ⟨h, 0, none⟩ = some (.pointer (some ⟨p i, 0, none⟩)) := ((bcell hb10).1 _ _ hl9.2.1).trans T0
         have T1_10 : w10.cell? ⟨h, 1, none⟩ = some (.int .u32 (lim xl)) := ((bcell hb10).1 _ _ hl9.2.1).trans T1
         have T2_10 : w10.cell? ⟨h, 2, none⟩ = some (.int .u32 (lim xc)) := ((bcell hb10).1 _ _ hl9.2.1).trans T2
         have K0_10 : w10.cell? ⟨k, 0, none⟩ = some (.pointer (some ⟨p j, 0, none⟩)) := ((bcell hb10).1 _ _ hl9.2.2.1).trans K0
         have K1_10 : w10.cell? ⟨k, 1, none⟩ = some (.int .u32 (lim yl)) := ((bcell hb10).1 _ _ hl9.2.2.1).trans K1
         have K2_10 : w10.cell? ⟨k, 2, none⟩ = some (.int .u32 (lim yc)) := ((bcell hb10).1 _ _ hl9.2.2.1).trans K2
         have BR10 := BR9.below hb10 hl9.2.2.2
         have R0_10 : w10.cell? ⟨w.heap.size + 1 + 1, 0, none⟩ = some (.int .u64 0) := BR10.cell 0
         have F0_10 : w10.frozen? ⟨w.heap.size + 1 + 1, 0, none⟩ = false := BR10.frozen 0
         have R1_10 : w10.cell? ⟨w.heap.size + 1 + 1, 1, none⟩ = some (.int .u64 0) := BR10.cell 1
         have F1_10 : w10.frozen? ⟨w.heap.size + 1 + 1, 1, none⟩ = false := BR10.frozen 1
         have R2_10 : w10.cell? ⟨w.heap.size + 1 + 1, 2, none⟩ = some (.int .u64 0) := BR10.cell 2
         have F2_10 : w10.frozen? ⟨w.heap.size + 1 + 1, 2, none⟩ = false := BR10.frozen 2
         have R3_10 : w10.cell? ⟨w.heap.size + 1 + 1, 3, none⟩ = some (.int .u64 0) := BR10.cell 3
         have F3_10 : w10.frozen? ⟨w.heap.size + 1 + 1, 3, none⟩ = false := BR10.frozen 3)
      | (go_at_call 40
         with_reducible refine (col40 (lim xl) _ (lim xc) _ (lim_bd H2.out).1 (lim_bd H2.out).2).mono ?_
         rintro e w11 ⟨rfl, hq11⟩
         have hb11 : Below w10.heap.size w10 w11 := (by first | exact hq11 | exact (Below.refl _ _).drew.trans hq11)
         have hl11 : g < w11.heap.size ∧ h < w11.heap.size ∧ k < w11.heap.size ∧ w.heap.size + 1 + 1 < w11.heap.size := ⟨Nat.lt_of_lt_of_le hl10.1 hb11.size, Nat.lt_of_lt_of_le hl10.2.1 hb11.size, Nat.lt_of_lt_of_le hl10.2.2.1 hb11.size, Nat.lt_of_lt_of_le hl10.2.2.2 hb11.size⟩
         have hbw11 : Below w.heap.size w w11 := hbw10.trans (hb11.mono hbw10.size)
         have G0_11 : w11.cell? ⟨g, 0, none⟩ = some (.string s) := ((bcell hb11).1 _ _ hl10.1).trans G0_10
         have T0_11 : w11.cell? ⟨h, 0, none⟩ = some (.pointer (some ⟨p i, 0, none⟩)) := ((bcell hb11).1 _ _ hl10.2.1).trans T0_10
         have T1_11 : w11.cell? ⟨h, 1, none⟩ = some (.int .u32 (lim xl)) := ((bcell hb11).1 _ _ hl10.2.1).trans T1_10
         have T2_11 : w11.cell? ⟨h, 2, none⟩ = some (.int .u32 (lim xc)) := ((bcell hb11).1 _ _ hl10.2.1).trans T2_10
         have K0_11 : w11.cell? ⟨k, 0, none⟩ = some (.pointer (some ⟨p j, 0, none⟩)) := ((bcell hb11).1 _ _ hl10.2.2.1).trans K0_10
         have K1_11 : w11.cell? ⟨k, 1, none⟩ = some (.int .u32 (lim yl)) := ((bcell hb11).1 _ _ hl10.2.2.1).trans K1_10
         have K2_11 : w11.cell? ⟨k, 2, none⟩ = some (.int .u32 (lim yc)) := ((bcell hb11).1 _ _ hl10.2.2.1).trans K2_10
         have BR11 := BR10.below hb11 hl10.2.2.2
         have R0_11 : w11.cell? ⟨w.heap.size + 1 + 1, 0, none⟩ = some (.int .u64 0) := BR11.cell 0
         have F0_11 : w11.frozen? ⟨w.heap.size + 1 + 1, 0, none⟩ = false := BR11.frozen 0
         have R1_11 : w11.cell? ⟨w.heap.size + 1 + 1, 1, none⟩ = some (.int .u64 0) := BR11.cell 1
         have F1_11 : w11.frozen? ⟨w.heap.size + 1 + 1, 1, none⟩ = false := BR11.frozen 1
         have R2_11 : w11.cell? ⟨w.heap.size + 1 + 1, 2, none⟩ = some (.int .u64 0) := BR11.cell 2
         have F2_11 : w11.frozen? ⟨w.heap.size + 1 + 1, 2, none⟩ = false := BR11.frozen 2
         have R3_11 : w11.cell? ⟨w.heap.size + 1 + 1, 3, none⟩ = some (.int .u64 0) := BR11.cell 3
         have F3_11 : w11.frozen? ⟨w.heap.size + 1 + 1, 3, none⟩ = false := BR11.frozen 3)
      | (go_at_call 39
         with_reducible refine (line39 (lim yl) _ (lim yc) _ (lim_bd H3.out).1 (lim_bd H3.out).2).mono ?_
         rintro e w12 ⟨rfl, hq12⟩
         have hb12 : Below w11.heap.size w11 w12 := (by first | exact hq12 | exact (Below.refl _ _).drew.trans hq12)
         have hl12 : g < w12.heap.size ∧ h < w12.heap.size ∧ k < w12.heap.size ∧ w.heap.size + 1 + 1 < w12.heap.size := ⟨Nat.lt_of_lt_of_le hl11.1 hb12.size, Nat.lt_of_lt_of_le hl11.2.1 hb12.size, Nat.lt_of_lt_of_le hl11.2.2.1 hb12.size, Nat.lt_of_lt_of_le hl11.2.2.2 hb12.size⟩
         have hbw12 : Below w.heap.size w w12 := hbw11.trans (hb12.mono hbw11.size)
         have G0_12 : w12.cell? ⟨g, 0, none⟩ = some (.string s) := ((bcell hb12).1 _ _ hl11.1).trans G0_11
         have T0_12 : w12.cell? ⟨h, 0, none⟩ = some (.pointer (some ⟨p i, 0, none⟩)) := ((bcell hb12).1 _ _ hl11.2.1).trans T0_11
         have T1_12 : w12.cell? ⟨h, 1, none⟩ = some (.int .u32 (lim xl)) := ((bcell hb12).1 _ _ hl11.2.1).trans T1_11
         have T2_12 : w12.cell? ⟨h, 2, none⟩ = some (.int .u32 (lim xc)) := ((bcell hb12).1 _ _ hl11.2.1).trans T2_11
         have K0_12 : w12.cell? ⟨k, 0, none⟩ = some (.pointer (some ⟨p j, 0, none⟩)) := ((bcell hb12).1 _ _ hl11.2.2.1).trans K0_11
         have K1_12 : w12.cell? ⟨k, 1, none⟩ = some (.int .u32 (lim yl)) := ((bcell hb12).1 _ _ hl11.2.2.1).trans K1_11
         have K2_12 : w12.cell? ⟨k, 2, none⟩ = some (.int .u32 (lim yc)) := ((bcell hb12).1 _ _ hl11.2.2.1).trans K2_11
         have BR12 := BR11.below hb12 hl11.2.2.2
         have R0_12 : w12.cell? ⟨w.heap.size + 1 + 1, 0, none⟩ = some (.int .u64 0) := BR12.cell 0
         have F0_12 : w12.frozen? ⟨w.heap.size + 1 + 1, 0, none⟩ = false := BR12.frozen 0
         have R1_12 : w12.cell? ⟨w.heap.size + 1 + 1, 1, none⟩ = some (.int .u64 0) := BR12.cell 1
         have F1_12 : w12.frozen? ⟨w.heap.size + 1 + 1, 1, none⟩ = false := BR12.frozen 1
         have R2_12 : w12.cell? ⟨w.heap.size + 1 + 1, 2, none⟩ = some (.int .u64 0) := BR12.cell 2
         have F2_12 : w12.frozen? ⟨w.heap.size + 1 + 1, 2, none⟩ = false := BR12.frozen 2
         have R3_12 : w12.cell? ⟨w.heap.size + 1 + 1, 3, none⟩ = some (.int .u64 0) := BR12.cell 3
         have F3_12 : w12.frozen? ⟨w.heap.size + 1 + 1, 3, none⟩ = false := BR12.frozen 3)
      | (go_at_call 40
         with_reducible refine (col40 (lim yl) _ (lim yc) _ (lim_bd H4.out).1 (lim_bd H4.out).2).mono ?_
         rintro e w13 ⟨rfl, hq13⟩
         have hb13 : Below w12.heap.size w12 w13 := (by first | exact hq13 | exact (Below.refl _ _).drew.trans hq13)
         have hl13 : g < w13.heap.size ∧ h < w13.heap.size ∧ k < w13.heap.size ∧ w.heap.size + 1 + 1 < w13.heap.size := ⟨Nat.lt_of_lt_of_le hl12.1 hb13.size, Nat.lt_of_lt_of_le hl12.2.1 hb13.size, Nat.lt_of_lt_of_le hl12.2.2.1 hb13.size, Nat.lt_of_lt_of_le hl12.2.2.2 hb13.size⟩
         have hbw13 : Below w.heap.size w w13 := hbw12.trans (hb13.mono hbw12.size)
         have G0_13 : w13.cell? ⟨g, 0, none⟩ = some (.string s) := ((bcell hb13).1 _ _ hl12.1).trans G0_12
         have T0_13 : w13.cell? ⟨h, 0, none⟩ = some (.pointer (some ⟨p i, 0, none⟩)) := ((bcell hb13).1 _ _ hl12.2.1).trans T0_12
         have T1_13 : w13.cell? ⟨h, 1, none⟩ = some (.int .u32 (lim xl)) := ((bcell hb13).1 _ _ hl12.2.1).trans T1_12
         have T2_13 : w13.cell? ⟨h, 2, none⟩ = some (.int .u32 (lim xc)) := ((bcell hb13).1 _ _ hl12.2.1).trans T2_12
         have K0_13 : w13.cell? ⟨k, 0, none⟩ = some (.pointer (some ⟨p j, 0, none⟩)) := ((bcell hb13).1 _ _ hl12.2.2.1).trans K0_12
         have K1_13 : w13.cell? ⟨k, 1, none⟩ = some (.int .u32 (lim yl)) := ((bcell hb13).1 _ _ hl12.2.2.1).trans K1_12
         have K2_13 : w13.cell? ⟨k, 2, none⟩ = some (.int .u32 (lim yc)) := ((bcell hb13).1 _ _ hl12.2.2.1).trans K2_12
         have BR13 := BR12.below hb13 hl12.2.2.2
         have R0_13 : w13.cell? ⟨w.heap.size + 1 + 1, 0, none⟩ = some (.int .u64 0) := BR13.cell 0
         have F0_13 : w13.frozen? ⟨w.heap.size + 1 + 1, 0, none⟩ = false := BR13.frozen 0
         have R1_13 : w13.cell? ⟨w.heap.size + 1 + 1, 1, none⟩ = some (.int .u64 0) := BR13.cell 1
         have F1_13 : w13.frozen? ⟨w.heap.size + 1 + 1, 1, none⟩ = false := BR13.frozen 1
         have R2_13 : w13.cell? ⟨w.heap.size + 1 + 1, 2, none⟩ = some (.int .u64 0) := BR13.cell 2
         have F2_13 : w13.frozen? ⟨w.heap.size + 1 + 1, 2, none⟩ = false := BR13.frozen 2
         have R3_13 : w13.cell? ⟨w.heap.size + 1 + 1, 3, none⟩ = some (.int .u64 0) := BR13.cell 3
         have F3_13 : w13.frozen? ⟨w.heap.size + 1 + 1, 3, none⟩ = false := BR13.frozen 3))
  have hF := ((((hbw13.setCell (p := ⟨w.heap.size + 1 + 1, 0, none⟩) (show w.heap.size ≤ w.heap.size + 1 + 1 by omega) (Value.int IntKind.u64 (lim xl))).setCell (p := ⟨w.heap.size + 1 + 1, 1, none⟩) (show w.heap.size ≤ w.heap.size + 1 + 1 by omega) (Value.int IntKind.u64 (lim xc))).setCell (p := ⟨w.heap.size + 1 + 1, 2, none⟩) (show w.heap.size ≤ w.heap.size + 1 + 1 by omega) (Value.int IntKind.u64 (lim yl))).setCell (p := ⟨w.heap.size + 1 + 1, 3, none⟩) (show w.heap.size ≤ w.heap.size + 1 + 1 by omega) (Value.int IntKind.u64 (lim yc)))
  have BF := (((BR13.set_ 0 (Value.int IntKind.u64 (lim xl))).set_ 1 (Value.int IntKind.u64 (lim xc))).set_ 2 (Value.int IntKind.u64 (lim yl))).set_ 3 (Value.int IntKind.u64 (lim yc))
  have E0 := BF.cell 0
  have E1 := BF.cell 1
  have E2 := BF.cell 2
  have E3 := BF.cell 3
  generalize ((((w13.setCell { block := w.heap.size + 1 + 1, off := 0 } (Value.int IntKind.u64 (lim xl))).setCell { block := w.heap.size + 1 + 1, off := 1 } (Value.int IntKind.u64 (lim xc))).setCell { block := w.heap.size + 1 + 1, off := 2 } (Value.int IntKind.u64 (lim yl))).setCell { block := w.heap.size + 1 + 1, off := 3 } (Value.int IntKind.u64 (lim yc))) = wF at hF BF E0 E1 E2 E3 ⊢
  simp at E0 E1 E2 E3
  go_wp2_with fail
  refine bodyPost_ret (v := .tuple #[.string s, .agg #[.int .u64 (lim xl), .int .u64 (lim xc), .int .u64 (lim yl), .int .u64 (lim yc)]]) (by simp [results, Try.results13, go_sem, E0, E1, E2, E3]) rfl ⟨rfl, ?_⟩
  exact hF
end Go.Proofs.Ytlmllpgebakhhaa.Pos
