/-
  FnNamed: for every list of bases, every two positions and every text the law answers true (a name has the text and the position that it was made with, and then the one that is set). Conditions: none beyond the given row's.
-/
import Derived.Test.YtlmllpgebakhhaaCompare
import Derived.Test.YtlmllpgebakhhaaNamB
import Derived.Test.YtlmllpgebakhhaaPosJ
import Derived.Deep.DeepCutAuto
import Derived.OpenShut
import Derived.ShutString
import Derived.ChangeOld
namespace Go.Proofs.Ytlmllpgebakhhaa.Pos
open Go.RowKit
set_option linter.unusedVariables false

theorem Blk.seven {w : World} {g : Nat} (h : Blk w g 33 res0) : w.cell? ⟨g, 0, none⟩ = some (.int .u64 0) ∧ w.cell? ⟨g, 1, none⟩ = some (.int .u64 0) ∧ w.cell? ⟨g, 2, none⟩ = some (.string ⟨#[]⟩) ∧ w.cell? ⟨g, 3, none⟩ = some (.int .u64 0) ∧ w.cell? ⟨g, 4, none⟩ = some (.int .u64 0) ∧ w.cell? ⟨g, 5, none⟩ = some (.string ⟨#[]⟩) ∧ w.cell? ⟨g, 6, none⟩ = some (.bool false) ∧
    w.frozen? ⟨g, 0, none⟩ = false ∧ w.frozen? ⟨g, 1, none⟩ = false ∧ w.frozen? ⟨g, 2, none⟩ = false ∧ w.frozen? ⟨g, 3, none⟩ = false ∧ w.frozen? ⟨g, 4, none⟩ = false ∧ w.frozen? ⟨g, 5, none⟩ = false ∧ w.frozen? ⟨g, 6, none⟩ = false :=
  ⟨h.cell 0, h.cell 1, h.cell 2, h.cell 3, h.cell 4, h.cell 5, h.cell 6, h.frozen 0, h.frozen 1, h.frozen 2, h.frozen 3, h.frozen 4, h.frozen 5, h.frozen 6⟩

theorem Blk.new_at {w : World} {t : TypeId} {cs : Array Value} {g : Nat} (h : w.heap.size = g) : Blk (w.alloc (.cells cs t)) g t cs := by rw [← h]; exact Blk.new w t cs
abbrev set7 (w : World) (g : Nat) (a b c d e f h : Value) : World := ((((((w.setCell ⟨g, 0, none⟩ a).setCell ⟨g, 1, none⟩ b).setCell ⟨g, 2, none⟩ c).setCell ⟨g, 3, none⟩ d).setCell ⟨g, 4, none⟩ e).setCell ⟨g, 5, none⟩ f).setCell ⟨g, 6, none⟩ h
theorem Blk.seven_set {w : World} {g : Nat} (H : Blk w g 33 res0) (a b c d e f h : Value) : Blk (set7 w g a b c d e f h) g 33 #[a, b, c, d, e, f, h] := by
  have := ((((((H.set_ 0 a).set_ 1 b).set_ 2 c).set_ 3 d).set_ 4 e).set_ 5 f).set_ 6 h
  simpa using this
theorem Blk.seven_far {w : World} {r g : Nat} {t : TypeId} {cs : Array Value} (H : Blk w r t cs) (hne : ¬ r = g) (a b c d e f h : Value) : Blk (set7 w g a b c d e f h) r t cs :=
  ((((((H.far (p := ⟨g, 0, none⟩) hne a).far (p := ⟨g, 1, none⟩) hne b).far (p := ⟨g, 2, none⟩) hne c).far (p := ⟨g, 3, none⟩) hne d).far (p := ⟨g, 4, none⟩) hne e).far (p := ⟨g, 5, none⟩) hne f).far (p := ⟨g, 6, none⟩) hne h
theorem below_seven {B : Nat} {w0 w : World} {g : Nat} (H : Below B w0 w) (hge : B ≤ g) (a b c d e f h : Value) : Below B w0 (set7 w g a b c d e f h) :=
  ((((((H.setCell (p := ⟨g, 0, none⟩) hge a).setCell (p := ⟨g, 1, none⟩) hge b).setCell (p := ⟨g, 2, none⟩) hge c).setCell (p := ⟨g, 3, none⟩) hge d).setCell (p := ⟨g, 4, none⟩) hge e).setCell (p := ⟨g, 5, none⟩) hge f).setCell (p := ⟨g, 6, none⟩) hge h

theorem run_eqItems_same {P : Program} (w : World) (d : Nat) {e : TypeId} (he : P.plainKey e = true) (xs : Array Value) : ∀ (is : List Nat),
    (∀ i ∈ is, ∃ v, xs[i]? = some v ∧ (Op.equalIn d e v v).run P w = .ok true w) → (Op.eqItems d e 1 xs xs is).run P w = .ok true w
  | [], _ => by simp [Op.eqItems]
  | i :: is, h => by
    obtain ⟨v, hv, hr⟩ := h i (by simp)
    have ih := run_eqItems_same w d he xs is (fun j hj => h j (by simp [hj]))
    simp [Op.eqItems, Sem.run_bind, run_part_plain w he hv, hr, ih]
theorem info27 : (Try.prog.info? 27).isSome = true := by kernel_rfl
theorem cells27 : Try.prog.cellsOf 27 = 1 := by kernel_rfl
theorem eq35 (w : World) (a b c d : Int) :
    (Op.equalIn 10000 35 (.agg #[.int .u64 a, .int .u64 b, .int .u64 c, .int .u64 d]) (.agg #[.int .u64 a, .int .u64 b, .int .u64 c, .int .u64 d])).run Try.prog w = .ok true w := by
  obtain ⟨i, hi⟩ := Option.isSome_iff_exists.1 info27
  rw [run_equalIn_array w 9999 _ _ Try.underlying35 hi, cells27]
  have hb : ∀ b : Int, (Op.equalIn 9999 27 (.int .u64 b) (.int .u64 b)).run Try.prog w = .ok true w := fun b => by
    rw [run_equalIn_int w 9998 27 .u64 .u64 b b Try.underlying27]; simp
  refine run_eqItems_same w 9999 (by kernel_rfl) _ _ ?_
  intro j hj
  have hj : j < 4 := by simpa using hj
  match j, hj with
  | 0, _ => exact ⟨_, rfl, hb _⟩
  | 1, _ => exact ⟨_, rfl, hb _⟩
  | 2, _ => exact ⟨_, rfl, hb _⟩
  | 3, _ => exact ⟨_, rfl, hb _⟩

set_option maxRecDepth 20000 in
set_option maxHeartbeats 16000000 in
theorem law4 (A : Option Addr) (len cap : Nat) (bs : Nat → Bas) (x y : Sp) (s : ByteArray) (w : World) (hm : len ≤ maxLen) (hr : Row w A len bs) (hwf : ∀ k, k < len → (bs k).Wf) (hx : x.Wf) (hy : y.Wf) :
    Calls Try.prog 4 #[.slice A len cap, vSp x, vSp y, .string s] w fun e w' => e = .returned (.bool true) ∧ Below w.heap.size w w' := by
  have HR := Lib.hid hr
  have HW := Lib.hid hwf
  have HX := Lib.hid hx
  have HY := Lib.hid hy
  have HM := Lib.hid hm
  clear hr hwf hx hy hm
  obtain ⟨xb, xl, xc⟩ := x
  obtain ⟨yb, yl, yc⟩ := y
  by_cases hs : (2147483647 : Int) < (s.size : Int)
  · go_enter Try.func4, Try.ntmps4
    go_wp2_with fail
    refine (fits10 A len cap bs _ HM.out (HR.out.below (by repeat (first | exact Below.refl _ _ | refine Below.alloc ?_ (by simp <;> omega) _)))).mono ?_
    rintro e w1 ⟨b1, rfl, -, hb1⟩
    have hbw1 : Below w.heap.size w w1 := (show Below w.heap.size w _ from (by repeat (first | exact Below.refl _ _ | refine Below.alloc ?_ (by simp <;> omega) _))).trans (hb1.mono (by simp <;> omega))
    cases b1
    · go_wp2_with fail
      go_ret
      exact ⟨rfl, hbw1⟩
    · go_wp2_with fail
      go_ret
      exact ⟨rfl, hbw1⟩
  · go_enter Try.func4, Try.ntmps4
    go_wp2_with fail
    refine (fits10 A len cap bs _ HM.out (HR.out.below (by repeat (first | exact Below.refl _ _ | refine Below.alloc ?_ (by simp <;> omega) _)))).mono ?_
    rintro e w1 ⟨b1, rfl, -, hb1⟩
    have hs1 : w.heap.size + 1 < w1.heap.size := by have := hb1.size; simp at this; omega
    obtain ⟨hcc1, -⟩ := bcell hb1
    have BX1 : Blk w1 w.heap.size 29 #[.int .i64 xb, .int .u64 xl, .int .u64 xc] := Blk.below (show Blk _ _ _ _ from (Blk.new w 29 _).alloc _) hb1 (by simp; omega)
    have BY1 : Blk w1 (w.heap.size + 1) 29 #[.int .i64 yb, .int .u64 yl, .int .u64 yc] := Blk.below (Blk.new2 w _ 29 _) hb1 (by simp)
    have hbw1 : Below w.heap.size w w1 := (show Below w.heap.size w _ from (by repeat (first | exact Below.refl _ _ | refine Below.alloc ?_ (by simp <;> omega) _))).trans (hb1.mono (by simp <;> omega))
    cases b1
    · go_wp2_with fail
      go_ret
      exact ⟨rfl, hbw1⟩
    · go_wp2_with fail
      refine (known11 A len cap bs (some ⟨w1.heap.size, 0, none⟩) 2 2 (fun k => if k = 0 then ⟨xb, xl, xc⟩ else ⟨yb, yl, yc⟩) _ HM.out (HR.out.below (hbw1.alloc hbw1.size _)) HW.out (by decide) (spots_two ⟨xb, xl, xc⟩ ⟨yb, yl, yc⟩ w1.heap.size (heap_alloc_new _ _)) (fun k hk => by
        match k, hk with
        | 0, _ => exact HX.out
        | 1, _ => exact HY.out)).mono ?_
      rintro e w2 ⟨b2, rfl, hK, hb2⟩
      have hs2 : w.heap.size + 1 < w2.heap.size := by have := hb2.size; simp at this; omega
      have hbk2 : Below w1.heap.size w1 w2 := ((Below.refl _ _).alloc (Nat.le_refl _) _).trans (hb2.mono (by simp))
      have hp2 : ∀ o, w2.cell? ⟨w.heap.size, o, none⟩ = w1.cell? ⟨w.heap.size, o, none⟩ := fun o => ((bcell hb2).1 _ o (by simp; omega)).trans (World.cell?_alloc_lt _ _ _ (by simp; omega))
      have hq2 : ∀ o, w2.cell? ⟨w.heap.size + 1, o, none⟩ = w1.cell? ⟨w.heap.size + 1, o, none⟩ := fun o => ((bcell hb2).1 _ o (by simp; omega)).trans (World.cell?_alloc_lt _ _ _ (by simp; omega))
      have hbw2 : Below w.heap.size w w2 := (hbw1.alloc hbw1.size _).trans (hb2.mono (by simp; exact Nat.le_succ_of_le hbw1.size))
      cases b2
      · clear hK
        go_wp2_with fail
        go_ret
        exact ⟨rfl, hbw2⟩
      · obtain ⟨hlen, hA, hsp⟩ := hK rfl
        obtain ⟨⟨x0, x1, -, -⟩, hIx⟩ := hsp 0 (by decide)
        obtain ⟨⟨y0, y1, -, -⟩, hIy⟩ := hsp 1 (by decide)
        have HA := Lib.hid hA
        clear hK hA hsp
        replace x0 : 0 ≤ xb := x0
        replace x1 : xb < len := x1
        replace y0 : 0 ≤ yb := y0
        replace y1 : yb < len := y1
        obtain ⟨i, rfl⟩ := Int.eq_ofNat_of_zero_le x0
        obtain ⟨j, rfl⟩ := Int.eq_ofNat_of_zero_le y0
        have HIX := Lib.hid (hIx i rfl)
        have HIY := Lib.hid (hIy j rfl)
        clear hIx hIy
        have hi : i < len := by omega
        have hj : j < len := by omega
        have BX2 : Blk w2 w.heap.size 29 #[.int .i64 i, .int .u64 xl, .int .u64 xc] := BX1.below hbk2 (by omega)
        have BY2 : Blk w2 (w.heap.size + 1) 29 #[.int .i64 j, .int .u64 yl, .int .u64 yc] := BY1.below hbk2 (by omega)
        have X0 : w2.cell? ⟨w.heap.size, 0, none⟩ = some (.int .i64 i) := BX2.cell 0
        have X1 : w2.cell? ⟨w.heap.size, 1, none⟩ = some (.int .u64 xl) := BX2.cell 1
        have X2 : w2.cell? ⟨w.heap.size, 2, none⟩ = some (.int .u64 xc) := BX2.cell 2
        have Y0 : w2.cell? ⟨w.heap.size + 1, 0, none⟩ = some (.int .i64 j) := BY2.cell 0
        have Y1 : w2.cell? ⟨w.heap.size + 1, 1, none⟩ = some (.int .u64 yl) := BY2.cell 1
        have Y2 : w2.cell? ⟨w.heap.size + 1, 2, none⟩ = some (.int .u64 yc) := BY2.cell 2
        have T12 := Lib.hid (fun w' hb => tell12 A len cap bs i xl xc w' hlen (HR.out.below (w' := w') hb) HW.out HA.out hi HX.out.l HX.out.c HIX.out)
        have T13 := Lib.hid (fun w' hb => tell12 A len cap bs j yl yc w' hlen (HR.out.below (w' := w') hb) HW.out HA.out hj HY.out.l HY.out.c HIY.out)
        unfold told at T12 T13
        generalize relLine (bs i) xl = x3 at T12
        generalize relCol (bs i) xl xc = x4 at T12
        generalize (bs i).name = x2 at T12
        generalize (bs (root bs i)).name = x5 at T12
        generalize relLine (bs j) yl = y3 at T13
        generalize relCol (bs j) yl yc = y4 at T13
        generalize (bs j).name = y2 at T13
        generalize (bs (root bs j)).name = y5 at T13
        have HBX := Lib.hid BX2
        have HBY := Lib.hid BY2
        have ht2 : w.heap.size < w2.heap.size := (by omega)
        clear hp2 hq2 hcc1 hb1 hb2 hbk2 BX1 BY1 BX2 BY2 hs1 hbw1
        go_upto_region 5 with fail
        go_cut [9, 10] (fun s9 s10 wx => ∃ F S, s9 = .pointer (some ⟨F, 0, none⟩) ∧ s10 = .pointer (some ⟨S, 0, none⟩) ∧ Blk wx F 33 #[.int .u64 (lim xl), .int .u64 (lim xc), .string x2, .int .u64 x3, .int .u64 x4, .string x5, .bool true] ∧ Blk wx S 33 #[.int .u64 (lim yl), .int .u64 (lim yc), .string y2, .int .u64 y3, .int .u64 y4, .string y5, .bool true] ∧
          Blk wx w.heap.size 29 #[.int .i64 i, .int .u64 xl, .int .u64 xc] ∧ Blk wx (w.heap.size + 1) 29 #[.int .i64 j, .int .u64 yl, .int .u64 yc] ∧ Below w.heap.size w wx)
        case first =>
          go_region_held3 (fun w' => w'.cell? ⟨w.heap.size, 0, none⟩ = some (.int .i64 i) ∧ w'.cell? ⟨w.heap.size, 1, none⟩ = some (.int .u64 xl) ∧ w'.cell? ⟨w.heap.size, 2, none⟩ = some (.int .u64 xc) ∧ w'.cell? ⟨w.heap.size + 1, 0, none⟩ = some (.int .i64 j) ∧ w'.cell? ⟨w.heap.size + 1, 1, none⟩ = some (.int .u64 yl) ∧ w'.cell? ⟨w.heap.size + 1, 2, none⟩ = some (.int .u64 yc)) (go_simp)
            (first
              | (go_at_call 12
                 with_reducible refine (T12.out _ (by repeat (first | exact hbw2 | refine Below.drew ?_ | refine Below.alloc ?_ (by first | exact hbw2.size | (simp; have := hbw2.size; omega)) _))).mono ?_
                 rintro e w3 ⟨rfl, hb3⟩
                 have hbw3 : Below w.heap.size w w3 := (show Below w.heap.size w _ from (by repeat (first | exact hbw2 | refine Below.drew ?_ | refine Below.alloc ?_ (by first | exact hbw2.size | (simp; have := hbw2.size; omega)) _))).trans (hb3.mono (by simp <;> omega))
                 have hs3 : w.heap.size + 1 < w3.heap.size := (by have := hb3.size; simp at this; omega)
                 have ht3 : w.heap.size < w3.heap.size := (by omega)
                 have BX3 : Blk w3 w.heap.size 29 #[.int .i64 i, .int .u64 xl, .int .u64 xc] := Blk.below (show Blk _ w.heap.size 29 _ from (by repeat (first | exact HBX.out | refine Blk.drew ?_ | refine Blk.alloc ?_ _))) hb3 (by simp <;> omega)
                 have BY3 : Blk w3 (w.heap.size + 1) 29 #[.int .i64 j, .int .u64 yl, .int .u64 yc] := Blk.below (show Blk _ (w.heap.size + 1) 29 _ from (by repeat (first | exact HBY.out | refine Blk.drew ?_ | refine Blk.alloc ?_ _))) hb3 (by simp <;> omega)
                 have X0_3 : w3.cell? ⟨w.heap.size, 0, none⟩ = some (.int .i64 i) := BX3.cell 0
                 have X1_3 : w3.cell? ⟨w.heap.size, 1, none⟩ = some (.int .u64 xl) := BX3.cell 1
                 have X2_3 : w3.cell? ⟨w.heap.size, 2, none⟩ = some (.int .u64 xc) := BX3.cell 2
                 have Y0_3 : w3.cell? ⟨w.heap.size + 1, 0, none⟩ = some (.int .i64 j) := BY3.cell 0
                 have Y1_3 : w3.cell? ⟨w.heap.size + 1, 1, none⟩ = some (.int .u64 yl) := BY3.cell 1
                 have Y2_3 : w3.cell? ⟨w.heap.size + 1, 2, none⟩ = some (.int .u64 yc) := BY3.cell 2
                 first
                   | (have P1 : Blk w3 w2.heap.size 33 res0 := Blk.below (Blk.drew ((Blk.new w2 33 res0).alloc (Obj.cells res0 33))) hb3 (by simp; omega)
                      have P2 : Blk w3 (w2.heap.size + 1) 33 res0 := Blk.below (Blk.drew (Blk.new2 w2 (Obj.cells res0 33) 33 res0)) hb3 (by simp))
                   | (have P1 : Blk w3 w2.heap.size 33 res0 := Blk.below (Blk.drew (Blk.new w2 33 res0)) hb3 (by simp))
                   | skip)
              | (go_at_call 12
                 with_reducible refine (T13.out _ (by repeat (first | exact hbw3 | refine Below.drew ?_ | refine Below.alloc ?_ (by first | exact hbw3.size | (simp; have := hbw3.size; omega)) _))).mono ?_
                 rintro e w4 ⟨rfl, hb4⟩
                 have hb34 : Below w3.heap.size w3 w4 := (show Below w3.heap.size w3 _ from (by repeat (first | exact Below.refl _ _ | refine Below.alloc ?_ (by simp) _))).trans (hb4.mono (by simp <;> omega))
                 have hbw4 : Below w.heap.size w w4 := hbw3.trans (hb34.mono hbw3.size)
                 have hl34 := hb34.size
                 have hl23 : w2.heap.size ≤ w3.heap.size := (by have := hb3.size; simp at this; omega)
                 have hs4 : w.heap.size + 1 < w4.heap.size := (by omega)
                 have ht4 : w.heap.size < w4.heap.size := (by omega)
                 have BX4 : Blk w4 w.heap.size 29 #[.int .i64 i, .int .u64 xl, .int .u64 xc] := BX3.below hb34 (by omega)
                 have BY4 : Blk w4 (w.heap.size + 1) 29 #[.int .i64 j, .int .u64 yl, .int .u64 yc] := BY3.below hb34 (by omega)
                 have X0_4 : w4.cell? ⟨w.heap.size, 0, none⟩ = some (.int .i64 i) := BX4.cell 0
                 have X1_4 : w4.cell? ⟨w.heap.size, 1, none⟩ = some (.int .u64 xl) := BX4.cell 1
                 have X2_4 : w4.cell? ⟨w.heap.size, 2, none⟩ = some (.int .u64 xc) := BX4.cell 2
                 have Y0_4 : w4.cell? ⟨w.heap.size + 1, 0, none⟩ = some (.int .i64 j) := BY4.cell 0
                 have Y1_4 : w4.cell? ⟨w.heap.size + 1, 1, none⟩ = some (.int .u64 yl) := BY4.cell 1
                 have Y2_4 : w4.cell? ⟨w.heap.size + 1, 2, none⟩ = some (.int .u64 yc) := BY4.cell 2
                 have d0 : ¬ w.heap.size = w2.heap.size := (by omega)
                 have e0 : ¬ w2.heap.size = w.heap.size := (by omega)
                 have d1 : ¬ w.heap.size = w2.heap.size + 1 := (by omega)
                 have e1 : ¬ w2.heap.size + 1 = w.heap.size := (by omega)
                 have d2 : ¬ w.heap.size = w3.heap.size := (by omega)
                 have e2 : ¬ w3.heap.size = w.heap.size := (by omega)
                 have d3 : ¬ w.heap.size = w3.heap.size + 1 := (by omega)
                 have e3 : ¬ w3.heap.size + 1 = w.heap.size := (by omega)
                 have d4 : ¬ w.heap.size = w4.heap.size := (by omega)
                 have e4 : ¬ w4.heap.size = w.heap.size := (by omega)
                 have d5 : ¬ w.heap.size = w4.heap.size + 1 := (by omega)
                 have e5 : ¬ w4.heap.size + 1 = w.heap.size := (by omega)
                 have d6 : ¬ w.heap.size + 1 = w2.heap.size := (by omega)
                 have e6 : ¬ w2.heap.size = w.heap.size + 1 := (by omega)
                 have d7 : ¬ w.heap.size + 1 = w2.heap.size + 1 := (by omega)
                 have e7 : ¬ w2.heap.size + 1 = w.heap.size + 1 := (by omega)
                 have d8 : ¬ w.heap.size + 1 = w3.heap.size := (by omega)
                 have e8 : ¬ w3.heap.size = w.heap.size + 1 := (by omega)
                 have d9 : ¬ w.heap.size + 1 = w3.heap.size + 1 := (by omega)
                 have e9 : ¬ w3.heap.size + 1 = w.heap.size + 1 := (by omega)
                 have d10 : ¬ w.heap.size + 1 = w4.heap.size := (by omega)
                 have e10 : ¬ w4.heap.size = w.heap.size + 1 := (by omega)
                 have d11 : ¬ w.heap.size + 1 = w4.heap.size + 1 := (by omega)
                 have e11 : ¬ w4.heap.size + 1 = w.heap.size + 1 := (by omega)
                 first
                   | (have Q1 : Blk w4 w3.heap.size 33 res0 := Blk.below ((Blk.new w3 33 res0).alloc (Obj.cells res0 33)) hb4 (by simp; omega)
                      have Q2 : Blk w4 (w3.heap.size + 1) 33 res0 := Blk.below (Blk.new2 w3 (Obj.cells res0 33) 33 res0) hb4 (by simp)
                      obtain ⟨qa0, qa1, qa2, qa3, qa4, qa5, qa6, qa7, qa8, qa9, qa10, qa11, qa12, qa13⟩ := Blk.seven Q1
                      obtain ⟨qb0, qb1, qb2, qb3, qb4, qb5, qb6, qb7, qb8, qb9, qb10, qb11, qb12, qb13⟩ := Blk.seven Q2)
                   | (have Q1 : Blk w4 w3.heap.size 33 res0 := Blk.below (Blk.new w3 33 res0) hb4 (by simp)
                      obtain ⟨qa0, qa1, qa2, qa3, qa4, qa5, qa6, qa7, qa8, qa9, qa10, qa11, qa12, qa13⟩ := Blk.seven Q1)
                   | skip
                 first
                   | (have P1_4 := P1.below hb34 P1.lt
                      obtain ⟨pa0, pa1, pa2, pa3, pa4, pa5, pa6, pa7, pa8, pa9, pa10, pa11, pa12, pa13⟩ := Blk.seven P1_4)
                   | skip
                 first
                   | (have P2_4 := P2.below hb34 P2.lt
                      obtain ⟨pb0, pb1, pb2, pb3, pb4, pb5, pb6, pb7, pb8, pb9, pb10, pb11, pb12, pb13⟩ := Blk.seven P2_4)
                   | skip
                 first
                   | (have f0 : w2.heap.size < w3.heap.size := P1.lt
                      have f00 : w2.heap.size < w4.heap.size := Nat.lt_of_lt_of_le P1.lt hl34
                      have f1 : ¬ w2.heap.size = w3.heap.size := Nat.ne_of_lt P1.lt
                      have f2 : ¬ w3.heap.size = w2.heap.size := Nat.ne_of_gt P1.lt
                      have f3 : ¬ w2.heap.size = w4.heap.size := Nat.ne_of_lt (Nat.lt_of_lt_of_le P1.lt hl34)
                      have f4 : ¬ w4.heap.size = w2.heap.size := Nat.ne_of_gt (Nat.lt_of_lt_of_le P1.lt hl34))
                   | skip
                 first
                   | (have f9 : w3.heap.size < w4.heap.size := Q1.lt
                      have f5 : ¬ w3.heap.size = w4.heap.size := Nat.ne_of_lt Q1.lt
                      have f6 : ¬ w4.heap.size = w3.heap.size := Nat.ne_of_gt Q1.lt)
                   | skip))
          all_goals
            go_wp2_with fail
            go_meet
          all_goals
            refine ⟨_, _, rfl, rfl, ?_, ?_, ?_, ?_, ?_⟩
            · repeat (first | with_reducible exact P1_4 | with_reducible exact P2_4 | with_reducible exact Q1 | with_reducible exact Q2 | with_reducible exact Blk.new _ _ _ | with_reducible exact Blk.new2 _ _ _ _ | with_reducible exact Blk.new_at (by simp; done) | with_reducible refine Blk.seven_set ?_ _ _ _ _ _ _ _ | with_reducible refine Blk.seven_far ?_ (by first | assumption | omega) _ _ _ _ _ _ _ | with_reducible refine Blk.alloc ?_ _)
            · repeat (first | with_reducible exact P1_4 | with_reducible exact P2_4 | with_reducible exact Q1 | with_reducible exact Q2 | with_reducible exact Blk.new _ _ _ | with_reducible exact Blk.new2 _ _ _ _ | with_reducible exact Blk.new_at (by simp; done) | with_reducible refine Blk.seven_set ?_ _ _ _ _ _ _ _ | with_reducible refine Blk.seven_far ?_ (by first | assumption | omega) _ _ _ _ _ _ _ | with_reducible refine Blk.alloc ?_ _)
            · repeat (first | with_reducible exact BX4 | with_reducible refine Blk.seven_far ?_ (by assumption) _ _ _ _ _ _ _ | with_reducible refine Blk.alloc ?_ _)
            · repeat (first | with_reducible exact BY4 | with_reducible refine Blk.seven_far ?_ (by assumption) _ _ _ _ _ _ _ | with_reducible refine Blk.alloc ?_ _)
            · repeat (first | with_reducible exact hbw4 | with_reducible refine below_seven ?_ (by omega) _ _ _ _ _ _ _ | with_reducible refine Below.alloc ?_ (by first | omega | (simp; omega)) _)
        case rest =>
          clear X0 X1 X2 Y0 Y1 Y2 hs2 ht2 T12 T13 HBX HBY
          obtain ⟨F, S, rfl, rfl, BF, BS, BX, BY, hbc⟩ := hcut
          have hF := BF.lt
          have hS := BS.lt
          have X0 : wc.cell? ⟨w.heap.size, 0, none⟩ = some (.int .i64 i) := BX.cell 0
          have X1 : wc.cell? ⟨w.heap.size, 1, none⟩ = some (.int .u64 xl) := BX.cell 1
          have X2 : wc.cell? ⟨w.heap.size, 2, none⟩ = some (.int .u64 xc) := BX.cell 2
          have Y0 : wc.cell? ⟨w.heap.size + 1, 0, none⟩ = some (.int .i64 j) := BY.cell 0
          have Y1 : wc.cell? ⟨w.heap.size + 1, 1, none⟩ = some (.int .u64 yl) := BY.cell 1
          have Y2 : wc.cell? ⟨w.heap.size + 1, 2, none⟩ = some (.int .u64 yc) := BY.cell 2
          have N13 := Lib.hid (named13 A len cap bs i j xl xc yl yc s wc hlen (HR.out.below hbc) HW.out HA.out hi hj HX.out.l HX.out.c HY.out.l HY.out.c)
          have HBF := Lib.hid BF
          have HBS := Lib.hid BS
          clear BF BS BX BY
          go_wp2_with fail
          with_reducible refine N13.out.mono ?_
          rintro e w5 ⟨rfl, hb5⟩
          have BF5 := HBF.out.below hb5 hF
          have BS5 := HBS.out.below hb5 hS
          have hbw5 : Below w.heap.size w w5 := hbc.trans (hb5.mono hbc.size)
          have F0 : w5.cell? ⟨F, 0, none⟩ = some (.int .u64 (lim xl)) := BF5.cell 0
          have F1 : w5.cell? ⟨F, 1, none⟩ = some (.int .u64 (lim xc)) := BF5.cell 1
          have S0 : w5.cell? ⟨S, 0, none⟩ = some (.int .u64 (lim yl)) := BS5.cell 0
          have S1 : w5.cell? ⟨S, 1, none⟩ = some (.int .u64 (lim yc)) := BS5.cell 1
          have hF5 : F < w5.heap.size := BF5.lt
          have hS5 : S < w5.heap.size := BS5.lt
          have nF5 : ¬ F = w5.heap.size := (by omega)
          have nS5 : ¬ S = w5.heap.size := (by omega)
          have heq := fun w' => eq35 w' (lim xl) (lim xc) (lim yl) (lim yc)
          clear X0 X1 X2 Y0 Y1 Y2 N13 HBF HBS BF5 BS5 hF hS hb5
          go_wp2_with fail

          go_ret
          exact ⟨rfl, by repeat (first | exact hbw5 | refine Below.setCell ?_ (by simp; have := hbw5.size; omega) _ | refine Below.alloc ?_ (by first | exact hbw5.size | (simp; have := hbw5.size; omega)) _)⟩
end Go.Proofs.Ytlmllpgebakhhaa.Pos

namespace Go.Proofs.Ytlmllpgebakhhaa.fnNamed
open Go.ChangeShapes Go.WideShapes Go.ChangeAt Go.RowKit
open Go.ChangeMaps (open_string shut_string)
set_option linter.unusedVariables false

theorem own : ownKnob Try.prog.godebug = none := by kernel_rfl
theorem laidOut : laidOutB Try.prog = true := by kernel_rfl
set_option maxRecDepth 100000 in
theorem lifted (os : Os) (started : os.Started) (H : Type) (enc : TypeId × Value → H) :
    ReturnsInHanded {} Try.checked os 4 .any (Rows.fnNamedSpec.pre6 enc Try.prog Try.f4 Rows.fnNamedRow.domain false) (Rows.fnNamedSpec.post enc Try.prog Try.f4 false true false false) := by
  refine returnsInHanded_of_change (C := Try.checked) own started (by kernel_rfl) Try.func4
    (ChangeSpec.witness6 (enc := enc) (C := Try.checked) false ⟨#[], #[.slice none 0 0, .agg #[.int .i64 0, .int .u64 0, .int .u64 0], .agg #[.int .i64 0, .int .u64 0, .int .u64 0], .string ⟨#[]⟩], []⟩ 8 (by kernel_rfl) (by kernel_rfl) (by kernel_rfl) (by kernel_rfl)) ?_
  intro W base args ds gs before hval0 hW hcnd _
  have hval : ∀ (j : Nat) t v, Try.f4.params[j]? = some t → args[j]? = some v → Value.okWide Try.prog W .any base t v := hval0
  have hW' := hW
  obtain ⟨p, q, hA0, hV, rfl, hfz, hnd⟩ := hW
  have hA : DataW.TrodAll enc Try.prog W 0 (fun _ => true) true Try.f4.params.toList args.toList ds p := hA0
  rw [Try.params4] at hA hval
  obtain ⟨v0, vs0, d0, ds0, p0, q0, hargs, rfl, rfl, h0, r0⟩ := trodAll_cons hA
  obtain ⟨v1, vs1, d1, ds1, p1, q1, rfl, rfl, rfl, h1, r1⟩ := trodAll_cons r0
  obtain ⟨v2, vs2, d2, ds2, p2, q2, rfl, rfl, rfl, h2, r2⟩ := trodAll_cons r1
  obtain ⟨v3, vs3, d3, ds3, p3, q3, rfl, rfl, rfl, h3, r3⟩ := trodAll_cons r2
  obtain ⟨rfl, rfl, rfl⟩ := trodAll_nil r3
  obtain rfl : args = #[v0, v1, v2, v3] := by cases args; simp_all
  obtain ⟨rfl, rfl⟩ := trodVars_none hV
  have k0 := h0
  have lt0 : ∀ x ∈ p0, x.block < W.heap.size := by obtain ⟨m, hm⟩ := k0; exact DataW.trod_lt m _ _ _ hm
  have k1 := h1
  have lt1 : ∀ x ∈ p1, x.block < W.heap.size := by obtain ⟨m, hm⟩ := k1; exact DataW.trod_lt m _ _ _ hm
  have k2 := h2
  have lt2 : ∀ x ∈ p2, x.block < W.heap.size := by obtain ⟨m, hm⟩ := k2; exact DataW.trod_lt m _ _ _ hm
  have k3 := h3
  have lt3 : ∀ x ∈ p3, x.block < W.heap.size := by obtain ⟨m, hm⟩ := k3; exact DataW.trod_lt m _ _ _ hm
  obtain ⟨A, len, cap, rfl⟩ := okWide_slice Try.underlying26 (hval 0 26 v0 rfl rfl)
  obtain ⟨bs, hrow, hwf, hm⟩ := Pos.row_of_trod h0
  obtain ⟨x1, rfl, wx1⟩ := Pos.spot_of_trod (hval 1 29 v1 rfl rfl) h1
  obtain ⟨x2, rfl, wx2⟩ := Pos.spot_of_trod (hval 2 29 v2 rfl rfl) h2
  obtain ⟨s3, rfl, _, _, ws3⟩ := open_string Try.underlying9 (hval 3 9 v3 rfl rfl) h3
  clear hA0 hval0
  refine (Pos.law4 A len cap bs x1 x2 s3 W hm hrow hwf wx1 wx2).mono fun e W' ⟨he, bel⟩ => ?_
  subst he
  exact ⟨_, rfl, _, _, _, [], _, [], hW', trodAll_mk1 (shut_bool Try.underlying4 _), (trodAll_cons_mk (Below.trod laidOut (by kernel_rfl) (of_decide_eq_true (by kernel_rfl)) k0 bel lt0) (trodAll_cons_mk (Below.trod laidOut (by kernel_rfl) (of_decide_eq_true (by kernel_rfl)) k1 bel lt1) (trodAll_cons_mk (Below.trod laidOut (by kernel_rfl) (of_decide_eq_true (by kernel_rfl)) k2 bel lt2) (trodAll_cons_mk (Below.trod laidOut (by kernel_rfl) (of_decide_eq_true (by kernel_rfl)) k3 bel lt3) trodAll_mk0)))), rfl, bel.frame _, fun h => by cases h⟩

theorem over : Rows.fnNamedRow.holds Try.pinned (OpenSpec.ofChange Rows.fnNamedSpec) :=
  OpenClaim.holds_of_wide 4 Try.f4 rfl rfl rfl rfl rfl rfl rfl ⟨rfl, rfl, rfl, rfl, rfl⟩ rfl rfl rfl rfl rfl (by kernel_rfl) Try.func4 (by kernel_rfl)
    (of_decide_eq_true (by kernel_rfl)) (by unfold Func.isWrapper; first | (rw [if_pos (by decide +kernel)]; kernel_rfl) | (rw [if_neg (by decide +kernel)]; exact ⟨rfl, rfl⟩))
    (fun os started H enc _ => lifted os started H enc)

theorem proved : Rows.FnNamedSaid := over
#print axioms proved
end Go.Proofs.Ytlmllpgebakhhaa.fnNamed
