/-
  FnPosCompare: for every list of bases and every two positions the law answers true (positions in files are compared by the names of the files, by lines and by columns). Conditions: none beyond the given row's.
-/
import Derived.Test.YtlmllpgebakhhaaPosG
import Derived.Test.YtlmllpgebakhhaaPosH
import Derived.OpenShut
import Derived.ShutString
import Derived.ChangeOld
namespace Go.Proofs.Ytlmllpgebakhhaa.Pos
open Go.RowKit
set_option linter.unusedVariables false

abbrev vSp (x : Sp) : Value := .agg #[.int .i64 x.b, .int .u64 x.l, .int .u64 x.c]
abbrev oS (x : Sp) : Obj := .cells #[.int .i64 x.b, .int .u64 x.l, .int .u64 x.c] 29

theorem spots_two {w : World} (x y : Sp) (g : Nat) (h : w.heap[g]? = some (.cells #[.int .i64 x.b, .int .u64 x.l, .int .u64 x.c, .int .i64 y.b, .int .u64 y.l, .int .u64 y.c] 29 (0, 0))) :
    Spots w (some ⟨g, 0, none⟩) 2 (fun k => if k = 0 then x else y) := by
  have hlt : g < w.heap.size := by
    rcases Nat.lt_or_ge g w.heap.size with hlt | hge
    · exact hlt
    · rw [Array.getElem?_eq_none hge] at h; cases h
  intro k hk
  refine ⟨g, 0, rfl, hlt, ?_⟩
  match k, hk with
  | 0, _ => exact ⟨cell_of_row w g 0 _ _ _ h, cell_of_row w g 1 _ _ _ h, cell_of_row w g 2 _ _ _ h⟩
  | 1, _ => exact ⟨cell_of_row w g 3 _ _ _ h, cell_of_row w g 4 _ _ _ h, cell_of_row w g 5 _ _ _ h⟩

set_option maxHeartbeats 4000000 in
theorem law6 (A : Option Addr) (len cap : Nat) (bs : Nat → Bas) (x y : Sp) (w : World) (hm : len ≤ maxLen) (hr : Row w A len bs) (hwf : ∀ k, k < len → (bs k).Wf) (hx : x.Wf) (hy : y.Wf) :
    Calls Try.prog 6 #[.slice A len cap, vSp x, vSp y] w fun e w' => e = .returned (.bool true) ∧ Below w.heap.size w w' := by
  have HR := Lib.hid hr
  have HW := Lib.hid hwf
  have HX := Lib.hid hx
  have HY := Lib.hid hy
  have HM := Lib.hid hm
  clear hr hwf hx hy hm
  obtain ⟨xb, xl, xc⟩ := x
  obtain ⟨yb, yl, yc⟩ := y
  go_enter Try.func6, Try.ntmps6
  go_wp2_with fail
  refine (fits10 A len cap bs _ HM.out (HR.out.below (by repeat (first | exact Below.refl _ _ | refine Below.alloc ?_ (by simp <;> omega) _)))).mono ?_
  rintro e w1 ⟨b1, rfl, -, hb1⟩
  have hs1 : w.heap.size + 1 < w1.heap.size := by have := hb1.size; simp at this; omega
  obtain ⟨hcc1, -⟩ := bcell hb1
  have hbw1 : Below w.heap.size w w1 := (show Below w.heap.size w _ from (by repeat (first | exact Below.refl _ _ | refine Below.alloc ?_ (by simp <;> omega) _))).trans (hb1.mono (by simp <;> omega))
  cases b1
  · go_wp2_with fail
    go_ret
    exact ⟨rfl, hbw1⟩
  · go_wp2_with fail
    refine (known11 A len cap bs (some ⟨w1.heap.size, 0, none⟩) 2 2 (fun k => if k = 0 then ⟨xb, xl, xc⟩ else ⟨yb, yl, yc⟩) _ HM.out (HR.out.below (hbw1.alloc hbw1.size _)) HW.out (by decide) (spots_two ⟨xb, xl, xc⟩ ⟨yb, yl, yc⟩ w1.heap.size (heap_alloc_new _ _)) (fun k hk => by
      match k, hk with
      | 0, _ => exact HX.out
      | 1, _ => exact HY.out)).mono ?_
    rintro e w2 ⟨b2, rfl, hK, hb2⟩
    have hs2 : w.heap.size + 1 < w2.heap.size := by have := hb2.size; simp at this; omega
    have hp2 : ∀ o, w2.cell? ⟨w.heap.size, o, none⟩ = w1.cell? ⟨w.heap.size, o, none⟩ := fun o => ((bcell hb2).1 _ o (by simp; omega)).trans (World.cell?_alloc_lt _ _ _ (by simp; omega))
    have hq2 : ∀ o, w2.cell? ⟨w.heap.size + 1, o, none⟩ = w1.cell? ⟨w.heap.size + 1, o, none⟩ := fun o => ((bcell hb2).1 _ o (by simp; omega)).trans (World.cell?_alloc_lt _ _ _ (by simp; omega))
    have hbw2 : Below w.heap.size w w2 := (hbw1.alloc hbw1.size _).trans (hb2.mono (by simp; exact Nat.le_succ_of_le hbw1.size))
    cases b2
    · clear hK
      go_wp2_with fail
      go_ret
      exact ⟨rfl, hbw2⟩
    · obtain ⟨hlen, hA, hsp⟩ := hK rfl
      obtain ⟨⟨x0, x1, -, -⟩, -⟩ := hsp 0 (by decide)
      obtain ⟨⟨y0, y1, -, -⟩, -⟩ := hsp 1 (by decide)
      have HA := Lib.hid hA
      clear hK hA hsp
      simp only [if_true] at x0 x1
      simp only [Nat.one_ne_zero, if_false] at y0 y1
      obtain ⟨i, rfl⟩ := Int.eq_ofNat_of_zero_le x0
      obtain ⟨j, rfl⟩ := Int.eq_ofNat_of_zero_le y0
      have hi : i < len := by omega
      have hj : j < len := by omega
      obtain ⟨b, off, rfl, hb, -, -, -, -, -, hc5, -⟩ := (HR.out.below hbw2) i hi
      obtain ⟨b', off', e2, -, -, -, -, -, -, hd5, -⟩ := (HR.out.below hbw2) j hj
      obtain ⟨rfl, rfl⟩ : b' = b ∧ off' = off := by simpa using e2.symm
      clear e2
      have hend : Below w.heap.size w w2 := hbw2
      by_cases g1 : 0 < (bs i).line
      · go_wp2_with fail
        go_ret
        exact ⟨rfl, hbw2⟩
      · by_cases g2 : 0 < (bs j).line
        · go_wp2_with fail
          go_ret
          exact ⟨rfl, hbw2⟩
        · go_wp2_with fail
          go_region_held3 (fun w' => w'.cell? ⟨w.heap.size, 0, none⟩ = some (.int .i64 i) ∧ w'.cell? ⟨w.heap.size, 1, none⟩ = some (.int .u64 xl) ∧ w'.cell? ⟨w.heap.size, 2, none⟩ = some (.int .u64 xc) ∧ w'.cell? ⟨w.heap.size + 1, 0, none⟩ = some (.int .i64 j) ∧ w'.cell? ⟨w.heap.size + 1, 1, none⟩ = some (.int .u64 yl) ∧ w'.cell? ⟨w.heap.size + 1, 2, none⟩ = some (.int .u64 yc)) (go_simp)
            (first
              | (go_at_call 16
                 refine (compare16 _ len cap bs i j xl xc yl yc _ hlen (HR.out.below (Below.drew hbw2)) HW.out HA.out hi hj HX.out.l HX.out.c HY.out.l HY.out.c).mono ?_
                 rintro e w3 ⟨rfl, hb3⟩
                 have hp3 : ∀ o, w3.cell? ⟨w.heap.size, o, none⟩ = w2.cell? ⟨w.heap.size, o, none⟩ := fun o => (bcell hb3).1 _ o (by exact Nat.lt_of_succ_lt hs2)
                 have hq3 : ∀ o, w3.cell? ⟨w.heap.size + 1, o, none⟩ = w2.cell? ⟨w.heap.size + 1, o, none⟩ := fun o => (bcell hb3).1 _ o hs2
                 have hs3 : w.heap.size + 1 < w3.heap.size := Nat.lt_of_lt_of_le hs2 hb3.size
                 have hbw3 : Below w.heap.size w w3 := (Below.drew hbw2).trans (hb3.mono hbw2.size))
              | (go_at_call 17
                 refine (compare17 _ len cap bs i j xl xc yl yc _ hlen (HR.out.below hbw3) hi hj HX.out.l HX.out.c HY.out.l HY.out.c).mono ?_
                 rintro e w4 ⟨rfl, hb4⟩
                 have hp4 : ∀ o, w4.cell? ⟨w.heap.size, o, none⟩ = w3.cell? ⟨w.heap.size, o, none⟩ := fun o => (bcell hb4).1 _ o (by omega)
                 have hq4 : ∀ o, w4.cell? ⟨w.heap.size + 1, o, none⟩ = w3.cell? ⟨w.heap.size + 1, o, none⟩ := fun o => (bcell hb4).1 _ o hs3
                 have hbw4 : Below w.heap.size w w4 := hbw3.trans (hb4.mono hbw3.size)))
          all_goals
            go_wp2_with fail
            go_ret
            exact ⟨rfl, hbw4⟩
end Go.Proofs.Ytlmllpgebakhhaa.Pos

namespace Go.Proofs.Ytlmllpgebakhhaa.fnPosCompare
open Go.ChangeShapes Go.WideShapes Go.ChangeAt Go.RowKit
open Go.ChangeMaps (open_string shut_string)
set_option linter.unusedVariables false

theorem own : ownKnob Try.prog.godebug = none := by kernel_rfl
theorem laidOut : laidOutB Try.prog = true := by kernel_rfl
set_option maxRecDepth 100000 in
theorem lifted (os : Os) (started : os.Started) (H : Type) (enc : TypeId × Value → H) :
    ReturnsInHanded {} Try.checked os 6 .any (Rows.fnPosCompareSpec.pre6 enc Try.prog Try.f6 Rows.fnPosCompareRow.domain false) (Rows.fnPosCompareSpec.post enc Try.prog Try.f6 false true false false) := by
  refine returnsInHanded_of_change (C := Try.checked) own started (by kernel_rfl) Try.func6
    (ChangeSpec.witness6 (enc := enc) (C := Try.checked) false ⟨#[], #[.slice none 0 0, .agg #[.int .i64 0, .int .u64 0, .int .u64 0], .agg #[.int .i64 0, .int .u64 0, .int .u64 0]], []⟩ 8 (by kernel_rfl) (by kernel_rfl) (by kernel_rfl) (by kernel_rfl)) ?_
  intro W base args ds gs before hval0 hW hcnd _
  have hval : ∀ (j : Nat) t v, Try.f6.params[j]? = some t → args[j]? = some v → Value.okWide Try.prog W .any base t v := hval0
  have hW' := hW
  obtain ⟨p, q, hA0, hV, rfl, hfz, hnd⟩ := hW
  have hA : DataW.TrodAll enc Try.prog W 0 (fun _ => true) true Try.f6.params.toList args.toList ds p := hA0
  rw [Try.params6] at hA hval
  obtain ⟨v0, vs0, d0, ds0, p0, q0, hargs, rfl, rfl, h0, r0⟩ := trodAll_cons hA
  obtain ⟨v1, vs1, d1, ds1, p1, q1, rfl, rfl, rfl, h1, r1⟩ := trodAll_cons r0
  obtain ⟨v2, vs2, d2, ds2, p2, q2, rfl, rfl, rfl, h2, r2⟩ := trodAll_cons r1
  obtain ⟨rfl, rfl, rfl⟩ := trodAll_nil r2
  obtain rfl : args = #[v0, v1, v2] := by cases args; simp_all
  obtain ⟨rfl, rfl⟩ := trodVars_none hV
  have k0 := h0
  have lt0 : ∀ x ∈ p0, x.block < W.heap.size := by obtain ⟨m, hm⟩ := k0; exact DataW.trod_lt m _ _ _ hm
  have k1 := h1
  have lt1 : ∀ x ∈ p1, x.block < W.heap.size := by obtain ⟨m, hm⟩ := k1; exact DataW.trod_lt m _ _ _ hm
  have k2 := h2
  have lt2 : ∀ x ∈ p2, x.block < W.heap.size := by obtain ⟨m, hm⟩ := k2; exact DataW.trod_lt m _ _ _ hm
  obtain ⟨A, len, cap, rfl⟩ := okWide_slice Try.underlying26 (hval 0 26 v0 rfl rfl)
  obtain ⟨bs, hrow, hwf, hm⟩ := Pos.row_of_trod h0
  obtain ⟨x1, rfl, wx1⟩ := Pos.spot_of_trod (hval 1 29 v1 rfl rfl) h1
  obtain ⟨x2, rfl, wx2⟩ := Pos.spot_of_trod (hval 2 29 v2 rfl rfl) h2
  clear hA0 hval0
  refine (Pos.law6 A len cap bs x1 x2 W hm hrow hwf wx1 wx2).mono fun e W' ⟨he, bel⟩ => ?_
  subst he
  exact ⟨_, rfl, _, _, _, [], _, [], hW', trodAll_mk1 (shut_bool Try.underlying4 _), (trodAll_cons_mk (Below.trod laidOut (by kernel_rfl) (of_decide_eq_true (by kernel_rfl)) k0 bel lt0) (trodAll_cons_mk (Below.trod laidOut (by kernel_rfl) (of_decide_eq_true (by kernel_rfl)) k1 bel lt1) (trodAll_cons_mk (Below.trod laidOut (by kernel_rfl) (of_decide_eq_true (by kernel_rfl)) k2 bel lt2) trodAll_mk0))), rfl, bel.frame _, fun h => by cases h⟩

theorem over : Rows.fnPosCompareRow.holds Try.pinned (OpenSpec.ofChange Rows.fnPosCompareSpec) :=
  OpenClaim.holds_of_wide 6 Try.f6 rfl rfl rfl rfl rfl rfl rfl ⟨rfl, rfl, rfl, rfl, rfl⟩ rfl rfl rfl rfl rfl (by kernel_rfl) Try.func6 (by kernel_rfl)
    (of_decide_eq_true (by kernel_rfl)) (by unfold Func.isWrapper; first | (rw [if_pos (by decide +kernel)]; kernel_rfl) | (rw [if_neg (by decide +kernel)]; exact ⟨rfl, rfl⟩))
    (fun os started H enc _ => lifted os started H enc)

theorem proved : Rows.FnPosCompareSaid := over
#print axioms proved
end Go.Proofs.Ytlmllpgebakhhaa.fnPosCompare
