/-
  FnPosTold: for every list of bases and every position the law answers true (what a position tells is what the reference says). Conditions: none beyond the given row's.
-/
import Derived.Test.YtlmllpgebakhhaaPosI
import Derived.Test.YtlmllpgebakhhaaPosH
import Derived.Test.YtlmllpgebakhhaaPosJ
import Derived.OpenShut
import Derived.ShutString
import Derived.ChangeOld
import Derived.Deep.RegionLaw
namespace Go.Proofs.Ytlmllpgebakhhaa.Pos
open Go.RowKit
set_option linter.unusedVariables false

theorem spots_one {w : World} (x : Sp) (g : Nat) (h : w.heap[g]? = some (.cells #[.int .i64 x.b, .int .u64 x.l, .int .u64 x.c] 29 (0, 0))) :
    Spots w (some ⟨g, 0, none⟩) 1 (fun _ => x) := by
  have hlt : g < w.heap.size := by
    rcases Nat.lt_or_ge g w.heap.size with hlt | hge
    · exact hlt
    · rw [Array.getElem?_eq_none hge] at h; cases h
  intro k hk
  refine ⟨g, 0, rfl, hlt, ?_⟩
  match k, hk with
  | 0, _ => exact ⟨cell_of_row w g 0 _ _ _ h, cell_of_row w g 1 _ _ _ h, cell_of_row w g 2 _ _ _ h⟩

set_option maxHeartbeats 4000000 in
theorem law8 (A : Option Addr) (len cap : Nat) (bs : Nat → Bas) (x : Sp) (w : World) (hm : len ≤ maxLen) (hr : Row w A len bs) (hwf : ∀ k, k < len → (bs k).Wf) (hx : x.Wf) :
    Calls Try.prog 8 #[.slice A len cap, .agg #[.int .i64 x.b, .int .u64 x.l, .int .u64 x.c]] w fun e w' => e = .returned (.bool true) ∧ Below w.heap.size w w' := by
  have HR := Lib.hid hr
  have HW := Lib.hid hwf
  have HX := Lib.hid hx
  have HM := Lib.hid hm
  clear hr hwf hx hm
  obtain ⟨xb, xl, xc⟩ := x
  go_enter Try.func8, Try.ntmps8
  go_wp2_with fail
  refine (fits10 A len cap bs _ HM.out (HR.out.below (by repeat (first | exact Below.refl _ _ | refine Below.alloc ?_ (by simp <;> omega) _)))).mono ?_
  rintro e w1 ⟨b1, rfl, -, hb1⟩
  have hs1 : w.heap.size < w1.heap.size := by have := hb1.size; simp at this; omega
  obtain ⟨hcc1, -⟩ := bcell hb1
  have hbw1 : Below w.heap.size w w1 := (show Below w.heap.size w _ from (by repeat (first | exact Below.refl _ _ | refine Below.alloc ?_ (by simp <;> omega) _))).trans (hb1.mono (by simp <;> omega))
  cases b1
  · go_wp2_with fail
    go_ret
    exact ⟨rfl, hbw1⟩
  · by_cases hK : Known len bs 1 (fun _ => ⟨xb, xl, xc⟩)
    · have HK := Lib.hid hK
      obtain ⟨hlen, hA, hsp⟩ := hK
      obtain ⟨⟨x0, x1, x2, x3⟩, hI⟩ := hsp 0 (by decide)
      have HA := Lib.hid hA
      simp only at x0 x1 x2 x3 hI
      obtain ⟨i, rfl⟩ := Int.eq_ofNat_of_zero_le x0
      have hi : i < len := by omega
      have HI := Lib.hid (hI i rfl)
      have HX2 := Lib.hid x2
      have HX3 := Lib.hid x3
      clear hA hsp hI x2 x3
      go_wp2_with fail
      go_region_held3 (fun w' => w'.cell? ⟨w.heap.size, 0, none⟩ = some (.int .i64 i) ∧ w'.cell? ⟨w.heap.size, 1, none⟩ = some (.int .u64 xl) ∧ w'.cell? ⟨w.heap.size, 2, none⟩ = some (.int .u64 xc)) (go_simp)
        (first
          | (go_at_call 11
             refine (known_yes A len cap bs (some ⟨w1.heap.size, 0, none⟩) 1 1 (fun _ => ⟨(i : Int), xl, xc⟩) _ HK.out HM.out (HR.out.below (by first | exact (hbw1.alloc hbw1.size _).drew | exact hbw1.drew.alloc hbw1.size _)) HW.out (by decide) (spots_one ⟨(i : Int), xl, xc⟩ w1.heap.size (by exact heap_alloc_new w1 _)) (fun k hk => HX.out)).mono ?_
             rintro e w2 ⟨rfl, hb2⟩
             have hs2 : w.heap.size < w2.heap.size := (by have := hb2.size; simp at this; omega)
             have hp2 : ∀ o, w2.cell? ⟨w.heap.size, o, none⟩ = w1.cell? ⟨w.heap.size, o, none⟩ := fun o => ((bcell hb2).1 _ o (by simp; omega)).trans (World.cell?_alloc_lt _ _ _ (by simp; omega))
             have hbw2 : Below w.heap.size w w2 := (show Below w.heap.size w _ from (by first | exact (hbw1.alloc hbw1.size _).drew | exact hbw1.drew.alloc hbw1.size _)).trans (hb2.mono (by simp; exact Nat.le_succ_of_le hbw1.size)))
          | (go_at_call 18
             refine (tell18 A len cap bs i xl xc _ hlen (HR.out.below hbw2) HW.out HA.out hi HX.out.l HX.out.c HX2.out HX3.out HI.out).mono ?_
             rintro e w3 ⟨rfl, hb3⟩
             have hp3 : ∀ o, w3.cell? ⟨w.heap.size, o, none⟩ = w2.cell? ⟨w.heap.size, o, none⟩ := fun o => (bcell hb3).1 _ o hs2
             have hs3 : w.heap.size < w3.heap.size := Nat.lt_of_lt_of_le hs2 hb3.size
             have hbw3 : Below w.heap.size w w3 := hbw2.trans (hb3.mono hbw2.size))
          | (go_at_call 12
             refine (tell12 A len cap bs i xl xc _ hlen (HR.out.below hbw3) HW.out HA.out hi HX.out.l HX.out.c HI.out).mono ?_
             rintro e w4 ⟨rfl, hb4⟩
             unfold told
             have hp4 : ∀ o, w4.cell? ⟨w.heap.size, o, none⟩ = w3.cell? ⟨w.heap.size, o, none⟩ := fun o => (bcell hb4).1 _ o hs3
             have hbw4 : Below w.heap.size w w4 := hbw3.trans (hb4.mono hbw3.size)))
      all_goals
        go_wp2_with fail
        go_ret
        exact ⟨rfl, hbw4⟩
    · have HK := Lib.hid hK
      clear hK
      go_wp2_with fail
      first
        | (go_region_law (first
            | (go_simp
               go_at_call 11
               refine (known_no A len cap bs (some ⟨w1.heap.size, 0, none⟩) 1 1 (fun _ => ⟨xb, xl, xc⟩) _ HK.out HM.out (HR.out.below (by first | exact (hbw1.alloc hbw1.size _).drew | exact hbw1.drew.alloc hbw1.size _)) HW.out (by decide) (spots_one ⟨xb, xl, xc⟩ w1.heap.size (by exact heap_alloc_new w1 _)) (fun k hk => HX.out)).mono ?_
               rintro e w2 ⟨rfl, hb2⟩
               have hbw2 : Below w.heap.size w w2 := (show Below w.heap.size w _ from (by first | exact (hbw1.alloc hbw1.size _).drew | exact hbw1.drew.alloc hbw1.size _)).trans (hb2.mono (by simp; exact Nat.le_succ_of_le hbw1.size)))))
        | fail
      all_goals
        go_wp2_with fail
        go_ret
        exact ⟨rfl, hbw2⟩
end Go.Proofs.Ytlmllpgebakhhaa.Pos

namespace Go.Proofs.Ytlmllpgebakhhaa.fnPosTold
open Go.ChangeShapes Go.WideShapes Go.ChangeAt Go.RowKit
open Go.ChangeMaps (open_string shut_string)
set_option linter.unusedVariables false

theorem own : ownKnob Try.prog.godebug = none := by kernel_rfl
theorem laidOut : laidOutB Try.prog = true := by kernel_rfl
set_option maxRecDepth 100000 in
theorem lifted (os : Os) (started : os.Started) (H : Type) (enc : TypeId × Value → H) :
    ReturnsInHanded {} Try.checked os 8 .any (Rows.fnPosToldSpec.pre6 enc Try.prog Try.f8 Rows.fnPosToldRow.domain false) (Rows.fnPosToldSpec.post enc Try.prog Try.f8 false true false false) := by
  refine returnsInHanded_of_change (C := Try.checked) own started (by kernel_rfl) Try.func8
    (ChangeSpec.witness6 (enc := enc) (C := Try.checked) false ⟨#[], #[.slice none 0 0, .agg #[.int .i64 0, .int .u64 0, .int .u64 0]], []⟩ 8 (by kernel_rfl) (by kernel_rfl) (by kernel_rfl) (by kernel_rfl)) ?_
  intro W base args ds gs before hval0 hW hcnd _
  have hval : ∀ (j : Nat) t v, Try.f8.params[j]? = some t → args[j]? = some v → Value.okWide Try.prog W .any base t v := hval0
  have hW' := hW
  obtain ⟨p, q, hA0, hV, rfl, hfz, hnd⟩ := hW
  have hA : DataW.TrodAll enc Try.prog W 0 (fun _ => true) true Try.f8.params.toList args.toList ds p := hA0
  rw [Try.params8] at hA hval
  obtain ⟨v0, vs0, d0, ds0, p0, q0, hargs, rfl, rfl, h0, r0⟩ := trodAll_cons hA
  obtain ⟨v1, vs1, d1, ds1, p1, q1, rfl, rfl, rfl, h1, r1⟩ := trodAll_cons r0
  obtain ⟨rfl, rfl, rfl⟩ := trodAll_nil r1
  obtain rfl : args = #[v0, v1] := by cases args; simp_all
  obtain ⟨rfl, rfl⟩ := trodVars_none hV
  have k0 := h0
  have lt0 : ∀ x ∈ p0, x.block < W.heap.size := by obtain ⟨m, hm⟩ := k0; exact DataW.trod_lt m _ _ _ hm
  have k1 := h1
  have lt1 : ∀ x ∈ p1, x.block < W.heap.size := by obtain ⟨m, hm⟩ := k1; exact DataW.trod_lt m _ _ _ hm
  obtain ⟨A, len, cap, rfl⟩ := okWide_slice Try.underlying26 (hval 0 26 v0 rfl rfl)
  obtain ⟨bs, hrow, hwf, hm⟩ := Pos.row_of_trod h0
  obtain ⟨x1, rfl, wx1⟩ := Pos.spot_of_trod (hval 1 29 v1 rfl rfl) h1
  clear hA0 hval0
  refine (Pos.law8 A len cap bs x1 W hm hrow hwf wx1).mono fun e W' ⟨he, bel⟩ => ?_
  subst he
  exact ⟨_, rfl, _, _, _, [], _, [], hW', trodAll_mk1 (shut_bool Try.underlying4 _), (trodAll_cons_mk (Below.trod laidOut (by kernel_rfl) (of_decide_eq_true (by kernel_rfl)) k0 bel lt0) (trodAll_cons_mk (Below.trod laidOut (by kernel_rfl) (of_decide_eq_true (by kernel_rfl)) k1 bel lt1) trodAll_mk0)), rfl, bel.frame _, fun h => by cases h⟩

theorem over : Rows.fnPosToldRow.holds Try.pinned (OpenSpec.ofChange Rows.fnPosToldSpec) :=
  OpenClaim.holds_of_wide 8 Try.f8 rfl rfl rfl rfl rfl rfl rfl ⟨rfl, rfl, rfl, rfl, rfl⟩ rfl rfl rfl rfl rfl (by kernel_rfl) Try.func8 (by kernel_rfl)
    (of_decide_eq_true (by kernel_rfl)) (by unfold Func.isWrapper; first | (rw [if_pos (by decide +kernel)]; kernel_rfl) | (rw [if_neg (by decide +kernel)]; exact ⟨rfl, rfl⟩))
    (fun os started H enc _ => lifted os started H enc)

theorem proved : Rows.FnPosToldSaid := over
#print axioms proved
end Go.Proofs.Ytlmllpgebakhhaa.fnPosTold
