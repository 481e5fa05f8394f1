/-
  FnBasesTold: for every list of bases the law answers true (the base of a file is at its line 1 and column 1, the base of a line directive tells what it was given, and its position). Conditions: none beyond the given row's.
-/
import Derived.Test.YtlmllpgebakhhaaBasA
import Derived.Test.YtlmllpgebakhhaaPosH
import Derived.OpenShut
import Derived.ShutString
import Derived.ChangeOld
import Derived.Deep.RegionLaw
namespace Go.Proofs.Ytlmllpgebakhhaa.Pos
open Go.RowKit
set_option linter.unusedVariables false

set_option maxRecDepth 20000 in
set_option maxHeartbeats 4000000 in
theorem law5 (A : Option Addr) (len cap : Nat) (bs : Nat → Bas) (w : World) (hm : len ≤ maxLen) (hr : Row w A len bs) (hwf : ∀ k, k < len → (bs k).Wf) :
    Calls Try.prog 5 #[.slice A len cap] w fun e w' => e = .returned (.bool true) ∧ Below w.heap.size w w' := by
  have HR := Lib.hid hr
  have HW := Lib.hid hwf
  have HM := Lib.hid hm
  clear hr hwf hm
  go_enter Try.func5, Try.ntmps5
  go_wp2_with fail
  refine (fits10 A len cap bs _ HM.out HR.out).mono ?_
  rintro e w1 ⟨b1, rfl, -, hb1⟩
  cases b1
  · go_wp2_with fail
    go_ret
    exact ⟨rfl, hb1⟩
  · go_wp2_with fail
    refine (known11 A len cap bs none 0 0 (fun _ => ⟨0, 0, 0⟩) _ HM.out (HR.out.below hb1) HW.out (by decide) (fun k hk => absurd hk (Nat.not_lt_zero _)) (fun k hk => absurd hk (Nat.not_lt_zero _))).mono ?_
    rintro e w2 ⟨b2, rfl, hK, hb2⟩
    have hbw2 : Below w.heap.size w w2 := hb1.trans (hb2.mono hb1.size)
    cases b2
    · clear hK
      go_wp2_with fail
      go_ret
      exact ⟨rfl, hbw2⟩
    · obtain ⟨hlen, hA, -⟩ := hK rfl
      have HA := Lib.hid hA
      clear hK hA hb1 hb2
      go_wp2_with fail
      refine (tellBases14 A len cap bs _ hlen (HR.out.below hbw2) HW.out HA.out).mono ?_
      rintro e w3 ⟨A3, cap3, rfl, hT, hb3⟩
      have HT := Lib.hid hT
      have hbw3 : Below w.heap.size w w3 := hbw2.trans (hb3.mono hbw2.size)
      clear hT hb3
      go_wp2_with fail
      go_loopw [21] (fun i wr => ∃ k : Nat, k ≤ len ∧ i = .int .i64 k ∧ Below w3.heap.size w3 wr) (fun i _ => len - (intOf i).toNat)
      case atStart => exact ⟨0, Nat.zero_le _, rfl, Below.refl _ _⟩
      case round =>
        obtain ⟨k, hk, rfl, hbel⟩ := hrel
        have hbw : Below w.heap.size w wr := hbw3.trans (hbel.mono hbw3.size)
        by_cases hlt : k < len
        · obtain ⟨b, off, rfl, hb, hc0, hc1, hc2, hc3, hc4, hc5, hc6⟩ := (HR.out.below hbw) k hlt
          obtain ⟨g, rfl, hg, hcell⟩ := (HT.out.below hbel) k hlt
          have d0 := hcell 0 (by decide)
          have d1 := hcell 1 (by decide)
          have d2 := hcell 2 (by decide)
          have d3 := hcell 3 (by decide)
          have d4 := hcell 4 (by decide)
          have d5 := hcell 5 (by decide)
          have d6 := hcell 6 (by decide)
          have T15 := Lib.hid (fun w' => tellBase15 (bs k) (HW.out k hlt) w')
          clear hcell
          unfold baseTold at d0 d1 d2 d3 d4 d5 d6 T15
          simp only [List.getElem?_toArray, List.getElem?_cons_zero, List.getElem?_cons_succ, Nat.add_zero] at d0 d1 d2 d3 d4 d5 d6
          generalize decide ((bs k).line = 0) = y3 at d3 T15
          generalize (bs k).ln = y1 at d1 T15
          generalize (bs k).cl = y2 at d2 T15
          generalize (bs k).atL = y5 at d5 T15
          generalize (bs k).atC = y6 at d6 T15
          generalize bs k = x at *
          obtain ⟨x0, x1, x2, x3, x4, x5, x6⟩ := x
          have k0 : (0 : Int) ≤ (k : Int) := Int.natCast_nonneg _
          have k1 : (k : Int) < (len : Int) := by omega
          go_wp2_with fail
          have hg1 : g < wr.heap.size + 1 := (by omega)
          have hgn : ¬ g = wr.heap.size := (by omega)
          have hgm : ¬ wr.heap.size = g := (by omega)
          clear hc0 hc1 hc2 hc3 hc4 hc5 hc6 hb
          go_region_held3 (fun w' => (w'.cell? ⟨wr.heap.size, 0, none⟩ = some (.string x0) ∧ w'.cell? ⟨wr.heap.size, 1, none⟩ = some (.bool x1) ∧ w'.cell? ⟨wr.heap.size, 2, none⟩ = some (.int .i64 x2) ∧ w'.cell? ⟨wr.heap.size, 3, none⟩ = some (.int .u64 x3) ∧ w'.cell? ⟨wr.heap.size, 4, none⟩ = some (.int .u64 x4) ∧ w'.cell? ⟨wr.heap.size, 5, none⟩ = some (.int .u64 x5) ∧ w'.cell? ⟨wr.heap.size, 6, none⟩ = some (.int .u64 x6)) ∧
              w'.cell? ⟨g, k * 7, none⟩ = some (.string x0) ∧ w'.cell? ⟨g, k * 7 + 1, none⟩ = some (.int .u64 y1) ∧ w'.cell? ⟨g, k * 7 + 2, none⟩ = some (.int .u64 y2) ∧ w'.cell? ⟨g, k * 7 + 3, none⟩ = some (.bool y3) ∧ w'.cell? ⟨g, k * 7 + 4, none⟩ = some (.bool x1) ∧ w'.cell? ⟨g, k * 7 + 5, none⟩ = some (.int .u64 y5) ∧ w'.cell? ⟨g, k * 7 + 6, none⟩ = some (.int .u64 y6)) (go_simp)
            (first
              | (go_at_call 15
                 with_reducible refine (T15.out _).mono ?_
                 rintro e w5 ⟨rfl, hb5⟩
                 obtain ⟨hcc5, hff5⟩ := bcell hb5
                 have hs5 : wr.heap.size < w5.heap.size := (by have := hb5.size; simp at this; omega)
                 have hbw5 : Below w3.heap.size w3 w5 := (show Below w3.heap.size w3 _ from (hbel.alloc hbel.size _).drew).trans (hb5.mono (by simp; exact Nat.le_succ_of_le hbel.size))))
          all_goals
            go_wp2_with fail
            go_roundw
            case rel => exact ⟨k + 1, by omega, by go_num, hbw5⟩
            case measure => simp [intOf]; omega
        · obtain rfl : k = len := by omega
          go_wp2_with fail
          go_ret
          exact ⟨rfl, hbw⟩
end Go.Proofs.Ytlmllpgebakhhaa.Pos

namespace Go.Proofs.Ytlmllpgebakhhaa.fnBasesTold
open Go.ChangeShapes Go.WideShapes Go.ChangeAt Go.RowKit
open Go.ChangeMaps (open_string shut_string)
set_option linter.unusedVariables false

theorem own : ownKnob Try.prog.godebug = none := by kernel_rfl
theorem laidOut : laidOutB Try.prog = true := by kernel_rfl
set_option maxRecDepth 100000 in
theorem lifted (os : Os) (started : os.Started) (H : Type) (enc : TypeId × Value → H) :
    ReturnsInHanded {} Try.checked os 5 .any (Rows.fnBasesToldSpec.pre6 enc Try.prog Try.f5 Rows.fnBasesToldRow.domain false) (Rows.fnBasesToldSpec.post enc Try.prog Try.f5 false true false false) := by
  refine returnsInHanded_of_change (C := Try.checked) own started (by kernel_rfl) Try.func5
    (ChangeSpec.witness6 (enc := enc) (C := Try.checked) false ⟨#[], #[.slice none 0 0], []⟩ 8 (by kernel_rfl) (by kernel_rfl) (by kernel_rfl) (by kernel_rfl)) ?_
  intro W base args ds gs before hval0 hW hcnd _
  have hval : ∀ (j : Nat) t v, Try.f5.params[j]? = some t → args[j]? = some v → Value.okWide Try.prog W .any base t v := hval0
  have hW' := hW
  obtain ⟨p, q, hA0, hV, rfl, hfz, hnd⟩ := hW
  have hA : DataW.TrodAll enc Try.prog W 0 (fun _ => true) true Try.f5.params.toList args.toList ds p := hA0
  rw [Try.params5] at hA hval
  obtain ⟨v0, vs0, d0, ds0, p0, q0, hargs, rfl, rfl, h0, r0⟩ := trodAll_cons hA
  obtain ⟨rfl, rfl, rfl⟩ := trodAll_nil r0
  obtain rfl : args = #[v0] := by cases args; simp_all
  obtain ⟨rfl, rfl⟩ := trodVars_none hV
  have k0 := h0
  have lt0 : ∀ x ∈ p0, x.block < W.heap.size := by obtain ⟨m, hm⟩ := k0; exact DataW.trod_lt m _ _ _ hm
  obtain ⟨A, len, cap, rfl⟩ := okWide_slice Try.underlying26 (hval 0 26 v0 rfl rfl)
  obtain ⟨bs, hrow, hwf, hm⟩ := Pos.row_of_trod h0
  clear hA0 hval0
  refine (Pos.law5 A len cap bs W hm hrow hwf).mono fun e W' ⟨he, bel⟩ => ?_
  subst he
  exact ⟨_, rfl, _, _, _, [], _, [], hW', trodAll_mk1 (shut_bool Try.underlying4 _), (trodAll_cons_mk (Below.trod laidOut (by kernel_rfl) (of_decide_eq_true (by kernel_rfl)) k0 bel lt0) trodAll_mk0), rfl, bel.frame _, fun h => by cases h⟩

theorem over : Rows.fnBasesToldRow.holds Try.pinned (OpenSpec.ofChange Rows.fnBasesToldSpec) :=
  OpenClaim.holds_of_wide 5 Try.f5 rfl rfl rfl rfl rfl rfl rfl ⟨rfl, rfl, rfl, rfl, rfl⟩ rfl rfl rfl rfl rfl (by kernel_rfl) Try.func5 (by kernel_rfl)
    (of_decide_eq_true (by kernel_rfl)) (by unfold Func.isWrapper; first | (rw [if_pos (by decide +kernel)]; kernel_rfl) | (rw [if_neg (by decide +kernel)]; exact ⟨rfl, rfl⟩))
    (fun os started H enc _ => lifted os started H enc)

theorem proved : Rows.FnBasesToldSaid := over
#print axioms proved
end Go.Proofs.Ytlmllpgebakhhaa.fnBasesTold
