/-
  Positions, part J: the tests on bases and positions, both ways: the answer is true just where the bases and positions are ones (contracts; no statement is closed here).
-/
import Derived.Test.YtlmllpgebakhhaaPosB

namespace Go.Proofs.Ytlmllpgebakhhaa.Pos
open Go.RowKit
set_option linter.unusedVariables false

/-- A bool that is true just if P. -/
def ExB (P : Prop) (w : World) (e : Ending) (w' : World) : Prop := ∃ b : Bool, e = .returned (.bool b) ∧ (b = true ↔ P) ∧ Below w.heap.size w w'
theorem ExB.yes {P : Prop} {w w' : World} (hp : P) (hb : Below w.heap.size w w') : ExB P w (.returned (.bool true)) w' := ⟨true, rfl, ⟨fun _ => hp, fun _ => rfl⟩, hb⟩
theorem ExB.no {P : Prop} {w w' : World} (hp : ¬ P) (hb : Below w.heap.size w w') : ExB P w (.returned (.bool false)) w' := ⟨false, rfl, ⟨(fun h => Bool.noConfusion h), (fun h => absurd h hp)⟩, hb⟩
theorem ExB.mk {P : Prop} {w w' : World} (b : Bool) (hp : b = true ↔ P) (hb : Below w.heap.size w w') : ExB P w (.returned (.bool b)) w' := ⟨b, rfl, hp, hb⟩

theorem isSpot62x (b l c n : Int) (w : World) : Calls Try.prog 62 #[.agg #[.int .i64 b, .int .u64 l, .int .u64 c], .int .i64 n] w (ExB (Spot b l c n) w) := by
  go_enter Try.func62, Try.ntmps62
  go_wp2
  all_goals
    go_ret
    refine ExB.mk _ ?_ ((Below.refl _ _).alloc (Nat.le_refl _) _)
    unfold Spot
    first
      | (constructor
         · intro h; exact ⟨by assumption, by assumption, by assumption, by simpa using h⟩
         · intro h; simpa using h.2.2.2)
      | (constructor
         · intro h; cases h
         · intro h; omega)

theorem are30x (A : Option Addr) (len cap : Nat) (bs : Nat → Bas) (w : World) (hm : len ≤ maxLen) (hr : Row w A len bs) : Calls Try.prog 30 #[.slice A len cap] w (ExB (Are len bs) w) := by
  unfold maxLen at hm
  have H := Lib.hid hr
  clear hr
  go_enter Try.func30, Try.ntmps30
  go_wp2_with fail
  go_loopw [7] (fun i wr => ∃ k : Nat, k ≤ len ∧ i = .int .i64 k ∧ Are k bs ∧ Below w.heap.size w wr) (fun i _ => len - (intOf i).toNat)
  case atStart => exact ⟨0, Nat.zero_le _, rfl, fun i hi => by omega, Below.refl _ _⟩
  case round =>
    obtain ⟨k, hk, rfl, hA, hbel⟩ := hrel
    have HA := Lib.hid hA
    clear hA
    by_cases hlt : k < len
    · obtain ⟨b, off, rfl, hb, hc0, hc1, hc2, hc3, hc4, hc5, hc6⟩ := H.out k hlt
      obtain ⟨hcc, hff⟩ := bcell hbel
      by_cases hl : 0 < (bs k).line
      · go_wp2_with fail
        refine (isSpot62x _ _ _ _ _).mono ?_
        rintro e w1 ⟨b', rfl, hsp, hb1⟩
        have hb2 : Below w.heap.size w w1 := (hbel.alloc hbel.size _).trans (hb1.mono (by simp; exact Nat.le_succ_of_le hbel.size))
        cases b'
        · have HN := Lib.hid (show ¬ Spot (bs k).sb (bs k).sl (bs k).sc k from (fun h => Bool.noConfusion (hsp.2 h)))
          clear hsp
          go_wp2_with fail
          go_ret
          exact ExB.no (fun h => HN.out (h k hlt hl)) hb2
        · have HS := Lib.hid (hsp.1 rfl)
          clear hsp
          go_wp2_with fail
          go_roundw
          case rel =>
            refine ⟨k + 1, by omega, by go_num, fun i hi h => ?_, hb2⟩
            rcases Nat.lt_succ_iff_lt_or_eq.1 hi with h' | rfl
            · exact HA.out i h' h
            · exact HS.out
          case measure => simp [intOf]; omega
      · go_wp2_with fail
        go_roundw
        case rel =>
          refine ⟨k + 1, by omega, by go_num, fun i hi h => ?_, hbel.alloc hbel.size _⟩
          rcases Nat.lt_succ_iff_lt_or_eq.1 hi with h' | rfl
          · exact HA.out i h' h
          · omega
        case measure => simp [intOf]; omega
    · obtain rfl : k = len := by omega
      go_wp2_with fail
      go_ret
      exact ExB.yes HA.out hbel


set_option maxHeartbeats 1000000 in
theorem is31x (A : Option Addr) (len cap : Nat) (bs : Nat → Bas) (s l c : Int) (w : World) (hm : len ≤ maxLen) (hr : Row w A len bs) (hwf : ∀ k, k < len → (bs k).Wf) (hl : U64 l) (hc : U64 c) :
    Calls Try.prog 31 #[.slice A len cap, .agg #[.int .i64 s, .int .u64 l, .int .u64 c]] w (ExB (Spot s l c len ∧ ∀ k : Nat, s = k → Within (bs k) l c) w) := by
  unfold maxLen at hm
  have H := Lib.hid hr
  have Hw := Lib.hid hwf
  have Hl := Lib.hid hl
  have Hc := Lib.hid hc
  clear hr hwf hl hc
  go_enter Try.func31, Try.ntmps31
  go_wp2_with fail
  refine (isSpot62x _ _ _ _ _).mono ?_
  rintro e w1 ⟨b', rfl, hsp, hb1⟩
  obtain ⟨hcc1, hff1⟩ := bcell hb1
  cases b'
  · have HN := Lib.hid (show ¬ Spot s l c len from (fun h => Bool.noConfusion (hsp.2 h)))
    clear hsp
    go_wp2_with fail
    go_ret
    exact ExB.no (fun h => HN.out h.1) (((Below.refl _ _).alloc (Nat.le_refl _) _).trans (hb1.mono (by simp)))
  · have HS := Lib.hid (hsp.1 rfl)
    obtain ⟨s0, s1, -, -⟩ := hsp.1 rfl
    clear hsp
    obtain ⟨k, rfl⟩ := Int.eq_ofNat_of_zero_le s0
    have hlt : k < len := by omega
    obtain ⟨b, off, rfl, hb, hc0, hc1, hc2, hc3, hc4, hc5, hc6⟩ := H.out k hlt
    obtain ⟨Wsl, Wsc, Wln, Wcl⟩ := Hw.out k hlt
    have hz : w.heap.size < w1.heap.size := by have := hb1.size; simp at this; omega
    have hend : Below w.heap.size w w1 := ((Below.refl _ _).alloc (Nat.le_refl _) _).trans (hb1.mono (by simp))
    obtain ⟨x, hx⟩ : ∃ x, bs k = x := ⟨_, rfl⟩
    rw [hx] at hc0 hc1 hc2 hc3 hc4 hc5 hc6 Wsl Wsc Wln Wcl
    have HE := Lib.hid hx
    clear hx
    have Wsl := Lib.hid Wsl
    have Wsc := Lib.hid Wsc
    have Wln := Lib.hid Wln
    have Wcl := Lib.hid Wcl
    by_cases hx : x.line = 0
    · have e1 : (x.line == 0) = true := by simp [hx]
      have HX := Lib.hid hx
      clear hx
      go_wp2_with fail
      go_ret
      refine ExB.yes ⟨HS.out, fun j hj => ?_⟩ (hend.alloc hend.size _)
      obtain rfl : k = j := by omega
      rw [HE.out]
      exact .inl HX.out
    · have e1 : (x.line == 0) = false := by simp [hx]
      have HNW := Lib.hid (fun (hh : Spot (k : Int) l c len ∧ ∀ j : Nat, (k : Int) = j → Within (bs j) l c) => (show (lim x.sl < lim l ∨ lim x.sl = lim l ∧ lim x.sc ≤ lim c) ∧ lim x.line + lim l - lim x.sl ≤ 1073741824 ∧ lim x.col + lim c ≤ 1073741824 from by
        have := hh.2 k rfl
        rw [HE.out] at this
        rcases this with h | h
        · exact absurd h hx
        · exact h))
      clear hx
      obtain ⟨a0, a1⟩ := lim_bd Hl.out
      obtain ⟨a2, a3⟩ := lim_bd Wsl.out
      obtain ⟨a4, a5⟩ := lim_bd Hc.out
      obtain ⟨a6, a7⟩ := lim_bd Wsc.out
      obtain ⟨a8, a9⟩ := lim_bd Wln.out
      obtain ⟨a10, a11⟩ := lim_bd Wcl.out
      have hends : Below w.heap.size w (w1.alloc (Obj.cells #[Value.string x.name, Value.bool x.trim, Value.int IntKind.i64 x.sb, Value.int IntKind.u64 x.sl, Value.int IntKind.u64 x.sc, Value.int IntKind.u64 x.line, Value.int IntKind.u64 x.col] 42)) := hend.alloc hend.size _
      by_cases h1 : lim l < lim x.sl
      · have HB1 := Lib.hid h1
        go_wp2_with fail
        go_quiet ((go_at_call 32; first | ((with_reducible refine (limitq _ _ Hl.out).mono ?_); rintro e w' ⟨rfl, rfl⟩; exact ⟨rfl, _, rfl⟩) | ((with_reducible refine (limitq _ _ Wsl.out).mono ?_); rintro e w' ⟨rfl, rfl⟩; exact ⟨rfl, _, rfl⟩)))
        go_wp2_with fail
        go_quiet (fail)
        go_wp2_with fail
        go_ret
        exact ExB.no (fun hh => by have h9 := (HNW.out hh).1; have := HB1.out; omega) (Below.drewN (Below.drewN hends _) _)
      · by_cases h2 : lim l = lim x.sl
        · have HQ := Lib.hid h2
          have e3 : (lim l == lim x.sl) = true := by simp [h2]
          have e2 : decide (lim l < lim x.sl) = false := by simpa using h1
          have g0 : lim x.sl ≤ lim l := by omega
          clear h2 h1
          by_cases h3 : lim c < lim x.sc
          · have HB3 := Lib.hid h3
            go_wp2_with fail
            go_quiet ((go_at_call 32; first | ((with_reducible refine (limitq _ _ Hl.out).mono ?_); rintro e w' ⟨rfl, rfl⟩; exact ⟨rfl, _, rfl⟩) | ((with_reducible refine (limitq _ _ Wsl.out).mono ?_); rintro e w' ⟨rfl, rfl⟩; exact ⟨rfl, _, rfl⟩)))
            go_wp2_with fail
            go_quiet ((go_at_call 32; first | ((with_reducible refine (limitq _ _ Hc.out).mono ?_); rintro e w' ⟨rfl, rfl⟩; exact ⟨rfl, _, rfl⟩) | ((with_reducible refine (limitq _ _ Wsc.out).mono ?_); rintro e w' ⟨rfl, rfl⟩; exact ⟨rfl, _, rfl⟩)))
            go_wp2_with fail
            go_ret
            exact ExB.no (fun hh => by have h9 := (HNW.out hh).1; have := HB3.out; have := HQ.out; omega) (Below.drewN (Below.drewN hends _) _)
          · have e4 : decide (lim c < lim x.sc) = false := by simpa using h3
            have h3' := Lib.hid h3
            clear h3
            have g1 := IntWalk.u64_in (lim x.line + lim l) ⟨by omega, by omega⟩
            have g2 := IntWalk.u64_in (lim x.line + lim l - lim x.sl) ⟨by omega, by omega⟩
            have g3 := IntWalk.u64_in (lim x.col + lim c) ⟨by omega, by omega⟩
            by_cases h4 : lim x.line + lim l - lim x.sl ≤ 1073741824
            · go_wp2_with fail
              go_quiet ((go_at_call 32; first | ((with_reducible refine (limitq _ _ Hl.out).mono ?_); rintro e w' ⟨rfl, rfl⟩; exact ⟨rfl, _, rfl⟩) | ((with_reducible refine (limitq _ _ Wsl.out).mono ?_); rintro e w' ⟨rfl, rfl⟩; exact ⟨rfl, _, rfl⟩)))
              go_wp2_with fail
              go_quiet ((go_at_call 32; first | ((with_reducible refine (limitq _ _ Hc.out).mono ?_); rintro e w' ⟨rfl, rfl⟩; exact ⟨rfl, _, rfl⟩) | ((with_reducible refine (limitq _ _ Wsc.out).mono ?_); rintro e w' ⟨rfl, rfl⟩; exact ⟨rfl, _, rfl⟩)))
              go_wp2_with fail
              simp only [World.drewN_drewN]
              go_quiet ((go_at_call 32; first | ((with_reducible refine (limitq _ _ Wln.out).mono ?_); rintro e w' ⟨rfl, rfl⟩; exact ⟨rfl, _, rfl⟩) | ((with_reducible refine (limitq _ _ Wcl.out).mono ?_); rintro e w' ⟨rfl, rfl⟩; exact ⟨rfl, _, rfl⟩) | ((with_reducible refine (limitq _ _ Hc.out).mono ?_); rintro e w' ⟨rfl, rfl⟩; exact ⟨rfl, _, rfl⟩)))
              go_wp2_with fail
              go_ret
              refine ExB.mk _ ⟨fun h => ⟨HS.out, fun j hj => ?_⟩, fun hh => decide_eq_true (HNW.out hh).2.2⟩ (Below.drewN (Below.drewN hends _) _)
              obtain rfl : k = j := by omega
              rw [HE.out]
              exact .inr ⟨.inr ⟨HQ.out.symm, by have := h3'.out; omega⟩, h4, of_decide_eq_true h⟩
            · have h4' : decide (lim x.line + lim l - lim x.sl ≤ 1073741824) = false := by simpa using h4
              have HB4 := Lib.hid h4
              go_wp2_with fail
              go_quiet ((go_at_call 32; first | ((with_reducible refine (limitq _ _ Hl.out).mono ?_); rintro e w' ⟨rfl, rfl⟩; exact ⟨rfl, _, rfl⟩) | ((with_reducible refine (limitq _ _ Wsl.out).mono ?_); rintro e w' ⟨rfl, rfl⟩; exact ⟨rfl, _, rfl⟩)))
              go_wp2_with fail
              go_quiet ((go_at_call 32; first | ((with_reducible refine (limitq _ _ Hc.out).mono ?_); rintro e w' ⟨rfl, rfl⟩; exact ⟨rfl, _, rfl⟩) | ((with_reducible refine (limitq _ _ Wsc.out).mono ?_); rintro e w' ⟨rfl, rfl⟩; exact ⟨rfl, _, rfl⟩)))
              go_wp2_with fail
              simp only [World.drewN_drewN]
              go_quiet ((go_at_call 32; first | ((with_reducible refine (limitq _ _ Wln.out).mono ?_); rintro e w' ⟨rfl, rfl⟩; exact ⟨rfl, _, rfl⟩) | ((with_reducible refine (limitq _ _ Wcl.out).mono ?_); rintro e w' ⟨rfl, rfl⟩; exact ⟨rfl, _, rfl⟩) | ((with_reducible refine (limitq _ _ Hc.out).mono ?_); rintro e w' ⟨rfl, rfl⟩; exact ⟨rfl, _, rfl⟩)))
              go_wp2_with fail
              go_ret
              exact ExB.no (fun hh => by have h8 := HB4.out; have h9 := (HNW.out hh).2.1; omega) (Below.drewN (Below.drewN hends _) _)
        · have e3 : (lim l == lim x.sl) = false := by simp [h2]
          have e2 : decide (lim l < lim x.sl) = false := by simpa using h1
          have g0 : lim x.sl < lim l := by omega
          have G0 := Lib.hid g0
          clear h2 h1
          have g1 := IntWalk.u64_in (lim x.line + lim l) ⟨by omega, by omega⟩
          have g2 := IntWalk.u64_in (lim x.line + lim l - lim x.sl) ⟨by omega, by omega⟩
          have g3 := IntWalk.u64_in (lim x.col + lim c) ⟨by omega, by omega⟩
          by_cases h4 : lim x.line + lim l - lim x.sl ≤ 1073741824
          · go_wp2_with fail
            go_quiet ((go_at_call 32; first | ((with_reducible refine (limitq _ _ Hl.out).mono ?_); rintro e w' ⟨rfl, rfl⟩; exact ⟨rfl, _, rfl⟩) | ((with_reducible refine (limitq _ _ Wsl.out).mono ?_); rintro e w' ⟨rfl, rfl⟩; exact ⟨rfl, _, rfl⟩)))
            go_wp2_with fail
            go_quiet (fail)
            go_wp2_with fail
            simp only [World.drewN_drewN]
            go_quiet ((go_at_call 32; first | ((with_reducible refine (limitq _ _ Wln.out).mono ?_); rintro e w' ⟨rfl, rfl⟩; exact ⟨rfl, _, rfl⟩) | ((with_reducible refine (limitq _ _ Wcl.out).mono ?_); rintro e w' ⟨rfl, rfl⟩; exact ⟨rfl, _, rfl⟩) | ((with_reducible refine (limitq _ _ Hc.out).mono ?_); rintro e w' ⟨rfl, rfl⟩; exact ⟨rfl, _, rfl⟩)))
            go_wp2_with fail
            go_ret
            refine ExB.mk _ ⟨fun h => ⟨HS.out, fun j hj => ?_⟩, fun hh => decide_eq_true (HNW.out hh).2.2⟩ (Below.drewN (Below.drewN hends _) _)
            obtain rfl : k = j := by omega
            rw [HE.out]
            exact .inr ⟨.inl G0.out, h4, of_decide_eq_true h⟩
          · have h4' : decide (lim x.line + lim l - lim x.sl ≤ 1073741824) = false := by simpa using h4
            have HB4 := Lib.hid h4
            go_wp2_with fail
            go_quiet ((go_at_call 32; first | ((with_reducible refine (limitq _ _ Hl.out).mono ?_); rintro e w' ⟨rfl, rfl⟩; exact ⟨rfl, _, rfl⟩) | ((with_reducible refine (limitq _ _ Wsl.out).mono ?_); rintro e w' ⟨rfl, rfl⟩; exact ⟨rfl, _, rfl⟩)))
            go_wp2_with fail
            go_quiet (fail)
            go_wp2_with fail
            simp only [World.drewN_drewN]
            go_quiet ((go_at_call 32; first | ((with_reducible refine (limitq _ _ Wln.out).mono ?_); rintro e w' ⟨rfl, rfl⟩; exact ⟨rfl, _, rfl⟩) | ((with_reducible refine (limitq _ _ Wcl.out).mono ?_); rintro e w' ⟨rfl, rfl⟩; exact ⟨rfl, _, rfl⟩) | ((with_reducible refine (limitq _ _ Hc.out).mono ?_); rintro e w' ⟨rfl, rfl⟩; exact ⟨rfl, _, rfl⟩)))
            go_wp2_with fail
            go_ret
            exact ExB.no (fun hh => by have h8 := HB4.out; have h9 := (HNW.out hh).2.1; omega) (Below.drewN (Below.drewN hends _) _)

set_option maxHeartbeats 1000000 in
theorem known11x (A : Option Addr) (len cap : Nat) (bs : Nat → Bas) (S : Option Addr) (n scap : Nat) (sp : Nat → Sp) (w : World) (hm : len ≤ maxLen) (hr : Row w A len bs) (hwf : ∀ k, k < len → (bs k).Wf) (hn : n ≤ 50) (hs : Spots w S n sp) (hsw : ∀ k, k < n → (sp k).Wf) :
    Calls Try.prog 11 #[.slice A len cap, .slice S n scap] w (ExB (Known len bs n sp) w) := by
  have hmm := Lib.hid hm
  unfold maxLen at hm
  have H := Lib.hid hr
  have HS := Lib.hid hs
  have Hw := Lib.hid hwf
  have Hsw := Lib.hid hsw
  clear hr hwf hs hsw
  by_cases hbig : 50 < len
  · go_enter Try.func11, Try.ntmps11
    go_wp2_with fail
    go_ret
    exact ExB.no (fun h => by have := h.1; omega) (Below.refl _ _)
  · go_enter Try.func11, Try.ntmps11
    go_wp2_with fail
    refine (are30x _ _ _ bs _ hmm.out H.out).mono ?_
    rintro e w1 ⟨b', rfl, hA, hb1⟩
    cases b'
    · have HN := Lib.hid (show ¬ Are len bs from (fun h => Bool.noConfusion (hA.2 h)))
      clear hA
      go_wp2_with fail
      go_ret
      exact ExB.no (fun h => HN.out h.2.1) hb1
    · have HA := Lib.hid (hA.1 rfl)
      clear hA
      go_wp2_with fail
      go_loopw [17] (fun i wr => ∃ k : Nat, k ≤ n ∧ i = .int .i64 k ∧ (∀ j, j < k → IsSp len bs (sp j)) ∧ Below w.heap.size w wr) (fun i _ => n - (intOf i).toNat)
      case atStart => exact ⟨0, Nat.zero_le _, rfl, fun i hi => by omega, hb1⟩
      case round =>
        obtain ⟨k, hk, rfl, hP, hbel⟩ := hrel
        have HP := Lib.hid hP
        clear hP
        by_cases hlt : k < n
        · obtain ⟨b, off, rfl, hb, hc0, hc1, hc2⟩ := HS.out k hlt
          obtain ⟨hcc, hff⟩ := bcell hbel
          go_wp2_with fail
          have hba : Below w.heap.size w (wr.alloc (Obj.cells #[Value.int IntKind.i64 (sp k).b, Value.int IntKind.u64 (sp k).l, Value.int IntKind.u64 (sp k).c] 29)) := hbel.alloc hbel.size _
          refine (is31x A len cap bs _ _ _ _ hmm.out (H.out.below hba) Hw.out (Hsw.out k hlt).l (Hsw.out k hlt).c).mono ?_
          rintro e w2 ⟨b', rfl, hI, hb2⟩
          have hb3 : Below w.heap.size w w2 := hba.trans (hb2.mono hba.size)
          cases b'
          · have HN := Lib.hid (show ¬ IsSp len bs (sp k) from (fun h => Bool.noConfusion (hI.2 h)))
            clear hI
            go_wp2_with fail
            go_ret
            exact ExB.no (fun h => HN.out (h.2.2 k hlt)) hb3
          · have HI := Lib.hid (hI.1 rfl)
            clear hI
            go_wp2_with fail
            go_roundw
            case rel =>
              refine ⟨k + 1, by omega, by go_num, fun i hi => ?_, hb3⟩
              rcases Nat.lt_succ_iff_lt_or_eq.1 hi with h' | rfl
              · exact HP.out i h'
              · exact HI.out
            case measure => simp [intOf]; omega
        · obtain rfl : k = n := by omega
          go_wp2_with fail
          go_ret
          exact ExB.yes ⟨by omega, HA.out, HP.out⟩ hbel

theorem known_yes (A : Option Addr) (len cap : Nat) (bs : Nat → Bas) (S : Option Addr) (n scap : Nat) (sp : Nat → Sp) (w : World) (hK : Known len bs n sp) (hm : len ≤ maxLen) (hr : Row w A len bs) (hwf : ∀ k, k < len → (bs k).Wf) (hn : n ≤ 50) (hs : Spots w S n sp) (hsw : ∀ k, k < n → (sp k).Wf) :
    Calls Try.prog 11 #[.slice A len cap, .slice S n scap] w fun e w' => e = .returned (.bool true) ∧ Below w.heap.size w w' :=
  (known11x A len cap bs S n scap sp w hm hr hwf hn hs hsw).mono fun e w' ⟨b, he, hb, hbel⟩ => ⟨by rw [he, hb.2 hK], hbel⟩
theorem known_no (A : Option Addr) (len cap : Nat) (bs : Nat → Bas) (S : Option Addr) (n scap : Nat) (sp : Nat → Sp) (w : World) (hK : ¬ Known len bs n sp) (hm : len ≤ maxLen) (hr : Row w A len bs) (hwf : ∀ k, k < len → (bs k).Wf) (hn : n ≤ 50) (hs : Spots w S n sp) (hsw : ∀ k, k < n → (sp k).Wf) :
    Calls Try.prog 11 #[.slice A len cap, .slice S n scap] w fun e w' => e = .returned (.bool false) ∧ Below w.heap.size w w' :=
  (known11x A len cap bs S n scap sp w hm hr hwf hn hs hsw).mono fun e w' ⟨b, he, hb, hbel⟩ => ⟨by
    cases b
    · exact he
    · exact absurd (hb.1 rfl) hK, hbel⟩
end Go.Proofs.Ytlmllpgebakhhaa.Pos
