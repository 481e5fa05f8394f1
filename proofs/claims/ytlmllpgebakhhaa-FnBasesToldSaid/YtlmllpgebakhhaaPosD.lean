/-
  Positions, part D: impl.bases makes the bases (contract; no statement is closed here).
-/
import Derived.Test.YtlmllpgebakhhaaPosC

namespace Go.Proofs.Ytlmllpgebakhhaa.Pos
open Go.RowKit
set_option linter.unusedVariables false

theorem Row.below' {w w' : World} {A : Option Addr} {len : Nat} {bs : Nat → Bas} (h : Row w A len bs) (hb : Below w.heap.size w w') : Row w' A len bs := fun k hk => by
  obtain ⟨b, off, e, hlt, h0, h1, h2, h3, h4, h5, h6⟩ := h k hk
  obtain ⟨hc, _⟩ := bcell hb
  exact ⟨b, off, e, Nat.lt_of_lt_of_le hlt hb.size, (hc _ _ hlt).trans h0, (hc _ _ hlt).trans h1, (hc _ _ hlt).trans h2, (hc _ _ hlt).trans h3, (hc _ _ hlt).trans h4, (hc _ _ hlt).trans h5, (hc _ _ hlt).trans h6⟩

theorem info69 : (Try.prog.info? 69).map (fun i => (i.zero, i.size, i.bytes)) = some (some (.pointer none), 1, 8) := by kernel_rfl

/-- The bases made: a slice of pointers to them. -/
def MadeB (w : World) (len : Nat) (bs : Nat → Bas) (e : Ending) (w' : World) : Prop :=
  ∃ (A : Option Addr) (cap : Nat) (p : Nat → Nat), e = .returned (.slice A len cap) ∧ Ptrs w' A len p ∧ MB w' bs p len ∧ Below w.heap.size w w'

theorem step_made {w wr wx w2 : World} {v0 v' : Value} {bs : Nat → Bas} {p : Nat → Nat} {k g : Nat} (HO : wr.ownsRow w.heap.size 69 1 v0 k (ptrList p k)) (HM : MB wr bs p k) (hbel : Below w.heap.size w wr)
    (hb4 : Below wr.heap.size wr wx) (hgz : wr.heap.size ≤ g) (hpb : PBlk wx g (some ⟨ext p k g (up bs k), 0, none⟩) (bs k).atL (bs k).atC (bs k).name (bs k).ln (bs k).cl (bs k).trim)
    (hA : ∀ i, i < k → up bs i ≤ i) (hup : up bs k ≤ k) (hgrow : wx.grownBy w2 v0.ownBlock) (hown2 : w2.ownsRow w.heap.size 69 1 v' (k + 1) (ptrList p k ++ [.pointer (some ⟨g, 0, none⟩)])) :
    w2.ownsRow w.heap.size 69 1 v' (k + 1) (ptrList (ext p k g) (k + 1)) ∧ MB w2 bs (ext p k g) (k + 1) ∧ Below w.heap.size w w2 := by
  have hox := owns_below HO hb4
  have hmx := HM.below hb4
  have hg2 : PBlk w2 g (some ⟨ext p k g (up bs k), 0, none⟩) (bs k).atL (bs k).atC (bs k).name (bs k).ln (bs k).cl (bs k).trim := (hgrow.block g hpb.lt (own_ne hox hpb)).trans hpb
  refine ⟨by rw [← ptrList_ext]; exact hown2, MB.ext HM (hmx.grown hgrow fun i hi => own_ne hox (hmx.blk i hi)) hA hup hgz hg2, ?_⟩
  refine (hbel.trans (hb4.mono hbel.size)).grown hgrow (Nat.le_trans hbel.size hb4.size) fun j hj => ?_
  rcases HO.2 with ⟨rfl, _⟩ | ⟨g', cap, cur, rfl, hle, _⟩
  · simp [Value.ownBlock] at hj
  · have : g' = j := by simpa [Value.ownBlock] using hj
    omega
theorem ptrs_of_own {w : World} {base n : Nat} {v : Value} {p : Nat → Nat} (h : w.ownsRow base 69 1 v n (ptrList p n)) : ∃ A cap, v = .slice A n cap ∧ Ptrs w A n p := by
  rcases h.2 with ⟨rfl, rfl⟩ | ⟨g, cap, cur, rfl, _, hh, _, _, hs, ht⟩
  · exact ⟨none, 0, rfl, fun k hk => by omega⟩
  · refine ⟨_, _, rfl, fun k hk => ⟨g, rfl, ?_, ?_⟩⟩
    · rcases Nat.lt_or_ge g w.heap.size with hlt | hge
      · exact hlt
      · rw [Array.getElem?_eq_none hge] at hh; cases hh
    · rw [cell_of_row w g k cur 69 (0, 0) hh]
      have e : (cur.toList.take (n * 1))[k]? = (ptrList p n)[k]? := by rw [ht]
      rw [List.getElem?_take_of_lt (by omega)] at e
      rw [Array.getElem?_toList] at e
      rw [e]
      unfold ptrList
      rw [List.getElem?_map, List.getElem?_range hk]
      rfl

theorem own_old {w : World} {base n : Nat} {e : TypeId} {size : Nat} {v : Value} {xs : List Value} (h : w.ownsRow base e size v n xs) : v.ownBlock ≠ some w.heap.size := by
  rcases h.2 with ⟨rfl, _⟩ | ⟨g', c', cur, rfl, _, hh, _⟩
  · simp [Value.ownBlock]
  · have hlt' : g' < w.heap.size := by
      rcases Nat.lt_or_ge g' w.heap.size with h | h
      · exact h
      · rw [Array.getElem?_eq_none h] at hh; cases hh
    simp [Value.ownBlock]
    omega

set_option maxHeartbeats 2000000 in
set_option maxRecDepth 100000 in
theorem bases34 (A : Option Addr) (len cap : Nat) (bs : Nat → Bas) (w : World) (hm : len ≤ 50) (hr : Row w A len bs) (hwf : ∀ k, k < len → (bs k).Wf) (hA : Are len bs) :
    Calls Try.prog 34 #[.slice A len cap] w (MadeB w len bs) := by
  have H := Lib.hid hr
  have HA := Lib.hid hA
  have Hw := Lib.hid hwf
  clear hr hA hwf
  obtain ⟨i0, hi0, hz0, hz1, hz2⟩ := info_parts info69
  go_enter Try.func34, Try.ntmps34
  go_wp2_with fail
  go_loopw [3, 9] (fun v i wr => ∃ (k : Nat) (p : Nat → Nat) (v0 : Value), v0 = v ∧ k ≤ len ∧ i = .int .i64 k ∧ wr.ownsRow w.heap.size 69 1 v0 k (ptrList p k) ∧ MB wr bs p k ∧ Below w.heap.size w wr) (fun _ i _ => len - (intOf i).toNat)
  case atStart =>
    refine ⟨0, fun _ => 0, _, rfl, Nat.zero_le _, rfl, ?_, ⟨fun i hi => by omega, fun i j _ hj => by omega⟩, ?_⟩
    · have h := World.ownsRow_made (base := w.heap.size) (e := 69) (size := 1) w #[] 0 (Nat.le_refl _) (Nat.zero_le _) rfl
      simpa [ptrList] using h
    · exact (Below.refl _ _).alloc (Nat.le_refl _) _
  case round =>
    obtain ⟨k, p, v0, rfl, hk, rfl, hown, hMB, hbel⟩ := hrel
    have HO := Lib.hid hown
    have HM := Lib.hid hMB
    clear hown hMB
    by_cases hlt : k < len
    · obtain ⟨b, off, rfl, hb, hc0, hc1, hc2, hc3, hc4, hc5, hc6⟩ := H.out k hlt
      obtain ⟨hcc, hff⟩ := bcell hbel
      by_cases hl : (bs k).line = 0
      · have e1 : ((bs k).line == 0) = true := by simp [hl]
        have HL := Lib.hid hl
        clear hl
        go_wp2_with fail
        refine (newFile63 _ _ _).mono ?_
        rintro e w1 ⟨g, rfl, hg, hpb, hb1⟩
        have hb2 : Below w.heap.size w w1 := (hbel.alloc hbel.size _).trans (hb1.mono (by simp; exact Nat.le_succ_of_le hbel.size))
        have hb3 : Below wr.heap.size wr w1 := ((Below.refl _ _).alloc (Nat.le_refl _) _).trans (hb1.mono (by simp))
        have hgz : wr.heap.size ≤ g := by have := hg; simp at this; omega
        go_wp2_with (at_builtin; refine wpList_append_own _ rfl (.tmp 16) (.tmp 22) 65 rfl w.heap.size 69 i0 (.pointer none) 1 8 Try.underlying65 hi0 hz0 hz1 hz2 rfl (by decide) v0 k (ptrList p k) rfl (owns_below HO.out (hb3.alloc hb3.size _)) ⟨w1.heap.size, 0, none⟩ 1 1 [.pointer (some ⟨g, 0, none⟩)] rfl rfl (cell_one_new _ _ _) (by simp [Value.oneCell']) (by unfold maxLen; omega) (by omega) (by simp; exact Nat.le_succ_of_le hb2.size) ?_; intro v' w2 hown2 hgrow _)
        go_roundw
        case rel =>
          have hpb' : PBlk (w1.alloc (Obj.cells #[Value.pointer (some { block := g, off := 0 })] 69)) g (some ⟨ext p k g (up bs k), 0, none⟩) (bs k).atL (bs k).atC (bs k).name (bs k).ln (bs k).cl (bs k).trim := by
            have e0 : up bs k = k := by unfold up; rw [if_pos HL.out]
            have e5 : ext p k g k = g := by simp [ext]
            rw [e0, e5]
            unfold Bas.atL Bas.atC Bas.ln Bas.cl
            rw [if_pos HL.out, if_pos HL.out, if_pos HL.out, if_pos HL.out]
            exact hpb.below ((Below.refl _ _).alloc (Nat.le_refl _) _)
          obtain ⟨r1, r2, r3⟩ := step_made HO.out HM.out hbel (hb3.alloc hb3.size _) hgz hpb' (fun i hi => up_le HA.out Hw.out i (by omega)) (up_le HA.out Hw.out k hlt) hgrow hown2
          exact ⟨k + 1, ext p k g, v', rfl, by omega, by go_num, r1, r2, r3⟩
        case measure => simp [intOf]; omega
      · have e1 : ((bs k).line == 0) = false := by simp [hl]
        have HL := Lib.hid hl
        have hWk := Hw.out k hlt
        have hlp : 0 < (bs k).line := by have := hWk.line.1; omega
        obtain ⟨s0, s1, _, _⟩ := HA.out k hlt hlp
        obtain ⟨m, hm'⟩ := Int.eq_ofNat_of_zero_le s0
        have HMm := Lib.hid hm'
        rw [hm'] at hc2
        have hmk : m < k := by omega
        have Wsl := Lib.hid hWk.sl
        have Wsc := Lib.hid hWk.sc
        have Wln := Lib.hid hWk.line
        have Wcl := Lib.hid hWk.col
        clear hl s0 s1 hm' hlp hWk
        obtain ⟨A', cap', rfl, hP⟩ := ptrs_of_own HO.out
        have HP := Lib.hid hP
        clear hP
        go_wp2_with fail
        go_region_held3 (fun w' => w'.cell? ⟨wr.heap.size, 0, none⟩ = some (.string (bs k).name) ∧ w'.cell? ⟨wr.heap.size, 1, none⟩ = some (.bool (bs k).trim) ∧ w'.cell? ⟨wr.heap.size, 2, none⟩ = some (.int .i64 m) ∧ w'.cell? ⟨wr.heap.size, 3, none⟩ = some (.int .u64 (bs k).sl) ∧ w'.cell? ⟨wr.heap.size, 4, none⟩ = some (.int .u64 (bs k).sc) ∧ w'.cell? ⟨wr.heap.size, 5, none⟩ = some (.int .u64 (bs k).line) ∧ w'.cell? ⟨wr.heap.size, 6, none⟩ = some (.int .u64 (bs k).col)) (go_simp)
          (first
            | (go_at_call 36
               refine (spot36 A' k cap' p m _ _ _ (by omega) (by exact HP.out.below (by repeat (first | exact Below.refl _ _ | refine Below.drew ?_ | refine Below.alloc ?_ (by simp <;> omega) _))) hmk Wsl.out Wsc.out).mono ?_
               rintro e w1 ⟨rfl, hb1⟩
               obtain ⟨hcc1, hff1⟩ := bcell hb1
               have hq1 : wr.heap.size < w1.heap.size := by have := hb1.size; simp at this; omega
               have hbw1 := (show Below wr.heap.size wr _ from (by repeat (first | exact Below.refl _ _ | refine Below.drew ?_ | refine Below.alloc ?_ (by simp <;> omega) _))).trans (hb1.mono (by simp <;> omega)))
            | (go_at_call 64
               refine (newLine64 _ _ _ _ _ _ _ _ Wln.out Wcl.out).mono ?_
               rintro e w2 ⟨g, rfl, hg, hpb, hb2⟩
               obtain ⟨hcc2, hff2⟩ := bcell hb2
               have hgz : wr.heap.size < g := Nat.lt_of_lt_of_le (by have := hb1.size; simp at this; omega) hg
               have hbw2 : Below wr.heap.size wr w2 := hbw1.trans (hb2.mono (by exact hbw1.size))
               have hq2 : wr.heap.size < w2.heap.size := Nat.lt_of_lt_of_le (by have := hb1.size; simp at this; omega) hb2.size)
            | (refine step_append_lies _ (by rfl) (.tmp 24) (.tmp 38) 65 (by rfl) w.heap.size 69 i0 (.pointer none) 1 8 Try.underlying65 hi0 hz0 hz1 hz2 rfl (by decide) (.slice A' k cap') k (ptrList p k) (by rfl) (owns_below HO.out (hbw2.alloc hbw2.size _)) ⟨w2.heap.size, 0, none⟩ 1 1 [.pointer (some ⟨g, 0, none⟩)] (by rfl) (by rfl) (cell_one_new _ _ _) (by simp [Value.oneCell']) (by decide) (by unfold maxLen; omega) (by omega) (by have := hbw2.size; have := hbel.size; simp; omega) (w2.heap.size + 1) (by simp) ?_
               intro gg cc w3 hown3 hgrow hat hlt3
               have hcc3 : ∀ o, w3.cell? ⟨wr.heap.size, o, none⟩ = w2.cell? ⟨wr.heap.size, o, none⟩ := (fun o => by rw [hgrow.cell_far _ (by simp; omega) (Ne.symm (own_old HO.out))]; go_simp)))
        all_goals
          go_wp2_with fail
          go_roundw
          case rel =>
            have hpb' : PBlk (w2.alloc (Obj.cells #[Value.pointer (some { block := g, off := 0 })] 69)) g (some ⟨ext p k g (up bs k), 0, none⟩) (bs k).atL (bs k).atC (bs k).name (bs k).ln (bs k).cl (bs k).trim := by
              have e0 : up bs k = m := by unfold up; rw [if_neg HL.out, HMm.out, Int.toNat_natCast]
              have e5 : ext p k g m = p m := by simp [ext]; omega
              rw [e0, e5]
              unfold Bas.atL Bas.atC Bas.ln Bas.cl
              rw [if_neg HL.out, if_neg HL.out, if_neg HL.out, if_neg HL.out]
              exact hpb.below ((Below.refl _ _).alloc (Nat.le_refl _) _)
            obtain ⟨r1, r2, r3⟩ := step_made HO.out HM.out hbel (hbw2.alloc hbw2.size _) (Nat.le_of_lt hgz) hpb' (fun i hi => up_le HA.out Hw.out i (by omega)) (up_le HA.out Hw.out k hlt) hgrow hown3
            exact ⟨k + 1, ext p k g, _, rfl, by omega, by go_num, r1, r2, r3⟩
          case measure => simp [intOf]; omega
    · obtain rfl : k = len := by omega
      obtain ⟨A', cap', rfl, hP⟩ := ptrs_of_own HO.out
      go_wp2_with fail
      go_ret
      exact ⟨A', cap', p, rfl, hP, HM.out, hbel⟩
end Go.Proofs.Ytlmllpgebakhhaa.Pos
