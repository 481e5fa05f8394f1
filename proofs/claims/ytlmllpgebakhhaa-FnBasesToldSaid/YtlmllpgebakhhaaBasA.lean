/-
  What bases tell: impl.TellBases (contract; no statement is closed here).
-/
import Derived.Test.YtlmllpgebakhhaaPosD
import Derived.Test.YtlmllpgebakhhaaPosF
import Derived.Test.YtlmllpgebakhhaaPosI
import Derived.Maps.AppendAt
namespace Go.Proofs.Ytlmllpgebakhhaa.Pos
open Go.RowKit
set_option linter.unusedVariables false

theorem isFile44x (bs : Nat → Bas) (len : Nat) (p : Nat → Nat) (k : Nat) (w : World) (hM : MB w bs p len) (hA : Are len bs) (hwf : ∀ k, k < len → (bs k).Wf) (hk : k < len) :
    Calls Try.prog 44 #[.pointer (some ⟨p k, 0, none⟩)] w fun e w' => e = .returned (.bool (decide ((bs k).line = 0))) ∧ w = w' := by
  have hP := hM.blk k hk
  unfold PB at hP
  by_cases hl : (bs k).line = 0
  · have e0 : up bs k = k := by unfold up; rw [if_pos hl]
    rw [e0] at hP
    rw [decide_eq_true hl]
    exact isFile44_yes (p k) _ _ _ _ _ _ w hP
  · obtain ⟨-, r2⟩ := root_of_line hA hwf hk hl
    have hinc := hM.inc _ _ r2 hk
    have hP2 := hM.blk (up bs k) (by omega)
    rw [decide_eq_false hl]
    exact isFile44_no (p k) (p (up bs k)) (by omega) _ _ _ _ _ _ w hP _ _ hP2

/-- A slice of pointers to bases, in a block that v does not own. -/
def PtrsS (w : World) (A : Option Addr) (n : Nat) (p : Nat → Nat) (v : Value) : Prop :=
  ∀ k, k < n → ∃ g, A = some ⟨g, 0, none⟩ ∧ g < w.heap.size ∧ w.cell? ⟨g, k, none⟩ = some (.pointer (some ⟨p k, 0, none⟩)) ∧ v.ownBlock ≠ some g
theorem PtrsS.step {w wx w' : World} {A : Option Addr} {n : Nat} {p : Nat → Nat} {v v' : Value} (h : PtrsS w A n p v) (hb : Below w.heap.size w wx) (hg : wx.grownBy w' v.ownBlock) (hv : v'.ownBlock = v.ownBlock ∨ v'.ownBlock = some wx.heap.size) : PtrsS w' A n p v' := fun k hk => by
  obtain ⟨g, e, hlt, h0, hne⟩ := h k hk
  have hlt' : g < wx.heap.size := Nat.lt_of_lt_of_le hlt hb.size
  refine ⟨g, e, Nat.lt_of_lt_of_le hlt' hg.size, ?_, ?_⟩
  · rw [hg.cell_far _ hlt' (fun e => hne e.symm), (bcell hb).1 _ _ hlt]; exact h0
  · rcases hv with hv | hv
    · rw [hv]; exact hne
    · rw [hv]; intro e; injection e with e; omega

def btList (bs : Nat → Bas) (n : Nat) : List Value := (List.range n).flatMap fun j => (baseTold (bs j)).toList
theorem btList_succ (bs : Nat → Bas) (k : Nat) : btList bs k ++ (baseTold (bs k)).toList = btList bs (k + 1) := by
  unfold btList
  rw [List.range_succ, List.flatMap_append]
  simp
theorem btList_len (bs : Nat → Bas) (k : Nat) : (btList bs k).length = k * 7 := by
  induction k with
  | zero => rfl
  | succ k ih => rw [← btList_succ, List.length_append, ih]; simp [baseTold]; omega
theorem btList_get (bs : Nat → Bas) (n k i : Nat) (hk : k < n) (hi : i < 7) : (btList bs n)[k * 7 + i]? = (baseTold (bs k))[i]? := by
  induction n with
  | zero => omega
  | succ n ih =>
    rw [← btList_succ]
    rcases Nat.lt_succ_iff_lt_or_eq.1 hk with h | rfl
    · rw [List.getElem?_append_left (by rw [btList_len]; omega)]
      exact ih h
    · rw [List.getElem?_append_right (by rw [btList_len]; omega), btList_len]
      have e : k * 7 + i - k * 7 = i := by omega
      rw [e, Array.getElem?_toList]

/-- A slice of what bases tell. -/
def TRow (w : World) (A : Option Addr) (n : Nat) (bs : Nat → Bas) : Prop :=
  ∀ k, k < n → ∃ g, A = some ⟨g, 0, none⟩ ∧ g < w.heap.size ∧ ∀ i, i < 7 → w.cell? ⟨g, k * 7 + i, none⟩ = (baseTold (bs k))[i]?
theorem TRow.below {w w' : World} {A : Option Addr} {n : Nat} {bs : Nat → Bas} (h : TRow w A n bs) (hb : Below w.heap.size w w') : TRow w' A n bs := fun k hk => by
  obtain ⟨g, e, hlt, h0⟩ := h k hk
  exact ⟨g, e, Nat.lt_of_lt_of_le hlt hb.size, fun i hi => ((bcell hb).1 _ _ hlt).trans (h0 i hi)⟩
theorem trow_of_own {w : World} {base n : Nat} {v : Value} {bs : Nat → Bas} (h : w.ownsRow base 44 7 v n (btList bs n)) : ∃ A cap, v = .slice A n cap ∧ TRow w A n bs := by
  rcases h.2 with ⟨rfl, rfl⟩ | ⟨g, cap, cur, rfl, _, hh, _, _, hs, ht⟩
  · exact ⟨none, 0, rfl, fun k hk => by omega⟩
  · refine ⟨_, _, rfl, fun k hk => ⟨g, rfl, ?_, fun i hi => ?_⟩⟩
    · rcases Nat.lt_or_ge g w.heap.size with hlt | hge
      · exact hlt
      · rw [Array.getElem?_eq_none hge] at hh; cases hh
    · rw [cell_of_row w g (k * 7 + i) cur 44 (0, 0) hh]
      have e : (cur.toList.take (n * 7))[k * 7 + i]? = (btList bs n)[k * 7 + i]? := by rw [ht]
      rw [List.getElem?_take_of_lt (by omega), Array.getElem?_toList, btList_get bs n k i hk hi] at e
      exact e

theorem info44 : (Try.prog.info? 44).map (fun i => (i.zero, i.size, i.bytes)) = some (some (.agg #[.string ⟨#[]⟩, .int .u64 0, .int .u64 0, .bool false, .bool false, .int .u64 0, .int .u64 0]), 7, 56) := by kernel_rfl

/-- What bases tell: a slice of it. -/
def ToldB (w : World) (len : Nat) (bs : Nat → Bas) (e : Ending) (w' : World) : Prop :=
  ∃ (A : Option Addr) (cap : Nat), e = .returned (.slice A len cap) ∧ TRow w' A len bs ∧ Below w.heap.size w w'

/-- A row of what bases tell and a block of a base are never one. -/
theorem own_ne44 {w : World} {base n : Nat} {v : Value} {xs : List Value} (h : w.ownsRow base 44 7 v n xs) {k : Nat} {A : Option Addr} {l0 c0 l c : Int} {name : ByteArray} {t : Bool} (hk : PBlk w k A l0 c0 name l c t) : some k ≠ v.ownBlock := by
  rcases h.2 with ⟨rfl, _⟩ | ⟨g, cap, cur, rfl, _, hh, _⟩
  · simp [Value.ownBlock]
  · intro he
    have : k = g := by simpa [Value.ownBlock] using he
    subst this
    unfold PBlk at hk
    rw [hk] at hh
    injection hh with hh
    injection hh with _ ht
    exact absurd ht (by decide)

set_option maxHeartbeats 4000000 in
set_option maxRecDepth 100000 in
theorem tellBases14 (A : Option Addr) (len cap : Nat) (bs : Nat → Bas) (w : World) (hm : len ≤ 50) (hr : Row w A len bs) (hwf : ∀ k, k < len → (bs k).Wf) (hA : Are len bs) :
    Calls Try.prog 14 #[.slice A len cap] w (ToldB w len bs) := by
  have H := Lib.hid hr
  have HA := Lib.hid hA
  have Hw := Lib.hid hwf
  clear hr hA hwf
  obtain ⟨i0, hi0, hz0, hz1, hz2⟩ := info_parts info44
  have hbx : Below w.heap.size w (w.alloc (Obj.cells #[] 44)) := (Below.refl _ _).alloc (Nat.le_refl _) _
  go_enter Try.func14, Try.ntmps14
  go_wp2_with fail
  refine (bases34 A len cap bs _ hm (H.out.below hbx) Hw.out HA.out).mono ?_
  rintro e w1 ⟨A1, cap1, p, rfl, hP, hM, hb1⟩
  have hbw1 : Below w.heap.size w w1 := hbx.trans (hb1.mono hbx.size)
  have HP : Hid (PtrsS w1 A1 len p (.slice (some ⟨w.heap.size, 0, none⟩) 0 0)) := Lib.hid (fun k hk => by
    obtain ⟨g, e, hlt, h0⟩ := hP k hk
    refine ⟨g, e, hlt, h0, ?_⟩
    intro he
    have he : w.heap.size = g := by simpa [Value.ownBlock] using he
    subst he
    have hh : w1.heap[w.heap.size]? = some (.cells #[] 44 (0, 0)) := (hb1.block w.heap.size (by simp)).trans (heap_alloc_new w _)
    rw [cell_of_row w1 _ k #[] 44 (0, 0) hh] at h0
    simp at h0)
  have HO1 := Lib.hid (show w1.ownsRow w.heap.size 44 7 (.slice (some ⟨w.heap.size, 0, none⟩) 0 0) 0 (btList bs 0) from by
    have h := World.ownsRow_made (base := w.heap.size) (e := 44) (size := 7) w #[] 0 (Nat.le_refl _) (Nat.zero_le _) rfl
    have h2 := owns_below (w' := w1) h hb1
    simpa [btList] using h2)
  have HM := Lib.hid hM
  clear hP hM hb1
  go_wp2_with fail
  go_loopw [3, 10] (fun v i wr => ∃ (k : Nat) (v0 : Value), v0 = v ∧ k ≤ len ∧ i = .int .i64 k ∧ wr.ownsRow w.heap.size 44 7 v0 k (btList bs k) ∧ PtrsS wr A1 len p v0 ∧ MB wr bs p len ∧ Below w.heap.size w wr) (fun _ i _ => len - (intOf i).toNat)
  case atStart => exact ⟨0, _, rfl, Nat.zero_le _, rfl, HO1.out, HP.out, HM.out, hbw1⟩
  case round =>
    obtain ⟨k, v0, rfl, hk, rfl, hown, hPS, hMB, hbel⟩ := hrel
    have HO := Lib.hid hown
    have HPS := Lib.hid hPS
    have HMB := Lib.hid hMB
    clear hown hPS hMB HP HO1 HM hbw1 hbx
    by_cases hlt : k < len
    · obtain ⟨g, hg, hgl, hgc, -⟩ := HPS.out k hlt
      subst hg
      obtain ⟨n0, n1, n2, n3, n4, n5, n6, n7⟩ := Bas.bounds (bs k) (Hw.out k hlt)
      have HB := Lib.hid (HMB.out.blk k hlt)
      unfold PB at HB
      generalize hup : p (up bs k) = u at HB
      clear hup
      have F44 := Lib.hid (isFile44x bs len p k wr HMB.out HA.out Hw.out hlt)
      generalize hd : decide ((bs k).line = 0) = d at F44
      have HD := Lib.hid hd
      clear hd
      go_wp2_with fail
      with_reducible refine (filename41 _ _ _ _ _ _ _ _ _ HB.out).mono ?_
      rintro e w' ⟨rfl, rfl⟩
      go_wp2_with fail
      with_reducible refine (line42 _ _ _ _ _ _ _ _ _ HB.out (by omega) (by omega)).mono ?_
      rintro e w' ⟨rfl, rfl⟩
      go_wp2_with fail
      with_reducible refine (col43 _ _ _ _ _ _ _ _ _ HB.out (by omega) (by omega)).mono ?_
      rintro e w' ⟨rfl, rfl⟩
      go_wp2_with fail
      with_reducible refine F44.out.mono ?_
      rintro e w' ⟨rfl, rfl⟩
      go_wp2_with fail
      with_reducible refine (trimmed45 _ _ _ _ _ _ _ _ _ HB.out).mono ?_
      rintro e w' ⟨rfl, rfl⟩
      go_wp2_with fail
      with_reducible refine (pos46 _ _ _ _ _ _ _ _ _ HB.out).mono ?_
      rintro e w2 ⟨rfl, hb2⟩
      go_wp2_with fail
      with_reducible refine (line39 _ _ _ _ (by omega) (by omega)).mono ?_
      rintro e w3 ⟨rfl, hb3⟩
      have hb23 := hb2.trans (hb3.mono hb2.size)
      go_wp2_with fail
      with_reducible refine (pos46 _ _ _ _ _ _ _ _ _ (HB.out.below hb23)).mono ?_
      rintro e w4 ⟨rfl, hb4⟩
      have hb24 := hb23.trans (hb4.mono hb23.size)
      go_wp2_with fail
      with_reducible refine (col40 _ _ _ _ (by omega) (by omega)).mono ?_
      rintro e w5 ⟨rfl, hb5⟩
      have hb25 : Below wr.heap.size wr w5 := hb24.trans (hb5.mono hb24.size)
      have hbw5 : Below w.heap.size w w5 := hbel.trans (hb25.mono hbel.size)
      clear hb2 hb3 hb23 hb4 hb24 hb5
      go_wp2_with (at_builtin; refine wpList_append_own_at _ rfl (.tmp 14) (.tmp 32) 39 rfl w.heap.size 44 i0 (.agg #[.string ⟨#[]⟩, .int .u64 0, .int .u64 0, .bool false, .bool false, .int .u64 0, .int .u64 0]) 7 56 Try.underlying39 hi0 hz0 hz1 hz2 rfl (by decide) v0 k (btList bs k) rfl (owns_below HO.out (hb25.alloc hb25.size _)) ⟨w5.heap.size, 0, none⟩ 1 1 (#[.string (bs k).name, .int .u64 (bs k).ln, .int .u64 (bs k).cl, .bool d, .bool (bs k).trim, .int .u64 (bs k).atL, .int .u64 (bs k).atC] : Array Value).toList rfl rfl (World.news_of_block (heap_alloc_new _ _)) (by simp [Value.oneCell']) (by unfold maxLen; omega) (by omega) (by simp; exact Nat.le_succ_of_le hbw5.size) ?_; intro v' w6 hown6 hgrow _ hat)
      go_roundw
      case rel =>
        have hbx := hb25.alloc hb25.size (Obj.cells #[Value.string (bs k).name, Value.int IntKind.u64 (bs k).ln, Value.int IntKind.u64 (bs k).cl, Value.bool d, Value.bool (bs k).trim, Value.int IntKind.u64 (bs k).atL, Value.int IntKind.u64 (bs k).atC] 44)
        have hox := owns_below HO.out hbx
        have hmx := HMB.out.below hbx
        have e7 : (#[Value.string (bs k).name, Value.int IntKind.u64 (bs k).ln, Value.int IntKind.u64 (bs k).cl, Value.bool d, Value.bool (bs k).trim, Value.int IntKind.u64 (bs k).atL, Value.int IntKind.u64 (bs k).atC] : Array Value) = baseTold (bs k) := by
          unfold baseTold
          rw [HD.out]
        rw [e7, btList_succ] at hown6
        refine ⟨k + 1, v', rfl, by omega, by go_num, hown6, HPS.out.step hbx hgrow hat, hmx.grown hgrow (fun i hi => own_ne44 hox (hmx.blk i hi)), ?_⟩
        refine (hbel.trans (hbx.mono hbel.size)).grown hgrow (Nat.le_trans hbel.size hbx.size) fun j hj => ?_
        rcases HO.out.2 with ⟨rfl, _⟩ | ⟨g', cap', cur, rfl, hle, _⟩
        · simp [Value.ownBlock] at hj
        · have : g' = j := by simpa [Value.ownBlock] using hj
          omega
      case measure => simp [intOf]; omega
    · obtain rfl : k = len := by omega
      obtain ⟨A', cap', rfl, hT⟩ := trow_of_own HO.out
      have HT := Lib.hid hT
      clear hT
      go_wp2_with fail
      go_ret
      exact ⟨A', cap', rfl, HT.out, hbel⟩
end Go.Proofs.Ytlmllpgebakhhaa.Pos
