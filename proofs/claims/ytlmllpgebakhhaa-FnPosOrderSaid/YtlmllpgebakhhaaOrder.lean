/-
  FnPosOrder: for every list of bases and every three positions the law answers true (the first line of a file is before the second one; what is before another one is not behind it; what is before one that is before a third one is before the third one). Conditions: none beyond the given row's.
-/
import Derived.Test.YtlmllpgebakhhaaPosG
import Derived.Test.YtlmllpgebakhhaaPosH
import Derived.Test.YtlmllpgebakhhaaOrdA
import Derived.OpenShut
import Derived.BigQuiet
import Derived.ShutString
import Derived.ChangeOld
namespace Go.Proofs.Ytlmllpgebakhhaa.Pos
open Go.RowKit
set_option linter.unusedVariables false

def nth3 (x y z : Sp) (k : Nat) : Sp := if k = 0 then x else if k = 1 then y else z
theorem spots_three {w : World} (x y z : Sp) (g : Nat) (h : w.heap[g]? = some (.cells #[.int .i64 x.b, .int .u64 x.l, .int .u64 x.c, .int .i64 y.b, .int .u64 y.l, .int .u64 y.c, .int .i64 z.b, .int .u64 z.l, .int .u64 z.c] 29 (0, 0))) :
    Spots w (some ⟨g, 0, none⟩) 3 (nth3 x y z) := by
  have hlt : g < w.heap.size := by
    rcases Nat.lt_or_ge g w.heap.size with hlt | hge
    · exact hlt
    · rw [Array.getElem?_eq_none hge] at h; cases h
  intro k hk
  refine ⟨g, 0, rfl, hlt, ?_⟩
  match k, hk with
  | 0, _ => exact ⟨cell_of_row w g 0 _ _ _ h, cell_of_row w g 1 _ _ _ h, cell_of_row w g 2 _ _ _ h⟩
  | 1, _ => exact ⟨cell_of_row w g 3 _ _ _ h, cell_of_row w g 4 _ _ _ h, cell_of_row w g 5 _ _ _ h⟩
  | 2, _ => exact ⟨cell_of_row w g 6 _ _ _ h, cell_of_row w g 7 _ _ _ h, cell_of_row w g 8 _ _ _ h⟩

theorem ov_of (B : Nat) (w5 : World) : ∃ ov : World → World, (∀ u, Below B w5 (ov u)) ∧ (∀ u, Below B w5 u → ov u = u) := by
  classical
  refine ⟨fun u => if Below B w5 u then u else w5, fun u => ?_, fun u h => if_pos h⟩
  dsimp only
  split
  · assumption
  · exact Below.refl _ _
theorem wp_region_ov {P : Program} {id : Nat} {Q : Exit → Act → World → Prop} {a : Act} {w : World} {l : List Oper} (ov : World → World) (hm : P.follows .mixedOrders = true) (hB : Region.lexB .any l.toArray = true) (hC : ∃ u, w.drew = ov u)
    (h : wpQuiet P l.toArray (fun w' => ∃ u, w' = ov u) (fun a' => ∀ w', (∃ u, w' = ov u) → Q .normal a' w') l a) : (Code.region id l.toArray true).wp P Q a w :=
  wp_region_quiet (C := fun w' => ∃ u, w' = ov u) hm hB hC (by simpa using h)

set_option maxRecDepth 20000 in
set_option maxHeartbeats 8000000 in
theorem law7 (A : Option Addr) (len cap : Nat) (bs : Nat → Bas) (x y z : Sp) (w : World) (hm : len ≤ maxLen) (hr : Row w A len bs) (hwf : ∀ k, k < len → (bs k).Wf) (hx : x.Wf) (hy : y.Wf) (hz : z.Wf) :
    Calls Try.prog 7 #[.slice A len cap, .agg #[.int .i64 x.b, .int .u64 x.l, .int .u64 x.c], .agg #[.int .i64 y.b, .int .u64 y.l, .int .u64 y.c], .agg #[.int .i64 z.b, .int .u64 z.l, .int .u64 z.c]] w fun e w' => e = .returned (.bool true) ∧ Below w.heap.size w w' := by
  have HR := Lib.hid hr
  have HW := Lib.hid hwf
  have HX := Lib.hid hx
  have HY := Lib.hid hy
  have HZ := Lib.hid hz
  have HM := Lib.hid hm
  clear hr hwf hx hy hz hm
  obtain ⟨xb, xl, xc⟩ := x
  obtain ⟨yb, yl, yc⟩ := y
  obtain ⟨zb, zl, zc⟩ := z
  go_enter Try.func7, Try.ntmps7
  go_wp2_with fail
  refine (fits10 A len cap bs _ HM.out (HR.out.below (by repeat (first | exact Below.refl _ _ | refine Below.alloc ?_ (by simp <;> omega) _)))).mono ?_
  rintro e w1 ⟨b1, rfl, -, hb1⟩
  have hs1 : w.heap.size + 2 < w1.heap.size := by have := hb1.size; simp at this; omega
  have hs1' : w.heap.size + 1 < w1.heap.size := by omega
  have hs1'' : w.heap.size < w1.heap.size := by omega
  obtain ⟨hcc1, -⟩ := bcell hb1
  have hbw1 : Below w.heap.size w w1 := (show Below w.heap.size w _ from (by repeat (first | exact Below.refl _ _ | refine Below.alloc ?_ (by simp <;> omega) _))).trans (hb1.mono (by simp <;> omega))
  cases b1
  · go_wp2_with fail
    go_ret
    exact ⟨rfl, hbw1⟩
  · go_wp2_with fail
    refine (known11 A len cap bs (some ⟨w1.heap.size, 0, none⟩) 3 3 (nth3 ⟨xb, xl, xc⟩ ⟨yb, yl, yc⟩ ⟨zb, zl, zc⟩) _ HM.out (HR.out.below (hbw1.alloc hbw1.size _)) HW.out (by decide) (spots_three ⟨xb, xl, xc⟩ ⟨yb, yl, yc⟩ ⟨zb, zl, zc⟩ w1.heap.size (heap_alloc_new _ _)) (fun k hk => by
      match k, hk with
      | 0, _ => exact HX.out
      | 1, _ => exact HY.out
      | 2, _ => exact HZ.out)).mono ?_
    rintro e w2 ⟨b2, rfl, hK, hb2⟩
    have hs2 : w.heap.size + 1 + 1 < w2.heap.size := by have := hb2.size; simp at this; omega
    have hs2' : w.heap.size + 1 < w2.heap.size := by omega
    have hs2'' : w.heap.size < w2.heap.size := by omega
    have hp2 : ∀ o, w2.cell? ⟨w.heap.size, o, none⟩ = w1.cell? ⟨w.heap.size, o, none⟩ := fun o => ((bcell hb2).1 _ o (by simp; omega)).trans (World.cell?_alloc_lt _ _ _ (by simp; omega))
    have hq2 : ∀ o, w2.cell? ⟨w.heap.size + 1, o, none⟩ = w1.cell? ⟨w.heap.size + 1, o, none⟩ := fun o => ((bcell hb2).1 _ o (by simp; omega)).trans (World.cell?_alloc_lt _ _ _ (by simp; omega))
    have hr2 : ∀ o, w2.cell? ⟨w.heap.size + 1 + 1, o, none⟩ = w1.cell? ⟨w.heap.size + 1 + 1, o, none⟩ := fun o => ((bcell hb2).1 _ o (by simp; omega)).trans (World.cell?_alloc_lt _ _ _ (by simp; omega))
    have hX0 : w2.cell? ⟨w.heap.size, 0, none⟩ = some (.int .i64 xb) := by rw [hp2, hcc1 _ _ (by simp <;> omega)]; go_simp
    have hX1 : w2.cell? ⟨w.heap.size, 1, none⟩ = some (.int .u64 xl) := by rw [hp2, hcc1 _ _ (by simp <;> omega)]; go_simp
    have hX2 : w2.cell? ⟨w.heap.size, 2, none⟩ = some (.int .u64 xc) := by rw [hp2, hcc1 _ _ (by simp <;> omega)]; go_simp
    have hY0 : w2.cell? ⟨w.heap.size + 1, 0, none⟩ = some (.int .i64 yb) := by rw [hq2, hcc1 _ _ (by simp <;> omega)]; go_simp
    have hY1 : w2.cell? ⟨w.heap.size + 1, 1, none⟩ = some (.int .u64 yl) := by rw [hq2, hcc1 _ _ (by simp <;> omega)]; go_simp
    have hY2 : w2.cell? ⟨w.heap.size + 1, 2, none⟩ = some (.int .u64 yc) := by rw [hq2, hcc1 _ _ (by simp <;> omega)]; go_simp
    have hZ0 : w2.cell? ⟨w.heap.size + 1 + 1, 0, none⟩ = some (.int .i64 zb) := by rw [hr2, hcc1 _ _ (by simp <;> omega)]; go_simp
    have hZ1 : w2.cell? ⟨w.heap.size + 1 + 1, 1, none⟩ = some (.int .u64 zl) := by rw [hr2, hcc1 _ _ (by simp <;> omega)]; go_simp
    have hZ2 : w2.cell? ⟨w.heap.size + 1 + 1, 2, none⟩ = some (.int .u64 zc) := by rw [hr2, hcc1 _ _ (by simp <;> omega)]; go_simp
    have hbw2 : Below w.heap.size w w2 := (hbw1.alloc hbw1.size _).trans (hb2.mono (by simp; exact Nat.le_succ_of_le hbw1.size))
    clear hp2 hq2 hr2 hcc1 hb1 hb2
    cases b2
    · clear hK
      go_wp2_with fail
      go_ret
      exact ⟨rfl, hbw2⟩
    · obtain ⟨hlen, hA, hsp⟩ := hK rfl
      obtain ⟨⟨x0, x1, -, -⟩, -⟩ := hsp 0 (by decide)
      obtain ⟨⟨y0, y1, -, -⟩, -⟩ := hsp 1 (by decide)
      obtain ⟨⟨z0, z1, -, -⟩, -⟩ := hsp 2 (by decide)
      have HA := Lib.hid hA
      clear hK hA hsp
      replace x0 : 0 ≤ xb := x0
      replace x1 : xb < len := x1
      replace y0 : 0 ≤ yb := y0
      replace y1 : yb < len := y1
      replace z0 : 0 ≤ zb := z0
      replace z1 : zb < len := z1
      obtain ⟨i, rfl⟩ := Int.eq_ofNat_of_zero_le x0
      obtain ⟨j, rfl⟩ := Int.eq_ofNat_of_zero_le y0
      obtain ⟨k, rfl⟩ := Int.eq_ofNat_of_zero_le z0
      have hi : i < len := by omega
      have hj : j < len := by omega
      have hk : k < len := by omega
      obtain ⟨b, off, rfl, hb, -, -, -, -, -, hc5, -⟩ := (HR.out.below hbw2) i hi
      obtain ⟨b', off', e2, -, -, -, -, -, -, hd5, -⟩ := (HR.out.below hbw2) j hj
      obtain ⟨rfl, rfl⟩ : b' = b ∧ off' = off := by simpa using e2.symm
      clear e2
      obtain ⟨b'', off'', e2, -, -, -, -, -, -, he5, -⟩ := (HR.out.below hbw2) k hk
      obtain ⟨rfl, rfl⟩ : b'' = b' ∧ off'' = off' := by simpa using e2.symm
      clear e2
      by_cases g1 : 0 < (bs i).line
      · go_wp2_with fail
        go_ret
        exact ⟨rfl, hbw2⟩
      · by_cases g2 : 0 < (bs j).line
        · go_wp2_with fail
          go_ret
          exact ⟨rfl, hbw2⟩
        · by_cases g3 : 0 < (bs k).line
          · go_wp2_with fail
            go_ret
            exact ⟨rfl, hbw2⟩
          · go_wp2_with fail
            clear hc5 hd5 he5
            generalize hAA : (some (⟨b'', off'', none⟩ : Addr)) = AA at HR
            obtain ⟨p, hp⟩ : ∃ v, cmpP (bs i).name (bs j).name xl xc yl yc = v := ⟨_, rfl⟩
            obtain ⟨q, hq⟩ : ∃ v, cmpP (bs j).name (bs k).name yl yc zl zc = v := ⟨_, rfl⟩
            obtain ⟨r, hr⟩ : ∃ v, cmpP (bs i).name (bs k).name xl xc zl zc = v := ⟨_, rfl⟩
            have HO := Lib.hid (show ((p ≤ 0 → q ≤ 0 → r ≤ 0) ∧ (0 ≤ p → 0 ≤ q → 0 ≤ r) ∧ (p = 0 → r = q)) from by rw [← hp, ← hq, ← hr]; exact order3 _ _ _ _ _ _ _ _ _)
            have hp0 : -1 ≤ p := by rw [← hp]; exact (cmpP_range _ _ _ _ _ _).1
            have hp1 : p ≤ 1 := by rw [← hp]; exact (cmpP_range _ _ _ _ _ _).2
            have HB := Lib.hid (show (-1 ≤ p ∧ p ≤ 1) ∧ (-1 ≤ q ∧ q ≤ 1) ∧ (-1 ≤ r ∧ r ≤ 1) from by rw [← hp, ← hq, ← hr]; exact ⟨cmpP_range _ _ _ _ _ _, cmpP_range _ _ _ _ _ _, cmpP_range _ _ _ _ _ _⟩)
            have C (a b : Nat) (al ac bl bc v : Int) (ha : a < len) (hb : b < len) (h1 : U64 al) (h2 : U64 ac) (h3 : U64 bl) (h4 : U64 bc) (hv : cmpP (bs a).name (bs b).name al ac bl bc = v) (w' : World) (hw' : Below w.heap.size w w') :
                Calls Try.prog 16 #[.slice AA len cap, .agg #[.int .i64 a, .int .u64 al, .int .u64 ac], .agg #[.int .i64 b, .int .u64 bl, .int .u64 bc]] w' fun e w'' => e = .returned (.int .i64 v) ∧ Below w'.heap.size w' w'' := by
              rw [← hv]
              exact compare16 _ len cap bs a b al ac bl bc w' hlen (HR.out.below hw') HW.out HA.out ha hb h1 h2 h3 h4
            have C1 := Lib.hid (C i j xl xc yl yc p hi hj HX.out.l HX.out.c HY.out.l HY.out.c hp)
            have C2 := Lib.hid (C j k yl yc zl zc q hj hk HY.out.l HY.out.c HZ.out.l HZ.out.c hq)
            have C3 := Lib.hid (C i k xl xc zl zc r hi hk HX.out.l HX.out.c HZ.out.l HZ.out.c hr)
            have C4 := Lib.hid (C i i 1 1 2 1 (-1) hi hi (by unfold U64; decide) (by unfold U64; decide) (by unfold U64; decide) (by unfold U64; decide) (cmpQ_first _))
            have C5 := Lib.hid (C j i yl yc xl xc (-p) hj hi HY.out.l HY.out.c HX.out.l HX.out.c (by rw [← hp]; exact cmpQ_neg _ _ _ _ _ _))
            have C6 := Lib.hid (C i i xl xc xl xc 0 hi hi HX.out.l HX.out.c HX.out.l HX.out.c (cmpQ_self _ _ _))
            clear C hp hq hr hAA g1 g2 g3
            go_region
            · obtain ⟨w5, hw5⟩ : ∃ w5, w5 = ((w2.alloc (Obj.cells #[Value.int IntKind.i64 i, Value.int IntKind.u64 1, Value.int IntKind.u64 1] 29)).alloc (Obj.cells #[Value.int IntKind.i64 i, Value.int IntKind.u64 2, Value.int IntKind.u64 1] 29)).drew := ⟨_, rfl⟩
              rw [← hw5]
              have hbw5 : Below w.heap.size w w5 := by rw [hw5]; exact ((hbw2.alloc (by omega) _).alloc (by simp; omega) _).drew
              have X0 : w5.cell? ⟨w.heap.size, 0, none⟩ = some (.int .i64 i) := by rw [hw5]; go_simp
              have X1 : w5.cell? ⟨w.heap.size, 1, none⟩ = some (.int .u64 xl) := by rw [hw5]; go_simp
              have X2 : w5.cell? ⟨w.heap.size, 2, none⟩ = some (.int .u64 xc) := by rw [hw5]; go_simp
              have Y0 : w5.cell? ⟨w.heap.size + 1, 0, none⟩ = some (.int .i64 j) := by rw [hw5]; go_simp
              have Y1 : w5.cell? ⟨w.heap.size + 1, 1, none⟩ = some (.int .u64 yl) := by rw [hw5]; go_simp
              have Y2 : w5.cell? ⟨w.heap.size + 1, 2, none⟩ = some (.int .u64 yc) := by rw [hw5]; go_simp
              have Z0 : w5.cell? ⟨w.heap.size + 1 + 1, 0, none⟩ = some (.int .i64 k) := by rw [hw5]; go_simp
              have Z1 : w5.cell? ⟨w.heap.size + 1 + 1, 1, none⟩ = some (.int .u64 zl) := by rw [hw5]; go_simp
              have Z2 : w5.cell? ⟨w.heap.size + 1 + 1, 2, none⟩ = some (.int .u64 zc) := by rw [hw5]; go_simp
              have hs5 : w.heap.size + 1 + 1 < w5.heap.size := by rw [hw5]; simp; omega
              have hFS : w2.heap.size < w5.heap.size ∧ w2.heap.size + 1 < w5.heap.size := by rw [hw5]; constructor <;> simp <;> omega
              have hF0 : w5.cell? ⟨w2.heap.size, 0, none⟩ = some (.int .i64 i) := by rw [hw5]; go_simp
              have hF1 : w5.cell? ⟨w2.heap.size, 1, none⟩ = some (.int .u64 1) := by rw [hw5]; go_simp
              have hF2 : w5.cell? ⟨w2.heap.size, 2, none⟩ = some (.int .u64 1) := by rw [hw5]; go_simp
              have hS0 : w5.cell? ⟨w2.heap.size + 1, 0, none⟩ = some (.int .i64 i) := by rw [hw5]; go_simp
              have hS1 : w5.cell? ⟨w2.heap.size + 1, 1, none⟩ = some (.int .u64 2) := by rw [hw5]; go_simp
              have hS2 : w5.cell? ⟨w2.heap.size + 1, 2, none⟩ = some (.int .u64 1) := by rw [hw5]; go_simp
              generalize hS : w2.heap.size + 1 = S at hS0 hS1 hS2 hFS ⊢
              generalize hF : w2.heap.size = F at hF0 hF1 hF2 hFS ⊢
              have hF5_ : F < w5.heap.size := by omega
              have hS5_ : S < w5.heap.size := by omega
              obtain ⟨ov, hov, hin⟩ := ov_of w5.heap.size w5
              have oX0 : ∀ u, (ov u).cell? ⟨w.heap.size, 0, none⟩ = some (.int .i64 i) := fun u => ((hov u).cell (p := ⟨w.heap.size, 0, none⟩) (by show w.heap.size < _; omega)).trans X0
              have oX1 : ∀ u, (ov u).cell? ⟨w.heap.size, 1, none⟩ = some (.int .u64 xl) := fun u => ((hov u).cell (p := ⟨w.heap.size, 1, none⟩) (by show w.heap.size < _; omega)).trans X1
              have oX2 : ∀ u, (ov u).cell? ⟨w.heap.size, 2, none⟩ = some (.int .u64 xc) := fun u => ((hov u).cell (p := ⟨w.heap.size, 2, none⟩) (by show w.heap.size < _; omega)).trans X2
              have oY0 : ∀ u, (ov u).cell? ⟨w.heap.size + 1, 0, none⟩ = some (.int .i64 j) := fun u => ((hov u).cell (p := ⟨w.heap.size + 1, 0, none⟩) (by show w.heap.size + 1 < _; omega)).trans Y0
              have oY1 : ∀ u, (ov u).cell? ⟨w.heap.size + 1, 1, none⟩ = some (.int .u64 yl) := fun u => ((hov u).cell (p := ⟨w.heap.size + 1, 1, none⟩) (by show w.heap.size + 1 < _; omega)).trans Y1
              have oY2 : ∀ u, (ov u).cell? ⟨w.heap.size + 1, 2, none⟩ = some (.int .u64 yc) := fun u => ((hov u).cell (p := ⟨w.heap.size + 1, 2, none⟩) (by show w.heap.size + 1 < _; omega)).trans Y2
              have oZ0 : ∀ u, (ov u).cell? ⟨w.heap.size + 1 + 1, 0, none⟩ = some (.int .i64 k) := fun u => ((hov u).cell (p := ⟨w.heap.size + 1 + 1, 0, none⟩) (hs5)).trans Z0
              have oZ1 : ∀ u, (ov u).cell? ⟨w.heap.size + 1 + 1, 1, none⟩ = some (.int .u64 zl) := fun u => ((hov u).cell (p := ⟨w.heap.size + 1 + 1, 1, none⟩) (hs5)).trans Z1
              have oZ2 : ∀ u, (ov u).cell? ⟨w.heap.size + 1 + 1, 2, none⟩ = some (.int .u64 zc) := fun u => ((hov u).cell (p := ⟨w.heap.size + 1 + 1, 2, none⟩) (hs5)).trans Z2
              have oF0 : ∀ u, (ov u).cell? ⟨F, 0, none⟩ = some (.int .i64 i) := fun u => ((hov u).cell (p := ⟨F, 0, none⟩) (hF5_)).trans hF0
              have oF1 : ∀ u, (ov u).cell? ⟨F, 1, none⟩ = some (.int .u64 1) := fun u => ((hov u).cell (p := ⟨F, 1, none⟩) (hF5_)).trans hF1
              have oF2 : ∀ u, (ov u).cell? ⟨F, 2, none⟩ = some (.int .u64 1) := fun u => ((hov u).cell (p := ⟨F, 2, none⟩) (hF5_)).trans hF2
              have oS0 : ∀ u, (ov u).cell? ⟨S, 0, none⟩ = some (.int .i64 i) := fun u => ((hov u).cell (p := ⟨S, 0, none⟩) (hS5_)).trans hS0
              have oS1 : ∀ u, (ov u).cell? ⟨S, 1, none⟩ = some (.int .u64 2) := fun u => ((hov u).cell (p := ⟨S, 1, none⟩) (hS5_)).trans hS1
              have oS2 : ∀ u, (ov u).cell? ⟨S, 2, none⟩ = some (.int .u64 1) := fun u => ((hov u).cell (p := ⟨S, 2, none⟩) (hS5_)).trans hS2
              clear hX0 hX1 hX2 hY0 hY1 hY2 hZ0 hZ1 hZ2 hs1 hs1' hs1'' hs2 hs2' hs2'' hbw1 hbw2 hF hS hFS hb X0 X1 X2 Y0 Y1 Y2 Z0 Z1 Z2 hF0 hF1 hF2 hS0 hS1 hS2 hs5 hF5_ hS5_ hw5 x0 x1 y0 y1 z0 z1
              have HOV := Lib.hid hov
              have HIN := Lib.hid hin
              go_wp2_with fail
              refine wp_region_ov ov (by kernel_rfl) (by kernel_rfl) ⟨_, (hin _ (Below.refl _ _).drew).symm⟩ ?_
              repeat (go_big_quiet_step (first | (go_at_call 16; with_reducible refine (C1.out _ (hbw5.trans ((hov _).mono hbw5.size))).mono ?_; rintro e w'' ⟨rfl, hb⟩; exact ⟨rfl, w'', (hin _ ((hov _).trans (hb.mono (hov _).size))).symm⟩) | (go_at_call 16; with_reducible refine (C2.out _ (hbw5.trans ((hov _).mono hbw5.size))).mono ?_; rintro e w'' ⟨rfl, hb⟩; exact ⟨rfl, w'', (hin _ ((hov _).trans (hb.mono (hov _).size))).symm⟩) | (go_at_call 16; with_reducible refine (C3.out _ (hbw5.trans ((hov _).mono hbw5.size))).mono ?_; rintro e w'' ⟨rfl, hb⟩; exact ⟨rfl, w'', (hin _ ((hov _).trans (hb.mono (hov _).size))).symm⟩)))
              refine wpQuiet_nil ?_
              rintro _ ⟨u, rfl⟩
              clear hov hin
              have h3 := HB.out
              have h4 := HO.out
              obtain rfl | rfl | rfl : p = -1 ∨ p = 0 ∨ p = 1 := by omega
              all_goals obtain rfl | rfl | rfl : q = -1 ∨ q = 0 ∨ q = 1 := by omega
              all_goals obtain rfl | rfl | rfl : r = -1 ∨ r = 0 ∨ r = 1 := by omega
              all_goals first
                | (exfalso; clear h3; omega)
                | (clear h3 h4 hp0 hp1
                   go_wp2_with (first | (go_at_call 16; with_reducible refine (C4.out _ (hbw5.trans ((HOV.out _).mono hbw5.size))).mono ?_; rintro e w'' ⟨rfl, hb⟩; obtain ⟨u, rfl⟩ : ∃ u, w'' = ov u := ⟨w'', (HIN.out _ ((HOV.out _).trans (hb.mono (HOV.out _).size))).symm⟩; clear hb) | (go_at_call 16; with_reducible refine (C5.out _ (hbw5.trans ((HOV.out _).mono hbw5.size))).mono ?_; rintro e w'' ⟨rfl, hb⟩; obtain ⟨u, rfl⟩ : ∃ u, w'' = ov u := ⟨w'', (HIN.out _ ((HOV.out _).trans (hb.mono (HOV.out _).size))).symm⟩; clear hb) | (go_at_call 16; with_reducible refine (C6.out _ (hbw5.trans ((HOV.out _).mono hbw5.size))).mono ?_; rintro e w'' ⟨rfl, hb⟩; obtain ⟨u, rfl⟩ : ∃ u, w'' = ov u := ⟨w'', (HIN.out _ ((HOV.out _).trans (hb.mono (HOV.out _).size))).symm⟩; clear hb))
                   go_ret
                   exact ⟨rfl, hbw5.trans ((HOV.out _).mono hbw5.size)⟩)
            · obtain ⟨w5, hw5⟩ : ∃ w5, w5 = ((w2.alloc (Obj.cells #[Value.int IntKind.i64 i, Value.int IntKind.u64 2, Value.int IntKind.u64 1] 29)).alloc (Obj.cells #[Value.int IntKind.i64 i, Value.int IntKind.u64 1, Value.int IntKind.u64 1] 29)).drew := ⟨_, rfl⟩
              rw [← hw5]
              have hbw5 : Below w.heap.size w w5 := by rw [hw5]; exact ((hbw2.alloc (by omega) _).alloc (by simp; omega) _).drew
              have X0 : w5.cell? ⟨w.heap.size, 0, none⟩ = some (.int .i64 i) := by rw [hw5]; go_simp
              have X1 : w5.cell? ⟨w.heap.size, 1, none⟩ = some (.int .u64 xl) := by rw [hw5]; go_simp
              have X2 : w5.cell? ⟨w.heap.size, 2, none⟩ = some (.int .u64 xc) := by rw [hw5]; go_simp
              have Y0 : w5.cell? ⟨w.heap.size + 1, 0, none⟩ = some (.int .i64 j) := by rw [hw5]; go_simp
              have Y1 : w5.cell? ⟨w.heap.size + 1, 1, none⟩ = some (.int .u64 yl) := by rw [hw5]; go_simp
              have Y2 : w5.cell? ⟨w.heap.size + 1, 2, none⟩ = some (.int .u64 yc) := by rw [hw5]; go_simp
              have Z0 : w5.cell? ⟨w.heap.size + 1 + 1, 0, none⟩ = some (.int .i64 k) := by rw [hw5]; go_simp
              have Z1 : w5.cell? ⟨w.heap.size + 1 + 1, 1, none⟩ = some (.int .u64 zl) := by rw [hw5]; go_simp
              have Z2 : w5.cell? ⟨w.heap.size + 1 + 1, 2, none⟩ = some (.int .u64 zc) := by rw [hw5]; go_simp
              have hs5 : w.heap.size + 1 + 1 < w5.heap.size := by rw [hw5]; simp; omega
              have hFS : w2.heap.size < w5.heap.size ∧ w2.heap.size + 1 < w5.heap.size := by rw [hw5]; constructor <;> simp <;> omega
              have hF0 : w5.cell? ⟨w2.heap.size + 1, 0, none⟩ = some (.int .i64 i) := by rw [hw5]; go_simp
              have hF1 : w5.cell? ⟨w2.heap.size + 1, 1, none⟩ = some (.int .u64 1) := by rw [hw5]; go_simp
              have hF2 : w5.cell? ⟨w2.heap.size + 1, 2, none⟩ = some (.int .u64 1) := by rw [hw5]; go_simp
              have hS0 : w5.cell? ⟨w2.heap.size, 0, none⟩ = some (.int .i64 i) := by rw [hw5]; go_simp
              have hS1 : w5.cell? ⟨w2.heap.size, 1, none⟩ = some (.int .u64 2) := by rw [hw5]; go_simp
              have hS2 : w5.cell? ⟨w2.heap.size, 2, none⟩ = some (.int .u64 1) := by rw [hw5]; go_simp
              generalize hF : w2.heap.size + 1 = F at hF0 hF1 hF2 hFS ⊢
              generalize hS : w2.heap.size = S at hS0 hS1 hS2 hFS ⊢
              have hF5_ : F < w5.heap.size := by omega
              have hS5_ : S < w5.heap.size := by omega
              obtain ⟨ov, hov, hin⟩ := ov_of w5.heap.size w5
              have oX0 : ∀ u, (ov u).cell? ⟨w.heap.size, 0, none⟩ = some (.int .i64 i) := fun u => ((hov u).cell (p := ⟨w.heap.size, 0, none⟩) (by show w.heap.size < _; omega)).trans X0
              have oX1 : ∀ u, (ov u).cell? ⟨w.heap.size, 1, none⟩ = some (.int .u64 xl) := fun u => ((hov u).cell (p := ⟨w.heap.size, 1, none⟩) (by show w.heap.size < _; omega)).trans X1
              have oX2 : ∀ u, (ov u).cell? ⟨w.heap.size, 2, none⟩ = some (.int .u64 xc) := fun u => ((hov u).cell (p := ⟨w.heap.size, 2, none⟩) (by show w.heap.size < _; omega)).trans X2
              have oY0 : ∀ u, (ov u).cell? ⟨w.heap.size + 1, 0, none⟩ = some (.int .i64 j) := fun u => ((hov u).cell (p := ⟨w.heap.size + 1, 0, none⟩) (by show w.heap.size + 1 < _; omega)).trans Y0
              have oY1 : ∀ u, (ov u).cell? ⟨w.heap.size + 1, 1, none⟩ = some (.int .u64 yl) := fun u => ((hov u).cell (p := ⟨w.heap.size + 1, 1, none⟩) (by show w.heap.size + 1 < _; omega)).trans Y1
              have oY2 : ∀ u, (ov u).cell? ⟨w.heap.size + 1, 2, none⟩ = some (.int .u64 yc) := fun u => ((hov u).cell (p := ⟨w.heap.size + 1, 2, none⟩) (by show w.heap.size + 1 < _; omega)).trans Y2
              have oZ0 : ∀ u, (ov u).cell? ⟨w.heap.size + 1 + 1, 0, none⟩ = some (.int .i64 k) := fun u => ((hov u).cell (p := ⟨w.heap.size + 1 + 1, 0, none⟩) (hs5)).trans Z0
              have oZ1 : ∀ u, (ov u).cell? ⟨w.heap.size + 1 + 1, 1, none⟩ = some (.int .u64 zl) := fun u => ((hov u).cell (p := ⟨w.heap.size + 1 + 1, 1, none⟩) (hs5)).trans Z1
              have oZ2 : ∀ u, (ov u).cell? ⟨w.heap.size + 1 + 1, 2, none⟩ = some (.int .u64 zc) := fun u => ((hov u).cell (p := ⟨w.heap.size + 1 + 1, 2, none⟩) (hs5)).trans Z2
              have oF0 : ∀ u, (ov u).cell? ⟨F, 0, none⟩ = some (.int .i64 i) := fun u => ((hov u).cell (p := ⟨F, 0, none⟩) (hF5_)).trans hF0
              have oF1 : ∀ u, (ov u).cell? ⟨F, 1, none⟩ = some (.int .u64 1) := fun u => ((hov u).cell (p := ⟨F, 1, none⟩) (hF5_)).trans hF1
              have oF2 : ∀ u, (ov u).cell? ⟨F, 2, none⟩ = some (.int .u64 1) := fun u => ((hov u).cell (p := ⟨F, 2, none⟩) (hF5_)).trans hF2
              have oS0 : ∀ u, (ov u).cell? ⟨S, 0, none⟩ = some (.int .i64 i) := fun u => ((hov u).cell (p := ⟨S, 0, none⟩) (hS5_)).trans hS0
              have oS1 : ∀ u, (ov u).cell? ⟨S, 1, none⟩ = some (.int .u64 2) := fun u => ((hov u).cell (p := ⟨S, 1, none⟩) (hS5_)).trans hS1
              have oS2 : ∀ u, (ov u).cell? ⟨S, 2, none⟩ = some (.int .u64 1) := fun u => ((hov u).cell (p := ⟨S, 2, none⟩) (hS5_)).trans hS2
              clear hX0 hX1 hX2 hY0 hY1 hY2 hZ0 hZ1 hZ2 hs1 hs1' hs1'' hs2 hs2' hs2'' hbw1 hbw2 hF hS hFS hb X0 X1 X2 Y0 Y1 Y2 Z0 Z1 Z2 hF0 hF1 hF2 hS0 hS1 hS2 hs5 hF5_ hS5_ hw5 x0 x1 y0 y1 z0 z1
              have HOV := Lib.hid hov
              have HIN := Lib.hid hin
              go_wp2_with fail
              refine wp_region_ov ov (by kernel_rfl) (by kernel_rfl) ⟨_, (hin _ (Below.refl _ _).drew).symm⟩ ?_
              repeat (go_big_quiet_step (first | (go_at_call 16; with_reducible refine (C1.out _ (hbw5.trans ((hov _).mono hbw5.size))).mono ?_; rintro e w'' ⟨rfl, hb⟩; exact ⟨rfl, w'', (hin _ ((hov _).trans (hb.mono (hov _).size))).symm⟩) | (go_at_call 16; with_reducible refine (C2.out _ (hbw5.trans ((hov _).mono hbw5.size))).mono ?_; rintro e w'' ⟨rfl, hb⟩; exact ⟨rfl, w'', (hin _ ((hov _).trans (hb.mono (hov _).size))).symm⟩) | (go_at_call 16; with_reducible refine (C3.out _ (hbw5.trans ((hov _).mono hbw5.size))).mono ?_; rintro e w'' ⟨rfl, hb⟩; exact ⟨rfl, w'', (hin _ ((hov _).trans (hb.mono (hov _).size))).symm⟩)))
              refine wpQuiet_nil ?_
              rintro _ ⟨u, rfl⟩
              clear hov hin
              have h3 := HB.out
              have h4 := HO.out
              obtain rfl | rfl | rfl : p = -1 ∨ p = 0 ∨ p = 1 := by omega
              all_goals obtain rfl | rfl | rfl : q = -1 ∨ q = 0 ∨ q = 1 := by omega
              all_goals obtain rfl | rfl | rfl : r = -1 ∨ r = 0 ∨ r = 1 := by omega
              all_goals first
                | (exfalso; clear h3; omega)
                | (clear h3 h4 hp0 hp1
                   go_wp2_with (first | (go_at_call 16; with_reducible refine (C4.out _ (hbw5.trans ((HOV.out _).mono hbw5.size))).mono ?_; rintro e w'' ⟨rfl, hb⟩; obtain ⟨u, rfl⟩ : ∃ u, w'' = ov u := ⟨w'', (HIN.out _ ((HOV.out _).trans (hb.mono (HOV.out _).size))).symm⟩; clear hb) | (go_at_call 16; with_reducible refine (C5.out _ (hbw5.trans ((HOV.out _).mono hbw5.size))).mono ?_; rintro e w'' ⟨rfl, hb⟩; obtain ⟨u, rfl⟩ : ∃ u, w'' = ov u := ⟨w'', (HIN.out _ ((HOV.out _).trans (hb.mono (HOV.out _).size))).symm⟩; clear hb) | (go_at_call 16; with_reducible refine (C6.out _ (hbw5.trans ((HOV.out _).mono hbw5.size))).mono ?_; rintro e w'' ⟨rfl, hb⟩; obtain ⟨u, rfl⟩ : ∃ u, w'' = ov u := ⟨w'', (HIN.out _ ((HOV.out _).trans (hb.mono (HOV.out _).size))).symm⟩; clear hb))
                   go_ret
                   exact ⟨rfl, hbw5.trans ((HOV.out _).mono hbw5.size)⟩)
end Go.Proofs.Ytlmllpgebakhhaa.Pos

namespace Go.Proofs.Ytlmllpgebakhhaa.fnPosOrder
open Go.ChangeShapes Go.WideShapes Go.ChangeAt Go.RowKit
open Go.ChangeMaps (open_string shut_string)
set_option linter.unusedVariables false

theorem own : ownKnob Try.prog.godebug = none := by kernel_rfl
theorem laidOut : laidOutB Try.prog = true := by kernel_rfl
set_option maxRecDepth 100000 in
theorem lifted (os : Os) (started : os.Started) (H : Type) (enc : TypeId × Value → H) :
    ReturnsInHanded {} Try.checked os 7 .any (Rows.fnPosOrderSpec.pre6 enc Try.prog Try.f7 Rows.fnPosOrderRow.domain false) (Rows.fnPosOrderSpec.post enc Try.prog Try.f7 false true false false) := by
  refine returnsInHanded_of_change (C := Try.checked) own started (by kernel_rfl) Try.func7
    (ChangeSpec.witness6 (enc := enc) (C := Try.checked) false ⟨#[], #[.slice none 0 0, .agg #[.int .i64 0, .int .u64 0, .int .u64 0], .agg #[.int .i64 0, .int .u64 0, .int .u64 0], .agg #[.int .i64 0, .int .u64 0, .int .u64 0]], []⟩ 8 (by kernel_rfl) (by kernel_rfl) (by kernel_rfl) (by kernel_rfl)) ?_
  intro W base args ds gs before hval0 hW hcnd _
  have hval : ∀ (j : Nat) t v, Try.f7.params[j]? = some t → args[j]? = some v → Value.okWide Try.prog W .any base t v := hval0
  have hW' := hW
  obtain ⟨p, q, hA0, hV, rfl, hfz, hnd⟩ := hW
  have hA : DataW.TrodAll enc Try.prog W 0 (fun _ => true) true Try.f7.params.toList args.toList ds p := hA0
  rw [Try.params7] at hA hval
  obtain ⟨v0, vs0, d0, ds0, p0, q0, hargs, rfl, rfl, h0, r0⟩ := trodAll_cons hA
  obtain ⟨v1, vs1, d1, ds1, p1, q1, rfl, rfl, rfl, h1, r1⟩ := trodAll_cons r0
  obtain ⟨v2, vs2, d2, ds2, p2, q2, rfl, rfl, rfl, h2, r2⟩ := trodAll_cons r1
  obtain ⟨v3, vs3, d3, ds3, p3, q3, rfl, rfl, rfl, h3, r3⟩ := trodAll_cons r2
  obtain ⟨rfl, rfl, rfl⟩ := trodAll_nil r3
  obtain rfl : args = #[v0, v1, v2, v3] := by cases args; simp_all
  obtain ⟨rfl, rfl⟩ := trodVars_none hV
  have k0 := h0
  have lt0 : ∀ x ∈ p0, x.block < W.heap.size := by obtain ⟨m, hm⟩ := k0; exact DataW.trod_lt m _ _ _ hm
  have k1 := h1
  have lt1 : ∀ x ∈ p1, x.block < W.heap.size := by obtain ⟨m, hm⟩ := k1; exact DataW.trod_lt m _ _ _ hm
  have k2 := h2
  have lt2 : ∀ x ∈ p2, x.block < W.heap.size := by obtain ⟨m, hm⟩ := k2; exact DataW.trod_lt m _ _ _ hm
  have k3 := h3
  have lt3 : ∀ x ∈ p3, x.block < W.heap.size := by obtain ⟨m, hm⟩ := k3; exact DataW.trod_lt m _ _ _ hm
  obtain ⟨A, len, cap, rfl⟩ := okWide_slice Try.underlying26 (hval 0 26 v0 rfl rfl)
  obtain ⟨bs, hrow, hwf, hm⟩ := Pos.row_of_trod h0
  obtain ⟨x1, rfl, wx1⟩ := Pos.spot_of_trod (hval 1 29 v1 rfl rfl) h1
  obtain ⟨x2, rfl, wx2⟩ := Pos.spot_of_trod (hval 2 29 v2 rfl rfl) h2
  obtain ⟨x3, rfl, wx3⟩ := Pos.spot_of_trod (hval 3 29 v3 rfl rfl) h3
  clear hA0 hval0
  refine (Pos.law7 A len cap bs x1 x2 x3 W hm hrow hwf wx1 wx2 wx3).mono fun e W' ⟨he, bel⟩ => ?_
  subst he
  exact ⟨_, rfl, _, _, _, [], _, [], hW', trodAll_mk1 (shut_bool Try.underlying4 _), (trodAll_cons_mk (Below.trod laidOut (by kernel_rfl) (of_decide_eq_true (by kernel_rfl)) k0 bel lt0) (trodAll_cons_mk (Below.trod laidOut (by kernel_rfl) (of_decide_eq_true (by kernel_rfl)) k1 bel lt1) (trodAll_cons_mk (Below.trod laidOut (by kernel_rfl) (of_decide_eq_true (by kernel_rfl)) k2 bel lt2) (trodAll_cons_mk (Below.trod laidOut (by kernel_rfl) (of_decide_eq_true (by kernel_rfl)) k3 bel lt3) trodAll_mk0)))), rfl, bel.frame _, fun h => by cases h⟩

theorem over : Rows.fnPosOrderRow.holds Try.pinned (OpenSpec.ofChange Rows.fnPosOrderSpec) :=
  OpenClaim.holds_of_wide 7 Try.f7 rfl rfl rfl rfl rfl rfl rfl ⟨rfl, rfl, rfl, rfl, rfl⟩ rfl rfl rfl rfl rfl (by kernel_rfl) Try.func7 (by kernel_rfl)
    (of_decide_eq_true (by kernel_rfl)) (by unfold Func.isWrapper; first | (rw [if_pos (by decide +kernel)]; kernel_rfl) | (rw [if_neg (by decide +kernel)]; exact ⟨rfl, rfl⟩))
    (fun os started H enc _ => lifted os started H enc)

theorem proved : Rows.FnPosOrderSaid := over
#print axioms proved
end Go.Proofs.Ytlmllpgebakhhaa.fnPosOrder
