/-
  Positions, part I: impl.Tell (contract; no statement is closed here).
-/
import Derived.Test.YtlmllpgebakhhaaPosD
import Derived.Test.YtlmllpgebakhhaaPosE
import Derived.Test.YtlmllpgebakhhaaPosF
namespace Go.Proofs.Ytlmllpgebakhhaa.Pos
open Go.RowKit
set_option linter.unusedVariables false

/-- Block g is just these cells. -/
def Blk (w : World) (g : Nat) (t : TypeId) (cs : Array Value) : Prop := w.heap[g]? = some (.cells cs t (0, 0))
section
variable {w w' : World} {g : Nat} {t : TypeId} {cs : Array Value}
theorem Blk.lt (h : Blk w g t cs) : g < w.heap.size := by
  rcases Nat.lt_or_ge g w.heap.size with hlt | hge
  · exact hlt
  · unfold Blk at h; rw [Array.getElem?_eq_none hge] at h; cases h
theorem Blk.cell (h : Blk w g t cs) (i : Nat) : w.cell? ⟨g, i, none⟩ = cs[i]? := cell_of_row w g i cs t (0, 0) h
theorem Blk.frozen (h : Blk w g t cs) (i : Nat) : w.frozen? ⟨g, i, none⟩ = false := by
  unfold Blk at h
  simp [World.frozen?, h]
theorem Blk.new (w : World) (t : TypeId) (cs : Array Value) : Blk (w.alloc (.cells cs t)) w.heap.size t cs := heap_alloc_new w _
theorem Blk.drew (h : Blk w g t cs) : Blk w.drew g t cs := h
theorem Blk.alloc (h : Blk w g t cs) (o : Obj) : Blk (w.alloc o) g t cs := (Below.heap_alloc w o g h.lt).trans h
theorem Blk.set_ (h : Blk w g t cs) (i : Nat) (u : Value) : Blk (w.setCell ⟨g, i, none⟩ u) g t (cs.setIfInBounds i u) := by
  unfold Blk at h ⊢
  simp [World.setCell, Array.getElem?_modify, h]
theorem Blk.far (h : Blk w g t cs) {p : Addr} (hp : g ≠ p.block) (u : Value) : Blk (w.setCell p u) g t cs := (Below.heap_setCell w p u g hp).trans h
theorem Blk.below {B : Nat} (h : Blk w g t cs) (hb : Below B w w') (hg : g < B) : Blk w' g t cs := (hb.block g hg).trans h
theorem Blk.ne_ {g' : Nat} {t' : TypeId} {cs' : Array Value} (h : Blk w g t cs) (h' : Blk w g' t' cs') (hne : t ≠ t') : g ≠ g' := by
  rintro rfl
  unfold Blk at h h'
  rw [h] at h'
  injection h' with h'
  injection h' with _ ht
  exact hne ht
end
theorem MB.far {w : World} {bs : Nat → Bas} {p : Nat → Nat} {n : Nat} (h : MB w bs p n) {g : Nat} {t : TypeId} {cs : Array Value} (hg : Blk w g t cs) (ht : t ≠ 96) (o : Nat) (u : Value) : MB (w.setCell ⟨g, o, none⟩ u) bs p n :=
  ⟨fun i hi => Blk.far (h.blk i hi) (p := ⟨g, o, none⟩) (Blk.ne_ (h.blk i hi) hg (Ne.symm ht)) u, h.inc⟩

theorem Blk.new2 (w : World) (o : Obj) (t : TypeId) (cs : Array Value) : Blk ((w.alloc o).alloc (.cells cs t)) (w.heap.size + 1) t cs := by
  have h := Blk.new (w.alloc o) t cs
  simpa using h
theorem Blk.new3 (w : World) (o o' : Obj) (t : TypeId) (cs : Array Value) : Blk (((w.alloc o).alloc o').alloc (.cells cs t)) (w.heap.size + 1 + 1) t cs := by
  have h := Blk.new ((w.alloc o).alloc o') t cs
  simpa using h
theorem tb_set {w w2 : World} {bs : Nat → Bas} {p : Nat → Nat} {len g r : Nat} {rs : Array Value} {a b c a' b' c' : Value} (hg : Blk w2 g 72 #[a, b, c]) (hR : Blk w2 r 33 rs) (hM : MB w2 bs p len) (hB : Below w.heap.size w w2) (hge : w.heap.size ≤ g) :
    Blk (((w2.setCell ⟨g, 0, none⟩ a').setCell ⟨g, 1, none⟩ b').setCell ⟨g, 2, none⟩ c') r 33 rs ∧ Blk (((w2.setCell ⟨g, 0, none⟩ a').setCell ⟨g, 1, none⟩ b').setCell ⟨g, 2, none⟩ c') g 72 #[a', b', c'] ∧
      MB (((w2.setCell ⟨g, 0, none⟩ a').setCell ⟨g, 1, none⟩ b').setCell ⟨g, 2, none⟩ c') bs p len ∧ Below w.heap.size w (((w2.setCell ⟨g, 0, none⟩ a').setCell ⟨g, 1, none⟩ b').setCell ⟨g, 2, none⟩ c') := by
  have hne : r ≠ g := Blk.ne_ hR hg (by decide)
  have g1 := hg.set_ 0 a'
  have g2 := g1.set_ 1 b'
  have g3 := g2.set_ 2 c'
  refine ⟨((hR.far (p := ⟨g, 0, none⟩) hne _).far (p := ⟨g, 1, none⟩) hne _).far (p := ⟨g, 2, none⟩) hne _, by simpa using g3, ((hM.far hg (by decide) 0 _).far g1 (by decide) 1 _).far g2 (by decide) 2 _, ((hB.setCell hge _).setCell hge _).setCell hge _⟩

abbrev res0 : Array Value := #[.int .u64 0, .int .u64 0, .string ⟨#[]⟩, .int .u64 0, .int .u64 0, .string ⟨#[]⟩, .bool false]

theorem lim_zero {n : Int} (h : 0 ≤ n) : lim n = 0 ↔ n = 0 := by unfold lim; split <;> omega
theorem lim_pos {n : Int} (h : 0 < n) : 0 < lim n := by unfold lim; split <;> omega
/-- The column that a base makes of a position's. -/
def rcol (x : Bas) (l c : Int) : Int := if x.cl = 0 then 0 else if lim l = x.atL then x.cl + (lim c - x.atC) else lim c
theorem rcol_eq (x : Bas) (hx : x.Wf) (l c : Int) : rcol x l c = relCol x l c := by
  unfold rcol relCol Bas.cl Bas.atL Bas.atC
  by_cases h : x.line = 0
  · rw [if_pos h, if_pos h, if_pos h, if_pos h, if_neg (by decide)]
    by_cases h1 : lim l = 1
    · rw [if_pos h1]; omega
    · rw [if_neg h1]
  · rw [if_neg h, if_neg h, if_neg h, if_neg h]
    by_cases h1 : x.col = 0
    · rw [if_pos h1, if_pos ((lim_zero hx.col.1).2 h1)]
    · rw [if_neg h1, if_neg (fun e => h1 ((lim_zero hx.col.1).1 e))]
      by_cases h2 : lim l = lim x.sl
      · rw [if_pos h2, if_pos h2]; omega
      · rw [if_neg h2, if_neg h2]
theorem rline_eq (x : Bas) (l : Int) : x.ln + (lim l - x.atL) = relLine x l := by
  unfold relLine Bas.ln Bas.atL
  by_cases h : x.line = 0
  · rw [if_pos h, if_pos h, if_pos h]; omega
  · rw [if_neg h, if_neg h, if_neg h]; omega
/-- What a base's numbers keep to. -/
theorem Bas.bounds (x : Bas) (hx : x.Wf) : 0 < x.ln ∧ x.ln ≤ 1073741824 ∧ 0 ≤ x.cl ∧ x.cl ≤ 1073741824 ∧ 0 ≤ x.atL ∧ x.atL ≤ 1073741824 ∧ 0 ≤ x.atC ∧ x.atC ≤ 1073741824 := by
  obtain ⟨a1, a2⟩ := lim_bd hx.sl
  obtain ⟨a3, a4⟩ := lim_bd hx.sc
  obtain ⟨a5, a6⟩ := lim_bd hx.line
  obtain ⟨a7, a8⟩ := lim_bd hx.col
  have a9 : x.line ≠ 0 → 0 < lim x.line := fun h => lim_pos (by have := hx.line.1; omega)
  unfold Bas.ln Bas.cl Bas.atL Bas.atC
  by_cases h : x.line = 0
  · simp [h]
  · simp only [h, if_false]
    exact ⟨a9 h, a6, a7, a8, a1, a2, a3, a4⟩
theorem Within.ahead {x : Bas} {l c : Int} (h : Within x l c) (hl : 0 < l) (hc : 0 < c) : x.atL ≤ lim l ∧ (lim l = x.atL → x.atC ≤ lim c) := by
  have b1 := lim_pos hl
  have b2 := lim_pos hc
  unfold Bas.atL Bas.atC
  rcases h with h | ⟨h, _⟩
  · rw [if_pos h, if_pos h]
    exact ⟨by omega, fun _ => by omega⟩
  · by_cases hz : x.line = 0
    · rw [if_pos hz, if_pos hz]
      exact ⟨by omega, fun _ => by omega⟩
    · rw [if_neg hz, if_neg hz]
      exact ⟨by omega, fun _ => by omega⟩

theorem relCol51 (k : Nat) (A : Option Addr) (l0 c0 : Int) (name : ByteArray) (ln cl : Int) (t : Bool) (pl pc : Int) (w : World) (h : PBlk w k A l0 c0 name ln cl t) (hcl : 0 ≤ cl) (hcl' : cl ≤ 1073741824) (hpl0 : 0 ≤ pl) (hpl : pl ≤ 1073741824) (hpc0 : 0 ≤ pc) (hpc : pc ≤ 1073741824) (hl0 : 0 ≤ l0) (hl0' : l0 ≤ 1073741824) (hc0 : 0 ≤ c0) (hle : pl = l0 → c0 ≤ pc) :
    Calls Try.prog 51 #[.agg #[.pointer (some ⟨k, 0, none⟩), .int .u32 pl, .int .u32 pc]] w fun e w' => e = .returned (.int .u64 (if cl = 0 then 0 else if pl = l0 then cl + (pc - c0) else pc)) ∧ Below w.heap.size w w' := by
  by_cases h1 : cl = 0
  · subst h1
    rw [if_pos rfl]
    exact relCol51_none k A l0 c0 name ln t pl pc w h
  · rw [if_neg h1]
    by_cases h2 : pl = l0
    · subst h2
      rw [if_pos rfl]
      exact relCol51_same k A pl c0 name ln cl t pc w h (by omega) hcl' hpc0 hpc hl0 hl0' hc0 (hle rfl)
    · rw [if_neg h2]
      exact relCol51_other k A l0 c0 name ln cl t pl pc w h (by omega) hcl' hpl0 hpl hpc0 hpc hl0 hl0' h2

theorem relCol51v (v : Int) (k : Nat) (A : Option Addr) (l0 c0 : Int) (name : ByteArray) (ln cl : Int) (t : Bool) (pl pc : Int) (w : World) (h : PBlk w k A l0 c0 name ln cl t) (hcl : 0 ≤ cl) (hcl' : cl ≤ 1073741824) (hpl0 : 0 ≤ pl) (hpl : pl ≤ 1073741824) (hpc0 : 0 ≤ pc) (hpc : pc ≤ 1073741824) (hl0 : 0 ≤ l0) (hl0' : l0 ≤ 1073741824) (hc0 : 0 ≤ c0) (hle : pl = l0 → c0 ≤ pc)
    (hv : (if cl = 0 then 0 else if pl = l0 then cl + (pc - c0) else pc) = v) :
    Calls Try.prog 51 #[.agg #[.pointer (some ⟨k, 0, none⟩), .int .u32 pl, .int .u32 pc]] w fun e w' => e = .returned (.int .u64 v) ∧ Below w.heap.size w w' := by
  subst hv
  exact relCol51 k A l0 c0 name ln cl t pl pc w h hcl hcl' hpl0 hpl hpc0 hpc hl0 hl0' hc0 hle

theorem root_le (bs : Nat → Bas) (i : Nat) : root bs i ≤ i := by
  induction i using Nat.strongRecOn with
  | _ i ih =>
    rw [root]
    split
    · rename_i h
      exact Nat.le_trans (ih _ h.2) (Nat.le_of_lt h.2)
    · exact Nat.le_refl _

theorem told_set {w w2 : World} {bs : Nat → Bas} {p : Nat → Nat} {len g r h : Nat} {ps rs : Array Value} {a b c d e f i a' b' c' d' e' f' i' : Value} (hh : Blk w2 h 33 #[a, b, c, d, e, f, i]) (hg : Blk w2 g 72 ps) (hR : Blk w2 r 33 rs) (hne : r ≠ h) (hM : MB w2 bs p len) (hB : Below w.heap.size w w2) (hge : w.heap.size ≤ h) :
    Blk (((((((w2.setCell ⟨h, 0, none⟩ a').setCell ⟨h, 1, none⟩ b').setCell ⟨h, 2, none⟩ c').setCell ⟨h, 3, none⟩ d').setCell ⟨h, 4, none⟩ e').setCell ⟨h, 5, none⟩ f').setCell ⟨h, 6, none⟩ i') r 33 rs ∧
    Blk (((((((w2.setCell ⟨h, 0, none⟩ a').setCell ⟨h, 1, none⟩ b').setCell ⟨h, 2, none⟩ c').setCell ⟨h, 3, none⟩ d').setCell ⟨h, 4, none⟩ e').setCell ⟨h, 5, none⟩ f').setCell ⟨h, 6, none⟩ i') g 72 ps ∧
    Blk (((((((w2.setCell ⟨h, 0, none⟩ a').setCell ⟨h, 1, none⟩ b').setCell ⟨h, 2, none⟩ c').setCell ⟨h, 3, none⟩ d').setCell ⟨h, 4, none⟩ e').setCell ⟨h, 5, none⟩ f').setCell ⟨h, 6, none⟩ i') h 33 #[a', b', c', d', e', f', i'] ∧
    MB (((((((w2.setCell ⟨h, 0, none⟩ a').setCell ⟨h, 1, none⟩ b').setCell ⟨h, 2, none⟩ c').setCell ⟨h, 3, none⟩ d').setCell ⟨h, 4, none⟩ e').setCell ⟨h, 5, none⟩ f').setCell ⟨h, 6, none⟩ i') bs p len ∧
    Below w.heap.size w (((((((w2.setCell ⟨h, 0, none⟩ a').setCell ⟨h, 1, none⟩ b').setCell ⟨h, 2, none⟩ c').setCell ⟨h, 3, none⟩ d').setCell ⟨h, 4, none⟩ e').setCell ⟨h, 5, none⟩ f').setCell ⟨h, 6, none⟩ i') := by
  have hgh : g ≠ h := Blk.ne_ hg hh (by decide)
  have g1 := hh.set_ 0 a'
  have g2 := g1.set_ 1 b'
  have g3 := g2.set_ 2 c'
  have g4 := g3.set_ 3 d'
  have g5 := g4.set_ 4 e'
  have g6 := g5.set_ 5 f'
  have g7 := g6.set_ 6 i'
  refine ⟨?_, ?_, by simpa using g7, ?_, ?_⟩
  · exact ((((((hR.far (p := ⟨h, 0, none⟩) hne _).far (p := ⟨h, 1, none⟩) hne _).far (p := ⟨h, 2, none⟩) hne _).far (p := ⟨h, 3, none⟩) hne _).far (p := ⟨h, 4, none⟩) hne _).far (p := ⟨h, 5, none⟩) hne _).far (p := ⟨h, 6, none⟩) hne _
  · exact ((((((hg.far (p := ⟨h, 0, none⟩) hgh _).far (p := ⟨h, 1, none⟩) hgh _).far (p := ⟨h, 2, none⟩) hgh _).far (p := ⟨h, 3, none⟩) hgh _).far (p := ⟨h, 4, none⟩) hgh _).far (p := ⟨h, 5, none⟩) hgh _).far (p := ⟨h, 6, none⟩) hgh _
  · exact ((((((hM.far hh (by decide) 0 _).far g1 (by decide) 1 _).far g2 (by decide) 2 _).far g3 (by decide) 3 _).far g4 (by decide) 4 _).far g5 (by decide) 5 _).far g6 (by decide) 6 _
  · exact ((((((hB.setCell hge _).setCell hge _).setCell hge _).setCell hge _).setCell hge _).setCell hge _).setCell hge _

set_option maxHeartbeats 4000000 in
theorem tell18 (A : Option Addr) (len cap : Nat) (bs : Nat → Bas) (k : Nat) (l c : Int) (w : World) (hm : len ≤ 50) (hr : Row w A len bs) (hwf : ∀ k, k < len → (bs k).Wf) (hA : Are len bs) (hk : k < len) (hl : U64 l) (hc : U64 c) (hl0 : 0 < l) (hc0 : 0 < c) (hI : Within (bs k) l c) :
    Calls Try.prog 18 #[.slice A len cap, .agg #[.int .i64 k, .int .u64 l, .int .u64 c]] w fun e w' => e = .returned (told bs k l c) ∧ Below w.heap.size w w' := by
  have HR := Lib.hid hr
  have HA := Lib.hid hA
  have HW := Lib.hid hwf
  have Hl := Lib.hid hl
  have Hc := Lib.hid hc
  have HX := Lib.hid (Bas.bounds (bs k) (hwf k hk))
  have HJ := Lib.hid (hI.ahead hl0 hc0)
  have HRL := Lib.hid (rline_eq (bs k) l)
  have HRC := Lib.hid (rcol_eq (bs k) (hwf k hk) l c)
  have HL1 := Lib.hid (lim_bd hl)
  have HC1 := Lib.hid (lim_bd hc)
  clear hr hwf hA hl hc hl0 hc0 hI
  go_enter Try.func18, Try.ntmps18
  go_upto_region 1 with fail
  go_cut [5] (fun s5 wx => ∃ g p, s5 = .pointer (some ⟨g, 0, none⟩) ∧ Blk wx (w.heap.size + 1) 33 res0 ∧ Blk wx g 72 #[.pointer (some ⟨p k, 0, none⟩), .int .u32 (lim l), .int .u32 (lim c)] ∧ MB wx bs p len ∧ Below w.heap.size w wx)
  case first =>
    go_region_held3 (fun w' => w'.cell? ⟨w.heap.size, 0, none⟩ = some (.int .i64 k) ∧ w'.cell? ⟨w.heap.size, 1, none⟩ = some (.int .u64 l) ∧ w'.cell? ⟨w.heap.size, 2, none⟩ = some (.int .u64 c)) (go_simp)
      (first
        | (go_at_call 34
           refine (bases34 A len cap bs _ hm (HR.out.below' (by repeat (first | exact Below.refl _ _ | refine Below.drew ?_ | refine Below.alloc ?_ (by simp <;> omega) _))) HW.out HA.out).mono ?_
           rintro e w1 ⟨A', cap', p, rfl, hP, hM, hb1⟩
           have HP := Lib.hid hP
           have HM := Lib.hid hM
           clear hP hM
           obtain ⟨hcc1, hff1⟩ := bcell hb1
           have hs1 : w.heap.size + 1 < w1.heap.size := by have := hb1.size; simp at this; omega
           have ht1 : w.heap.size < w1.heap.size := by omega
           have hv0 := hb1.size
           simp at hv0
           try have hv1 : w.heap.size + 1 + 1 < w1.heap.size := hv0
           have hbw1 : Below w.heap.size w w1 := (show Below w.heap.size w _ from (by repeat (first | exact Below.refl _ _ | refine Below.drew ?_ | refine Below.alloc ?_ (by simp <;> omega) _))).trans (hb1.mono (by simp <;> omega))
           have R1 : Blk w1 (w.heap.size + 1) 33 res0 := Blk.below (show Blk _ (w.heap.size + 1) 33 res0 from (by repeat (first | exact Blk.new2 _ _ _ _ | refine Blk.drew ?_ | refine Blk.alloc ?_ _))) hb1 (by simp <;> omega)
           try have G1 : Blk w1 (w.heap.size + 1 + 1) 72 #[.pointer none, .int .u32 0, .int .u32 0] := Blk.below (Blk.drew (Blk.new3 _ _ _ _ _)) hb1 (by simp))
        | (go_at_call 36
           refine (spot36 A' len cap' p k l c _ hm (HP.out.below (by repeat (first | exact Below.refl _ _ | refine Below.alloc ?_ (by simp) _))) hk Hl.out Hc.out).mono ?_
           rintro e w2 ⟨rfl, hb2⟩
           have hp2 : ∀ o, w2.cell? ⟨w.heap.size, o, none⟩ = w1.cell? ⟨w.heap.size, o, none⟩ := fun o => ((bcell hb2).1 _ o (by first | omega | (simp; omega))).trans (by first | rfl | exact World.cell?_alloc_lt _ _ _ (by first | omega | (simp; omega)))
           obtain ⟨hcc2, hff2⟩ := bcell hb2
           have R2 : Blk w2 (w.heap.size + 1) 33 res0 := Blk.below (show Blk _ (w.heap.size + 1) 33 res0 from (by first | exact R1 | exact R1.alloc _)) hb2 (by first | omega | (simp; omega))
           have M2 : MB w2 bs p len := (HM.out.below (by repeat (first | exact Below.refl _ _ | refine Below.alloc ?_ (by simp) _))).below hb2
           have B2 : Below w.heap.size w w2 := (show Below w.heap.size w _ from (by first | exact hbw1 | exact hbw1.alloc hbw1.size _)).trans (hb2.mono (by first | exact hbw1.size | exact (hbw1.alloc hbw1.size _).size))
           have hs2 : w.heap.size < w2.heap.size := Nat.lt_of_lt_of_le (by first | omega | (simp; omega)) hb2.size))
    · go_wp2_with fail
      go_meet
      exact ⟨_, p, rfl, R2.alloc _, Blk.new _ _ _, M2.below ((Below.refl _ _).alloc (Nat.le_refl _) _), B2.alloc B2.size _⟩
    · have G2 : Blk w2 w1.heap.size 72 #[.pointer none, .int .u32 0, .int .u32 0] := (Blk.new w1 72 _).below hb2 (by simp)
      go_wp2_with fail
      go_meet
      exact ⟨_, p, rfl, tb_set G2 R2 M2 B2 hbw1.size⟩
    · have G2 : Blk w2 (w.heap.size + 1 + 1) 72 #[.pointer none, .int .u32 0, .int .u32 0] := G1.below hb2 (by omega)
      go_wp2_with fail
      go_meet
      exact ⟨_, p, rfl, tb_set G2 R2 M2 B2 (by omega)⟩
  case rest =>
    obtain ⟨g, p, rfl, R0, G0, M0, B0⟩ := hcut
    have hg0 := Blk.lt G0
    have c00 : wc.cell? ⟨g, 0, none⟩ = some (.pointer (some ⟨p k, 0, none⟩)) := G0.cell 0
    have c01 : wc.cell? ⟨g, 1, none⟩ = some (.int .u32 (lim l)) := G0.cell 1
    have c02 : wc.cell? ⟨g, 2, none⟩ = some (.int .u32 (lim c)) := G0.cell 2
    go_upto_region 2 with fail
    go_cut [6] (fun s6 wx => ∃ h, s6 = .pointer (some ⟨h, 0, none⟩) ∧ w.heap.size + 1 ≠ h ∧ w.heap.size ≤ h ∧ Blk wx (w.heap.size + 1) 33 res0 ∧ Blk wx g 72 #[.pointer (some ⟨p k, 0, none⟩), .int .u32 (lim l), .int .u32 (lim c)] ∧
      Blk wx h 33 #[.int .u64 (lim l), .int .u64 (lim c), .string (bs k).name, .int .u64 ((bs k).ln + (lim l - (bs k).atL)), .int .u64 (rcol (bs k) l c), .string ⟨#[]⟩, .bool false] ∧ MB wx bs p len ∧ Below w.heap.size w wx)
    case first =>
      go_region_held3 (fun w' => w'.cell? ⟨g, 0, none⟩ = some (.pointer (some ⟨p k, 0, none⟩)) ∧ w'.cell? ⟨g, 1, none⟩ = some (.int .u32 (lim l)) ∧ w'.cell? ⟨g, 2, none⟩ = some (.int .u32 (lim c))) (go_simp)
        (first
        | (go_at_call 39
           (with_reducible refine (line39 (lim l) (some ⟨p k, 0, none⟩) (lim c) _ HL1.out.1 HL1.out.2).mono ?_)
           rintro e w1 ⟨rfl, hb1⟩
           have Bc1 : Below wc.heap.size wc w1 := (show Below wc.heap.size wc _ from (by repeat (first | exact Below.refl _ _ | exact Below.refl _ _ | refine Below.drew ?_ | refine Below.alloc ?_ (by first | exact Nat.le_refl _ | simp) _))).trans (hb1.mono (by first | exact Nat.le_refl _ | exact Nat.le_refl _ | (simp; done) | (simp; exact Nat.le_succ_of_le (Nat.le_refl _))))
           have hG1 := Blk.below G0 Bc1 (Blk.lt G0)
           have hg1 := Blk.lt hG1
           have c10 : w1.cell? ⟨g, 0, none⟩ = some (.pointer (some ⟨p k, 0, none⟩)) := hG1.cell 0
           have c11 : w1.cell? ⟨g, 1, none⟩ = some (.int .u32 (lim l)) := hG1.cell 1
           have c12 : w1.cell? ⟨g, 2, none⟩ = some (.int .u32 (lim c)) := hG1.cell 2
           first
             | (have G6 : Blk w1 wc.heap.size 33 res0 := Blk.below (Blk.drew (Blk.new _ _ _)) hb1 (by simp); have Z6 : wc.heap.size ≤ wc.heap.size := Nat.le_refl _)
             | (have G6 := Blk.below G6 hb1 (Blk.lt G6))
             | skip)
        | (go_at_call 40
           (with_reducible refine (col40 (lim l) (some ⟨p k, 0, none⟩) (lim c) _ HC1.out.1 HC1.out.2).mono ?_)
           rintro e w2 ⟨rfl, hb2⟩
           have Bc2 : Below wc.heap.size wc w2 := (show Below wc.heap.size wc _ from (by repeat (first | exact Below.refl _ _ | exact Bc1 | refine Below.drew ?_ | refine Below.alloc ?_ (by first | exact Bc1.size | simp) _))).trans (hb2.mono (by first | exact Nat.le_refl _ | exact Bc1.size | (simp; done) | (simp; exact Nat.le_succ_of_le Bc1.size)))
           have hG2 := Blk.below G0 Bc2 (Blk.lt G0)
           have hg2 := Blk.lt hG2
           have c20 : w2.cell? ⟨g, 0, none⟩ = some (.pointer (some ⟨p k, 0, none⟩)) := hG2.cell 0
           have c21 : w2.cell? ⟨g, 1, none⟩ = some (.int .u32 (lim l)) := hG2.cell 1
           have c22 : w2.cell? ⟨g, 2, none⟩ = some (.int .u32 (lim c)) := hG2.cell 2
           first
             | (have G6 : Blk w2 w1.heap.size 33 res0 := Blk.below (Blk.new _ _ _) hb2 (by simp); have Z6 : wc.heap.size ≤ w1.heap.size := Bc1.size)
             | (have G6 := Blk.below G6 hb2 (Blk.lt G6))
             | skip)
        | (go_at_call 49
           (refine (relFilename49 (p k) _ _ _ (bs k).name _ _ _ (lim l) (lim c) _ ((M0.below (show Below wc.heap.size wc _ from (by repeat (first | exact Below.refl _ _ | exact Bc2 | refine Below.drew ?_ | refine Below.alloc ?_ (by first | exact Bc2.size | simp) _)))).blk k hk)).mono ?_)
           rintro e w3 ⟨rfl, hb3⟩
           have Bc3 : Below wc.heap.size wc w3 := (show Below wc.heap.size wc _ from (by repeat (first | exact Below.refl _ _ | exact Bc2 | refine Below.drew ?_ | refine Below.alloc ?_ (by first | exact Bc2.size | simp) _))).trans (hb3.mono (by first | exact Nat.le_refl _ | exact Bc2.size | (simp; done) | (simp; exact Nat.le_succ_of_le Bc2.size)))
           have hG3 := Blk.below G0 Bc3 (Blk.lt G0)
           have hg3 := Blk.lt hG3
           have c30 : w3.cell? ⟨g, 0, none⟩ = some (.pointer (some ⟨p k, 0, none⟩)) := hG3.cell 0
           have c31 : w3.cell? ⟨g, 1, none⟩ = some (.int .u32 (lim l)) := hG3.cell 1
           have c32 : w3.cell? ⟨g, 2, none⟩ = some (.int .u32 (lim c)) := hG3.cell 2
           first
             | (have G6 : Blk w3 w2.heap.size 33 res0 := Blk.below (Blk.new _ _ _) hb3 (by simp); have Z6 : wc.heap.size ≤ w2.heap.size := Bc2.size)
             | (have G6 := Blk.below G6 hb3 (Blk.lt G6))
             | skip)
        | (go_at_call 50
           (refine (relLine50 (p k) _ (bs k).atL _ _ (bs k).ln _ _ (lim l) (lim c) _ ((M0.below (show Below wc.heap.size wc _ from (by repeat (first | exact Below.refl _ _ | exact Bc3 | refine Below.drew ?_ | refine Below.alloc ?_ (by first | exact Bc3.size | simp) _)))).blk k hk) HX.out.1 HX.out.2.1 HL1.out.2 HX.out.2.2.2.2.1 HJ.out.1).mono ?_)
           rintro e w4 ⟨rfl, hb4⟩
           have Bc4 : Below wc.heap.size wc w4 := (show Below wc.heap.size wc _ from (by repeat (first | exact Below.refl _ _ | exact Bc3 | refine Below.drew ?_ | refine Below.alloc ?_ (by first | exact Bc3.size | simp) _))).trans (hb4.mono (by first | exact Nat.le_refl _ | exact Bc3.size | (simp; done) | (simp; exact Nat.le_succ_of_le Bc3.size)))
           have hG4 := Blk.below G0 Bc4 (Blk.lt G0)
           have hg4 := Blk.lt hG4
           have c40 : w4.cell? ⟨g, 0, none⟩ = some (.pointer (some ⟨p k, 0, none⟩)) := hG4.cell 0
           have c41 : w4.cell? ⟨g, 1, none⟩ = some (.int .u32 (lim l)) := hG4.cell 1
           have c42 : w4.cell? ⟨g, 2, none⟩ = some (.int .u32 (lim c)) := hG4.cell 2
           first
             | (have G6 : Blk w4 w3.heap.size 33 res0 := Blk.below (Blk.new _ _ _) hb4 (by simp); have Z6 : wc.heap.size ≤ w3.heap.size := Bc3.size)
             | (have G6 := Blk.below G6 hb4 (Blk.lt G6))
             | skip)
        | (go_at_call 51
           (refine (relCol51v (rcol (bs k) l c) (p k) _ (bs k).atL (bs k).atC _ _ (bs k).cl _ (lim l) (lim c) _ ((M0.below (show Below wc.heap.size wc _ from (by repeat (first | exact Below.refl _ _ | exact Bc4 | refine Below.drew ?_ | refine Below.alloc ?_ (by first | exact Bc4.size | simp) _)))).blk k hk) HX.out.2.2.1 HX.out.2.2.2.1 HL1.out.1 HL1.out.2 HC1.out.1 HC1.out.2 HX.out.2.2.2.2.1 HX.out.2.2.2.2.2.1 HX.out.2.2.2.2.2.2.1 HJ.out.2 rfl).mono ?_)
           rintro e w5 ⟨rfl, hb5⟩
           have Bc5 : Below wc.heap.size wc w5 := (show Below wc.heap.size wc _ from (by repeat (first | exact Below.refl _ _ | exact Bc4 | refine Below.drew ?_ | refine Below.alloc ?_ (by first | exact Bc4.size | simp) _))).trans (hb5.mono (by first | exact Nat.le_refl _ | exact Bc4.size | (simp; done) | (simp; exact Nat.le_succ_of_le Bc4.size)))
           have hG5 := Blk.below G0 Bc5 (Blk.lt G0)
           have hg5 := Blk.lt hG5
           have c50 : w5.cell? ⟨g, 0, none⟩ = some (.pointer (some ⟨p k, 0, none⟩)) := hG5.cell 0
           have c51 : w5.cell? ⟨g, 1, none⟩ = some (.int .u32 (lim l)) := hG5.cell 1
           have c52 : w5.cell? ⟨g, 2, none⟩ = some (.int .u32 (lim c)) := hG5.cell 2
           first
             | (have G6 : Blk w5 w4.heap.size 33 res0 := Blk.below (Blk.new _ _ _) hb5 (by simp); have Z6 : wc.heap.size ≤ w4.heap.size := Bc4.size)
             | (have G6 := Blk.below G6 hb5 (Blk.lt G6))
             | skip
           try (have f0 := G6.cell 0; have f1 := G6.cell 1; have f2 := G6.cell 2; have f3 := G6.cell 3; have f4 := G6.cell 4; have f5 := G6.cell 5; have f6 := G6.cell 6; have ff := G6.frozen; simp only [List.getElem?_toArray, List.getElem?_cons_zero, List.getElem?_cons_succ] at f0 f1 f2 f3 f4 f5 f6)))
      all_goals
        go_wp2_with fail
        go_meet
        have R5 := Blk.below R0 Bc5 (Blk.lt R0)
        have M5 := M0.below Bc5
        have B5 := B0.trans (Bc5.mono B0.size)
        have y0 := Blk.lt R0
        first
          | exact ⟨_, rfl, Nat.ne_of_lt (Nat.lt_of_lt_of_le y0 Z6), Nat.le_trans B0.size Z6, told_set G6 hG5 R5 (Nat.ne_of_lt (Nat.lt_of_lt_of_le y0 Z6)) M5 B5 (Nat.le_trans B0.size Z6)⟩
          | exact ⟨_, rfl, Nat.ne_of_lt (Nat.lt_of_lt_of_le y0 Bc5.size), Nat.le_trans B0.size Bc5.size, Blk.alloc R5 _, Blk.alloc hG5 _, Blk.new _ _ _, M5.below ((Below.refl _ _).alloc (Nat.le_refl _) _), B5.alloc B5.size _⟩
    case rest =>
      obtain ⟨h, rfl, hne, hge, R1, G1, T1, M1, B1⟩ := hcut
      have HM1 := Lib.hid M1
      have hG1 := Blk.lt G1
      have c10 : wc.cell? ⟨g, 0, none⟩ = some (.pointer (some ⟨p k, 0, none⟩)) := G1.cell 0
      have c11 : wc.cell? ⟨g, 1, none⟩ = some (.int .u32 (lim l)) := G1.cell 1
      have c12 : wc.cell? ⟨g, 2, none⟩ = some (.int .u32 (lim c)) := G1.cell 2
      go_wp2_with fail
      refine (fileBase52 bs len p k (lim l) (lim c) _ HM1.out HA.out HW.out hk).mono ?_
      rintro e wf ⟨rfl, hbf⟩
      have hroot : root bs k < len := Nat.lt_of_le_of_lt (root_le bs k) hk
      have R2 := Blk.below R1 hbf (Blk.lt R1)
      have T2 := Blk.below T1 hbf (Blk.lt T1)
      have P2 := (HM1.out.below hbf).blk _ hroot
      have HP2 := Lib.hid P2
      have hend : Below w.heap.size w wf := B1.trans (hbf.mono B1.size)
      have t0 : wf.cell? ⟨h, 0, none⟩ = some (.int .u64 (lim l)) := T2.cell 0
      have t1 : wf.cell? ⟨h, 1, none⟩ = some (.int .u64 (lim c)) := T2.cell 1
      have t2 : wf.cell? ⟨h, 2, none⟩ = some (.string (bs k).name) := T2.cell 2
      have t3 : wf.cell? ⟨h, 3, none⟩ = some (.int .u64 ((bs k).ln + (lim l - (bs k).atL))) := T2.cell 3
      have t4 : wf.cell? ⟨h, 4, none⟩ = some (.int .u64 (rcol (bs k) l c)) := T2.cell 4
      have t5 : wf.cell? ⟨h, 5, none⟩ = some (.string ⟨#[]⟩) := T2.cell 5
      have t6 : wf.cell? ⟨h, 6, none⟩ = some (.bool false) := T2.cell 6
      have tf := T2.frozen
      have r0 : wf.cell? ⟨w.heap.size + 1, 0, none⟩ = some (.int .u64 0) := R2.cell 0
      have r1 : wf.cell? ⟨w.heap.size + 1, 1, none⟩ = some (.int .u64 0) := R2.cell 1
      have r2 : wf.cell? ⟨w.heap.size + 1, 2, none⟩ = some (.string ⟨#[]⟩) := R2.cell 2
      have r3 : wf.cell? ⟨w.heap.size + 1, 3, none⟩ = some (.int .u64 0) := R2.cell 3
      have r4 : wf.cell? ⟨w.heap.size + 1, 4, none⟩ = some (.int .u64 0) := R2.cell 4
      have r5 : wf.cell? ⟨w.heap.size + 1, 5, none⟩ = some (.string ⟨#[]⟩) := R2.cell 5
      have r6 : wf.cell? ⟨w.heap.size + 1, 6, none⟩ = some (.bool false) := R2.cell 6
      have rf := R2.frozen
      have hne' : h ≠ w.heap.size + 1 := Ne.symm hne
      clear R0 G0 M0 B0 R1 G1 T1 M1 B1 R2 T2 P2 c00 c01 c02 hg0
      generalize hrt : root bs k = m at *
      have HROOT := Lib.hid hrt
      clear hrt
      go_wp2_with fail
      refine (filename41 (p m) _ _ _ (bs m).name _ _ _ _ HP2.out).mono ?_
      rintro e w' ⟨rfl, rfl⟩
      go_wp2_with fail
      refine bodyPost_ret (v := .agg #[.int .u64 (lim l), .int .u64 (lim c), .string (bs k).name, .int .u64 ((bs k).ln + (lim l - (bs k).atL)), .int .u64 (rcol (bs k) l c), .string (bs m).name, .bool true]) (by simp [results, Try.results18, go_sem, r0, r1, r2, r3, r4, r5, r6]) rfl ⟨?_, ?_⟩
      · unfold told
        rw [← HRL.out, ← HRC.out, HROOT.out]
      · exact ((((((((hend.setCell hge _).setCell hge _).setCell (Nat.le_succ _) _).setCell (Nat.le_succ _) _).setCell (Nat.le_succ _) _).setCell (Nat.le_succ _) _).setCell (Nat.le_succ _) _).setCell (Nat.le_succ _) _).setCell (Nat.le_succ _) _
end Go.Proofs.Ytlmllpgebakhhaa.Pos
