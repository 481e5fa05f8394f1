/-
  Positions, part B: the test on several positions, the walk along the bases to a file, and what the reference tells (contracts; no statement is closed here).
-/
import Derived.Test.YtlmllpgebakhhaaPosA

import Derived.Deep.DeepCutAuto
namespace Go.Proofs.Ytlmllpgebakhhaa.Pos
open Go.RowKit
set_option linter.unusedVariables false

/-- Three numbers: a base, a line, a column. -/
structure Sp where
  b : Int
  l : Int
  c : Int
def Cells3 (w : World) (b o : Nat) (x : Sp) : Prop := w.cell? ⟨b, o, none⟩ = some (.int .i64 x.b) ∧ w.cell? ⟨b, o + 1, none⟩ = some (.int .u64 x.l) ∧ w.cell? ⟨b, o + 2, none⟩ = some (.int .u64 x.c)
def Spots (w : World) (A : Option Addr) (n : Nat) (sp : Nat → Sp) : Prop :=
  ∀ k, k < n → ∃ b off, A = some ⟨b, off, none⟩ ∧ b < w.heap.size ∧ Cells3 w b (off + k * 3) (sp k)
structure Sp.Wf (x : Sp) : Prop where
  l : U64 x.l
  c : U64 x.c
/-- A position by bases. -/
def IsSp (len : Nat) (bs : Nat → Bas) (x : Sp) : Prop := Spot x.b x.l x.c len ∧ ∀ k : Nat, x.b = k → Within (bs k) x.l x.c
/-- Bases, not too many, and positions by them. -/
def Known (len : Nat) (bs : Nat → Bas) (n : Nat) (sp : Nat → Sp) : Prop := len ≤ 50 ∧ Are len bs ∧ ∀ i, i < n → IsSp len bs (sp i)

theorem Row.below {w w' : World} {A : Option Addr} {len : Nat} {bs : Nat → Bas} (h : Row w A len bs) (hb : Below w.heap.size w w') : Row w' A len bs := fun k hk => by
  obtain ⟨b, off, e, hlt, h0, h1, h2, h3, h4, h5, h6⟩ := h k hk
  obtain ⟨hc, _⟩ := bcell hb
  exact ⟨b, off, e, Nat.lt_of_lt_of_le hlt hb.size, (hc _ _ hlt).trans h0, (hc _ _ hlt).trans h1, (hc _ _ hlt).trans h2, (hc _ _ hlt).trans h3, (hc _ _ hlt).trans h4, (hc _ _ hlt).trans h5, (hc _ _ hlt).trans h6⟩

set_option maxHeartbeats 1000000 in
theorem known11 (A : Option Addr) (len cap : Nat) (bs : Nat → Bas) (S : Option Addr) (n scap : Nat) (sp : Nat → Sp) (w : World) (hm : len ≤ maxLen) (hr : Row w A len bs) (hwf : ∀ k, k < len → (bs k).Wf) (hn : n ≤ 50) (hs : Spots w S n sp) (hsw : ∀ k, k < n → (sp k).Wf) :
    Calls Try.prog 11 #[.slice A len cap, .slice S n scap] w (SomeB (Known len bs n sp) w) := by
  have hmm := Lib.hid hm
  unfold maxLen at hm
  have H := Lib.hid hr
  have HS := Lib.hid hs
  have Hw := Lib.hid hwf
  have Hsw := Lib.hid hsw
  clear hr hwf hs hsw
  by_cases hbig : 50 < len
  · go_enter Try.func11, Try.ntmps11
    go_wp2_with fail
    go_ret
    exact SomeB.mk _ (fun h => by cases h) (Below.refl _ _)
  · go_enter Try.func11, Try.ntmps11
    go_wp2_with fail
    refine (are30 _ _ _ bs _ hmm.out H.out).mono ?_
    rintro e w1 ⟨b', rfl, hA, hb1⟩
    cases b'
    · clear hA
      go_wp2_with fail
      go_ret
      exact SomeB.mk _ (fun h => by cases h) hb1
    · have HA := Lib.hid (hA rfl)
      clear hA
      go_wp2_with fail
      go_loopw [17] (fun i wr => ∃ k : Nat, k ≤ n ∧ i = .int .i64 k ∧ (∀ j, j < k → IsSp len bs (sp j)) ∧ Below w.heap.size w wr) (fun i _ => n - (intOf i).toNat)
      case atStart => exact ⟨0, Nat.zero_le _, rfl, fun i hi => by omega, hb1⟩
      case round =>
        obtain ⟨k, hk, rfl, hP, hbel⟩ := hrel
        have HP := Lib.hid hP
        clear hP
        by_cases hlt : k < n
        · obtain ⟨b, off, rfl, hb, hc0, hc1, hc2⟩ := HS.out k hlt
          obtain ⟨hcc, hff⟩ := bcell hbel
          go_wp2_with fail
          have hba : Below w.heap.size w (wr.alloc (Obj.cells #[Value.int IntKind.i64 (sp k).b, Value.int IntKind.u64 (sp k).l, Value.int IntKind.u64 (sp k).c] 29)) := hbel.alloc hbel.size _
          refine (is31 A len cap bs _ _ _ _ hmm.out (H.out.below hba) Hw.out (Hsw.out k hlt).l (Hsw.out k hlt).c).mono ?_
          rintro e w2 ⟨b', rfl, hI, hb2⟩
          have hb3 : Below w.heap.size w w2 := hba.trans (hb2.mono hba.size)
          cases b'
          · clear hI
            go_wp2_with fail
            go_ret
            exact SomeB.mk _ (fun h => by cases h) hb3
          · have HI := Lib.hid (hI rfl)
            clear hI
            go_wp2_with fail
            go_roundw
            case rel =>
              refine ⟨k + 1, by omega, by go_num, fun i hi => ?_, hb3⟩
              rcases Nat.lt_succ_iff_lt_or_eq.1 hi with h' | rfl
              · exact HP.out i h'
              · exact HI.out
            case measure => simp [intOf]; omega
        · obtain rfl : k = n := by omega
          go_wp2_with fail
          go_ret
          exact SomeB.mk _ (fun _ => ⟨by omega, HA.out, HP.out⟩) hbel

/-! ### From base to base, to a file -/
def root (bs : Nat → Bas) (i : Nat) : Nat := if h : 0 < (bs i).line ∧ (bs i).sb.toNat < i then root bs (bs i).sb.toNat else i
termination_by i
decreasing_by exact h.2
theorem root_file {bs : Nat → Bas} {i : Nat} (h : ¬ 0 < (bs i).line) : root bs i = i := by rw [root, dif_neg (fun hh => h hh.1)]
theorem root_up {bs : Nat → Bas} {i : Nat} (h : 0 < (bs i).line) (h' : (bs i).sb.toNat < i) : root bs i = root bs (bs i).sb.toNat := by rw [root, dif_pos ⟨h, h'⟩]

theorem file33 (A : Option Addr) (len cap : Nat) (bs : Nat → Bas) (i : Nat) (w : World) (hm : len ≤ 50) (hr : Row w A len bs) (hA : Are len bs) (hi : i < len) :
    Calls Try.prog 33 #[.slice A len cap, .int .i64 i] w fun e w' => e = .returned (.string (bs (root bs i)).name) ∧ w' = w := by
  have H := Lib.hid hr
  have HA := Lib.hid hA
  clear hr hA
  go_enter Try.func33, Try.ntmps33
  go_wp2_with fail
  go_loop [1] (fun t => ∃ k : Nat, k < len ∧ t = .int .i64 k ∧ root bs k = root bs i) (fun t => (intOf t).toNat)
  case atStart => exact ⟨i, hi, rfl, rfl⟩
  case round =>
    obtain ⟨k, hk, rfl, hroot⟩ := hrel
    have HR := Lib.hid hroot
    clear hroot
    obtain ⟨b, off, rfl, hb, hc0, hc1, hc2, hc3, hc4, hc5, hc6⟩ := H.out k hk
    by_cases hl : 0 < (bs k).line
    · obtain ⟨s0, s1, _, _⟩ := HA.out k hk hl
      have HU := Lib.hid (root_up hl (by omega))
      obtain ⟨m, hm'⟩ := Int.eq_ofNat_of_zero_le s0
      have HM := Lib.hid hm'
      rw [hm'] at hc2
      have hmk : m < k := by omega
      clear s0 s1 hm'
      go_wp2_with fail
      go_round
      case rel => exact ⟨m, by omega, rfl, by have h1 := HU.out; rw [HM.out, Int.toNat_natCast] at h1; rw [← h1]; exact HR.out⟩
      case measure => simp [intOf]; omega
    · have HF := Lib.hid (root_file hl)
      go_wp2_with fail
      go_ret
      exact ⟨by rw [← HR.out, HF.out]; rfl, rfl⟩

/-! ### What the reference tells -/
def relLine (x : Bas) (l : Int) : Int := if x.line = 0 then lim l else lim x.line + lim l - lim x.sl
def relCol (x : Bas) (l c : Int) : Int := if x.line = 0 then lim c else if x.col = 0 then 0 else if lim l = lim x.sl then lim x.col + lim c - lim x.sc else lim c
def told (bs : Nat → Bas) (k : Nat) (l c : Int) : Value := .agg #[.int .u64 (lim l), .int .u64 (lim c), .string (bs k).name, .int .u64 (relLine (bs k) l), .int .u64 (relCol (bs k) l c), .string (bs (root bs k)).name, .bool true]

abbrev oSp (k : Nat) (l c : Int) : Obj := .cells #[.int .i64 k, .int .u64 l, .int .u64 c] 29
abbrev oBas (x : Bas) : Obj := .cells #[.string x.name, .bool x.trim, .int .i64 x.sb, .int .u64 x.sl, .int .u64 x.sc, .int .u64 x.line, .int .u64 x.col] 42
abbrev oTold (l c : Int) (name : ByteArray) (rl rc : Int) (file : ByteArray) (h : Bool) : Obj := .cells #[.int .u64 l, .int .u64 c, .string name, .int .u64 rl, .int .u64 rc, .string file, .bool h] 33
abbrev tellW (w : World) (bs : Nat → Bas) (k : Nat) (l c rl rc : Int) : World :=
  (((w.alloc (oSp k l c)).alloc (oTold 0 0 ⟨#[]⟩ 0 0 ⟨#[]⟩ false)).alloc (oBas (bs k))).alloc (oTold (lim l) (lim c) (bs k).name rl rc (bs (root bs k)).name true)

set_option maxHeartbeats 16000000 in
set_option maxRecDepth 100000 in
theorem tell12 (A : Option Addr) (len cap : Nat) (bs : Nat → Bas) (k : Nat) (l c : Int) (w : World) (hm : len ≤ 50) (hr : Row w A len bs) (hwf : ∀ k, k < len → (bs k).Wf) (hA : Are len bs) (hk : k < len) (hl : U64 l) (hc : U64 c) (hI : Within (bs k) l c) :
    Calls Try.prog 12 #[.slice A len cap, .agg #[.int .i64 k, .int .u64 l, .int .u64 c]] w fun e w' => e = .returned (told bs k l c) ∧ Below w.heap.size w w' := by
  have H := Lib.hid hr
  have HA := Lib.hid hA
  have Hl := Lib.hid hl
  have Hc := Lib.hid hc
  have HI := Lib.hid hI
  have hW := hwf k hk
  have Wsl := Lib.hid hW.sl
  have Wsc := Lib.hid hW.sc
  have Wln := Lib.hid hW.line
  have Wcl := Lib.hid hW.col
  clear hr hA hl hc hI hwf hW
  obtain ⟨b, off, rfl, hb, hc0, hc1, hc2, hc3, hc4, hc5, hc6⟩ := H.out k hk
  go_enter Try.func12, Try.ntmps12
  go_upto_region 2 with fail
  go_cut [6] (fun s6 wx => s6 = .pointer (some ⟨w.heap.size + 3, 0, none⟩) ∧ wx = (tellW w bs k l c 0 0).drew)
  case first =>
    go_region_held3 (fun w' => w'.cell? ⟨w.heap.size, 0, none⟩ = some (.int .i64 k) ∧ w'.cell? ⟨w.heap.size, 1, none⟩ = some (.int .u64 l) ∧ w'.cell? ⟨w.heap.size, 2, none⟩ = some (.int .u64 c) ∧ w'.cell? ⟨w.heap.size + 2, 0, none⟩ = some (.string (bs k).name)) (simp [go_sem, World.cell?_alloc_past])
      (first
        | (go_at_call 32; (with_reducible refine (limitq _ _ Hl.out).mono ?_); rintro e w' ⟨rfl, rfl⟩)
        | (go_at_call 32; (with_reducible refine (limitq _ _ Hc.out).mono ?_); rintro e w' ⟨rfl, rfl⟩)
        | (go_at_call 33; refine (file33 _ len cap bs k _ hm (by exact H.out.below (by repeat (first | exact Below.refl _ _ | refine Below.drew ?_ | refine Below.alloc ?_ (by simp <;> omega) _))) HA.out hk).mono ?_; rintro e w' ⟨rfl, rfl⟩))
    all_goals (go_wp2_with fail; go_meet; exact ⟨rfl, rfl⟩)
  case rest =>
    obtain ⟨rfl, rfl⟩ := hcut
    by_cases hx : (bs k).line = 0
    · have e1 : ((bs k).line == 0) = true := by simp [hx]
      have HX := Lib.hid hx
      clear hx
      go_wp2_with fail
      refine bodyPost_ret (v := .agg #[.int .u64 (lim l), .int .u64 (lim c), .string (bs k).name, .int .u64 (lim l), .int .u64 (lim c), .string (bs (root bs k)).name, .bool true]) (by simp [results, Try.results12, go_sem]) rfl ⟨?_, ?_⟩
      · unfold told relLine relCol
        rw [if_pos HX.out, if_pos HX.out]
      · repeat (first | exact Below.refl _ _ | refine Below.drewN ?_ _ | refine Below.drew ?_ | refine Below.setCell ?_ (by simp <;> omega) _ | refine Below.alloc ?_ (by simp <;> omega) _)
    · have e1 : ((bs k).line == 0) = false := by simp [hx]
      have HX := Lib.hid hx
      have hI' : (lim (bs k).sl < lim l ∨ lim (bs k).sl = lim l ∧ lim (bs k).sc ≤ lim c) := by
        rcases HI.out with h | h
        · exact absurd h hx
        · exact h.1
      have HJ := Lib.hid hI'
      clear hx
      obtain ⟨a0, a1⟩ := lim_bd Hl.out
      obtain ⟨a2, a3⟩ := lim_bd Wsl.out
      obtain ⟨a4, a5⟩ := lim_bd Hc.out
      obtain ⟨a6, a7⟩ := lim_bd Wsc.out
      obtain ⟨a8, a9⟩ := lim_bd Wln.out
      obtain ⟨a10, a11⟩ := lim_bd Wcl.out
      have a12 : lim (bs k).sl ≤ lim l := by omega
      clear hI'
      go_upto_region 6 with fail
      go_cut [] (fun wx => wx = (tellW w bs k l c (lim (bs k).line + lim l - lim (bs k).sl) (lim c)).drew.drew)
      case first =>
        have g1 := IntWalk.u64_in (lim (bs k).line + lim l) ⟨by omega, by omega⟩
        have g2 := IntWalk.u64_in (lim (bs k).line + lim l - lim (bs k).sl) ⟨by omega, by omega⟩
        go_region_held3 (fun w' => w'.cell? ⟨w.heap.size + 2, 5, none⟩ = some (.int .u64 (bs k).line) ∧ w'.cell? ⟨w.heap.size + 3, 0, none⟩ = some (.int .u64 (lim l)) ∧ w'.cell? ⟨w.heap.size + 2, 3, none⟩ = some (.int .u64 (bs k).sl)) (simp [go_sem, World.cell?_alloc_past])
          (first
            | (go_at_call 32; (with_reducible refine (limitq _ _ Wln.out).mono ?_); rintro e w' ⟨rfl, rfl⟩)
            | (go_at_call 32; (with_reducible refine (limitq _ _ Wsl.out).mono ?_); rintro e w' ⟨rfl, rfl⟩))
        all_goals (go_wp2_with fail; go_meet; exact rfl)
      case rest =>
        obtain rfl := hcut
        by_cases hcol : (bs k).col = 0
        · have e2 : ((bs k).col == 0) = true := by simp [hcol]
          have HC := Lib.hid hcol
          clear hcol
          go_wp2_with fail
          refine bodyPost_ret (v := .agg #[.int .u64 (lim l), .int .u64 (lim c), .string (bs k).name, .int .u64 (lim (bs k).line + lim l - lim (bs k).sl), .int .u64 (0), .string (bs (root bs k)).name, .bool true]) (by simp [results, Try.results12, go_sem]) rfl ⟨?_, ?_⟩
          · unfold told relLine relCol
            rw [if_neg HX.out, if_neg HX.out, if_pos HC.out]
          · repeat (first | exact Below.refl _ _ | refine Below.drewN ?_ _ | refine Below.drew ?_ | refine Below.setCell ?_ (by simp <;> omega) _ | refine Below.alloc ?_ (by simp <;> omega) _)
        · have e2 : ((bs k).col == 0) = false := by simp [hcol]
          have HC := Lib.hid hcol
          clear hcol
          by_cases hq : lim l = lim (bs k).sl
          · have e3 : (lim l == lim (bs k).sl) = true := by simp [hq]
            have HQ := Lib.hid hq
            have a13 : lim (bs k).sc ≤ lim c := by
              rcases HJ.out with h | h
              · omega
              · exact h.2
            clear hq
            go_wp2_with fail
            go_region_held3 (fun w' => w'.cell? ⟨w.heap.size + 3, 0, none⟩ = some (.int .u64 (lim l)) ∧ w'.cell? ⟨w.heap.size + 2, 3, none⟩ = some (.int .u64 (bs k).sl)) (simp [go_sem, World.cell?_alloc_past])
              (first
                | (go_at_call 32; (with_reducible refine (limitq _ _ Wsl.out).mono ?_); rintro e w' ⟨rfl, rfl⟩))
            go_wp2_with fail
            go_region_held3 (fun w' => w'.cell? ⟨w.heap.size + 2, 6, none⟩ = some (.int .u64 (bs k).col) ∧ w'.cell? ⟨w.heap.size + 3, 1, none⟩ = some (.int .u64 (lim c)) ∧ w'.cell? ⟨w.heap.size + 2, 4, none⟩ = some (.int .u64 (bs k).sc)) (simp [go_sem, World.cell?_alloc_past])
              (first
            | (go_at_call 32; (with_reducible refine (limitq _ _ Wcl.out).mono ?_); rintro e w' ⟨rfl, rfl⟩)
            | (go_at_call 32; (with_reducible refine (limitq _ _ Wsc.out).mono ?_); rintro e w' ⟨rfl, rfl⟩))
            all_goals
              go_wp2_with fail
              refine bodyPost_ret (v := .agg #[.int .u64 (lim l), .int .u64 (lim c), .string (bs k).name, .int .u64 (lim (bs k).line + lim l - lim (bs k).sl), .int .u64 (lim (bs k).col + lim c - lim (bs k).sc), .string (bs (root bs k)).name, .bool true]) (by simp [results, Try.results12, go_sem]) rfl ⟨?_, ?_⟩
              · unfold told relLine relCol
                rw [if_neg HX.out, if_neg HX.out, if_neg HC.out, if_pos HQ.out]
              · repeat (first | exact Below.refl _ _ | refine Below.drewN ?_ _ | refine Below.drew ?_ | refine Below.setCell ?_ (by simp <;> omega) _ | refine Below.alloc ?_ (by simp <;> omega) _)
          · have e3 : (lim l == lim (bs k).sl) = false := by simp [hq]
            have HQ := Lib.hid hq
            clear hq
            go_wp2_with fail
            go_region_held3 (fun w' => w'.cell? ⟨w.heap.size + 3, 0, none⟩ = some (.int .u64 (lim l)) ∧ w'.cell? ⟨w.heap.size + 2, 3, none⟩ = some (.int .u64 (bs k).sl)) (simp [go_sem, World.cell?_alloc_past])
              (first
                | (go_at_call 32; (with_reducible refine (limitq _ _ Wsl.out).mono ?_); rintro e w' ⟨rfl, rfl⟩))
            go_wp2_with fail
            refine bodyPost_ret (v := .agg #[.int .u64 (lim l), .int .u64 (lim c), .string (bs k).name, .int .u64 (lim (bs k).line + lim l - lim (bs k).sl), .int .u64 (lim c), .string (bs (root bs k)).name, .bool true]) (by simp [results, Try.results12, go_sem]) rfl ⟨?_, ?_⟩
            · unfold told relLine relCol
              rw [if_neg HX.out, if_neg HX.out, if_neg HC.out, if_neg HQ.out]
            · repeat (first | exact Below.refl _ _ | refine Below.drewN ?_ _ | refine Below.drew ?_ | refine Below.setCell ?_ (by simp <;> omega) _ | refine Below.alloc ?_ (by simp <;> omega) _)
end Go.Proofs.Ytlmllpgebakhhaa.Pos
