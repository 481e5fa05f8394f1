/-
  Positions, part E: what the reference tells of bases, and how it compares positions (contracts; no statement is closed here).
-/
import Derived.Test.YtlmllpgebakhhaaPosB
import Derived.Test.YtlmllpgebakhhaaPosC

namespace Go.Proofs.Ytlmllpgebakhhaa.Pos
open Go.RowKit
set_option linter.unusedVariables false

def baseTold (x : Bas) : Array Value := #[.string x.name, .int .u64 x.ln, .int .u64 x.cl, .bool (decide (x.line = 0)), .bool x.trim, .int .u64 x.atL, .int .u64 x.atC]
abbrev oBT (name : ByteArray) (l c : Int) (f t : Bool) (al ac : Int) : Obj := .cells #[.string name, .int .u64 l, .int .u64 c, .bool f, .bool t, .int .u64 al, .int .u64 ac] 44

set_option maxHeartbeats 2000000 in
set_option maxRecDepth 100000 in
theorem tellBase15 (x : Bas) (hx : x.Wf) (w : World) :
    Calls Try.prog 15 #[.agg #[.string x.name, .bool x.trim, .int .i64 x.sb, .int .u64 x.sl, .int .u64 x.sc, .int .u64 x.line, .int .u64 x.col]] w fun e w' => e = .returned (.agg (baseTold x)) ∧ Below w.heap.size w w' := by
  have Wsl := Lib.hid hx.sl
  have Wsc := Lib.hid hx.sc
  have Wln := Lib.hid hx.line
  have Wcl := Lib.hid hx.col
  clear hx
  by_cases hl : x.line = 0
  · have HL := Lib.hid hl
    have e1 : decide (0 < x.line) = false := by simp [hl]
    clear hl
    go_enter Try.func15, Try.ntmps15
    go_wp2_with fail
    refine bodyPost_ret (v := .agg #[.string x.name, .int .u64 1, .int .u64 1, .bool true, .bool x.trim, .int .u64 1, .int .u64 1]) (by simp [results, Try.results15, go_sem]) rfl ⟨?_, ?_⟩
    · unfold baseTold Bas.ln Bas.cl Bas.atL Bas.atC
      simp only [HL.out, if_true, decide_true]
    · repeat (first | exact Below.refl _ _ | refine Below.drewN ?_ _ | refine Below.drew ?_ | refine Below.setCell ?_ (by simp <;> omega) _ | refine Below.alloc ?_ (by simp <;> omega) _)
  · have HL := Lib.hid hl
    have e1 : decide (0 < x.line) = true := by have := Wln.out.1; simp; omega
    clear hl
    go_enter Try.func15, Try.ntmps15
    go_upto_region 3 with fail
    go_cut [] (fun wx => wx = (((w.alloc (oBas x)).alloc (oBT ⟨#[]⟩ 0 0 false false 0 0)).alloc (oBT x.name (lim x.line) (lim x.col) false x.trim 1 1)).drew)
    case first =>
      go_region_held3 (fun w' => w'.cell? ⟨w.heap.size, 5, none⟩ = some (.int .u64 x.line) ∧ w'.cell? ⟨w.heap.size, 6, none⟩ = some (.int .u64 x.col)) (simp [go_sem, World.cell?_alloc_past])
        (first
          | (go_at_call 32; (with_reducible refine (limitq _ _ Wln.out).mono ?_); rintro e w' ⟨rfl, rfl⟩)
          | (go_at_call 32; (with_reducible refine (limitq _ _ Wcl.out).mono ?_); rintro e w' ⟨rfl, rfl⟩))
      all_goals (go_wp2_with fail; go_meet; exact rfl)
    case rest =>
      obtain rfl := hcut
      go_wp2_with fail
      go_region_held3 (fun w' => w'.cell? ⟨w.heap.size, 3, none⟩ = some (.int .u64 x.sl) ∧ w'.cell? ⟨w.heap.size, 4, none⟩ = some (.int .u64 x.sc)) (simp [go_sem, World.cell?_alloc_past])
        (first
          | (go_at_call 32; (with_reducible refine (limitq _ _ Wsl.out).mono ?_); rintro e w' ⟨rfl, rfl⟩)
          | (go_at_call 32; (with_reducible refine (limitq _ _ Wsc.out).mono ?_); rintro e w' ⟨rfl, rfl⟩))
      all_goals
        go_wp2_with fail
        refine bodyPost_ret (v := .agg #[.string x.name, .int .u64 (lim x.line), .int .u64 (lim x.col), .bool false, .bool x.trim, .int .u64 (lim x.sl), .int .u64 (lim x.sc)]) (by simp [results, Try.results15, go_sem]) rfl ⟨?_, ?_⟩
        · unfold baseTold Bas.ln Bas.cl Bas.atL Bas.atC
          simp only [HL.out, if_false, decide_false]
        · repeat (first | exact Below.refl _ _ | refine Below.drewN ?_ _ | refine Below.drew ?_ | refine Below.setCell ?_ (by simp <;> omega) _ | refine Below.alloc ?_ (by simp <;> omega) _)

/-- How two positions compare: by names, lines and columns. -/
def cmpP (an bn : ByteArray) (al ac bl bc : Int) : Int :=
  if Op.bytesLess an.toList bn.toList = true then -1 else if (an.toList == bn.toList) = false then 1
  else if lim al < lim bl then -1 else if lim bl < lim al then 1 else if lim ac < lim bc then -1 else if lim bc < lim ac then 1 else 0

theorem orderq (a b : Int) (w : World) : Calls Try.prog 48 #[.int .u64 a, .int .u64 b] w fun e w' => e = .returned (.int .i64 (ord a b)) ∧ w' = w :=
  (order48 a b w).mono fun _ _ ⟨h, e⟩ => ⟨h, e.symm⟩

theorem ord_three (a b : Int) : (a < b ∧ ord a b = -1) ∨ (b < a ∧ ord a b = 1) ∨ (a = b ∧ ord a b = 0) := by
  unfold ord
  rcases Int.lt_trichotomy a b with h | h | h
  · exact .inl ⟨h, if_pos h⟩
  · exact .inr (.inr ⟨h, by rw [if_neg (by omega), if_neg (by omega)]⟩)
  · exact .inr (.inl ⟨h, by rw [if_neg (by omega), if_pos h]⟩)
theorem cmpP_lt {an bn : ByteArray} (h : Op.bytesLess an.toList bn.toList = true) (al ac bl bc : Int) : cmpP an bn al ac bl bc = -1 := by unfold cmpP; rw [if_pos h]
theorem cmpP_gt {an bn : ByteArray} (h : Op.bytesLess an.toList bn.toList = false) (h' : (an.toList == bn.toList) = false) (al ac bl bc : Int) : cmpP an bn al ac bl bc = 1 := by
  unfold cmpP; rw [if_neg (by rw [h]; decide), if_pos h']
theorem cmpP_eq {an bn : ByteArray} (h : Op.bytesLess an.toList bn.toList = false) (h' : (an.toList == bn.toList) = true) (al ac bl bc : Int) : cmpP an bn al ac bl bc = if ord (lim al) (lim bl) = 0 then ord (lim ac) (lim bc) else ord (lim al) (lim bl) := by
  unfold cmpP; rw [if_neg (by rw [h]; decide), if_neg (by rw [h']; decide)]
  rcases ord_three (lim al) (lim bl) with ⟨h1, h2⟩ | ⟨h1, h2⟩ | ⟨h1, h2⟩
  · rw [h2, if_pos h1, if_neg (by decide)]
  · rw [h2, if_neg (by omega), if_pos h1, if_neg (by decide)]
  · rw [h2, if_neg (by omega), if_neg (by omega), if_pos rfl]; rfl

set_option maxHeartbeats 2000000 in
set_option maxRecDepth 100000 in
theorem compare17 (A : Option Addr) (len cap : Nat) (bs : Nat → Bas) (i j : Nat) (al ac bl bc : Int) (w : World) (hm : len ≤ 50) (hr : Row w A len bs) (hi : i < len) (hj : j < len) (h1 : U64 al) (h2 : U64 ac) (h3 : U64 bl) (h4 : U64 bc) :
    Calls Try.prog 17 #[.slice A len cap, .agg #[.int .i64 i, .int .u64 al, .int .u64 ac], .agg #[.int .i64 j, .int .u64 bl, .int .u64 bc]] w fun e w' => e = .returned (.int .i64 (cmpP (bs i).name (bs j).name al ac bl bc)) ∧ Below w.heap.size w w' := by
  have H1 := Lib.hid h1
  have H2 := Lib.hid h2
  have H3 := Lib.hid h3
  have H4 := Lib.hid h4
  obtain ⟨b, off, rfl, hb, hc0, -⟩ := hr i hi
  obtain ⟨b2, off2, e2, -, hd0, -⟩ := hr j hj
  obtain ⟨rfl, rfl⟩ : b2 = b ∧ off2 = off := by simpa using e2.symm
  clear h1 h2 h3 h4 hr e2
  have i0 : (0 : Int) ≤ (i : Int) := Int.natCast_nonneg _
  have i1 : (i : Int) < (len : Int) := by omega
  have j0 : (0 : Int) ≤ (j : Int) := Int.natCast_nonneg _
  have j1 : (j : Int) < (len : Int) := by omega
  have hend : ∀ nq, Below w.heap.size w (((w.alloc (Obj.cells #[Value.int IntKind.i64 ↑i, Value.int IntKind.u64 al, Value.int IntKind.u64 ac] 29)).alloc (Obj.cells #[Value.int IntKind.i64 ↑j, Value.int IntKind.u64 bl, Value.int IntKind.u64 bc] 29)).drewN nq) := fun nq => by
    repeat (first | exact Below.refl _ _ | refine Below.drewN ?_ _ | refine Below.alloc ?_ (by simp <;> omega) _)
  have HE := Lib.hid hend
  clear hend
  cases hlt : Op.bytesLess (bs i).name.toList (bs j).name.toList
  · cases heq : ((bs i).name.toList == (bs j).name.toList)
    · have HC := Lib.hid (cmpP_gt hlt heq al ac bl bc)
      have heq' : (!((bs i).name.toList == (bs j).name.toList)) = true := by rw [heq]; rfl
      go_enter Try.func17, Try.ntmps17
      go_wp2_with fail
      go_quiet (fail)
      go_wp2_with fail
      go_ret
      exact ⟨by rw [HC.out]; rfl, HE.out _⟩
    · have HC := Lib.hid (cmpP_eq hlt heq al ac bl bc)
      have HO1 := Lib.hid (fun w => orderq (lim al) (lim bl) w)
      have HO2 := Lib.hid (fun w => orderq (lim ac) (lim bc) w)
      generalize ord (lim al) (lim bl) = c1 at HC HO1
      generalize ord (lim ac) (lim bc) = c2 at HC HO2
      have heq' : (!((bs i).name.toList == (bs j).name.toList)) = false := by rw [heq]; rfl
      by_cases hz : c1 = 0
      · subst hz
        have HD := Lib.hid (HC.out.trans (if_pos rfl))
        clear HC
        go_enter Try.func17, Try.ntmps17
        go_wp2_with fail
        go_quiet (fail)
        go_wp2_with fail
        go_quiet ((first
          | (go_at_call 32; (with_reducible refine (limitq _ _ H1.out).mono ?_); rintro e w' ⟨rfl, rfl⟩; exact ⟨rfl, _, rfl⟩)
          | (go_at_call 32; (with_reducible refine (limitq _ _ H3.out).mono ?_); rintro e w' ⟨rfl, rfl⟩; exact ⟨rfl, _, rfl⟩)
          | (go_at_call 48; refine (HO1.out _).mono ?_; rintro e w' ⟨rfl, rfl⟩; exact ⟨rfl, _, rfl⟩)))
        go_wp2_with fail
        go_quiet ((first
          | (go_at_call 32; (with_reducible refine (limitq _ _ H2.out).mono ?_); rintro e w' ⟨rfl, rfl⟩; exact ⟨rfl, _, rfl⟩)
          | (go_at_call 32; (with_reducible refine (limitq _ _ H4.out).mono ?_); rintro e w' ⟨rfl, rfl⟩; exact ⟨rfl, _, rfl⟩)
          | (go_at_call 48; refine (HO2.out _).mono ?_; rintro e w' ⟨rfl, rfl⟩; exact ⟨rfl, _, rfl⟩)))
        go_wp2_with fail
        go_ret
        exact ⟨by rw [HD.out]; rfl, by repeat (first | exact HE.out _ | refine Below.drewN ?_ _)⟩
      · have HD := Lib.hid (HC.out.trans (if_neg hz))
        have hz' : (c1 != 0) = true := by simp [hz]
        clear HC hz
        go_enter Try.func17, Try.ntmps17
        go_wp2_with fail
        go_quiet (fail)
        go_wp2_with fail
        go_quiet ((first
          | (go_at_call 32; (with_reducible refine (limitq _ _ H1.out).mono ?_); rintro e w' ⟨rfl, rfl⟩; exact ⟨rfl, _, rfl⟩)
          | (go_at_call 32; (with_reducible refine (limitq _ _ H3.out).mono ?_); rintro e w' ⟨rfl, rfl⟩; exact ⟨rfl, _, rfl⟩)
          | (go_at_call 48; refine (HO1.out _).mono ?_; rintro e w' ⟨rfl, rfl⟩; exact ⟨rfl, _, rfl⟩)))
        go_wp2_with fail
        go_ret
        exact ⟨by rw [HD.out]; rfl, by repeat (first | exact HE.out _ | refine Below.drewN ?_ _)⟩
  · have HC := Lib.hid (cmpP_lt hlt al ac bl bc)
    go_enter Try.func17, Try.ntmps17
    go_wp2_with fail
    go_quiet (fail)
    go_wp2_with fail
    go_ret
    exact ⟨by rw [HC.out]; rfl, HE.out _⟩
end Go.Proofs.Ytlmllpgebakhhaa.Pos
